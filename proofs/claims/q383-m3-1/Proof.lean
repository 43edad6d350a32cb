import JvmDerived
import JvmDerived.Pilot.@@N@@Statement
import JvmDerived.Pilot.@@N@@Code
set_option linter.unusedVariables false
set_option linter.unusedSimpArgs false
namespace Jvm.Pilot.@@N@@
open Jvm Jvm.ClassFile Sem Op Lib Jvm.Free Jvm.Stand Jvm.LawKit Jvm.RoadKit Bundle Jvm.Pilot.@@N@@.Jvm.D
section Own
variable {p : Program} {l : Launch} {e : Env} {R : Room} {s : State} {m : MethodId} {args : Array Value} {below : List Frame} {meth : Method} {c : Code} {T T' : State} {locs : List Loc} {cells slots : Nat}
variable {F : Outcome → State → List Loc → Prop} {Q : Option Value → Heap → List Loc → Prop} {ck sk : Nat} {g g' : JFrame}
def own_F (s : State) (ck sk : Nat) (o : Outcome) (t : State) (L : List Loc) : Prop := FrameEnd s o t L ck sk
/-- from the state T with the frame g on top the method comes to its end, and Q holds of what it returns, of the heap and of the places written -/
def own_E (p : Program) (e : Env) (below : List Frame) (F : Outcome → State → List Loc → Prop) (Q : Option Value → Heap → List Loc → Prop) (T : State) (g : JFrame) : Prop :=
  ∃ s₂ o, Steps p.tables e below (T.setTop g) s₂ ∧ s₂.status = .running ∧ Ended s₂ below o ∧ ∃ v L, o = .returned v ∧ Q v s₂.heap L ∧ F o s₂ L
theorem own_step (st : ∀ t, Steps p.tables e below (T'.setTop g') t → Steps p.tables e below (T.setTop g) t) (k : own_E p e below F Q T' g') : own_E p e below F Q T g := by
  obtain ⟨s2, o, h, r⟩ := k
  exact ⟨s2, o, st _ h, r⟩
theorem own_cast (q : g = g') (k : own_E p e below F Q T g') : own_E p e below F Q T g := q ▸ k
theorem own_ret (X : Stand p l e R s m args below meth c T locs cells slots) (hx : p.tables.exec = Jvm.exec) (hlk : meth.locks = false) {pc : Nat} {Ls : Array Slot} {w : Value} {t : FieldType} {i : Instr} {rest : List Value} (hret : meth.sig.returnType = some t)
    (hi : (i = .ireturn ∧ (t = .int ∨ t = .boolean ∨ t = .byte ∨ t = .char ∨ t = .short) ∧ ∃ z, w = .int z) ∨ (i = .lreturn ∧ t = .long ∧ ∃ z, w = .long z) ∨ (i = .dreturn ∧ t = .double ∧ ∃ z, w = .double z) ∨ (i = .freturn ∧ t = .float ∧ ∃ z, w = .float z) ∨ (i = .areturn ∧ t.isReference = true ∧ w.isRef = true))
    (hd : decode c.code pc = .ok (i, 1)) (hn : narrow t w = w) (hc : cells ≤ ck) (hs : slots ≤ sk) (hQ : Q (some w) T.heap locs) : own_E p e below (own_F s ck sk) Q T (mkF m pc Ls (w :: rest)) := by
  obtain ⟨fs, hr, hrun, hended, hW, hsame⟩ := X.leave (v := some w) (fun h => by rw [hret] at h; cases h) hlk
  exact ⟨_, _, retOut X hx hret hn hi hd hr, hrun, hended, _, _, rfl, hQ, ⟨_, rfl⟩, hW, hsame.mono hc hs⟩
theorem own_retI (X : Stand p l e R s m args below meth c T locs cells slots) (hx : p.tables.exec = Jvm.exec) (hlk : meth.locks = false) {pc : Nat} {Ls : Array Slot} {z : Int32} {t : FieldType} {rest : List Value} (hret : meth.sig.returnType = some t)
    (ht : t = .int ∨ t = .boolean ∨ t = .byte ∨ t = .char ∨ t = .short) (hd : decode c.code pc = .ok (.ireturn, 1)) (hn : narrow t (.int z) = .int z) (hc : cells ≤ ck) (hs : slots ≤ sk) (hQ : Q (some (.int z)) T.heap locs) : own_E p e below (own_F s ck sk) Q T (mkF m pc Ls (.int z :: rest)) :=
  own_ret X hx hlk hret (Or.inl ⟨rfl, ht, z, rfl⟩) hd hn hc hs hQ
theorem own_retJ (X : Stand p l e R s m args below meth c T locs cells slots) (hx : p.tables.exec = Jvm.exec) (hlk : meth.locks = false) {pc : Nat} {Ls : Array Slot} {z : Int64} {rest : List Value} (hret : meth.sig.returnType = some .long)
    (hd : decode c.code pc = .ok (.lreturn, 1)) (hc : cells ≤ ck) (hs : slots ≤ sk) (hQ : Q (some (.long z)) T.heap locs) : own_E p e below (own_F s ck sk) Q T (mkF m pc Ls (.long z :: rest)) :=
  own_ret X hx hlk hret (Or.inr (Or.inl ⟨rfl, rfl, z, rfl⟩)) hd rfl hc hs hQ
theorem own_retA (X : Stand p l e R s m args below meth c T locs cells slots) (hx : p.tables.exec = Jvm.exec) (hlk : meth.locks = false) {pc : Nat} {Ls : Array Slot} {a : Addr} {C : String} {rest : List Value} (hret : meth.sig.returnType = some (.object C))
    (hd : decode c.code pc = .ok (.areturn, 1)) (hc : cells ≤ ck) (hs : slots ≤ sk) (hQ : Q (some (.ref a)) T.heap locs) : own_E p e below (own_F s ck sk) Q T (mkF m pc Ls (.ref a :: rest)) :=
  own_ret X hx hlk hret (Or.inr (Or.inr (Or.inr (Or.inr ⟨rfl, rfl, rfl⟩)))) hd rfl hc hs hQ
theorem own_retV (X : Stand p l e R s m args below meth c T locs cells slots) (hx : p.tables.exec = Jvm.exec) (hlk : meth.locks = false) {pc : Nat} {Ls : Array Slot} (hret : meth.sig.returnType = none)
    (hd : decode c.code pc = .ok (.return_, 1)) (hc : cells ≤ ck) (hs : slots ≤ sk) (hQ : Q none T.heap locs) : own_E p e below (own_F s ck sk) Q T (mkF m pc Ls []) := by
  obtain ⟨fs, hr, hrun, hended, hW, hsame⟩ := X.leave (v := none) (fun _ => rfl) hlk
  exact ⟨_, _, X.returnOut hx hret hd hr, hrun, hended, _, _, rfl, hQ, ⟨_, rfl⟩, hW, hsame.mono hc hs⟩
/-- forks: P first, its denial second -/
theorem own_ifY (X : Stand p l e R s m args below meth c T locs cells slots) (hx : p.tables.exec = Jvm.exec) {cd : ClassFile.Cond} {x : Int32} {rest : List Value} {o : Int} {pc0 pc1 : Nat} {Ls : Array Slot} {P : Prop} [Decidable P] (hd : decode c.code pc0 = .ok (.ifCond cd o, 3)) (hP : ifCond.holds cd x = decide P)
    (ho : 0 ≤ (pc0 : Int) + o) (hp : ((pc0 : Int) + o).toNat = pc1) (hy : P → own_E p e below F Q T (mkF m pc1 Ls rest)) (hn : ¬ P → own_E p e below F Q T (mkF m (pc0 + 3) Ls rest)) : own_E p e below F Q T (mkF m pc0 Ls (.int x :: rest)) := by
  by_cases h : P
  · exact own_step (fun t k => XS.ifYes X.here hx rfl (pc0 := pc0) (pc' := pc1) rfl hd rfl (by rw [hP]; exact decide_eq_true h) ho hp k) (hy h)
  · exact own_step (fun t k => XS.ifNo X.here hx rfl hd rfl (by rw [hP]; exact decide_eq_false h) k) (hn h)
theorem own_ifN (X : Stand p l e R s m args below meth c T locs cells slots) (hx : p.tables.exec = Jvm.exec) {cd : ClassFile.Cond} {x : Int32} {rest : List Value} {o : Int} {pc0 pc1 : Nat} {Ls : Array Slot} {P : Prop} [Decidable P] (hd : decode c.code pc0 = .ok (.ifCond cd o, 3)) (hP : ifCond.holds cd x = !decide P)
    (ho : 0 ≤ (pc0 : Int) + o) (hp : ((pc0 : Int) + o).toNat = pc1) (hy : P → own_E p e below F Q T (mkF m (pc0 + 3) Ls rest)) (hn : ¬ P → own_E p e below F Q T (mkF m pc1 Ls rest)) : own_E p e below F Q T (mkF m pc0 Ls (.int x :: rest)) :=
  own_ifY X hx (P := ¬ P) hd (by rw [hP, decide_not]) ho hp hn (fun h => hy (Decidable.of_not_not h))
theorem own_icY (X : Stand p l e R s m args below meth c T locs cells slots) (hx : p.tables.exec = Jvm.exec) {cd : ClassFile.Cond} {x y : Int32} {rest : List Value} {o : Int} {pc0 pc1 : Nat} {Ls : Array Slot} {P : Prop} [Decidable P] (hd : decode c.code pc0 = .ok (.if_icmp cd o, 3)) (hP : if_icmp.holds cd x y = decide P)
    (ho : 0 ≤ (pc0 : Int) + o) (hp : ((pc0 : Int) + o).toNat = pc1) (hy : P → own_E p e below F Q T (mkF m pc1 Ls rest)) (hn : ¬ P → own_E p e below F Q T (mkF m (pc0 + 3) Ls rest)) : own_E p e below F Q T (mkF m pc0 Ls (.int y :: .int x :: rest)) := by
  by_cases h : P
  · exact own_step (fun t k => XS.icmpYes X.here hx rfl (pc0 := pc0) (pc' := pc1) rfl hd rfl (by rw [hP]; exact decide_eq_true h) ho hp k) (hy h)
  · exact own_step (fun t k => XS.icmpNo X.here hx rfl hd rfl (by rw [hP]; exact decide_eq_false h) k) (hn h)
theorem own_icN (X : Stand p l e R s m args below meth c T locs cells slots) (hx : p.tables.exec = Jvm.exec) {cd : ClassFile.Cond} {x y : Int32} {rest : List Value} {o : Int} {pc0 pc1 : Nat} {Ls : Array Slot} {P : Prop} [Decidable P] (hd : decode c.code pc0 = .ok (.if_icmp cd o, 3)) (hP : if_icmp.holds cd x y = !decide P)
    (ho : 0 ≤ (pc0 : Int) + o) (hp : ((pc0 : Int) + o).toNat = pc1) (hy : P → own_E p e below F Q T (mkF m (pc0 + 3) Ls rest)) (hn : ¬ P → own_E p e below F Q T (mkF m pc1 Ls rest)) : own_E p e below F Q T (mkF m pc0 Ls (.int y :: .int x :: rest)) :=
  own_icY X hx (P := ¬ P) hd (by rw [hP, decide_not]) ho hp hn (fun h => hy (Decidable.of_not_not h))
theorem own_i_eq (x y : Int32) : if_icmp.holds .eq x y = decide (x = y) := by
  by_cases h : x = y
  · rw [(teq h).1, decide_eq_true h]
  · rw [(feq h).1, decide_eq_false h]
theorem own_i_ne (x y : Int32) : if_icmp.holds .ne x y = !decide (x = y) := by
  by_cases h : x = y
  · rw [(teq h).2, decide_eq_true h]; rfl
  · rw [(feq h).2, decide_eq_false h]; rfl
theorem own_i_lt (x y : Int32) : if_icmp.holds .lt x y = decide (x < y) := by
  by_cases h : x < y
  · rw [(tlt h).1, decide_eq_true h]
  · rw [(flt h).1, decide_eq_false h]
theorem own_i_ge (x y : Int32) : if_icmp.holds .ge x y = !decide (x < y) := by
  by_cases h : x < y
  · rw [(tlt h).2.1, decide_eq_true h]; rfl
  · rw [(flt h).2.1, decide_eq_false h]; rfl
theorem own_i_gt (x y : Int32) : if_icmp.holds .gt x y = decide (y < x) := by
  by_cases h : y < x
  · rw [(tlt h).2.2.1, decide_eq_true h]
  · rw [(flt h).2.2.1, decide_eq_false h]
theorem own_i_le (x y : Int32) : if_icmp.holds .le x y = !decide (y < x) := by
  by_cases h : y < x
  · rw [(tlt h).2.2.2, decide_eq_true h]; rfl
  · rw [(flt h).2.2.2, decide_eq_false h]; rfl
theorem own_z_eq (x : Int32) : ifCond.holds .eq x = decide (x = 0) := (if0 _ _).trans (own_i_eq x 0)
theorem own_z_ne (x : Int32) : ifCond.holds .ne x = !decide (x = 0) := (if0 _ _).trans (own_i_ne x 0)
theorem own_z_lt (x : Int32) : ifCond.holds .lt x = decide (x < 0) := (if0 _ _).trans (own_i_lt x 0)
theorem own_z_ge (x : Int32) : ifCond.holds .ge x = !decide (x < 0) := (if0 _ _).trans (own_i_ge x 0)
theorem own_z_gt (x : Int32) : ifCond.holds .gt x = decide (0 < x) := (if0 _ _).trans (own_i_gt x 0)
theorem own_z_le (x : Int32) : ifCond.holds .le x = !decide (0 < x) := (if0 _ _).trans (own_i_le x 0)
theorem own_l_eq (x y : Int64) : ifCond.holds .eq (lcmpW x y) = decide (x = y) := (own_z_eq _).trans (decide_eq_decide.mpr (lw_eq x y))
theorem own_l_ne (x y : Int64) : ifCond.holds .ne (lcmpW x y) = !decide (x = y) := (own_z_ne _).trans (congrArg not (decide_eq_decide.mpr (lw_eq x y)))
theorem own_l_lt (x y : Int64) : ifCond.holds .lt (lcmpW x y) = decide (x < y) := (own_z_lt _).trans (decide_eq_decide.mpr (lw_lt x y))
theorem own_l_ge (x y : Int64) : ifCond.holds .ge (lcmpW x y) = !decide (x < y) := (own_z_ge _).trans (congrArg not (decide_eq_decide.mpr (lw_lt x y)))
theorem own_l_gt (x y : Int64) : ifCond.holds .gt (lcmpW x y) = decide (y < x) := (own_z_gt _).trans (decide_eq_decide.mpr (lw_gt x y))
theorem own_l_le (x y : Int64) : ifCond.holds .le (lcmpW x y) = !decide (y < x) := (own_z_le _).trans (congrArg not (decide_eq_decide.mpr (lw_gt x y)))
/-- a condition as Java's int: 1 or 0 -/
def own_b (P : Prop) [Decidable P] : Int32 := if P then 1 else 0
theorem own_b1 {P : Prop} [Decidable P] (h : P) : own_b P = 1 := if_pos h
theorem own_b0 {P : Prop} [Decidable P] (h : ¬ P) : own_b P = 0 := if_neg h
theorem own_b_ne (P : Prop) [Decidable P] : ifCond.holds .ne (own_b P) = decide P := by
  by_cases h : P
  · rw [own_b1 h, decide_eq_true h]; rfl
  · rw [own_b0 h, decide_eq_false h]; rfl
theorem own_b_eq (P : Prop) [Decidable P] : ifCond.holds .eq (own_b P) = !decide P := by
  by_cases h : P
  · rw [own_b1 h, decide_eq_true h]; rfl
  · rw [own_b0 h, decide_eq_false h]; rfl
theorem own_bn (P : Prop) [Decidable P] : narrow .boolean (.int (own_b P)) = .int (own_b P) := by
  by_cases h : P
  · rw [own_b1 h]; rfl
  · rw [own_b0 h]; rfl
end Own
/-- what the callee computes -/
def own_plus (a b : Int64) : Int64 := if a + b < a then 9223372036854775807 else a + b
/-- the plain law -/
theorem own_law (x y : Int64) : own_plus (x &&& 9223372036854775807) (y &&& 9223372036854775807) = (if 9223372036854775807 - (y &&& 9223372036854775807) < (x &&& 9223372036854775807) then 9223372036854775807 else (x &&& 9223372036854775807) + (y &&& 9223372036854775807)) := by
  have ha := (c_andSL x 9223372036854775807).2.2 (by decide)
  have hb := (c_andSL y 9223372036854775807).2.2 (by decide)
  generalize (x &&& 9223372036854775807) = a at *
  generalize (y &&& 9223372036854775807) = b at *
  have h1 := a.toInt_lt; have h2 := b.toInt_lt; have h3 := (a + b).toInt_lt; have h4 := (a + b).le_toInt
  have h5 := c_ladd a b
  have h6 := c_lsub 9223372036854775807 b
  have h7 := (9223372036854775807 - b).toInt_lt; have h8 := (9223372036854775807 - b).le_toInt
  have h9 : (9223372036854775807 : Int64).toInt = 9223372036854775807 := by decide
  unfold own_plus
  simp only [Int64.lt_iff_toInt_lt]
  split <;> split <;> first | rfl | (exfalso; omega)
theorem own_ef1 (m : MethodId) (x0 : Int64) (x1 : Int64) : entryFrame m #[(.long x0), (.long x1)] 6 = mkF m 0 #[.val (.long x0), .second, .val (.long x1), .second, .unset, .unset] [] := by first | (simp [entryFrame, mkF, argsToLocals, Value.category]; done) | rfl
def own_Q1 (Z : State) (a : Int64) (b : Int64) (h0 : Heap) (n0 : Nat) (v : Option Value) (h : Heap) (L : List Loc) : Prop := v = some (.long (own_plus a b)) ∧ Fr n0 L ∧ h = h0
theorem own_pn_1 : plainName "com/example/triplesmith/triplesmith/vocab/Plan" = true := by first | (simp [plainName, overriddenIn]; done) | decide +kernel
theorem own_d1_0 : decode prog_100_method_8_code 0 = .ok (.lload_n 0, 1) := by decide +kernel
theorem own_d1_1 : decode prog_100_method_8_code 1 = .ok (.lload_n 2, 1) := by decide +kernel
theorem own_d1_2 : decode prog_100_method_8_code 2 = .ok (.ladd, 1) := by decide +kernel
theorem own_d1_3 : decode prog_100_method_8_code 3 = .ok (.lstore 4, 2) := by decide +kernel
theorem own_d1_5 : decode prog_100_method_8_code 5 = .ok (.lload 4, 2) := by decide +kernel
theorem own_d1_7 : decode prog_100_method_8_code 7 = .ok (.lload_n 0, 1) := by decide +kernel
theorem own_d1_8 : decode prog_100_method_8_code 8 = .ok (.lcmp, 1) := by decide +kernel
theorem own_d1_9 : decode prog_100_method_8_code 9 = .ok (.ifCond .ge 9, 3) := by decide +kernel
theorem own_d1_12 : decode prog_100_method_8_code 12 = .ok (.ldc2_w 134, 3) := by decide +kernel
theorem own_d1_15 : decode prog_100_method_8_code 15 = .ok (.goto 5, 3) := by decide +kernel
theorem own_d1_20 : decode prog_100_method_8_code 20 = .ok (.lreturn, 1) := by decide +kernel
theorem own_d1_18 : decode prog_100_method_8_code 18 = .ok (.lload 4, 2) := by decide +kernel
set_option maxRecDepth 65536 in
set_option maxHeartbeats 40000000 in
theorem own_rm1 (l : Launch) (Z : State) (a0 : Array Value) (hw : ∀ d ∈ tables_1, d.before a0 Z = true) (ws : List Jvm.Cond) (a : Int64) (b : Int64) (h0 : Heap) (n0 : Nat) (Z0 : n0 ≤ h0.size)  :
    MetFree l (⟨"com/example/triplesmith/triplesmith/vocab/Plan", "plus", "(JJ)J"⟩ : MethodName) (head1 (Jvm.Cond.code (⟨"com/example/triplesmith/triplesmith/vocab/Plan", "plus", "(JJ)J"⟩ : MethodName) prog_100_method_8_code 6 (some .long) :: ws) ({ frames := 0, cells := 0, slots := 0, locals := 0 } : Room)) (fun aU U => aU = #[(.long a), (.long b)] ∧ Z.Warmed39 U.vm ∧ U.heap = h0) (fun _ _ _ _ _ => True) (fun _ U o U' => ∃ v L, o = .returned v ∧ own_Q1 Z a b h0 n0 v U'.heap L ∧ FrameEnd U o U' L 0 0) := by
  refine MetFree.of_bodySF (plainFor_of_name own_pn_1) hisR ?_
  intro p e s m args below meth c s₁ Bd hml0 hP hK
  obtain ⟨rfl, hZ, hh⟩ := hP
  have hx := Bd.exec
  have hby := Bd.bytes
  have hml : c.maxLocals = 6 := hml0
  have hown : s.vm.findClass "com/example/triplesmith/triplesmith/vocab/Plan" = some m.cls := findClass_of_methodNamed Bd.named
  have hnm := (name_of_methodNamed Bd.named Bd.method).1
  have hlk : meth.locks = false := Bd.notSynchronized
  have hret := Bd.returns
  have X0 : Stand p l e ({ frames := 0, cells := 0, slots := 0, locals := 0 } : Room) s m #[(.long a), (.long b)] below meth c s₁ [] 0 0 := Stand.of_body Bd
  have e0 : s₁.heap = h0 := by rw [← hh, Bd.state]; rfl
  have N0 := Fr.nil n0
  have K0 := Keep.refl h0 ([] : List Addr)
  show own_E p e below (own_F s 0 0) (own_Q1 Z a b h0 n0) s₁ (entryFrame m #[(.long a), (.long b)] 6)
  refine own_cast (own_ef1 m a b) ?_
  refine own_step (g' := (mkF m 1 #[.val (.long a), .second, .val (.long b), .second, .unset, .unset] [(.long a)])) (fun _ k => XS.lloadN X0.here hx rfl (hb hby own_d1_0) rfl k) ?_
  refine own_step (g' := (mkF m 2 #[.val (.long a), .second, .val (.long b), .second, .unset, .unset] [(.long b), (.long a)])) (fun _ k => XS.lloadN X0.here hx rfl (hb hby own_d1_1) rfl k) ?_
  refine own_step (g' := (mkF m 3 #[.val (.long a), .second, .val (.long b), .second, .unset, .unset] [(.long (a + b))])) (fun _ k => XS.ladd X0.here hx rfl (hb hby own_d1_2) rfl k) ?_
  refine own_step (g' := (mkF m 5 #[.val (.long a), .second, .val (.long b), .second, .val (.long (a + b)), .second] [])) (fun _ k => XS.lstore X0.here hx rfl (hb hby own_d1_3) rfl (l' := #[.val (.long a), .second, .val (.long b), .second, .val (.long (a + b)), .second]) rfl k) ?_
  refine own_step (g' := (mkF m 7 #[.val (.long a), .second, .val (.long b), .second, .val (.long (a + b)), .second] [(.long (a + b))])) (fun _ k => XS.lload X0.here hx rfl (hb hby own_d1_5) rfl k) ?_
  refine own_step (g' := (mkF m 8 #[.val (.long a), .second, .val (.long b), .second, .val (.long (a + b)), .second] [(.long a), (.long (a + b))])) (fun _ k => XS.lloadN X0.here hx rfl (hb hby own_d1_7) rfl k) ?_
  refine own_step (g' := (mkF m 9 #[.val (.long a), .second, .val (.long b), .second, .val (.long (a + b)), .second] [(.int (lcmpW (a + b) a))])) (fun _ k => XS.lcmp X0.here hx rfl (hb hby own_d1_8) rfl k) ?_
  refine own_ifN X0 hx (P := ((a + b) < a)) (hb hby own_d1_9) (own_l_ge (a + b) a) (by decide) (pc1 := 18) (by decide) (fun hc9 => ?_) (fun hc9 => ?_)
  · show own_E p e below (own_F s 0 0) (own_Q1 Z a b h0 n0) s₁ (mkF m 12 #[.val (.long a), .second, .val (.long b), .second, .val (.long (a + b)), .second] [])
    refine own_step (g' := (mkF m 15 #[.val (.long a), .second, .val (.long b), .second, .val (.long (a + b)), .second] [(.long (9223372036854775807 : Int64))])) (fun _ k => X0.ldc2Long hx hown (mvT hZ (hw _ (List.mem_of_getElem? (i := 5) rfl))) (g := (mkF m 12 #[.val (.long a), .second, .val (.long b), .second, .val (.long (a + b)), .second] [])) rfl (hb hby own_d1_12) _ k) ?_
    refine own_step (g' := (mkF m 20 #[.val (.long a), .second, .val (.long b), .second, .val (.long (a + b)), .second] [(.long (9223372036854775807 : Int64))])) (fun _ k => XS.goto X0.here hx rfl (pc0 := 15) (pc' := 20) rfl (hb hby own_d1_15) (by decide) (by decide) k) ?_
    exact own_retJ X0 hx hlk hret (hb hby own_d1_20) (by decide) (by decide) (by show own_Q1 Z a b h0 n0 (some (.long (9223372036854775807 : Int64))) s₁.heap _; rw [e0]; exact ⟨by simp only [own_plus, if_pos hc9], N0, rfl⟩)
  · show own_E p e below (own_F s 0 0) (own_Q1 Z a b h0 n0) s₁ (mkF m 18 #[.val (.long a), .second, .val (.long b), .second, .val (.long (a + b)), .second] [])
    refine own_step (g' := (mkF m 20 #[.val (.long a), .second, .val (.long b), .second, .val (.long (a + b)), .second] [(.long (a + b))])) (fun _ k => XS.lload X0.here hx rfl (hb hby own_d1_18) rfl k) ?_
    exact own_retJ X0 hx hlk hret (hb hby own_d1_20) (by decide) (by decide) (by show own_Q1 Z a b h0 n0 (some (.long (a + b))) s₁.heap _; rw [e0]; exact ⟨by simp only [own_plus, if_neg hc9], N0, rfl⟩)
theorem own_ef0 (m : MethodId) (x0 : Int64) (x1 : Int64) : entryFrame m #[(.long x0), (.long x1)] maxLocals = mkF m 0 #[.val (.long x0), .second, .val (.long x1), .second, .unset, .unset, .unset, .unset, .unset, .unset] [] := by first | (simp [entryFrame, mkF, argsToLocals, Value.category, maxLocals]; done) | rfl
def own_Q0 (Z : State) (x0 : Int64) (y0 : Int64) (h0 : Heap) (n0 : Nat) (v : Option Value) (h : Heap) (L : List Loc) : Prop := v = some (.int 1) ∧ Fr n0 L
theorem own_pn_0 : plainName "com/example/triplesmith/triplesmith/vocab/PlanPlusPinLaw" = true := by first | (simp [plainName, overriddenIn]; done) | decide +kernel
theorem own_pd__28JJ_29J : parseMethodDescriptor "(JJ)J" = some ⟨[.long, .long], some .long⟩ := by decide +kernel
set_option maxRecDepth 65536 in
set_option maxHeartbeats 40000000 in
theorem own_rm0 (l : Launch) (Z : State) (a0 : Array Value) (hw : ∀ d ∈ tables_1, d.before a0 Z = true) (ws : List Jvm.Cond) (x0 : Int64) (y0 : Int64) (h0 : Heap) (n0 : Nat) (Z0 : n0 ≤ h0.size)  :
    MetFree l x (head1 (Jvm.Cond.code x code maxLocals ret :: ws) room_1) (fun aU U => aU = #[(.long x0), (.long y0)] ∧ Z.Warmed39 U.vm ∧ U.heap = h0) (fun _ _ _ _ _ => True) (fun _ U o U' => ∃ v L, o = .returned v ∧ own_Q0 Z x0 y0 h0 n0 v U'.heap L ∧ FrameEnd U o U' L 0 0) := by
  refine MetFree.of_bodySF (plainFor_of_name own_pn_0) hisR ?_
  intro p e s m args below meth c s₁ Bd hml0 hP hK
  obtain ⟨rfl, hZ, hh⟩ := hP
  have hx := Bd.exec
  have hby := Bd.bytes
  have hml : c.maxLocals = 10 := hml0
  have hown : s.vm.findClass "com/example/triplesmith/triplesmith/vocab/PlanPlusPinLaw" = some m.cls := findClass_of_methodNamed Bd.named
  have hnm := (name_of_methodNamed Bd.named Bd.method).1
  have hlk : meth.locks = false := Bd.notSynchronized
  have hret := Bd.returns
  have X0 : Stand p l e room_1 s m #[(.long x0), (.long y0)] below meth c s₁ [] 0 0 := Stand.of_body Bd
  have e0 : s₁.heap = h0 := by rw [← hh, Bd.state]; rfl
  have N0 := Fr.nil n0
  have K0 := Keep.refl h0 ([] : List Addr)
  show own_E p e below (own_F s 0 0) (own_Q0 Z x0 y0 h0 n0) s₁ (entryFrame m #[(.long x0), (.long y0)] maxLocals)
  refine own_cast (own_ef0 m x0 y0) ?_
  refine own_step (g' := (mkF m 1 #[.val (.long x0), .second, .val (.long y0), .second, .unset, .unset, .unset, .unset, .unset, .unset] [(.long x0)])) (fun _ k => XS.lloadN X0.here hx rfl (hb hby at_0) rfl k) ?_
  refine own_step (g' := (mkF m 4 #[.val (.long x0), .second, .val (.long y0), .second, .unset, .unset, .unset, .unset, .unset, .unset] [(.long (9223372036854775807 : Int64)), (.long x0)])) (fun _ k => X0.ldc2Long hx hown (mvT hZ (hw _ (List.mem_of_getElem? (i := 0) rfl))) (g := (mkF m 1 #[.val (.long x0), .second, .val (.long y0), .second, .unset, .unset, .unset, .unset, .unset, .unset] [(.long x0)])) rfl (hb hby at_1) _ k) ?_
  refine own_step (g' := (mkF m 5 #[.val (.long x0), .second, .val (.long y0), .second, .unset, .unset, .unset, .unset, .unset, .unset] [(.long (x0 &&& (9223372036854775807 : Int64)))])) (fun _ k => XS.land X0.here hx rfl (hb hby at_4) rfl k) ?_
  refine own_step (g' := (mkF m 7 #[.val (.long x0), .second, .val (.long y0), .second, .val (.long (x0 &&& (9223372036854775807 : Int64))), .second, .unset, .unset, .unset, .unset] [])) (fun _ k => XS.lstore X0.here hx rfl (hb hby at_5) rfl (l' := #[.val (.long x0), .second, .val (.long y0), .second, .val (.long (x0 &&& (9223372036854775807 : Int64))), .second, .unset, .unset, .unset, .unset]) rfl k) ?_
  refine own_step (g' := (mkF m 8 #[.val (.long x0), .second, .val (.long y0), .second, .val (.long (x0 &&& (9223372036854775807 : Int64))), .second, .unset, .unset, .unset, .unset] [(.long y0)])) (fun _ k => XS.lloadN X0.here hx rfl (hb hby at_7) rfl k) ?_
  refine own_step (g' := (mkF m 11 #[.val (.long x0), .second, .val (.long y0), .second, .val (.long (x0 &&& (9223372036854775807 : Int64))), .second, .unset, .unset, .unset, .unset] [(.long (9223372036854775807 : Int64)), (.long y0)])) (fun _ k => X0.ldc2Long hx hown (mvT hZ (hw _ (List.mem_of_getElem? (i := 0) rfl))) (g := (mkF m 8 #[.val (.long x0), .second, .val (.long y0), .second, .val (.long (x0 &&& (9223372036854775807 : Int64))), .second, .unset, .unset, .unset, .unset] [(.long y0)])) rfl (hb hby at_8) _ k) ?_
  refine own_step (g' := (mkF m 12 #[.val (.long x0), .second, .val (.long y0), .second, .val (.long (x0 &&& (9223372036854775807 : Int64))), .second, .unset, .unset, .unset, .unset] [(.long (y0 &&& (9223372036854775807 : Int64)))])) (fun _ k => XS.land X0.here hx rfl (hb hby at_11) rfl k) ?_
  refine own_step (g' := (mkF m 14 #[.val (.long x0), .second, .val (.long y0), .second, .val (.long (x0 &&& (9223372036854775807 : Int64))), .second, .val (.long (y0 &&& (9223372036854775807 : Int64))), .second, .unset, .unset] [])) (fun _ k => XS.lstore X0.here hx rfl (hb hby at_12) rfl (l' := #[.val (.long x0), .second, .val (.long y0), .second, .val (.long (x0 &&& (9223372036854775807 : Int64))), .second, .val (.long (y0 &&& (9223372036854775807 : Int64))), .second, .unset, .unset]) rfl k) ?_
  refine own_step (g' := (mkF m 16 #[.val (.long x0), .second, .val (.long y0), .second, .val (.long (x0 &&& (9223372036854775807 : Int64))), .second, .val (.long (y0 &&& (9223372036854775807 : Int64))), .second, .unset, .unset] [(.long (x0 &&& (9223372036854775807 : Int64)))])) (fun _ k => XS.lload X0.here hx rfl (hb hby at_14) rfl k) ?_
  refine own_step (g' := (mkF m 19 #[.val (.long x0), .second, .val (.long y0), .second, .val (.long (x0 &&& (9223372036854775807 : Int64))), .second, .val (.long (y0 &&& (9223372036854775807 : Int64))), .second, .unset, .unset] [(.long (9223372036854775807 : Int64)), (.long (x0 &&& (9223372036854775807 : Int64)))])) (fun _ k => X0.ldc2Long hx hown (mvT hZ (hw _ (List.mem_of_getElem? (i := 0) rfl))) (g := (mkF m 16 #[.val (.long x0), .second, .val (.long y0), .second, .val (.long (x0 &&& (9223372036854775807 : Int64))), .second, .val (.long (y0 &&& (9223372036854775807 : Int64))), .second, .unset, .unset] [(.long (x0 &&& (9223372036854775807 : Int64)))])) rfl (hb hby at_16) _ k) ?_
  refine own_step (g' := (mkF m 21 #[.val (.long x0), .second, .val (.long y0), .second, .val (.long (x0 &&& (9223372036854775807 : Int64))), .second, .val (.long (y0 &&& (9223372036854775807 : Int64))), .second, .unset, .unset] [(.long (y0 &&& (9223372036854775807 : Int64))), (.long (9223372036854775807 : Int64)), (.long (x0 &&& (9223372036854775807 : Int64)))])) (fun _ k => XS.lload X0.here hx rfl (hb hby at_19) rfl k) ?_
  refine own_step (g' := (mkF m 22 #[.val (.long x0), .second, .val (.long y0), .second, .val (.long (x0 &&& (9223372036854775807 : Int64))), .second, .val (.long (y0 &&& (9223372036854775807 : Int64))), .second, .unset, .unset] [(.long ((9223372036854775807 : Int64) - (y0 &&& (9223372036854775807 : Int64)))), (.long (x0 &&& (9223372036854775807 : Int64)))])) (fun _ k => XS.lsub X0.here hx rfl (hb hby at_21) rfl k) ?_
  refine own_step (g' := (mkF m 23 #[.val (.long x0), .second, .val (.long y0), .second, .val (.long (x0 &&& (9223372036854775807 : Int64))), .second, .val (.long (y0 &&& (9223372036854775807 : Int64))), .second, .unset, .unset] [(.int (lcmpW (x0 &&& (9223372036854775807 : Int64)) ((9223372036854775807 : Int64) - (y0 &&& (9223372036854775807 : Int64)))))])) (fun _ k => XS.lcmp X0.here hx rfl (hb hby at_22) rfl k) ?_
  have kj1 : (∀ (z1_0 : Int64), z1_0 = (if (9223372036854775807 : Int64) - (y0 &&& (9223372036854775807 : Int64)) < (x0 &&& (9223372036854775807 : Int64)) then (9223372036854775807 : Int64) else (x0 &&& (9223372036854775807 : Int64)) + (y0 &&& (9223372036854775807 : Int64))) → own_E p e below (own_F s 0 0) (own_Q0 Z x0 y0 h0 n0) s₁ (mkF m 41 #[.val (.long x0), .second, .val (.long y0), .second, .val (.long (x0 &&& (9223372036854775807 : Int64))), .second, .val (.long (y0 &&& (9223372036854775807 : Int64))), .second, .val (.long z1_0), .second] [])) → own_E p e below (own_F s 0 0) (own_Q0 Z x0 y0 h0 n0) s₁ (mkF m 23 #[.val (.long x0), .second, .val (.long y0), .second, .val (.long (x0 &&& (9223372036854775807 : Int64))), .second, .val (.long (y0 &&& (9223372036854775807 : Int64))), .second, .unset, .unset] [(.int (lcmpW (x0 &&& (9223372036854775807 : Int64)) ((9223372036854775807 : Int64) - (y0 &&& (9223372036854775807 : Int64)))))]) := by
    intro kj
    refine own_ifN X0 hx (P := (((9223372036854775807 : Int64) - (y0 &&& (9223372036854775807 : Int64))) < (x0 &&& (9223372036854775807 : Int64)))) (hb hby at_23) (own_l_le (x0 &&& (9223372036854775807 : Int64)) ((9223372036854775807 : Int64) - (y0 &&& (9223372036854775807 : Int64)))) (by decide) (pc1 := 34) (by decide) (fun hc23 => ?_) (fun hc23 => ?_)
    · show own_E p e below (own_F s 0 0) (own_Q0 Z x0 y0 h0 n0) s₁ (mkF m 26 #[.val (.long x0), .second, .val (.long y0), .second, .val (.long (x0 &&& (9223372036854775807 : Int64))), .second, .val (.long (y0 &&& (9223372036854775807 : Int64))), .second, .unset, .unset] [])
      refine own_step (g' := (mkF m 29 #[.val (.long x0), .second, .val (.long y0), .second, .val (.long (x0 &&& (9223372036854775807 : Int64))), .second, .val (.long (y0 &&& (9223372036854775807 : Int64))), .second, .unset, .unset] [(.long (9223372036854775807 : Int64))])) (fun _ k => X0.ldc2Long hx hown (mvT hZ (hw _ (List.mem_of_getElem? (i := 0) rfl))) (g := (mkF m 26 #[.val (.long x0), .second, .val (.long y0), .second, .val (.long (x0 &&& (9223372036854775807 : Int64))), .second, .val (.long (y0 &&& (9223372036854775807 : Int64))), .second, .unset, .unset] [])) rfl (hb hby at_26) _ k) ?_
      refine own_step (g' := (mkF m 31 #[.val (.long x0), .second, .val (.long y0), .second, .val (.long (x0 &&& (9223372036854775807 : Int64))), .second, .val (.long (y0 &&& (9223372036854775807 : Int64))), .second, .val (.long (9223372036854775807 : Int64)), .second] [])) (fun _ k => XS.lstore X0.here hx rfl (hb hby at_29) rfl (l' := #[.val (.long x0), .second, .val (.long y0), .second, .val (.long (x0 &&& (9223372036854775807 : Int64))), .second, .val (.long (y0 &&& (9223372036854775807 : Int64))), .second, .val (.long (9223372036854775807 : Int64)), .second]) rfl k) ?_
      refine own_step (g' := (mkF m 41 #[.val (.long x0), .second, .val (.long y0), .second, .val (.long (x0 &&& (9223372036854775807 : Int64))), .second, .val (.long (y0 &&& (9223372036854775807 : Int64))), .second, .val (.long (9223372036854775807 : Int64)), .second] [])) (fun _ k => XS.goto X0.here hx rfl (pc0 := 31) (pc' := 41) rfl (hb hby at_31) (by decide) (by decide) k) ?_
      exact kj (9223372036854775807 : Int64) (by simp only [if_pos hc23])
    · show own_E p e below (own_F s 0 0) (own_Q0 Z x0 y0 h0 n0) s₁ (mkF m 34 #[.val (.long x0), .second, .val (.long y0), .second, .val (.long (x0 &&& (9223372036854775807 : Int64))), .second, .val (.long (y0 &&& (9223372036854775807 : Int64))), .second, .unset, .unset] [])
      refine own_step (g' := (mkF m 36 #[.val (.long x0), .second, .val (.long y0), .second, .val (.long (x0 &&& (9223372036854775807 : Int64))), .second, .val (.long (y0 &&& (9223372036854775807 : Int64))), .second, .unset, .unset] [(.long (x0 &&& (9223372036854775807 : Int64)))])) (fun _ k => XS.lload X0.here hx rfl (hb hby at_34) rfl k) ?_
      refine own_step (g' := (mkF m 38 #[.val (.long x0), .second, .val (.long y0), .second, .val (.long (x0 &&& (9223372036854775807 : Int64))), .second, .val (.long (y0 &&& (9223372036854775807 : Int64))), .second, .unset, .unset] [(.long (y0 &&& (9223372036854775807 : Int64))), (.long (x0 &&& (9223372036854775807 : Int64)))])) (fun _ k => XS.lload X0.here hx rfl (hb hby at_36) rfl k) ?_
      refine own_step (g' := (mkF m 39 #[.val (.long x0), .second, .val (.long y0), .second, .val (.long (x0 &&& (9223372036854775807 : Int64))), .second, .val (.long (y0 &&& (9223372036854775807 : Int64))), .second, .unset, .unset] [(.long ((x0 &&& (9223372036854775807 : Int64)) + (y0 &&& (9223372036854775807 : Int64))))])) (fun _ k => XS.ladd X0.here hx rfl (hb hby at_38) rfl k) ?_
      refine own_step (g' := (mkF m 41 #[.val (.long x0), .second, .val (.long y0), .second, .val (.long (x0 &&& (9223372036854775807 : Int64))), .second, .val (.long (y0 &&& (9223372036854775807 : Int64))), .second, .val (.long ((x0 &&& (9223372036854775807 : Int64)) + (y0 &&& (9223372036854775807 : Int64)))), .second] [])) (fun _ k => XS.lstore X0.here hx rfl (hb hby at_39) rfl (l' := #[.val (.long x0), .second, .val (.long y0), .second, .val (.long (x0 &&& (9223372036854775807 : Int64))), .second, .val (.long (y0 &&& (9223372036854775807 : Int64))), .second, .val (.long ((x0 &&& (9223372036854775807 : Int64)) + (y0 &&& (9223372036854775807 : Int64)))), .second]) rfl k) ?_
      exact kj ((x0 &&& (9223372036854775807 : Int64)) + (y0 &&& (9223372036854775807 : Int64))) (by simp only [if_neg hc23])
  refine kj1 fun z1_0 hz1 => ?_
  subst hz1
  show own_E p e below (own_F s 0 0) (own_Q0 Z x0 y0 h0 n0) s₁ (mkF m 41 #[.val (.long x0), .second, .val (.long y0), .second, .val (.long (x0 &&& (9223372036854775807 : Int64))), .second, .val (.long (y0 &&& (9223372036854775807 : Int64))), .second, .val (.long (if (9223372036854775807 : Int64) - (y0 &&& (9223372036854775807 : Int64)) < (x0 &&& (9223372036854775807 : Int64)) then (9223372036854775807 : Int64) else (x0 &&& (9223372036854775807 : Int64)) + (y0 &&& (9223372036854775807 : Int64)))), .second] [])
  refine own_step (g' := (mkF m 43 #[.val (.long x0), .second, .val (.long y0), .second, .val (.long (x0 &&& (9223372036854775807 : Int64))), .second, .val (.long (y0 &&& (9223372036854775807 : Int64))), .second, .val (.long (if (9223372036854775807 : Int64) - (y0 &&& (9223372036854775807 : Int64)) < (x0 &&& (9223372036854775807 : Int64)) then (9223372036854775807 : Int64) else (x0 &&& (9223372036854775807 : Int64)) + (y0 &&& (9223372036854775807 : Int64)))), .second] [(.long (x0 &&& (9223372036854775807 : Int64)))])) (fun _ k => XS.lload X0.here hx rfl (hb hby at_41) rfl k) ?_
  refine own_step (g' := (mkF m 45 #[.val (.long x0), .second, .val (.long y0), .second, .val (.long (x0 &&& (9223372036854775807 : Int64))), .second, .val (.long (y0 &&& (9223372036854775807 : Int64))), .second, .val (.long (if (9223372036854775807 : Int64) - (y0 &&& (9223372036854775807 : Int64)) < (x0 &&& (9223372036854775807 : Int64)) then (9223372036854775807 : Int64) else (x0 &&& (9223372036854775807 : Int64)) + (y0 &&& (9223372036854775807 : Int64)))), .second] [(.long (y0 &&& (9223372036854775807 : Int64))), (.long (x0 &&& (9223372036854775807 : Int64)))])) (fun _ k => XS.lload X0.here hx rfl (hb hby at_43) rfl k) ?_
  obtain ⟨_, _, ⟨T2, L2, k2, n2⟩, -, X2, ⟨Lc2, hQ2, l2, y2, z2⟩, st2⟩ := Jvm.LawKit.callS X0 hx (y := (⟨"com/example/triplesmith/triplesmith/vocab/Plan", "plus", "(JJ)J"⟩ : MethodName)) hown (mvT hZ (hw _ (List.mem_of_getElem? (i := 1) rfl))) (mvT hZ (hw _ (List.mem_of_getElem? (i := 2) rfl))) (mvT hZ (hw _ (List.mem_of_getElem? (i := 3) rfl))) (mvT hZ (hw _ (List.mem_of_getElem? (i := 4) rfl))) (by decide) (backOf (W := 0) (own_rm1 l Z a0 hw [] (x0 &&& (9223372036854775807 : Int64)) (y0 &&& (9223372036854775807 : Int64)) h0 n0 Z0 ) hZ (hw _ (List.mem_of_getElem? (i := 4) rfl)) (hw _ (List.mem_of_getElem? (i := 3) rfl)) (by decide) (by decide)) (g := (mkF m 45 #[.val (.long x0), .second, .val (.long y0), .second, .val (.long (x0 &&& (9223372036854775807 : Int64))), .second, .val (.long (y0 &&& (9223372036854775807 : Int64))), .second, .val (.long (if (9223372036854775807 : Int64) - (y0 &&& (9223372036854775807 : Int64)) < (x0 &&& (9223372036854775807 : Int64)) then (9223372036854775807 : Int64) else (x0 &&& (9223372036854775807 : Int64)) + (y0 &&& (9223372036854775807 : Int64)))), .second] [(.long (y0 &&& (9223372036854775807 : Int64))), (.long (x0 &&& (9223372036854775807 : Int64)))])) rfl (by rw [hml]; rfl) (argsL := [(.long (x0 &&& (9223372036854775807 : Int64))), (.long (y0 &&& (9223372036854775807 : Int64)))]) (rest := []) (lenOf own_pd__28JJ_29J rfl) rfl (by show 2 * 0 + _ ≤ _; exact Nat.le_of_eq rfl) (hb hby at_45) (fun _ _ => ⟨rfl, e0, (by decide : 0 + 0 ≤ _), (by decide : 0 + 0 ≤ _)⟩)
  dsimp only [Pt.U, Pt.locs, Pt.cells, Pt.slots] at X2 l2 y2 z2 st2 hQ2
  subst l2 y2 z2
  obtain ⟨rfl, Nq2, e2⟩ := hQ2
  have N2 := Fr.app N0 Nq2
  refine own_step (g' := (mkF m 48 #[.val (.long x0), .second, .val (.long y0), .second, .val (.long (x0 &&& (9223372036854775807 : Int64))), .second, .val (.long (y0 &&& (9223372036854775807 : Int64))), .second, .val (.long (if (9223372036854775807 : Int64) - (y0 &&& (9223372036854775807 : Int64)) < (x0 &&& (9223372036854775807 : Int64)) then (9223372036854775807 : Int64) else (x0 &&& (9223372036854775807 : Int64)) + (y0 &&& (9223372036854775807 : Int64)))), .second] [(.long (own_plus (x0 &&& (9223372036854775807 : Int64)) (y0 &&& (9223372036854775807 : Int64))))])) (fun _ k => st2 _ k) ?_
  refine own_step (g' := (mkF m 50 #[.val (.long x0), .second, .val (.long y0), .second, .val (.long (x0 &&& (9223372036854775807 : Int64))), .second, .val (.long (y0 &&& (9223372036854775807 : Int64))), .second, .val (.long (if (9223372036854775807 : Int64) - (y0 &&& (9223372036854775807 : Int64)) < (x0 &&& (9223372036854775807 : Int64)) then (9223372036854775807 : Int64) else (x0 &&& (9223372036854775807 : Int64)) + (y0 &&& (9223372036854775807 : Int64)))), .second] [(.long (if (9223372036854775807 : Int64) - (y0 &&& (9223372036854775807 : Int64)) < (x0 &&& (9223372036854775807 : Int64)) then (9223372036854775807 : Int64) else (x0 &&& (9223372036854775807 : Int64)) + (y0 &&& (9223372036854775807 : Int64)))), (.long (own_plus (x0 &&& (9223372036854775807 : Int64)) (y0 &&& (9223372036854775807 : Int64))))])) (fun _ k => XS.lload X2.here hx rfl (hb hby at_48) rfl k) ?_
  refine own_step (g' := (mkF m 51 #[.val (.long x0), .second, .val (.long y0), .second, .val (.long (x0 &&& (9223372036854775807 : Int64))), .second, .val (.long (y0 &&& (9223372036854775807 : Int64))), .second, .val (.long (if (9223372036854775807 : Int64) - (y0 &&& (9223372036854775807 : Int64)) < (x0 &&& (9223372036854775807 : Int64)) then (9223372036854775807 : Int64) else (x0 &&& (9223372036854775807 : Int64)) + (y0 &&& (9223372036854775807 : Int64)))), .second] [(.int (lcmpW (own_plus (x0 &&& (9223372036854775807 : Int64)) (y0 &&& (9223372036854775807 : Int64))) (if (9223372036854775807 : Int64) - (y0 &&& (9223372036854775807 : Int64)) < (x0 &&& (9223372036854775807 : Int64)) then (9223372036854775807 : Int64) else (x0 &&& (9223372036854775807 : Int64)) + (y0 &&& (9223372036854775807 : Int64)))))])) (fun _ k => XS.lcmp X2.here hx rfl (hb hby at_50) rfl k) ?_
  refine own_ifN X2 hx (P := ((own_plus (x0 &&& (9223372036854775807 : Int64)) (y0 &&& (9223372036854775807 : Int64))) = (if (9223372036854775807 : Int64) - (y0 &&& (9223372036854775807 : Int64)) < (x0 &&& (9223372036854775807 : Int64)) then (9223372036854775807 : Int64) else (x0 &&& (9223372036854775807 : Int64)) + (y0 &&& (9223372036854775807 : Int64))))) (hb hby at_51) (own_l_ne (own_plus (x0 &&& (9223372036854775807 : Int64)) (y0 &&& (9223372036854775807 : Int64))) (if (9223372036854775807 : Int64) - (y0 &&& (9223372036854775807 : Int64)) < (x0 &&& (9223372036854775807 : Int64)) then (9223372036854775807 : Int64) else (x0 &&& (9223372036854775807 : Int64)) + (y0 &&& (9223372036854775807 : Int64)))) (by decide) (pc1 := 58) (by decide) (fun hc51 => ?_) (fun hc51 => ?_)
  · show own_E p e below (own_F s 0 0) (own_Q0 Z x0 y0 h0 n0) T2 (mkF m 54 #[.val (.long x0), .second, .val (.long y0), .second, .val (.long (x0 &&& (9223372036854775807 : Int64))), .second, .val (.long (y0 &&& (9223372036854775807 : Int64))), .second, .val (.long (if (9223372036854775807 : Int64) - (y0 &&& (9223372036854775807 : Int64)) < (x0 &&& (9223372036854775807 : Int64)) then (9223372036854775807 : Int64) else (x0 &&& (9223372036854775807 : Int64)) + (y0 &&& (9223372036854775807 : Int64)))), .second] [])
    refine own_step (g' := (mkF m 55 #[.val (.long x0), .second, .val (.long y0), .second, .val (.long (x0 &&& (9223372036854775807 : Int64))), .second, .val (.long (y0 &&& (9223372036854775807 : Int64))), .second, .val (.long (if (9223372036854775807 : Int64) - (y0 &&& (9223372036854775807 : Int64)) < (x0 &&& (9223372036854775807 : Int64)) then (9223372036854775807 : Int64) else (x0 &&& (9223372036854775807 : Int64)) + (y0 &&& (9223372036854775807 : Int64)))), .second] [(.int (1 : Int32))])) (fun _ k => XS.iconst X2.here hx rfl (hb hby at_54) k) ?_
    refine own_step (g' := (mkF m 59 #[.val (.long x0), .second, .val (.long y0), .second, .val (.long (x0 &&& (9223372036854775807 : Int64))), .second, .val (.long (y0 &&& (9223372036854775807 : Int64))), .second, .val (.long (if (9223372036854775807 : Int64) - (y0 &&& (9223372036854775807 : Int64)) < (x0 &&& (9223372036854775807 : Int64)) then (9223372036854775807 : Int64) else (x0 &&& (9223372036854775807 : Int64)) + (y0 &&& (9223372036854775807 : Int64)))), .second] [(.int (1 : Int32))])) (fun _ k => XS.goto X2.here hx rfl (pc0 := 55) (pc' := 59) rfl (hb hby at_55) (by decide) (by decide) k) ?_
    exact own_retI X2 hx hlk hret (by simp) (hb hby at_59) rfl (by decide) (by decide) (by show own_Q0 Z x0 y0 h0 n0 (some (.int (1 : Int32))) T2.heap _; rw [e2]; exact ⟨rfl, N2⟩)
  · show own_E p e below (own_F s 0 0) (own_Q0 Z x0 y0 h0 n0) T2 (mkF m 58 #[.val (.long x0), .second, .val (.long y0), .second, .val (.long (x0 &&& (9223372036854775807 : Int64))), .second, .val (.long (y0 &&& (9223372036854775807 : Int64))), .second, .val (.long (if (9223372036854775807 : Int64) - (y0 &&& (9223372036854775807 : Int64)) < (x0 &&& (9223372036854775807 : Int64)) then (9223372036854775807 : Int64) else (x0 &&& (9223372036854775807 : Int64)) + (y0 &&& (9223372036854775807 : Int64)))), .second] [])
    exact absurd (own_law x0 y0) hc51
set_option maxRecDepth 65536 in
set_option maxHeartbeats 40000000 in
theorem own_comes {Post : Tables → Env → Array Value → State → Outcome → State → Prop} (hpost : ∀ tb e args s v u, (limb_1_1.after args s (.returned v) u = true ∧ limb_1_2.after args s (.returned v) u = true ∧ True) → FrameEnd s (.returned v) u (Jvm.fieldLocs frame_1_writes args s ++ Jvm.arrayLocs frame_1_arrays args s ++ Jvm.staticLocs frame_1_statics s) 0 0 → Post tb e args s (.returned v) u) :
    ArmFor flags0 classFile x code maxLocals ret World_1 tables_1 room_1 Calls_1 rest_1 Pre_1 Post := by
  intro l hfl _ _ p e ha hc hk s m args below hf hA hF happ hP
  obtain ⟨hcalls, hrest, hpre⟩ := hP
  obtain ⟨-, -, -, hnamed, -, -, -, hat⟩ := (Spec.applies_iff hf).mp happ
  obtain ⟨hg, hn⟩ := and_e (Cond.before_iff.mp (show (Jvm.Cond.and given_1 narrow_1).before args s = true from hpre))
  obtain ⟨q0, r0⟩ := and_e hg
  obtain ⟨q1, r1⟩ := and_e r0
  obtain ⟨w0, w1, rfl⟩ : ∃ w0 w1 : Value, args = #[w0, w1] := by
    have hs : args.size = 2 := by simpa [Cond.value, given_1] using q0
    obtain ⟨L⟩ := args
    match L, hs with
    | [w0, w1], _ => exact ⟨w0, w1, rfl⟩
  have hw := fun d (hd : d ∈ tables_1) => atoms_spec (ws := Jvm.Cond.code x code maxLocals ret :: tables_1) hat d (List.mem_cons_of_mem _ hd)
  obtain ⟨i0, ei0⟩ := isL_v q1
  obtain rfl : w0 = (.long i0) := Option.some.inj ei0
  obtain ⟨i1, ei1⟩ := isL_v r1
  obtain rfl : w1 = (.long i1) := Option.some.inj ei1
  obtain ⟨n, o, h1, h2, h3, _, L, rfl, ⟨rfl, N⟩, hq⟩ := own_rm0 l s _ hw tables_1 i0 i1 s.heap s.heap.size (Nat.le_refl _) p e ha hc hk s m _ below hf ((Spec.applies_iff_loose hf).mp happ).1 ⟨rfl, State.Warmed39.refl s, rfl⟩ trivial
  refine ⟨n, _, h1, h2, h3, hpost _ _ _ _ _ _ ⟨Cond.after_iff.mpr rfl, Cond.after_iff.mpr (eq_i res_at (Term.int_eval (1)) rfl), trivial⟩ ⟨hq.1, hq.2.1, (hq.2.2.sift fun y hy => Or.inr (N y hy)).mono (by decide) (by decide)⟩⟩
theorem main_1_1 : Claimed_1_1 := own_comes fun _ _ _ _ _ _ h hF => ⟨h.1, hF⟩
theorem main_1_2 : Claimed_1_2 := own_comes fun _ _ _ _ _ _ h hF => ⟨h.2.1, hF⟩
end Jvm.Pilot.@@N@@
namespace Jvm.Pilot.@@N@@
open Jvm Jvm.ClassFile Sem Op Lib Jvm.Free Jvm.Stand Jvm.Pilot.@@N@@.Jvm.D
/-! MADE BY PROGRAM (witnessworld.py) out of the Statement's table words and the real class files: 9 classes; the members and pool entries that the words name. The judged class is class 1, her method 1. -/
namespace start1
open Jvm.ClassFile
def u (s : String) : CpInfo := .utf8 (stringToUtf16 s)
/-- a pool by its gaps: so many unusable entries, then the entry; so many at the end -/
def gap : Nat → List CpInfo → List CpInfo
  | 0, r => r
  | n + 1, r => .unusable :: gap n r
def poolList (es : List (Nat × CpInfo)) (last : Nat) : List CpInfo := es.foldr (fun e r => gap e.1 (e.2 :: r)) (gap last [])
def pool (es : List (Nat × CpInfo)) (last : Nat) : Array CpInfo := ⟨poolList es last⟩
def fileOf (pool : Array CpInfo) (this : Nat) (attrs : Array Attribute := #[]) (ms : Array MethodInfo := #[]) (fl : Nat := 33) (sup : Nat := 0) (ifs : Array Nat := #[]) (fds : Array FieldInfo := #[]) : ClassFile where
  minorVersion := 0
  majorVersion := 65
  constantPool := pool
  accessFlags := fl
  thisClass := this
  superClass := sup
  interfaces := ifs
  fields := fds
  methods := ms
  attributes := attrs
def plain (name : String) (sup : Option ClassId) : Class where
  name := name
  kind := .ordinary
  loader := none
  accessFlags := 33
  super := sup
  interfaces := #[]
  cf := none
  fields := #[]
  methods := #[]
  instanceTypes := #[]
  staticTypes := #[]
  resolved := #[]
  callSites := []
  init := .initialized
  statics := none
  mirror := none

def pool0 : Array CpInfo := pool [(5, u "<init>"), (0, u "()V"), (1, .class_ 10), (1, u "java/lang/Object")] 113

def k0m0 : Method := { name := "<init>", desc := "()V", sig := { parameters := [], returnType := none }, accessFlags := 1, code := none }
/-- java/lang/Object -/
def k0 : Class := { plain "java/lang/Object" none with
  accessFlags := 33
  interfaces := #[]
  cf := some (fileOf pool0 8 #[] #[{ accessFlags := 1, nameIndex := 5, descriptorIndex := 6, attributes := #[] }] 33 0 #[] #[])
  fields := #[]
  methods := #[k0m0]
  instanceTypes := #[]
  staticTypes := #[]
  resolved := Array.replicate 124 none
  statics := none }

def pool1 : Array CpInfo := pool [(2, .class_ 4), (1, u "java/lang/Object"), (0, u "<init>"), (0, u "()V"), (2, .long 9223372036854775807), (1, .methodref 12 13), (0, .class_ 14), (0, .nameAndType 15 16), (0, u "com/example/triplesmith/triplesmith/vocab/Plan"), (0, u "plus"), (0, u "(JJ)J"), (0, .class_ 18), (0, u "com/example/triplesmith/triplesmith/vocab/PlanPlusPinLaw"), (2, u "law"), (0, u "(JJ)Z")] 3

def k1m0 : Method := { name := "<init>", desc := "()V", sig := { parameters := [], returnType := none }, accessFlags := 2, code := none }
def k1c1 : Code := { maxStack := 6, maxLocals := 10, code := code, exceptionTable := #[], attributes := #[] }
def k1m1 : Method := { name := "law", desc := "(JJ)Z", sig := { parameters := [.long, .long], returnType := some .boolean }, accessFlags := 9, code := some k1c1 }
/-- com/example/triplesmith/triplesmith/vocab/PlanPlusPinLaw -/
def k1 : Class := { plain "com/example/triplesmith/triplesmith/vocab/PlanPlusPinLaw" (some 0) with
  accessFlags := 49
  interfaces := #[]
  cf := some (fileOf pool1 17 #[] #[{ accessFlags := 2, nameIndex := 5, descriptorIndex := 6, attributes := #[] }, { accessFlags := 9, nameIndex := 21, descriptorIndex := 22, attributes := #[] }] 49 2 #[] #[])
  fields := #[]
  methods := #[k1m0, k1m1]
  instanceTypes := #[]
  staticTypes := #[]
  resolved := Array.replicate 26 none
  statics := none }

def pool2 : Array CpInfo := pool [(2, .class_ 4), (1, u "java/lang/Object"), (3, .class_ 10), (1, u "com/example/triplesmith/triplesmith/vocab/Plan"), (0, u "entities"), (0, u "[J"), (2, u "triples"), (0, u "[[J"), (0, .class_ 18), (0, u "com/example/triplesmith/triplesmith/vocab/Plan$Sizes"), (58, u "(JJ)J"), (56, .long 9223372036854775807), (32, u "plus")] 54

def k2c0 : Code := { maxStack := 4, maxLocals := 6, code := prog_100_method_8_code, exceptionTable := #[], attributes := #[] }
def k2m0 : Method := { name := "plus", desc := "(JJ)J", sig := { parameters := [.long, .long], returnType := some .long }, accessFlags := 8, code := some k2c0 }
/-- com/example/triplesmith/triplesmith/vocab/Plan -/
def k2 : Class := { plain "com/example/triplesmith/triplesmith/vocab/Plan" (some 0) with
  accessFlags := 48
  interfaces := #[]
  cf := some (fileOf pool2 8 #[.nestMembers #[17]] #[{ accessFlags := 8, nameIndex := 167, descriptorIndex := 77, attributes := #[] }] 48 2 #[] #[{ accessFlags := 18, nameIndex := 11, descriptorIndex := 12, attributes := #[] }, { accessFlags := 18, nameIndex := 15, descriptorIndex := 16, attributes := #[] }])
  fields := #[{ name := "entities", type := (.array .long), accessFlags := 18, slot := 0, constantValue := 0 }, { name := "triples", type := (.array (.array .long)), accessFlags := 18, slot := 1, constantValue := 0 }]
  methods := #[k2m0]
  instanceTypes := #[(.array .long), (.array (.array .long))]
  staticTypes := #[]
  resolved := Array.replicate 222 none
  statics := none }

def pool3 : Array CpInfo := pool [(1, u "java/lang/Cloneable"), (0, .class_ 1), (0, u "java/lang/Object"), (0, .class_ 3)] 3

/-- java/lang/Cloneable -/
def k3 : Class := { plain "java/lang/Cloneable" (some 0) with
  accessFlags := 1537
  interfaces := #[]
  cf := some (fileOf pool3 2 #[] #[] 1537 4 #[] #[])
  fields := #[]
  methods := #[]
  instanceTypes := #[]
  staticTypes := #[]
  resolved := Array.replicate 8 none
  statics := none }

def pool4 : Array CpInfo := pool [(1, u "java/io/Serializable"), (0, .class_ 1), (0, u "java/lang/Object"), (0, .class_ 3)] 3

/-- java/io/Serializable -/
def k4 : Class := { plain "java/io/Serializable" (some 0) with
  accessFlags := 1537
  interfaces := #[]
  cf := some (fileOf pool4 2 #[] #[] 1537 4 #[] #[])
  fields := #[]
  methods := #[]
  instanceTypes := #[]
  staticTypes := #[]
  resolved := Array.replicate 8 none
  statics := none }

/-- the primitive byte -/
def k5 : Class := { plain "byte" none with kind := .primitive 'B', accessFlags := 0x411 }
/-- [B -/
def k6 : Class := { plain "[B" (some 0) with kind := .array 5 .byte, interfaces := #[3, 4], accessFlags := 1041 }

/-- the primitive int -/
def k7 : Class := { plain "int" none with kind := .primitive 'I', accessFlags := 0x411 }
/-- [I -/
def k8 : Class := { plain "[I" (some 0) with kind := .array 7 .int, interfaces := #[3, 4], accessFlags := 1041 }

def heap : Heap := #[]
def classes : Array Class := #[k0, k1, k2, k3, k4, k5, k6, k7, k8]
def interned : List (Array UInt16 × Addr) := []
def slotsUsed : Nat := 0
def theMethod : MethodId := ⟨1, 1⟩
def args0 : Array Value := #[.long 5, .long 7]
def aboutOver (below : List Frame) : State where
  vm := { classes := classes, interned := interned.toArray }
  heap := heap
  slotsUsed := slotsUsed
  threads := #[{ frames := .invoking theMethod args0 :: below }]
def below0 : List Frame := [.native { method := ⟨0, 0⟩, args := #[] }]
def about1 : State := aboutOver below0
def p0 : Program := .bare "" "" ""
def e0 : Env := launch0.env 0 0 0
theorem w_frames : about1.frames = Frame.invoking theMethod args0 :: below0 := rfl
set_option maxRecDepth 65536 in
theorem w_args : argsFit about1.vm theMethod args0 = true := by decide +kernel
set_option maxRecDepth 65536 in
theorem w_heap : heapFits about1 = true := by decide +kernel
set_option maxRecDepth 65536 in
theorem w_runnable : about1.curStatus? = some .runnable := by decide +kernel
set_option maxRecDepth 65536 in
theorem w_alone : about1.alone = true := by decide +kernel
set_option maxRecDepth 65536 in
theorem w_named : about1.methodNamed? x = some theMethod := by decide +kernel
set_option maxRecDepth 65536 in
theorem w_hears : about1.hears theMethod below0 = true := by decide +kernel
set_option maxRecDepth 65536 in
theorem w_ripe : about1.ripe theMethod args0 below0 = true := by decide +kernel
theorem w_running : about1.status = .running := rfl
set_option maxRecDepth 65536 in
theorem w_room : about1.hasRoom e0.platform room_1 = true :=
  launch0.hasRoom_least _ room_1 (by decide +kernel) (by decide +kernel) (by decide +kernel) (by decide +kernel) (by decide +kernel) (by decide +kernel)
theorem allAtoms_all (ts : List Jvm.Cond) (a : Array Jvm.Value) (st : Jvm.State) : (allAtoms ts).before a st = ts.all (fun c => c.before a st) := by
  induction ts with
  | nil => rfl
  | cons c t ih =>
    show (Jvm.Cond.and c (allAtoms t)).before a st = _
    rw [Jvm.Cond.before_and, ih, List.all_cons]
def words1 : List Jvm.Cond := Jvm.Cond.code x code maxLocals ret :: tables_1
/-- a 'code' word, met by the world's own term for the bytes: nothing is compared byte by byte -/
theorem code_word {y : MethodName} {bytes : ByteArray} {mx : Nat} {rt : Option FieldType} {a : Array Value} {s : State} {m : MethodId} {meth : Method} {c : Code} (h1 : s.methodNamed? y = some m) (h2 : s.vm.method? m = some meth) (h3 : meth.code = some c) (h4 : c.code = bytes)
    (h5 : (c.maxLocals == mx && c.exceptionTable.isEmpty && decide (c.maxStack ≤ mostOperands) && decide (meth.sig.returnType = rt) && !meth.locks && decide (parseMethodDescriptor y.desc = some meth.sig)) = true) : (Jvm.Cond.code y bytes mx rt).before a s = true := by
  simp only [Bool.and_eq_true, beq_iff_eq, Bool.not_eq_true', decide_eq_true_eq] at h5
  obtain ⟨⟨⟨⟨⟨g1, g2⟩, g3⟩, g4⟩, g5⟩, g6⟩ := h5
  simp [Cond.before, Cond.holds, Cond.value, h1, h2, h3, h4, g1, g2, g3, g4, g5, g6]
def isCode : Jvm.Cond → Bool
  | .code _ _ _ _ => true
  | _ => false
theorem all_split {L : List Jvm.Cond} {P : Jvm.Cond → Bool} (h1 : L.all (fun c => isCode c || P c) = true) (h2 : ∀ c ∈ L.filter isCode, P c = true) : L.all P = true := by
  refine List.all_eq_true.mpr fun c hc => ?_
  have h := List.all_eq_true.mp h1 c hc
  rcases Bool.eq_false_or_eq_true (isCode c) with hi | hi
  · exact h2 c (List.mem_filter.mpr ⟨hc, hi⟩)
  · simpa [hi] using h
set_option maxRecDepth 65536 in
theorem w_c0 : (Jvm.Cond.code x code maxLocals ret).before args0 about1 = true := code_word (m := ⟨1, 1⟩) (meth := k1m1) (c := k1c1) (by decide +kernel) rfl rfl rfl (by decide +kernel)
set_option maxRecDepth 65536 in
theorem w_c1 : (Jvm.Cond.code ({ cls := "com/example/triplesmith/triplesmith/vocab/Plan", name := "plus", desc := "(JJ)J" } : Jvm.MethodName) prog_100_method_8_code (6 : Nat) (Option.some Jvm.ClassFile.FieldType.long)).before args0 about1 = true := code_word (m := ⟨2, 0⟩) (meth := k2m0) (c := k2c0) (by decide +kernel) rfl rfl rfl (by decide +kernel)
def codes1 : List Jvm.Cond := [Jvm.Cond.code x code maxLocals ret, Jvm.Cond.code ({ cls := "com/example/triplesmith/triplesmith/vocab/Plan", name := "plus", desc := "(JJ)J" } : Jvm.MethodName) prog_100_method_8_code (6 : Nat) (Option.some Jvm.ClassFile.FieldType.long)]
set_option maxRecDepth 65536 in
theorem codes_eq : words1.filter isCode = codes1 := rfl
theorem w_codes : ∀ c ∈ words1.filter isCode, c.before args0 about1 = true := by
  rw [codes_eq]
  intro c hc
  simp only [codes1, List.mem_cons, List.not_mem_nil, or_false] at hc
  rcases hc with rfl | rfl
  · exact w_c0
  · exact w_c1
set_option maxRecDepth 65536 in
theorem w_t1 : words1.all (fun c => isCode c || c.before args0 about1) = true := by decide +kernel
theorem w_tables : (allAtoms (Jvm.Cond.code x code maxLocals ret :: tables_1)).before args0 about1 = true := by
  rw [allAtoms_all]
  show words1.all (fun c => c.before args0 about1) = true
  refine all_split ?_ w_codes
  rw [w_t1]
set_option maxRecDepth 65536 in
theorem w_case : (Jvm.Cond.and given_1 narrow_1).before args0 about1 = true := by decide +kernel
theorem w_applies : (headSpec (Jvm.Cond.code x code maxLocals ret :: tables_1) room_1).applies x e0.platform about1 = true :=
  (Spec.applies_iff w_frames).mpr ⟨w_running, w_runnable, w_alone, w_named, w_hears, w_ripe, w_room, w_tables⟩
theorem atStart : AtStart classFile x code maxLocals ret World_1 tables_1 room_1 Calls_1 rest_1 Pre_1 launch0 p0 e0 about1 theMethod args0 below0 :=
  ⟨lists_1, trivial, launch0.admits_env _ _ _, launch0.least_env, fairChoices_fair.cas, fairChoices_fair.clock, w_frames, w_args, w_heap, w_applies, trivial, trivial, w_case⟩
end start1
theorem witness_1 : WitnessClaimed_1 := ⟨start1.p0, start1.e0, start1.about1, start1.theMethod, start1.args0, start1.below0, start1.atStart⟩
end Jvm.Pilot.@@N@@
