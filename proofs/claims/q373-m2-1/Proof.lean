import JvmDerived
import JvmDerived.Pilot.@@N@@Statement
import JvmDerived.Pilot.@@N@@Code
set_option linter.unusedVariables false
set_option linter.unusedSimpArgs false
namespace Jvm.Pilot.@@N@@
open Jvm Jvm.ClassFile Sem Op Lib Jvm.Free Jvm.Stand Jvm.LawKit Jvm.RoadKit Bundle Jvm.Pilot.@@N@@.Jvm.D
section Own
variable {p : Program} {l : Launch} {e : Env} {R : Room} {s : State} {m : MethodId} {args : Array Value} {below : List Frame} {meth : Method} {c : Code} {T T' : State} {locs : List Loc} {cells slots : Nat}
variable {F : Outcome → State → List Loc → Prop} {Q : Option Value → Heap → List Loc → Prop} {ck sk : Nat} {g g' : JFrame}
def own_F (s : State) (ck sk : Nat) (o : Outcome) (t : State) (L : List Loc) : Prop := FrameEnd s o t L ck sk
/-- from the state T with the frame g on top the method comes to its end, and Q holds of what it returns, of the heap and of the places written -/
def own_E (p : Program) (e : Env) (below : List Frame) (F : Outcome → State → List Loc → Prop) (Q : Option Value → Heap → List Loc → Prop) (T : State) (g : JFrame) : Prop :=
  ∃ s₂ o, Steps p.tables e below (T.setTop g) s₂ ∧ s₂.status = .running ∧ Ended s₂ below o ∧ ∃ v L, o = .returned v ∧ Q v s₂.heap L ∧ F o s₂ L
theorem own_step (st : ∀ t, Steps p.tables e below (T'.setTop g') t → Steps p.tables e below (T.setTop g) t) (k : own_E p e below F Q T' g') : own_E p e below F Q T g := by
  obtain ⟨s2, o, h, r⟩ := k
  exact ⟨s2, o, st _ h, r⟩
theorem own_cast (q : g = g') (k : own_E p e below F Q T g') : own_E p e below F Q T g := q ▸ k
theorem own_ret (X : Stand p l e R s m args below meth c T locs cells slots) (hx : p.tables.exec = Jvm.exec) (hlk : meth.locks = false) {pc : Nat} {Ls : Array Slot} {w : Value} {t : FieldType} {i : Instr} {rest : List Value} (hret : meth.sig.returnType = some t)
    (hi : (i = .ireturn ∧ (t = .int ∨ t = .boolean ∨ t = .byte ∨ t = .char ∨ t = .short) ∧ ∃ z, w = .int z) ∨ (i = .lreturn ∧ t = .long ∧ ∃ z, w = .long z) ∨ (i = .dreturn ∧ t = .double ∧ ∃ z, w = .double z) ∨ (i = .freturn ∧ t = .float ∧ ∃ z, w = .float z) ∨ (i = .areturn ∧ t.isReference = true ∧ w.isRef = true))
    (hd : decode c.code pc = .ok (i, 1)) (hn : narrow t w = w) (hc : cells ≤ ck) (hs : slots ≤ sk) (hQ : Q (some w) T.heap locs) : own_E p e below (own_F s ck sk) Q T (mkF m pc Ls (w :: rest)) := by
  obtain ⟨fs, hr, hrun, hended, hW, hsame⟩ := X.leave (v := some w) (fun h => by rw [hret] at h; cases h) hlk
  exact ⟨_, _, retOut X hx hret hn hi hd hr, hrun, hended, _, _, rfl, hQ, ⟨_, rfl⟩, hW, hsame.mono hc hs⟩
theorem own_retI (X : Stand p l e R s m args below meth c T locs cells slots) (hx : p.tables.exec = Jvm.exec) (hlk : meth.locks = false) {pc : Nat} {Ls : Array Slot} {z : Int32} {t : FieldType} {rest : List Value} (hret : meth.sig.returnType = some t)
    (ht : t = .int ∨ t = .boolean ∨ t = .byte ∨ t = .char ∨ t = .short) (hd : decode c.code pc = .ok (.ireturn, 1)) (hn : narrow t (.int z) = .int z) (hc : cells ≤ ck) (hs : slots ≤ sk) (hQ : Q (some (.int z)) T.heap locs) : own_E p e below (own_F s ck sk) Q T (mkF m pc Ls (.int z :: rest)) :=
  own_ret X hx hlk hret (Or.inl ⟨rfl, ht, z, rfl⟩) hd hn hc hs hQ
theorem own_retJ (X : Stand p l e R s m args below meth c T locs cells slots) (hx : p.tables.exec = Jvm.exec) (hlk : meth.locks = false) {pc : Nat} {Ls : Array Slot} {z : Int64} {rest : List Value} (hret : meth.sig.returnType = some .long)
    (hd : decode c.code pc = .ok (.lreturn, 1)) (hc : cells ≤ ck) (hs : slots ≤ sk) (hQ : Q (some (.long z)) T.heap locs) : own_E p e below (own_F s ck sk) Q T (mkF m pc Ls (.long z :: rest)) :=
  own_ret X hx hlk hret (Or.inr (Or.inl ⟨rfl, rfl, z, rfl⟩)) hd rfl hc hs hQ
theorem own_retA (X : Stand p l e R s m args below meth c T locs cells slots) (hx : p.tables.exec = Jvm.exec) (hlk : meth.locks = false) {pc : Nat} {Ls : Array Slot} {a : Addr} {C : String} {rest : List Value} (hret : meth.sig.returnType = some (.object C))
    (hd : decode c.code pc = .ok (.areturn, 1)) (hc : cells ≤ ck) (hs : slots ≤ sk) (hQ : Q (some (.ref a)) T.heap locs) : own_E p e below (own_F s ck sk) Q T (mkF m pc Ls (.ref a :: rest)) :=
  own_ret X hx hlk hret (Or.inr (Or.inr (Or.inr (Or.inr ⟨rfl, rfl, rfl⟩)))) hd rfl hc hs hQ
theorem own_retV (X : Stand p l e R s m args below meth c T locs cells slots) (hx : p.tables.exec = Jvm.exec) (hlk : meth.locks = false) {pc : Nat} {Ls : Array Slot} (hret : meth.sig.returnType = none)
    (hd : decode c.code pc = .ok (.return_, 1)) (hc : cells ≤ ck) (hs : slots ≤ sk) (hQ : Q none T.heap locs) : own_E p e below (own_F s ck sk) Q T (mkF m pc Ls []) := by
  obtain ⟨fs, hr, hrun, hended, hW, hsame⟩ := X.leave (v := none) (fun _ => rfl) hlk
  exact ⟨_, _, X.returnOut hx hret hd hr, hrun, hended, _, _, rfl, hQ, ⟨_, rfl⟩, hW, hsame.mono hc hs⟩
/-- forks: P first, its denial second -/
theorem own_ifY (X : Stand p l e R s m args below meth c T locs cells slots) (hx : p.tables.exec = Jvm.exec) {cd : ClassFile.Cond} {x : Int32} {rest : List Value} {o : Int} {pc0 pc1 : Nat} {Ls : Array Slot} {P : Prop} [Decidable P] (hd : decode c.code pc0 = .ok (.ifCond cd o, 3)) (hP : ifCond.holds cd x = decide P)
    (ho : 0 ≤ (pc0 : Int) + o) (hp : ((pc0 : Int) + o).toNat = pc1) (hy : P → own_E p e below F Q T (mkF m pc1 Ls rest)) (hn : ¬ P → own_E p e below F Q T (mkF m (pc0 + 3) Ls rest)) : own_E p e below F Q T (mkF m pc0 Ls (.int x :: rest)) := by
  by_cases h : P
  · exact own_step (fun t k => XS.ifYes X.here hx rfl (pc0 := pc0) (pc' := pc1) rfl hd rfl (by rw [hP]; exact decide_eq_true h) ho hp k) (hy h)
  · exact own_step (fun t k => XS.ifNo X.here hx rfl hd rfl (by rw [hP]; exact decide_eq_false h) k) (hn h)
theorem own_ifN (X : Stand p l e R s m args below meth c T locs cells slots) (hx : p.tables.exec = Jvm.exec) {cd : ClassFile.Cond} {x : Int32} {rest : List Value} {o : Int} {pc0 pc1 : Nat} {Ls : Array Slot} {P : Prop} [Decidable P] (hd : decode c.code pc0 = .ok (.ifCond cd o, 3)) (hP : ifCond.holds cd x = !decide P)
    (ho : 0 ≤ (pc0 : Int) + o) (hp : ((pc0 : Int) + o).toNat = pc1) (hy : P → own_E p e below F Q T (mkF m (pc0 + 3) Ls rest)) (hn : ¬ P → own_E p e below F Q T (mkF m pc1 Ls rest)) : own_E p e below F Q T (mkF m pc0 Ls (.int x :: rest)) :=
  own_ifY X hx (P := ¬ P) hd (by rw [hP, decide_not]) ho hp hn (fun h => hy (Decidable.of_not_not h))
theorem own_icY (X : Stand p l e R s m args below meth c T locs cells slots) (hx : p.tables.exec = Jvm.exec) {cd : ClassFile.Cond} {x y : Int32} {rest : List Value} {o : Int} {pc0 pc1 : Nat} {Ls : Array Slot} {P : Prop} [Decidable P] (hd : decode c.code pc0 = .ok (.if_icmp cd o, 3)) (hP : if_icmp.holds cd x y = decide P)
    (ho : 0 ≤ (pc0 : Int) + o) (hp : ((pc0 : Int) + o).toNat = pc1) (hy : P → own_E p e below F Q T (mkF m pc1 Ls rest)) (hn : ¬ P → own_E p e below F Q T (mkF m (pc0 + 3) Ls rest)) : own_E p e below F Q T (mkF m pc0 Ls (.int y :: .int x :: rest)) := by
  by_cases h : P
  · exact own_step (fun t k => XS.icmpYes X.here hx rfl (pc0 := pc0) (pc' := pc1) rfl hd rfl (by rw [hP]; exact decide_eq_true h) ho hp k) (hy h)
  · exact own_step (fun t k => XS.icmpNo X.here hx rfl hd rfl (by rw [hP]; exact decide_eq_false h) k) (hn h)
theorem own_icN (X : Stand p l e R s m args below meth c T locs cells slots) (hx : p.tables.exec = Jvm.exec) {cd : ClassFile.Cond} {x y : Int32} {rest : List Value} {o : Int} {pc0 pc1 : Nat} {Ls : Array Slot} {P : Prop} [Decidable P] (hd : decode c.code pc0 = .ok (.if_icmp cd o, 3)) (hP : if_icmp.holds cd x y = !decide P)
    (ho : 0 ≤ (pc0 : Int) + o) (hp : ((pc0 : Int) + o).toNat = pc1) (hy : P → own_E p e below F Q T (mkF m (pc0 + 3) Ls rest)) (hn : ¬ P → own_E p e below F Q T (mkF m pc1 Ls rest)) : own_E p e below F Q T (mkF m pc0 Ls (.int y :: .int x :: rest)) :=
  own_icY X hx (P := ¬ P) hd (by rw [hP, decide_not]) ho hp hn (fun h => hy (Decidable.of_not_not h))
theorem own_i_eq (x y : Int32) : if_icmp.holds .eq x y = decide (x = y) := by
  by_cases h : x = y
  · rw [(teq h).1, decide_eq_true h]
  · rw [(feq h).1, decide_eq_false h]
theorem own_i_ne (x y : Int32) : if_icmp.holds .ne x y = !decide (x = y) := by
  by_cases h : x = y
  · rw [(teq h).2, decide_eq_true h]; rfl
  · rw [(feq h).2, decide_eq_false h]; rfl
theorem own_i_lt (x y : Int32) : if_icmp.holds .lt x y = decide (x < y) := by
  by_cases h : x < y
  · rw [(tlt h).1, decide_eq_true h]
  · rw [(flt h).1, decide_eq_false h]
theorem own_i_ge (x y : Int32) : if_icmp.holds .ge x y = !decide (x < y) := by
  by_cases h : x < y
  · rw [(tlt h).2.1, decide_eq_true h]; rfl
  · rw [(flt h).2.1, decide_eq_false h]; rfl
theorem own_i_gt (x y : Int32) : if_icmp.holds .gt x y = decide (y < x) := by
  by_cases h : y < x
  · rw [(tlt h).2.2.1, decide_eq_true h]
  · rw [(flt h).2.2.1, decide_eq_false h]
theorem own_i_le (x y : Int32) : if_icmp.holds .le x y = !decide (y < x) := by
  by_cases h : y < x
  · rw [(tlt h).2.2.2, decide_eq_true h]; rfl
  · rw [(flt h).2.2.2, decide_eq_false h]; rfl
theorem own_z_eq (x : Int32) : ifCond.holds .eq x = decide (x = 0) := (if0 _ _).trans (own_i_eq x 0)
theorem own_z_ne (x : Int32) : ifCond.holds .ne x = !decide (x = 0) := (if0 _ _).trans (own_i_ne x 0)
theorem own_z_lt (x : Int32) : ifCond.holds .lt x = decide (x < 0) := (if0 _ _).trans (own_i_lt x 0)
theorem own_z_ge (x : Int32) : ifCond.holds .ge x = !decide (x < 0) := (if0 _ _).trans (own_i_ge x 0)
theorem own_z_gt (x : Int32) : ifCond.holds .gt x = decide (0 < x) := (if0 _ _).trans (own_i_gt x 0)
theorem own_z_le (x : Int32) : ifCond.holds .le x = !decide (0 < x) := (if0 _ _).trans (own_i_le x 0)
theorem own_l_eq (x y : Int64) : ifCond.holds .eq (lcmpW x y) = decide (x = y) := (own_z_eq _).trans (decide_eq_decide.mpr (lw_eq x y))
theorem own_l_ne (x y : Int64) : ifCond.holds .ne (lcmpW x y) = !decide (x = y) := (own_z_ne _).trans (congrArg not (decide_eq_decide.mpr (lw_eq x y)))
theorem own_l_lt (x y : Int64) : ifCond.holds .lt (lcmpW x y) = decide (x < y) := (own_z_lt _).trans (decide_eq_decide.mpr (lw_lt x y))
theorem own_l_ge (x y : Int64) : ifCond.holds .ge (lcmpW x y) = !decide (x < y) := (own_z_ge _).trans (congrArg not (decide_eq_decide.mpr (lw_lt x y)))
theorem own_l_gt (x y : Int64) : ifCond.holds .gt (lcmpW x y) = decide (y < x) := (own_z_gt _).trans (decide_eq_decide.mpr (lw_gt x y))
theorem own_l_le (x y : Int64) : ifCond.holds .le (lcmpW x y) = !decide (y < x) := (own_z_le _).trans (congrArg not (decide_eq_decide.mpr (lw_gt x y)))
/-- a condition as Java's int: 1 or 0 -/
def own_b (P : Prop) [Decidable P] : Int32 := if P then 1 else 0
theorem own_b1 {P : Prop} [Decidable P] (h : P) : own_b P = 1 := if_pos h
theorem own_b0 {P : Prop} [Decidable P] (h : ¬ P) : own_b P = 0 := if_neg h
theorem own_b_ne (P : Prop) [Decidable P] : ifCond.holds .ne (own_b P) = decide P := by
  by_cases h : P
  · rw [own_b1 h, decide_eq_true h]; rfl
  · rw [own_b0 h, decide_eq_false h]; rfl
theorem own_b_eq (P : Prop) [Decidable P] : ifCond.holds .eq (own_b P) = !decide P := by
  by_cases h : P
  · rw [own_b1 h, decide_eq_true h]; rfl
  · rw [own_b0 h, decide_eq_false h]; rfl
theorem own_bn (P : Prop) [Decidable P] : narrow .boolean (.int (own_b P)) = .int (own_b P) := by
  by_cases h : P
  · rw [own_b1 h]; rfl
  · rw [own_b0 h]; rfl
end Own
theorem own_nothrow (x y : Int32) (h1 : ¬ ((2147483647 : Int64) < (x.toInt64 + y.toInt64))) (h2 : ¬ ((x.toInt64 + y.toInt64) < (-2147483648 : Int64))) : ¬ (((x ^^^ (x + y)) &&& (y ^^^ (x + y))) < 0) := by
  have a := c_ladd x.toInt64 y.toInt64
  rw [c_i2l, c_i2l] at a
  have k1 : (2147483647 : Int64).toInt = 2147483647 := by decide
  have k2 : (-2147483648 : Int64).toInt = -2147483648 := by decide
  rw [Int64.lt_iff_toInt_lt, k1] at h1
  rw [Int64.lt_iff_toInt_lt, k2] at h2
  have g1 := (x.toInt64 + y.toInt64).toInt_lt; have g2 := (x.toInt64 + y.toInt64).le_toInt
  have g3 := x.toInt_lt; have g4 := x.le_toInt; have g5 := y.toInt_lt; have g6 := y.le_toInt
  have b := c_iadd x y
  have g7 := (x + y).toInt_lt; have g8 := (x + y).le_toInt
  have hs : (x + y).toInt = x.toInt + y.toInt := by omega
  have k0 : (0 : Int32).toInt = 0 := by decide
  rw [Int32.lt_iff_toInt_lt, k0]
  obtain ⟨p1, p2, p3, p4⟩ := c_xorS x (x + y)
  obtain ⟨q1, q2, q3, q4⟩ := c_xorS y (x + y)
  obtain ⟨r1, r2, r3⟩ := c_andS (x ^^^ (x + y)) (y ^^^ (x + y))
  by_cases u : x.toInt < 0
  · by_cases w : (x + y).toInt < 0
    · have := r2 (p1 u w); omega
    · have := r3 (q4 (by omega) (by omega)); omega
  · by_cases w : (x + y).toInt < 0
    · have := r3 (q1 (by omega) w); omega
    · have := r2 (p4 (by omega) (by omega)); omega
theorem own_law (x y : Int32) : (x + y) = (x.toInt64 + y.toInt64).toInt32 := by
  have a := c_ladd x.toInt64 y.toInt64
  rw [c_i2l, c_i2l] at a
  have b := c_iadd x y
  have d := c_l2i (x.toInt64 + y.toInt64)
  have g1 := (x + y).toInt_lt; have g2 := (x + y).le_toInt
  have g3 := (x.toInt64 + y.toInt64).toInt32.toInt_lt; have g4 := (x.toInt64 + y.toInt64).toInt32.le_toInt
  apply Int32.toInt_inj.mp
  omega
theorem own_ef2 (m : MethodId) (x0 : Addr) : entryFrame m #[(.ref x0)] 1 = mkF m 0 #[.val (.ref x0)] [] := by first | (simp [entryFrame, mkF, argsToLocals, Value.category]; done) | rfl
def own_Q2 (Z : State) (a1 : Addr) (h0 : Heap) (n0 : Nat) (v : Option Value) (h : Heap) (L : List Loc) : Prop := v = none ∧ Fr n0 L ∧ h = h0
theorem own_pn_2 : plainName "java/lang/Record" = true := by first | (simp [plainName, overriddenIn]; done) | decide +kernel
theorem own_d2_0 : decode jdk_30_method_1_code 0 = .ok (.aload_n 0, 1) := by decide +kernel
theorem own_d2_1 : decode jdk_30_method_1_code 1 = .ok (.invokespecial 1, 3) := by decide +kernel
theorem own_d2_4 : decode jdk_30_method_1_code 4 = .ok (.return_, 1) := by decide +kernel
set_option maxRecDepth 65536 in
set_option maxHeartbeats 40000000 in
theorem own_rm2 (l : Launch) (Z : State) (a0 : Array Value) (hw : ∀ d ∈ tables_1, d.before a0 Z = true) (ws : List Jvm.Cond) (a1 : Addr) (h0 : Heap) (n0 : Nat) (Z0 : n0 ≤ h0.size)  :
    MetFree l (⟨"java/lang/Record", "<init>", "()V"⟩ : MethodName) (head1 (Jvm.Cond.code (⟨"java/lang/Record", "<init>", "()V"⟩ : MethodName) jdk_30_method_1_code 1 none :: ws) ({ frames := 1, cells := 0, slots := 0, locals := 12 } : Room)) (fun aU U => aU = #[(.ref a1)] ∧ Z.Warmed39 U.vm ∧ U.heap = h0) (fun _ _ _ _ _ => True) (fun _ U o U' => ∃ v L, o = .returned v ∧ own_Q2 Z a1 h0 n0 v U'.heap L ∧ FrameEnd U o U' L 0 0) := by
  refine MetFree.of_bodySF (plainFor_of_name own_pn_2) hisR ?_
  intro p e s m args below meth c s₁ Bd hml0 hP hK
  obtain ⟨rfl, hZ, hh⟩ := hP
  have hx := Bd.exec
  have hby := Bd.bytes
  have hml : c.maxLocals = 1 := hml0
  have hown : s.vm.findClass "java/lang/Record" = some m.cls := findClass_of_methodNamed Bd.named
  have hnm := (name_of_methodNamed Bd.named Bd.method).1
  have hlk : meth.locks = false := Bd.notSynchronized
  have hret := Bd.returns
  have X0 : Stand p l e ({ frames := 1, cells := 0, slots := 0, locals := 12 } : Room) s m #[(.ref a1)] below meth c s₁ [] 0 0 := Stand.of_body Bd
  have e0 : s₁.heap = h0 := by rw [← hh, Bd.state]; rfl
  have N0 := Fr.nil n0
  have K0 := Keep.refl h0 ([] : List Addr)
  show own_E p e below (own_F s 0 0) (own_Q2 Z a1 h0 n0) s₁ (entryFrame m #[(.ref a1)] 1)
  refine own_cast (own_ef2 m a1) ?_
  refine own_step (g' := (mkF m 1 #[.val (.ref a1)] [(.ref a1)])) (fun _ k => XS.aloadN X0.here hx rfl (hb hby own_d2_0) rfl rfl k) ?_
  obtain ⟨T1, X1, e1, st1⟩ := initO X0 hx hZ hown (hw _ (List.mem_of_getElem? (i := 13) rfl)) (hw _ (List.mem_of_getElem? (i := 14) rfl)) (hw _ (List.mem_of_getElem? (i := 15) rfl)) e0 (g := (mkF m 1 #[.val (.ref a1)] [(.ref a1)])) rfl (by rw [hml]; rfl) rfl (hb hby own_d2_1) (by decide) (W := 0) (by show 2 * 0 + _ ≤ _; exact Nat.le_of_eq rfl) (by decide)
  refine own_step (g' := (mkF m 4 #[.val (.ref a1)] [])) st1 ?_
  exact own_retV X1 hx hlk hret (hb hby own_d2_4) (by decide) (by decide) (by show own_Q2 Z a1 h0 n0 none T1.heap _; rw [e1]; exact ⟨rfl, N0, rfl⟩)
theorem own_ef1 (m : MethodId) (x0 : Addr) (x1 : Int32) : entryFrame m #[(.ref x0), (.int x1)] 2 = mkF m 0 #[.val (.ref x0), .val (.int x1)] [] := by first | (simp [entryFrame, mkF, argsToLocals, Value.category]; done) | rfl
def own_Q1 (Z : State) (a1 : Addr) (q0 : Int32) (h0 : Heap) (n0 : Nat) (v : Option Value) (h : Heap) (L : List Loc) : Prop := v = none ∧ Fr n0 L ∧ Keep h0 h [a1] ∧ Exa Z h a1 "com/example/muster/muster/core/Points" ∧ Fld Z h a1 "com/example/muster/muster/core/Points" "halves" "I" (.int q0)
theorem own_pn_1 : plainName "com/example/muster/muster/core/Points" = true := by first | (simp [plainName, overriddenIn]; done) | decide +kernel
theorem own_d1_0 : decode prog_10_method_1_code 0 = .ok (.aload_n 0, 1) := by decide +kernel
theorem own_d1_1 : decode prog_10_method_1_code 1 = .ok (.invokespecial 1, 3) := by decide +kernel
theorem own_pd__28_29V : parseMethodDescriptor "()V" = some ⟨[], none⟩ := by decide +kernel
theorem own_d1_4 : decode prog_10_method_1_code 4 = .ok (.aload_n 0, 1) := by decide +kernel
theorem own_d1_5 : decode prog_10_method_1_code 5 = .ok (.iload_n 1, 1) := by decide +kernel
theorem own_d1_6 : decode prog_10_method_1_code 6 = .ok (.putfield 7, 3) := by decide +kernel
theorem own_d1_9 : decode prog_10_method_1_code 9 = .ok (.return_, 1) := by decide +kernel
set_option maxRecDepth 65536 in
set_option maxHeartbeats 40000000 in
theorem own_rm1 (l : Launch) (Z : State) (a0 : Array Value) (hw : ∀ d ∈ tables_1, d.before a0 Z = true) (ws : List Jvm.Cond) (a1 : Addr) (q0 : Int32) (h0 : Heap) (n0 : Nat) (Z0 : n0 ≤ h0.size) (Ea : Exa Z h0 a1 "com/example/muster/muster/core/Points") (ga : n0 ≤ a1) (Fhalves : Fld Z h0 a1 "com/example/muster/muster/core/Points" "halves" "I" (.int (0 : Int32))) :
    MetFree l (⟨"com/example/muster/muster/core/Points", "<init>", "(I)V"⟩ : MethodName) (head1 (Jvm.Cond.code (⟨"com/example/muster/muster/core/Points", "<init>", "(I)V"⟩ : MethodName) prog_10_method_1_code 2 none :: ws) ({ frames := 2, cells := 0, slots := 0, locals := 24 } : Room)) (fun aU U => aU = #[(.ref a1), (.int q0)] ∧ Z.Warmed39 U.vm ∧ U.heap = h0) (fun _ _ _ _ _ => True) (fun _ U o U' => ∃ v L, o = .returned v ∧ own_Q1 Z a1 q0 h0 n0 v U'.heap L ∧ FrameEnd U o U' L 0 0) := by
  refine MetFree.of_bodySF (plainFor_of_name own_pn_1) hisR ?_
  intro p e s m args below meth c s₁ Bd hml0 hP hK
  obtain ⟨rfl, hZ, hh⟩ := hP
  have hx := Bd.exec
  have hby := Bd.bytes
  have hml : c.maxLocals = 2 := hml0
  have hown : s.vm.findClass "com/example/muster/muster/core/Points" = some m.cls := findClass_of_methodNamed Bd.named
  have hnm := (name_of_methodNamed Bd.named Bd.method).1
  have hlk : meth.locks = false := Bd.notSynchronized
  have hret := Bd.returns
  have X0 : Stand p l e ({ frames := 2, cells := 0, slots := 0, locals := 24 } : Room) s m #[(.ref a1), (.int q0)] below meth c s₁ [] 0 0 := Stand.of_body Bd
  have e0 : s₁.heap = h0 := by rw [← hh, Bd.state]; rfl
  have N0 := Fr.nil n0
  have K0 := Keep.refl h0 [a1]
  show own_E p e below (own_F s 0 0) (own_Q1 Z a1 q0 h0 n0) s₁ (entryFrame m #[(.ref a1), (.int q0)] 2)
  refine own_cast (own_ef1 m a1 q0) ?_
  refine own_step (g' := (mkF m 1 #[.val (.ref a1), .val (.int q0)] [(.ref a1)])) (fun _ k => XS.aloadN X0.here hx rfl (hb hby own_d1_0) rfl rfl k) ?_
  obtain ⟨_, _, ⟨T1, L1, k1, n1⟩, -, X1, ⟨Lc1, hQ1, l1, y1, z1⟩, st1⟩ := X0.specialBack hx (y := (⟨"java/lang/Record", "<init>", "()V"⟩ : MethodName)) rfl hown (mvT hZ (hw _ (List.mem_of_getElem? (i := 8) rfl))) (mvT hZ (hw _ (List.mem_of_getElem? (i := 9) rfl))) (mvT hZ (hw _ (List.mem_of_getElem? (i := 12) rfl))) (by decide) (backOf (W := 0) (own_rm2 l Z a0 hw [] a1 h0 n0 Z0 ) hZ (hw _ (List.mem_of_getElem? (i := 12) rfl)) (hw _ (List.mem_of_getElem? (i := 11) rfl)) (by decide) (by decide)) (g := (mkF m 1 #[.val (.ref a1), .val (.int q0)] [(.ref a1)])) rfl (by rw [hml]; rfl) (Steps.refl _) (a := a1) (argsL := []) (rest := []) (lenOf own_pd__28_29V rfl) rfl (by show 2 * 0 + _ ≤ _; exact Nat.le_of_eq rfl) (hb hby own_d1_1) (fun _ _ => ⟨rfl, e0, (by decide : 0 + 0 ≤ _), (by decide : 0 + 0 ≤ _)⟩)
  dsimp only [Pt.U, Pt.locs, Pt.cells, Pt.slots] at X1 l1 y1 z1 st1 hQ1
  subst l1 y1 z1
  obtain ⟨rfl, Nq1, e1⟩ := hQ1
  have N1 := Fr.app N0 Nq1
  refine own_step (g' := (mkF m 4 #[.val (.ref a1), .val (.int q0)] [])) (fun _ k => st1.trans k) ?_
  refine own_step (g' := (mkF m 5 #[.val (.ref a1), .val (.int q0)] [(.ref a1)])) (fun _ k => XS.aloadN X1.here hx rfl (hb hby own_d1_4) rfl rfl k) ?_
  refine own_step (g' := (mkF m 6 #[.val (.ref a1), .val (.int q0)] [(.int q0), (.ref a1)])) (fun _ k => XS.iloadN X1.here hx rfl (hb hby own_d1_5) rfl k) ?_
  obtain ⟨T2, h2, X2, e2, W2, st2⟩ := putF X1 hx hZ hown (host := "") (Or.inl (hw _ (List.mem_of_getElem? (i := 16) rfl))) Via.refl e1 Fhalves Ea (Or.inr ⟨(hw _ (List.mem_of_getElem? (i := 17) rfl)), rfl, hnm⟩) (hw _ (List.mem_of_getElem? (i := 3) rfl)) (ty := .int) (by decide) rfl rfl (g := (mkF m 6 #[.val (.ref a1), .val (.int q0)] [(.int q0), (.ref a1)])) rfl rfl (hb hby own_d1_6)
  have Fhalves_2 := Fhalves.same W2
  have Ea_2 := Ea.wr W2
  have K2 := K0.wr W2 (Or.inl (List.mem_of_getElem? (i := 0) rfl))
  have Z2 := Nat.le_trans Z0 (Keep.of_wr W2).1
  have N2 := Fr.snoc X2 N1 ga
  refine own_step (g' := (mkF m 9 #[.val (.ref a1), .val (.int q0)] [])) st2 ?_
  exact own_retV X2 hx hlk hret (hb hby own_d1_9) (by decide) (by decide) (by show own_Q1 Z a1 q0 h0 n0 none T2.heap _; rw [e2]; exact ⟨rfl, N2, K2, Ea_2, Fhalves_2⟩)
theorem own_ef5 (m : MethodId) (x0 : Int32) (x1 : Int32) : entryFrame m #[(.int x0), (.int x1)] 3 = mkF m 0 #[.val (.int x0), .val (.int x1), .unset] [] := by first | (simp [entryFrame, mkF, argsToLocals, Value.category]; done) | rfl
def own_Q5 (Z : State) (x0 : Int32) (x1 : Int32) (h0 : Heap) (n0 : Nat) (v : Option Value) (h : Heap) (L : List Loc) : Prop := v = some (.int (x0 + x1)) ∧ Fr n0 L ∧ h = h0
theorem own_pn_5 : plainFor (⟨"java/lang/Math", "addExact", "(II)I"⟩ : MethodName) = true := by decide +kernel
theorem own_d5_0 : decode jdk_29_method_24_code 0 = .ok (.iload_n 0, 1) := by decide +kernel
theorem own_d5_1 : decode jdk_29_method_24_code 1 = .ok (.iload_n 1, 1) := by decide +kernel
theorem own_d5_2 : decode jdk_29_method_24_code 2 = .ok (.iadd, 1) := by decide +kernel
theorem own_d5_3 : decode jdk_29_method_24_code 3 = .ok (.istore_n 2, 1) := by decide +kernel
theorem own_d5_4 : decode jdk_29_method_24_code 4 = .ok (.iload_n 0, 1) := by decide +kernel
theorem own_d5_5 : decode jdk_29_method_24_code 5 = .ok (.iload_n 2, 1) := by decide +kernel
theorem own_d5_6 : decode jdk_29_method_24_code 6 = .ok (.ixor, 1) := by decide +kernel
theorem own_d5_7 : decode jdk_29_method_24_code 7 = .ok (.iload_n 1, 1) := by decide +kernel
theorem own_d5_8 : decode jdk_29_method_24_code 8 = .ok (.iload_n 2, 1) := by decide +kernel
theorem own_d5_9 : decode jdk_29_method_24_code 9 = .ok (.ixor, 1) := by decide +kernel
theorem own_d5_10 : decode jdk_29_method_24_code 10 = .ok (.iand, 1) := by decide +kernel
theorem own_d5_11 : decode jdk_29_method_24_code 11 = .ok (.ifCond .ge 13, 3) := by decide +kernel
theorem own_d5_24 : decode jdk_29_method_24_code 24 = .ok (.iload_n 2, 1) := by decide +kernel
theorem own_d5_25 : decode jdk_29_method_24_code 25 = .ok (.ireturn, 1) := by decide +kernel
set_option maxRecDepth 65536 in
set_option maxHeartbeats 40000000 in
theorem own_rm5 (l : Launch) (Z : State) (a0 : Array Value) (hw : ∀ d ∈ tables_1, d.before a0 Z = true) (ws : List Jvm.Cond) (x0 : Int32) (x1 : Int32) (h0 : Heap) (n0 : Nat) (Z0 : n0 ≤ h0.size) (hex : ¬ (((x0 ^^^ (x0 + x1)) &&& (x1 ^^^ (x0 + x1))) < 0)) :
    MetFree l (⟨"java/lang/Math", "addExact", "(II)I"⟩ : MethodName) (head1 (Jvm.Cond.code (⟨"java/lang/Math", "addExact", "(II)I"⟩ : MethodName) jdk_29_method_24_code 3 (some .int) :: ws) ({ frames := 0, cells := 0, slots := 0, locals := 0 } : Room)) (fun aU U => aU = #[(.int x0), (.int x1)] ∧ Z.Warmed39 U.vm ∧ U.heap = h0) (fun _ _ _ _ _ => True) (fun _ U o U' => ∃ v L, o = .returned v ∧ own_Q5 Z x0 x1 h0 n0 v U'.heap L ∧ FrameEnd U o U' L 0 0) := by
  refine MetFree.of_bodySF own_pn_5 hisR ?_
  intro p e s m args below meth c s₁ Bd hml0 hP hK
  obtain ⟨rfl, hZ, hh⟩ := hP
  have hx := Bd.exec
  have hby := Bd.bytes
  have hml : c.maxLocals = 3 := hml0
  have hown : s.vm.findClass "java/lang/Math" = some m.cls := findClass_of_methodNamed Bd.named
  have hnm := (name_of_methodNamed Bd.named Bd.method).1
  have hlk : meth.locks = false := Bd.notSynchronized
  have hret := Bd.returns
  have X0 : Stand p l e ({ frames := 0, cells := 0, slots := 0, locals := 0 } : Room) s m #[(.int x0), (.int x1)] below meth c s₁ [] 0 0 := Stand.of_body Bd
  have e0 : s₁.heap = h0 := by rw [← hh, Bd.state]; rfl
  have N0 := Fr.nil n0
  have K0 := Keep.refl h0 ([] : List Addr)
  show own_E p e below (own_F s 0 0) (own_Q5 Z x0 x1 h0 n0) s₁ (entryFrame m #[(.int x0), (.int x1)] 3)
  refine own_cast (own_ef5 m x0 x1) ?_
  refine own_step (g' := (mkF m 1 #[.val (.int x0), .val (.int x1), .unset] [(.int x0)])) (fun _ k => XS.iloadN X0.here hx rfl (hb hby own_d5_0) rfl k) ?_
  refine own_step (g' := (mkF m 2 #[.val (.int x0), .val (.int x1), .unset] [(.int x1), (.int x0)])) (fun _ k => XS.iloadN X0.here hx rfl (hb hby own_d5_1) rfl k) ?_
  refine own_step (g' := (mkF m 3 #[.val (.int x0), .val (.int x1), .unset] [(.int (x0 + x1))])) (fun _ k => XS.iadd X0.here hx rfl (hb hby own_d5_2) rfl k) ?_
  refine own_step (g' := (mkF m 4 #[.val (.int x0), .val (.int x1), .val (.int (x0 + x1))] [])) (fun _ k => XS.istoreN X0.here hx rfl (hb hby own_d5_3) rfl (l' := #[.val (.int x0), .val (.int x1), .val (.int (x0 + x1))]) rfl k) ?_
  refine own_step (g' := (mkF m 5 #[.val (.int x0), .val (.int x1), .val (.int (x0 + x1))] [(.int x0)])) (fun _ k => XS.iloadN X0.here hx rfl (hb hby own_d5_4) rfl k) ?_
  refine own_step (g' := (mkF m 6 #[.val (.int x0), .val (.int x1), .val (.int (x0 + x1))] [(.int (x0 + x1)), (.int x0)])) (fun _ k => XS.iloadN X0.here hx rfl (hb hby own_d5_5) rfl k) ?_
  refine own_step (g' := (mkF m 7 #[.val (.int x0), .val (.int x1), .val (.int (x0 + x1))] [(.int (x0 ^^^ (x0 + x1)))])) (fun _ k => XS.ixor X0.here hx rfl (hb hby own_d5_6) rfl k) ?_
  refine own_step (g' := (mkF m 8 #[.val (.int x0), .val (.int x1), .val (.int (x0 + x1))] [(.int x1), (.int (x0 ^^^ (x0 + x1)))])) (fun _ k => XS.iloadN X0.here hx rfl (hb hby own_d5_7) rfl k) ?_
  refine own_step (g' := (mkF m 9 #[.val (.int x0), .val (.int x1), .val (.int (x0 + x1))] [(.int (x0 + x1)), (.int x1), (.int (x0 ^^^ (x0 + x1)))])) (fun _ k => XS.iloadN X0.here hx rfl (hb hby own_d5_8) rfl k) ?_
  refine own_step (g' := (mkF m 10 #[.val (.int x0), .val (.int x1), .val (.int (x0 + x1))] [(.int (x1 ^^^ (x0 + x1))), (.int (x0 ^^^ (x0 + x1)))])) (fun _ k => XS.ixor X0.here hx rfl (hb hby own_d5_9) rfl k) ?_
  refine own_step (g' := (mkF m 11 #[.val (.int x0), .val (.int x1), .val (.int (x0 + x1))] [(.int ((x0 ^^^ (x0 + x1)) &&& (x1 ^^^ (x0 + x1))))])) (fun _ k => XS.iand X0.here hx rfl (hb hby own_d5_10) rfl k) ?_
  refine own_ifN X0 hx (P := (((x0 ^^^ (x0 + x1)) &&& (x1 ^^^ (x0 + x1))) < 0)) (hb hby own_d5_11) (own_z_ge ((x0 ^^^ (x0 + x1)) &&& (x1 ^^^ (x0 + x1)))) (by decide) (pc1 := 24) (by decide) (fun hc11 => ?_) (fun hc11 => ?_)
  · show own_E p e below (own_F s 0 0) (own_Q5 Z x0 x1 h0 n0) s₁ (mkF m 14 #[.val (.int x0), .val (.int x1), .val (.int (x0 + x1))] [])
    exact absurd hc11 hex
  · show own_E p e below (own_F s 0 0) (own_Q5 Z x0 x1 h0 n0) s₁ (mkF m 24 #[.val (.int x0), .val (.int x1), .val (.int (x0 + x1))] [])
    refine own_step (g' := (mkF m 25 #[.val (.int x0), .val (.int x1), .val (.int (x0 + x1))] [(.int (x0 + x1))])) (fun _ k => XS.iloadN X0.here hx rfl (hb hby own_d5_24) rfl k) ?_
    exact own_retI X0 hx hlk hret (by simp) (hb hby own_d5_25) rfl (by decide) (by decide) (by show own_Q5 Z x0 x1 h0 n0 (some (.int (x0 + x1))) s₁.heap _; rw [e0]; exact ⟨rfl, N0, rfl⟩)
theorem own_ef4 (m : MethodId) (x0 : Addr) (x1 : Addr) : entryFrame m #[(.ref x0), (.ref x1)] 2 = mkF m 0 #[.val (.ref x0), .val (.ref x1)] [] := by first | (simp [entryFrame, mkF, argsToLocals, Value.category]; done) | rfl
def own_Q4 (Z : State) (a1 : Addr) (a2 : Addr) (v1 : Int32) (v2 : Int32) (h0 : Heap) (n0 : Nat) (v : Option Value) (h : Heap) (L : List Loc) : Prop := ∃ b, v = some (.ref b) ∧ Fr n0 L ∧ Keep h0 h [] ∧ h0.size ≤ b ∧ Exa Z h b "com/example/muster/muster/core/Points" ∧ Fld Z h b "com/example/muster/muster/core/Points" "halves" "I" (.int (v1 + v2))
theorem own_pn_4 : plainName "com/example/muster/muster/core/Points" = true := by first | (simp [plainName, overriddenIn]; done) | decide +kernel
theorem own_d4_0 : decode prog_10_method_3_code 0 = .ok (.new 8, 3) := by decide +kernel
theorem own_d4_3 : decode prog_10_method_3_code 3 = .ok (.dup, 1) := by decide +kernel
theorem own_d4_4 : decode prog_10_method_3_code 4 = .ok (.aload_n 0, 1) := by decide +kernel
theorem own_d4_5 : decode prog_10_method_3_code 5 = .ok (.getfield 7, 3) := by decide +kernel
theorem own_d4_8 : decode prog_10_method_3_code 8 = .ok (.aload_n 1, 1) := by decide +kernel
theorem own_d4_9 : decode prog_10_method_3_code 9 = .ok (.getfield 7, 3) := by decide +kernel
theorem own_d4_12 : decode prog_10_method_3_code 12 = .ok (.invokestatic 22, 3) := by decide +kernel
theorem own_pd__28II_29I : parseMethodDescriptor "(II)I" = some ⟨[.int, .int], some .int⟩ := by decide +kernel
theorem own_d4_15 : decode prog_10_method_3_code 15 = .ok (.invokespecial 19, 3) := by decide +kernel
theorem own_pd__28I_29V : parseMethodDescriptor "(I)V" = some ⟨[.int], none⟩ := by decide +kernel
theorem own_d4_18 : decode prog_10_method_3_code 18 = .ok (.areturn, 1) := by decide +kernel
set_option maxRecDepth 65536 in
set_option maxHeartbeats 40000000 in
theorem own_rm4 (l : Launch) (Z : State) (a0 : Array Value) (hw : ∀ d ∈ tables_1, d.before a0 Z = true) (ws : List Jvm.Cond) (a1 : Addr) (a2 : Addr) (v1 : Int32) (v2 : Int32) (h0 : Heap) (n0 : Nat) (Z0 : n0 ≤ h0.size) (F1 : Fld Z h0 a1 "com/example/muster/muster/core/Points" "halves" "I" (.int v1)) (F2 : Fld Z h0 a2 "com/example/muster/muster/core/Points" "halves" "I" (.int v2)) (hex : ¬ (((v1 ^^^ (v1 + v2)) &&& (v2 ^^^ (v1 + v2))) < 0)) :
    MetFree l (⟨"com/example/muster/muster/core/Points", "plus", "(Lcom/example/muster/muster/core/Points;)Lcom/example/muster/muster/core/Points;"⟩ : MethodName) (head1 (Jvm.Cond.code (⟨"com/example/muster/muster/core/Points", "plus", "(Lcom/example/muster/muster/core/Points;)Lcom/example/muster/muster/core/Points;"⟩ : MethodName) prog_10_method_3_code 2 (some (.object "com/example/muster/muster/core/Points")) :: ws) ({ frames := 3, cells := 1, slots := 1, locals := 38 } : Room)) (fun aU U => aU = #[(.ref a1), (.ref a2)] ∧ Z.Warmed39 U.vm ∧ U.heap = h0) (fun _ _ _ _ _ => True) (fun _ U o U' => ∃ v L, o = .returned v ∧ own_Q4 Z a1 a2 v1 v2 h0 n0 v U'.heap L ∧ FrameEnd U o U' L 1 1) := by
  refine MetFree.of_bodySF (plainFor_of_name own_pn_4) hisR ?_
  intro p e s m args below meth c s₁ Bd hml0 hP hK
  obtain ⟨rfl, hZ, hh⟩ := hP
  have hx := Bd.exec
  have hby := Bd.bytes
  have hml : c.maxLocals = 2 := hml0
  have hown : s.vm.findClass "com/example/muster/muster/core/Points" = some m.cls := findClass_of_methodNamed Bd.named
  have hnm := (name_of_methodNamed Bd.named Bd.method).1
  have hlk : meth.locks = false := Bd.notSynchronized
  have hret := Bd.returns
  have X0 : Stand p l e ({ frames := 3, cells := 1, slots := 1, locals := 38 } : Room) s m #[(.ref a1), (.ref a2)] below meth c s₁ [] 0 0 := Stand.of_body Bd
  have e0 : s₁.heap = h0 := by rw [← hh, Bd.state]; rfl
  have N0 := Fr.nil n0
  have K0 := Keep.refl h0 ([] : List Addr)
  show own_E p e below (own_F s 1 1) (own_Q4 Z a1 a2 v1 v2 h0 n0) s₁ (entryFrame m #[(.ref a1), (.ref a2)] 2)
  refine own_cast (own_ef4 m a1 a2) ?_
  obtain ⟨T1, h1, X1, e1, E1, A1, D1, -, st1⟩ := newO X0 hx hZ hown (hw _ (List.mem_of_getElem? (i := 23) rfl)) (hw _ (List.mem_of_getElem? (i := 3) rfl)) (hw _ (List.mem_of_getElem? (i := 4) rfl)) e0 (g := (mkF m 0 #[.val (.ref a1), .val (.ref a2)] [])) rfl (hb hby own_d4_0) (by decide) (by decide)
  obtain ⟨b1, g1⟩ : ∃ z, z = h0.size := ⟨_, rfl⟩
  rw [← g1] at A1 D1 st1
  have ne_a1_b1 : a1 ≠ b1 := Nat.ne_of_lt (Nat.lt_of_lt_of_le F1.lt (Nat.le_of_eq g1.symm))
  have ne_a2_b1 : a2 ≠ b1 := Nat.ne_of_lt (Nat.lt_of_lt_of_le F2.lt (Nat.le_of_eq g1.symm))
  have le_b1 : n0 ≤ b1 := Nat.le_trans Z0 (Nat.le_of_eq g1.symm)
  have sz_b1 : h0.size ≤ b1 := Nat.le_trans K0.1 (Nat.le_of_eq g1.symm)
  have F1_1 := F1.ext E1
  have F2_1 := F2.ext E1
  have Fhalves_b1 : Fld Z h1 b1 "com/example/muster/muster/core/Points" "halves" "I" (.int (0 : Int32)) := D1 (Or.inr (hw _ (List.mem_of_getElem? (i := 17) rfl))) (ty := .int) (by decide)
  have K1 := K0.ext E1
  have Z1 := Nat.le_trans Z0 E1.1
  refine own_step (g' := (mkF m 3 #[.val (.ref a1), .val (.ref a2)] [(.ref b1)])) st1 ?_
  refine own_step (g' := (mkF m 4 #[.val (.ref a1), .val (.ref a2)] [(.ref b1), (.ref b1)])) (fun _ k => XS.dup X1.here hx rfl (hb hby own_d4_3) rfl rfl k) ?_
  refine own_step (g' := (mkF m 5 #[.val (.ref a1), .val (.ref a2)] [(.ref a1), (.ref b1), (.ref b1)])) (fun _ k => XS.aloadN X1.here hx rfl (hb hby own_d4_4) rfl rfl k) ?_
  obtain ⟨T2, X2, e2, st2⟩ := getF X1 hx hZ hown (host := "") (Or.inl (hw _ (List.mem_of_getElem? (i := 16) rfl))) Via.refl e1 F1_1 (g := (mkF m 5 #[.val (.ref a1), .val (.ref a2)] [(.ref a1), (.ref b1), (.ref b1)])) rfl rfl (hb hby own_d4_5)
  refine own_step (g' := (mkF m 8 #[.val (.ref a1), .val (.ref a2)] [(.int v1), (.ref b1), (.ref b1)])) st2 ?_
  refine own_step (g' := (mkF m 9 #[.val (.ref a1), .val (.ref a2)] [(.ref a2), (.int v1), (.ref b1), (.ref b1)])) (fun _ k => XS.aloadN X2.here hx rfl (hb hby own_d4_8) rfl rfl k) ?_
  obtain ⟨T3, X3, e3, st3⟩ := getF X2 hx hZ hown (host := "") (Or.inl (hw _ (List.mem_of_getElem? (i := 16) rfl))) Via.refl e2 F2_1 (g := (mkF m 9 #[.val (.ref a1), .val (.ref a2)] [(.ref a2), (.int v1), (.ref b1), (.ref b1)])) rfl rfl (hb hby own_d4_9)
  refine own_step (g' := (mkF m 12 #[.val (.ref a1), .val (.ref a2)] [(.int v2), (.int v1), (.ref b1), (.ref b1)])) st3 ?_
  obtain ⟨_, _, ⟨T4, L4, k4, n4⟩, -, X4, ⟨Lc4, hQ4, l4, y4, z4⟩, st4⟩ := Jvm.LawKit.callS X3 hx (y := (⟨"java/lang/Math", "addExact", "(II)I"⟩ : MethodName)) hown (mvT hZ (hw _ (List.mem_of_getElem? (i := 24) rfl))) (mvT hZ (hw _ (List.mem_of_getElem? (i := 25) rfl))) (mvT hZ (hw _ (List.mem_of_getElem? (i := 26) rfl))) (mvT hZ (hw _ (List.mem_of_getElem? (i := 27) rfl))) (by decide) (backOf (W := 2) (own_rm5 l Z a0 hw [] v1 v2 h1 n0 Z1 hex) hZ (hw _ (List.mem_of_getElem? (i := 27) rfl)) (hw _ (List.mem_of_getElem? (i := 26) rfl)) (by decide) (by decide)) (g := (mkF m 12 #[.val (.ref a1), .val (.ref a2)] [(.int v2), (.int v1), (.ref b1), (.ref b1)])) rfl (by rw [hml]; rfl) (argsL := [(.int v1), (.int v2)]) (rest := [(.ref b1), (.ref b1)]) (lenOf own_pd__28II_29I rfl) rfl (by show 2 * 0 + _ ≤ _; exact Nat.le_of_eq rfl) (hb hby own_d4_12) (fun _ _ => ⟨rfl, e3, (by decide : 1 + 0 ≤ _), (by decide : 1 + 0 ≤ _)⟩)
  dsimp only [Pt.U, Pt.locs, Pt.cells, Pt.slots] at X4 l4 y4 z4 st4 hQ4
  subst l4 y4 z4
  obtain ⟨rfl, Nq4, e4⟩ := hQ4
  have N4 := Fr.app N0 Nq4
  refine own_step (g' := (mkF m 15 #[.val (.ref a1), .val (.ref a2)] [(.int (v1 + v2)), (.ref b1), (.ref b1)])) (fun _ k => st4 _ k) ?_
  obtain ⟨_, _, ⟨T5, L5, k5, n5⟩, -, X5, ⟨Lc5, hQ5, l5, y5, z5⟩, st5⟩ := X4.specialBack hx (y := (⟨"com/example/muster/muster/core/Points", "<init>", "(I)V"⟩ : MethodName)) rfl hown (mvT hZ (hw _ (List.mem_of_getElem? (i := 28) rfl))) (mvT hZ (hw _ (List.mem_of_getElem? (i := 6) rfl))) (mvT hZ (hw _ (List.mem_of_getElem? (i := 7) rfl))) (by decide) (backOf (W := 1) (own_rm1 l Z a0 hw [] b1 (v1 + v2) h1 n0 Z1 A1 le_b1 Fhalves_b1) hZ (hw _ (List.mem_of_getElem? (i := 7) rfl)) (hw _ (List.mem_of_getElem? (i := 4) rfl)) (by decide) (by decide)) (g := (mkF m 15 #[.val (.ref a1), .val (.ref a2)] [(.int (v1 + v2)), (.ref b1), (.ref b1)])) rfl (by rw [hml]; rfl) (Steps.refl _) (a := b1) (argsL := [(.int (v1 + v2))]) (rest := [(.ref b1)]) (lenOf own_pd__28I_29V rfl) rfl (by show 2 * 0 + _ ≤ _; exact Nat.le_of_eq rfl) (hb hby own_d4_15) (fun _ _ => ⟨rfl, e4, (by decide : 1 + 0 ≤ _), (by decide : 1 + 0 ≤ _)⟩)
  dsimp only [Pt.U, Pt.locs, Pt.cells, Pt.slots] at X5 l5 y5 z5 st5 hQ5
  subst l5 y5 z5
  obtain ⟨rfl, Nq5, Kc5, Q5_0, Q5_1⟩ := hQ5
  have N5 := Fr.app N4 Nq5
  have F1_5 := F1_1.keep Kc5 (ninS ne_a1_b1 nin0)
  have F2_5 := F2_1.keep Kc5 (ninS ne_a2_b1 nin0)
  have A1_5 := A1.keep Kc5
  have K5 := K1.trans Kc5 (allS (Or.inr sz_b1) all0)
  have Z5 := Nat.le_trans Z1 Kc5.1
  refine own_step (g' := (mkF m 18 #[.val (.ref a1), .val (.ref a2)] [(.ref b1)])) (fun _ k => st5.trans k) ?_
  exact own_retA X5 hx hlk hret (hb hby own_d4_18) (by decide) (by decide) (by show own_Q4 Z a1 a2 v1 v2 h0 n0 (some (.ref b1)) T5.heap _; exact ⟨_, rfl, N5, K5, sz_b1, Q5_0, Q5_1⟩)
theorem own_ef6 (m : MethodId) (x0 : Addr) : entryFrame m #[(.ref x0)] 1 = mkF m 0 #[.val (.ref x0)] [] := by first | (simp [entryFrame, mkF, argsToLocals, Value.category]; done) | rfl
def own_Q6 (Z : State) (a1 : Addr) (v1 : Int32) (h0 : Heap) (n0 : Nat) (v : Option Value) (h : Heap) (L : List Loc) : Prop := v = some (.int v1) ∧ Fr n0 L ∧ h = h0
theorem own_pn_6 : plainName "com/example/muster/muster/core/Points" = true := by first | (simp [plainName, overriddenIn]; done) | decide +kernel
theorem own_d6_0 : decode prog_10_method_8_code 0 = .ok (.aload_n 0, 1) := by decide +kernel
theorem own_d6_1 : decode prog_10_method_8_code 1 = .ok (.getfield 7, 3) := by decide +kernel
theorem own_d6_4 : decode prog_10_method_8_code 4 = .ok (.ireturn, 1) := by decide +kernel
set_option maxRecDepth 65536 in
set_option maxHeartbeats 40000000 in
theorem own_rm6 (l : Launch) (Z : State) (a0 : Array Value) (hw : ∀ d ∈ tables_1, d.before a0 Z = true) (ws : List Jvm.Cond) (a1 : Addr) (v1 : Int32) (h0 : Heap) (n0 : Nat) (Z0 : n0 ≤ h0.size) (Fhalves_a1 : Fld Z h0 a1 "com/example/muster/muster/core/Points" "halves" "I" (.int v1)) :
    MetFree l (⟨"com/example/muster/muster/core/Points", "halves", "()I"⟩ : MethodName) (head1 (Jvm.Cond.code (⟨"com/example/muster/muster/core/Points", "halves", "()I"⟩ : MethodName) prog_10_method_8_code 1 (some .int) :: ws) ({ frames := 0, cells := 0, slots := 0, locals := 0 } : Room)) (fun aU U => aU = #[(.ref a1)] ∧ Z.Warmed39 U.vm ∧ U.heap = h0) (fun _ _ _ _ _ => True) (fun _ U o U' => ∃ v L, o = .returned v ∧ own_Q6 Z a1 v1 h0 n0 v U'.heap L ∧ FrameEnd U o U' L 0 0) := by
  refine MetFree.of_bodySF (plainFor_of_name own_pn_6) hisR ?_
  intro p e s m args below meth c s₁ Bd hml0 hP hK
  obtain ⟨rfl, hZ, hh⟩ := hP
  have hx := Bd.exec
  have hby := Bd.bytes
  have hml : c.maxLocals = 1 := hml0
  have hown : s.vm.findClass "com/example/muster/muster/core/Points" = some m.cls := findClass_of_methodNamed Bd.named
  have hnm := (name_of_methodNamed Bd.named Bd.method).1
  have hlk : meth.locks = false := Bd.notSynchronized
  have hret := Bd.returns
  have X0 : Stand p l e ({ frames := 0, cells := 0, slots := 0, locals := 0 } : Room) s m #[(.ref a1)] below meth c s₁ [] 0 0 := Stand.of_body Bd
  have e0 : s₁.heap = h0 := by rw [← hh, Bd.state]; rfl
  have N0 := Fr.nil n0
  have K0 := Keep.refl h0 ([] : List Addr)
  show own_E p e below (own_F s 0 0) (own_Q6 Z a1 v1 h0 n0) s₁ (entryFrame m #[(.ref a1)] 1)
  refine own_cast (own_ef6 m a1) ?_
  refine own_step (g' := (mkF m 1 #[.val (.ref a1)] [(.ref a1)])) (fun _ k => XS.aloadN X0.here hx rfl (hb hby own_d6_0) rfl rfl k) ?_
  obtain ⟨T1, X1, e1, st1⟩ := getF X0 hx hZ hown (host := "") (Or.inl (hw _ (List.mem_of_getElem? (i := 16) rfl))) Via.refl e0 Fhalves_a1 (g := (mkF m 1 #[.val (.ref a1)] [(.ref a1)])) rfl rfl (hb hby own_d6_1)
  refine own_step (g' := (mkF m 4 #[.val (.ref a1)] [(.int v1)])) st1 ?_
  exact own_retI X1 hx hlk hret (by simp) (hb hby own_d6_4) rfl (by decide) (by decide) (by show own_Q6 Z a1 v1 h0 n0 (some (.int v1)) T1.heap _; rw [e1]; exact ⟨rfl, N0, rfl⟩)
theorem own_ef0 (m : MethodId) (x0 : Int32) (x1 : Int32) : entryFrame m #[(.int x0), (.int x1)] maxLocals = mkF m 0 #[.val (.int x0), .val (.int x1), .unset, .unset, .unset, .unset, .unset] [] := by first | (simp [entryFrame, mkF, argsToLocals, Value.category, maxLocals]; done) | rfl
def own_Q0 (Z : State) (x0 : Int32) (x1 : Int32) (h0 : Heap) (n0 : Nat) (v : Option Value) (h : Heap) (L : List Loc) : Prop := v = some (.int 1) ∧ Fr n0 L
theorem own_pn_0 : plainName "com/example/muster/muster/core/PointsPlusPinLaw" = true := by first | (simp [plainName, overriddenIn]; done) | decide +kernel
theorem own_pd__28Lcom_2fexample_2fmuster_2fmuster_2fcore_2fPoints_3b_29Lcom_2fexample_2fmuster_2fmuster_2fcore_2fPoints_3b : parseMethodDescriptor "(Lcom/example/muster/muster/core/Points;)Lcom/example/muster/muster/core/Points;" = some ⟨[(.object "com/example/muster/muster/core/Points")], some (.object "com/example/muster/muster/core/Points")⟩ := by decide +kernel
theorem own_pd__28_29I : parseMethodDescriptor "()I" = some ⟨[], some .int⟩ := by decide +kernel
set_option maxRecDepth 65536 in
set_option maxHeartbeats 40000000 in
theorem own_rm0 (l : Launch) (Z : State) (a0 : Array Value) (hw : ∀ d ∈ tables_1, d.before a0 Z = true) (ws : List Jvm.Cond) (x0 : Int32) (x1 : Int32) (h0 : Heap) (n0 : Nat) (Z0 : n0 ≤ h0.size)  :
    MetFree l x (head1 (Jvm.Cond.code x code maxLocals ret :: ws) room_1) (fun aU U => aU = #[(.int x0), (.int x1)] ∧ Z.Warmed39 U.vm ∧ U.heap = h0) (fun _ _ _ _ _ => True) (fun _ U o U' => ∃ v L, o = .returned v ∧ own_Q0 Z x0 x1 h0 n0 v U'.heap L ∧ FrameEnd U o U' L 16 128) := by
  refine MetFree.of_bodySF (plainFor_of_name own_pn_0) hisR ?_
  intro p e s m args below meth c s₁ Bd hml0 hP hK
  obtain ⟨rfl, hZ, hh⟩ := hP
  have hx := Bd.exec
  have hby := Bd.bytes
  have hml : c.maxLocals = 7 := hml0
  have hown : s.vm.findClass "com/example/muster/muster/core/PointsPlusPinLaw" = some m.cls := findClass_of_methodNamed Bd.named
  have hnm := (name_of_methodNamed Bd.named Bd.method).1
  have hlk : meth.locks = false := Bd.notSynchronized
  have hret := Bd.returns
  have X0 : Stand p l e room_1 s m #[(.int x0), (.int x1)] below meth c s₁ [] 0 0 := Stand.of_body Bd
  have e0 : s₁.heap = h0 := by rw [← hh, Bd.state]; rfl
  have N0 := Fr.nil n0
  have K0 := Keep.refl h0 ([] : List Addr)
  show own_E p e below (own_F s 16 128) (own_Q0 Z x0 x1 h0 n0) s₁ (entryFrame m #[(.int x0), (.int x1)] maxLocals)
  refine own_cast (own_ef0 m x0 x1) ?_
  refine own_step (g' := (mkF m 1 #[.val (.int x0), .val (.int x1), .unset, .unset, .unset, .unset, .unset] [(.int x0)])) (fun _ k => XS.iloadN X0.here hx rfl (hb hby at_0) rfl k) ?_
  refine own_step (g' := (mkF m 2 #[.val (.int x0), .val (.int x1), .unset, .unset, .unset, .unset, .unset] [(.long (x0.toInt64))])) (fun _ k => XS.i2l X0.here hx rfl (hb hby at_1) rfl k) ?_
  refine own_step (g' := (mkF m 3 #[.val (.int x0), .val (.int x1), .unset, .unset, .unset, .unset, .unset] [(.int x1), (.long (x0.toInt64))])) (fun _ k => XS.iloadN X0.here hx rfl (hb hby at_2) rfl k) ?_
  refine own_step (g' := (mkF m 4 #[.val (.int x0), .val (.int x1), .unset, .unset, .unset, .unset, .unset] [(.long (x1.toInt64)), (.long (x0.toInt64))])) (fun _ k => XS.i2l X0.here hx rfl (hb hby at_3) rfl k) ?_
  refine own_step (g' := (mkF m 5 #[.val (.int x0), .val (.int x1), .unset, .unset, .unset, .unset, .unset] [(.long ((x0.toInt64) + (x1.toInt64)))])) (fun _ k => XS.ladd X0.here hx rfl (hb hby at_4) rfl k) ?_
  refine own_step (g' := (mkF m 6 #[.val (.int x0), .val (.int x1), .val (.long ((x0.toInt64) + (x1.toInt64))), .second, .unset, .unset, .unset] [])) (fun _ k => XS.lstoreN X0.here hx rfl (hb hby at_5) rfl (l' := #[.val (.int x0), .val (.int x1), .val (.long ((x0.toInt64) + (x1.toInt64))), .second, .unset, .unset, .unset]) rfl k) ?_
  refine own_step (g' := (mkF m 7 #[.val (.int x0), .val (.int x1), .val (.long ((x0.toInt64) + (x1.toInt64))), .second, .unset, .unset, .unset] [(.long ((x0.toInt64) + (x1.toInt64)))])) (fun _ k => XS.lloadN X0.here hx rfl (hb hby at_6) rfl k) ?_
  refine own_step (g' := (mkF m 10 #[.val (.int x0), .val (.int x1), .val (.long ((x0.toInt64) + (x1.toInt64))), .second, .unset, .unset, .unset] [(.long (2147483647 : Int64)), (.long ((x0.toInt64) + (x1.toInt64)))])) (fun _ k => X0.ldc2Long hx hown (mvT hZ (hw _ (List.mem_of_getElem? (i := 0) rfl))) (g := (mkF m 7 #[.val (.int x0), .val (.int x1), .val (.long ((x0.toInt64) + (x1.toInt64))), .second, .unset, .unset, .unset] [(.long ((x0.toInt64) + (x1.toInt64)))])) rfl (hb hby at_7) _ k) ?_
  refine own_step (g' := (mkF m 11 #[.val (.int x0), .val (.int x1), .val (.long ((x0.toInt64) + (x1.toInt64))), .second, .unset, .unset, .unset] [(.int (lcmpW ((x0.toInt64) + (x1.toInt64)) (2147483647 : Int64)))])) (fun _ k => XS.lcmp X0.here hx rfl (hb hby at_10) rfl k) ?_
  refine own_ifY X0 hx (P := ((2147483647 : Int64) < ((x0.toInt64) + (x1.toInt64)))) (hb hby at_11) (own_l_gt ((x0.toInt64) + (x1.toInt64)) (2147483647 : Int64)) (by decide) (pc1 := 22) (by decide) (fun hc11 => ?_) (fun hc11 => ?_)
  · show own_E p e below (own_F s 16 128) (own_Q0 Z x0 x1 h0 n0) s₁ (mkF m 22 #[.val (.int x0), .val (.int x1), .val (.long ((x0.toInt64) + (x1.toInt64))), .second, .unset, .unset, .unset] [])
    refine own_step (g' := (mkF m 23 #[.val (.int x0), .val (.int x1), .val (.long ((x0.toInt64) + (x1.toInt64))), .second, .unset, .unset, .unset] [(.int (1 : Int32))])) (fun _ k => XS.iconst X0.here hx rfl (hb hby at_22) k) ?_
    exact own_retI X0 hx hlk hret (by simp) (hb hby at_23) rfl (by decide) (by decide) (by show own_Q0 Z x0 x1 h0 n0 (some (.int (1 : Int32))) s₁.heap _; rw [e0]; exact ⟨rfl, N0⟩)
  · show own_E p e below (own_F s 16 128) (own_Q0 Z x0 x1 h0 n0) s₁ (mkF m 14 #[.val (.int x0), .val (.int x1), .val (.long ((x0.toInt64) + (x1.toInt64))), .second, .unset, .unset, .unset] [])
    refine own_step (g' := (mkF m 15 #[.val (.int x0), .val (.int x1), .val (.long ((x0.toInt64) + (x1.toInt64))), .second, .unset, .unset, .unset] [(.long ((x0.toInt64) + (x1.toInt64)))])) (fun _ k => XS.lloadN X0.here hx rfl (hb hby at_14) rfl k) ?_
    refine own_step (g' := (mkF m 18 #[.val (.int x0), .val (.int x1), .val (.long ((x0.toInt64) + (x1.toInt64))), .second, .unset, .unset, .unset] [(.long (-2147483648 : Int64)), (.long ((x0.toInt64) + (x1.toInt64)))])) (fun _ k => X0.ldc2Long hx hown (mvT hZ (hw _ (List.mem_of_getElem? (i := 1) rfl))) (g := (mkF m 15 #[.val (.int x0), .val (.int x1), .val (.long ((x0.toInt64) + (x1.toInt64))), .second, .unset, .unset, .unset] [(.long ((x0.toInt64) + (x1.toInt64)))])) rfl (hb hby at_15) _ k) ?_
    refine own_step (g' := (mkF m 19 #[.val (.int x0), .val (.int x1), .val (.long ((x0.toInt64) + (x1.toInt64))), .second, .unset, .unset, .unset] [(.int (lcmpW ((x0.toInt64) + (x1.toInt64)) (-2147483648 : Int64)))])) (fun _ k => XS.lcmp X0.here hx rfl (hb hby at_18) rfl k) ?_
    refine own_ifN X0 hx (P := (((x0.toInt64) + (x1.toInt64)) < (-2147483648 : Int64))) (hb hby at_19) (own_l_ge ((x0.toInt64) + (x1.toInt64)) (-2147483648 : Int64)) (by decide) (pc1 := 24) (by decide) (fun hc19 => ?_) (fun hc19 => ?_)
    · show own_E p e below (own_F s 16 128) (own_Q0 Z x0 x1 h0 n0) s₁ (mkF m 22 #[.val (.int x0), .val (.int x1), .val (.long ((x0.toInt64) + (x1.toInt64))), .second, .unset, .unset, .unset] [])
      refine own_step (g' := (mkF m 23 #[.val (.int x0), .val (.int x1), .val (.long ((x0.toInt64) + (x1.toInt64))), .second, .unset, .unset, .unset] [(.int (1 : Int32))])) (fun _ k => XS.iconst X0.here hx rfl (hb hby at_22) k) ?_
      exact own_retI X0 hx hlk hret (by simp) (hb hby at_23) rfl (by decide) (by decide) (by show own_Q0 Z x0 x1 h0 n0 (some (.int (1 : Int32))) s₁.heap _; rw [e0]; exact ⟨rfl, N0⟩)
    · show own_E p e below (own_F s 16 128) (own_Q0 Z x0 x1 h0 n0) s₁ (mkF m 24 #[.val (.int x0), .val (.int x1), .val (.long ((x0.toInt64) + (x1.toInt64))), .second, .unset, .unset, .unset] [])
      obtain ⟨T1, h1, X1, e1, E1, A1, D1, -, st1⟩ := newO X0 hx hZ hown (hw _ (List.mem_of_getElem? (i := 2) rfl)) (hw _ (List.mem_of_getElem? (i := 3) rfl)) (hw _ (List.mem_of_getElem? (i := 4) rfl)) e0 (g := (mkF m 24 #[.val (.int x0), .val (.int x1), .val (.long ((x0.toInt64) + (x1.toInt64))), .second, .unset, .unset, .unset] [])) rfl (hb hby at_24) (by decide) (by decide)
      obtain ⟨b1, g1⟩ : ∃ z, z = h0.size := ⟨_, rfl⟩
      rw [← g1] at A1 D1 st1
      have le_b1 : n0 ≤ b1 := Nat.le_trans Z0 (Nat.le_of_eq g1.symm)
      have sz_b1 : h0.size ≤ b1 := Nat.le_trans K0.1 (Nat.le_of_eq g1.symm)
      have Fhalves_b1 : Fld Z h1 b1 "com/example/muster/muster/core/Points" "halves" "I" (.int (0 : Int32)) := D1 (Or.inr (hw _ (List.mem_of_getElem? (i := 17) rfl))) (ty := .int) (by decide)
      have K1 := K0.ext E1
      have Z1 := Nat.le_trans Z0 E1.1
      refine own_step (g' := (mkF m 27 #[.val (.int x0), .val (.int x1), .val (.long ((x0.toInt64) + (x1.toInt64))), .second, .unset, .unset, .unset] [(.ref b1)])) st1 ?_
      refine own_step (g' := (mkF m 28 #[.val (.int x0), .val (.int x1), .val (.long ((x0.toInt64) + (x1.toInt64))), .second, .unset, .unset, .unset] [(.ref b1), (.ref b1)])) (fun _ k => XS.dup X1.here hx rfl (hb hby at_27) rfl rfl k) ?_
      refine own_step (g' := (mkF m 29 #[.val (.int x0), .val (.int x1), .val (.long ((x0.toInt64) + (x1.toInt64))), .second, .unset, .unset, .unset] [(.int x0), (.ref b1), (.ref b1)])) (fun _ k => XS.iloadN X1.here hx rfl (hb hby at_28) rfl k) ?_
      obtain ⟨_, _, ⟨T2, L2, k2, n2⟩, -, X2, ⟨Lc2, hQ2, l2, y2, z2⟩, st2⟩ := X1.specialBack hx (y := (⟨"com/example/muster/muster/core/Points", "<init>", "(I)V"⟩ : MethodName)) rfl hown (mvT hZ (hw _ (List.mem_of_getElem? (i := 5) rfl))) (mvT hZ (hw _ (List.mem_of_getElem? (i := 6) rfl))) (mvT hZ (hw _ (List.mem_of_getElem? (i := 7) rfl))) (by decide) (backOf (W := 1) (own_rm1 l Z a0 hw [] b1 x0 h1 n0 Z1 A1 le_b1 Fhalves_b1) hZ (hw _ (List.mem_of_getElem? (i := 7) rfl)) (hw _ (List.mem_of_getElem? (i := 4) rfl)) (by decide) (by decide)) (g := (mkF m 29 #[.val (.int x0), .val (.int x1), .val (.long ((x0.toInt64) + (x1.toInt64))), .second, .unset, .unset, .unset] [(.int x0), (.ref b1), (.ref b1)])) rfl (by rw [hml]; rfl) (Steps.refl _) (a := b1) (argsL := [(.int x0)]) (rest := [(.ref b1)]) (lenOf own_pd__28I_29V rfl) rfl (by show 2 * 0 + _ ≤ _; exact Nat.le_of_eq rfl) (hb hby at_29) (fun _ _ => ⟨rfl, e1, (by decide : 1 + 0 ≤ _), (by decide : 1 + 0 ≤ _)⟩)
      dsimp only [Pt.U, Pt.locs, Pt.cells, Pt.slots] at X2 l2 y2 z2 st2 hQ2
      subst l2 y2 z2
      obtain ⟨rfl, Nq2, Kc2, Q2_0, Q2_1⟩ := hQ2
      have N2 := Fr.app N0 Nq2
      have A1_2 := A1.keep Kc2
      have K2 := K1.trans Kc2 (allS (Or.inr sz_b1) all0)
      have Z2 := Nat.le_trans Z1 Kc2.1
      refine own_step (g' := (mkF m 32 #[.val (.int x0), .val (.int x1), .val (.long ((x0.toInt64) + (x1.toInt64))), .second, .unset, .unset, .unset] [(.ref b1)])) (fun _ k => st2.trans k) ?_
      refine own_step (g' := (mkF m 34 #[.val (.int x0), .val (.int x1), .val (.long ((x0.toInt64) + (x1.toInt64))), .second, .val (.ref b1), .unset, .unset] [])) (fun _ k => XS.astore X2.here hx rfl (hb hby at_32) rfl rfl (l' := #[.val (.int x0), .val (.int x1), .val (.long ((x0.toInt64) + (x1.toInt64))), .second, .val (.ref b1), .unset, .unset]) rfl k) ?_
      obtain ⟨T3, h3, X3, e3, E3, A3, D3, -, st3⟩ := newO X2 hx hZ hown (hw _ (List.mem_of_getElem? (i := 2) rfl)) (hw _ (List.mem_of_getElem? (i := 3) rfl)) (hw _ (List.mem_of_getElem? (i := 4) rfl)) rfl (g := (mkF m 34 #[.val (.int x0), .val (.int x1), .val (.long ((x0.toInt64) + (x1.toInt64))), .second, .val (.ref b1), .unset, .unset] [])) rfl (hb hby at_34) (by decide) (by decide)
      obtain ⟨b3, g3⟩ : ∃ z, z = T2.heap.size := ⟨_, rfl⟩
      rw [← g3] at A3 D3 st3
      have ne_b1_b3 : b1 ≠ b3 := Nat.ne_of_lt (Nat.lt_of_lt_of_le Q2_0.lt (Nat.le_of_eq g3.symm))
      have le_b3 : n0 ≤ b3 := Nat.le_trans Z2 (Nat.le_of_eq g3.symm)
      have sz_b3 : h0.size ≤ b3 := Nat.le_trans K2.1 (Nat.le_of_eq g3.symm)
      have Q2_0_3 := Q2_0.ext E3
      have Q2_1_3 := Q2_1.ext E3
      have Fhalves_b3 : Fld Z h3 b3 "com/example/muster/muster/core/Points" "halves" "I" (.int (0 : Int32)) := D3 (Or.inr (hw _ (List.mem_of_getElem? (i := 17) rfl))) (ty := .int) (by decide)
      have K3 := K2.ext E3
      have Z3 := Nat.le_trans Z2 E3.1
      refine own_step (g' := (mkF m 37 #[.val (.int x0), .val (.int x1), .val (.long ((x0.toInt64) + (x1.toInt64))), .second, .val (.ref b1), .unset, .unset] [(.ref b3)])) st3 ?_
      refine own_step (g' := (mkF m 38 #[.val (.int x0), .val (.int x1), .val (.long ((x0.toInt64) + (x1.toInt64))), .second, .val (.ref b1), .unset, .unset] [(.ref b3), (.ref b3)])) (fun _ k => XS.dup X3.here hx rfl (hb hby at_37) rfl rfl k) ?_
      refine own_step (g' := (mkF m 39 #[.val (.int x0), .val (.int x1), .val (.long ((x0.toInt64) + (x1.toInt64))), .second, .val (.ref b1), .unset, .unset] [(.int x1), (.ref b3), (.ref b3)])) (fun _ k => XS.iloadN X3.here hx rfl (hb hby at_38) rfl k) ?_
      obtain ⟨_, _, ⟨T4, L4, k4, n4⟩, -, X4, ⟨Lc4, hQ4, l4, y4, z4⟩, st4⟩ := X3.specialBack hx (y := (⟨"com/example/muster/muster/core/Points", "<init>", "(I)V"⟩ : MethodName)) rfl hown (mvT hZ (hw _ (List.mem_of_getElem? (i := 5) rfl))) (mvT hZ (hw _ (List.mem_of_getElem? (i := 6) rfl))) (mvT hZ (hw _ (List.mem_of_getElem? (i := 7) rfl))) (by decide) (backOf (W := 1) (own_rm1 l Z a0 hw [] b3 x1 h3 n0 Z3 A3 le_b3 Fhalves_b3) hZ (hw _ (List.mem_of_getElem? (i := 7) rfl)) (hw _ (List.mem_of_getElem? (i := 4) rfl)) (by decide) (by decide)) (g := (mkF m 39 #[.val (.int x0), .val (.int x1), .val (.long ((x0.toInt64) + (x1.toInt64))), .second, .val (.ref b1), .unset, .unset] [(.int x1), (.ref b3), (.ref b3)])) rfl (by rw [hml]; rfl) (Steps.refl _) (a := b3) (argsL := [(.int x1)]) (rest := [(.ref b3)]) (lenOf own_pd__28I_29V rfl) rfl (by show 2 * 0 + _ ≤ _; exact Nat.le_of_eq rfl) (hb hby at_39) (fun _ _ => ⟨rfl, e3, (by decide : 2 + 0 ≤ _), (by decide : 2 + 0 ≤ _)⟩)
      dsimp only [Pt.U, Pt.locs, Pt.cells, Pt.slots] at X4 l4 y4 z4 st4 hQ4
      subst l4 y4 z4
      obtain ⟨rfl, Nq4, Kc4, Q4_0, Q4_1⟩ := hQ4
      have N4 := Fr.app N2 Nq4
      have Q2_0_4 := Q2_0_3.keep Kc4
      have Q2_1_4 := Q2_1_3.keep Kc4 (ninS ne_b1_b3 nin0)
      have A3_4 := A3.keep Kc4
      have K4 := K3.trans Kc4 (allS (Or.inr sz_b3) all0)
      have Z4 := Nat.le_trans Z3 Kc4.1
      refine own_step (g' := (mkF m 42 #[.val (.int x0), .val (.int x1), .val (.long ((x0.toInt64) + (x1.toInt64))), .second, .val (.ref b1), .unset, .unset] [(.ref b3)])) (fun _ k => st4.trans k) ?_
      refine own_step (g' := (mkF m 44 #[.val (.int x0), .val (.int x1), .val (.long ((x0.toInt64) + (x1.toInt64))), .second, .val (.ref b1), .val (.ref b3), .unset] [])) (fun _ k => XS.astore X4.here hx rfl (hb hby at_42) rfl rfl (l' := #[.val (.int x0), .val (.int x1), .val (.long ((x0.toInt64) + (x1.toInt64))), .second, .val (.ref b1), .val (.ref b3), .unset]) rfl k) ?_
      refine own_step (g' := (mkF m 46 #[.val (.int x0), .val (.int x1), .val (.long ((x0.toInt64) + (x1.toInt64))), .second, .val (.ref b1), .val (.ref b3), .unset] [(.ref b1)])) (fun _ k => XS.aload X4.here hx rfl (hb hby at_44) rfl rfl k) ?_
      refine own_step (g' := (mkF m 48 #[.val (.int x0), .val (.int x1), .val (.long ((x0.toInt64) + (x1.toInt64))), .second, .val (.ref b1), .val (.ref b3), .unset] [(.ref b3), (.ref b1)])) (fun _ k => XS.aload X4.here hx rfl (hb hby at_46) rfl rfl k) ?_
      obtain ⟨cq5, kq5, q5a, q5b, q5c⟩ := isOf hZ rfl Q2_0_4
      obtain ⟨_, _, ⟨T5, L5, k5, n5⟩, -, X5, ⟨Lc5, hQ5, l5, y5, z5⟩, st5⟩ := X4.virtualBack hx (y := (⟨"com/example/muster/muster/core/Points", "plus", "(Lcom/example/muster/muster/core/Points;)Lcom/example/muster/muster/core/Points;"⟩ : MethodName)) (z := (⟨"com/example/muster/muster/core/Points", "plus", "(Lcom/example/muster/muster/core/Points;)Lcom/example/muster/muster/core/Points;"⟩ : MethodName)) hown (mvT hZ (hw _ (List.mem_of_getElem? (i := 18) rfl))) (mvT hZ (hw _ (List.mem_of_getElem? (i := 19) rfl))) (notFace_of_selects (args := #[]) (mvT hZ (hw _ (List.mem_of_getElem? (i := 21) rfl)))) (mvT hZ (hw _ (List.mem_of_getElem? (i := 21) rfl))) (mvT hZ (hw _ (List.mem_of_getElem? (i := 20) rfl))) (by decide) (backOf (W := 0) (own_rm4 l Z a0 hw [] b1 b3 x0 x1 T4.heap n0 Z4 Q2_1_4 Q4_1 (own_nothrow x0 x1 hc11 hc19)) hZ (hw _ (List.mem_of_getElem? (i := 22) rfl)) (hw _ (List.mem_of_getElem? (i := 4) rfl)) (by decide) (by decide)) q5a q5c (g := (mkF m 48 #[.val (.int x0), .val (.int x1), .val (.long ((x0.toInt64) + (x1.toInt64))), .second, .val (.ref b1), .val (.ref b3), .unset] [(.ref b3), (.ref b1)])) rfl (by rw [hml]; rfl) (Steps.refl _) (argsL := [(.ref b3)]) (rest := []) (lenOf own_pd__28Lcom_2fexample_2fmuster_2fmuster_2fcore_2fPoints_3b_29Lcom_2fexample_2fmuster_2fmuster_2fcore_2fPoints_3b rfl) rfl (by show 2 * 0 + _ ≤ _; exact Nat.le_of_eq rfl) (hb hby at_48) (fun _ _ => ⟨rfl, rfl, (by decide : 2 + 1 ≤ _), (by decide : 2 + 1 ≤ _)⟩)
      dsimp only [Pt.U, Pt.locs, Pt.cells, Pt.slots] at X5 l5 y5 z5 st5 hQ5
      subst l5 y5 z5
      obtain ⟨b5, rfl, Nq5, Kc5, zb5, Q5_0, Q5_1⟩ := hQ5
      have N5 := Fr.app N4 Nq5
      have ne_b3_b5 : b3 ≠ b5 := Nat.ne_of_lt (Nat.lt_of_lt_of_le Q4_0.lt zb5)
      have ne_b1_b5 : b1 ≠ b5 := Nat.ne_of_lt (Nat.lt_of_lt_of_le Q2_0_4.lt zb5)
      have le_b5 : n0 ≤ b5 := Nat.le_trans Z4 zb5
      have sz_b5 : h0.size ≤ b5 := Nat.le_trans K4.1 zb5
      have Q2_0_5 := Q2_0_4.keep Kc5
      have Q2_1_5 := Q2_1_4.keep Kc5 nin0
      have Q4_0_5 := Q4_0.keep Kc5
      have Q4_1_5 := Q4_1.keep Kc5 nin0
      have K5 := K4.trans Kc5 all0
      have Z5 := Nat.le_trans Z4 Kc5.1
      refine own_step (g' := (mkF m 51 #[.val (.int x0), .val (.int x1), .val (.long ((x0.toInt64) + (x1.toInt64))), .second, .val (.ref b1), .val (.ref b3), .unset] [(.ref b5)])) (fun _ k => st5.trans k) ?_
      refine own_step (g' := (mkF m 53 #[.val (.int x0), .val (.int x1), .val (.long ((x0.toInt64) + (x1.toInt64))), .second, .val (.ref b1), .val (.ref b3), .val (.ref b5)] [])) (fun _ k => XS.astore X5.here hx rfl (hb hby at_51) rfl rfl (l' := #[.val (.int x0), .val (.int x1), .val (.long ((x0.toInt64) + (x1.toInt64))), .second, .val (.ref b1), .val (.ref b3), .val (.ref b5)]) rfl k) ?_
      refine own_step (g' := (mkF m 55 #[.val (.int x0), .val (.int x1), .val (.long ((x0.toInt64) + (x1.toInt64))), .second, .val (.ref b1), .val (.ref b3), .val (.ref b5)] [(.ref b5)])) (fun _ k => XS.aload X5.here hx rfl (hb hby at_53) rfl rfl k) ?_
      obtain ⟨cq6, kq6, q6a, q6b, q6c⟩ := isOf hZ rfl Q5_0
      obtain ⟨_, _, ⟨T6, L6, k6, n6⟩, -, X6, ⟨Lc6, hQ6, l6, y6, z6⟩, st6⟩ := X5.virtualBack hx (y := (⟨"com/example/muster/muster/core/Points", "halves", "()I"⟩ : MethodName)) (z := (⟨"com/example/muster/muster/core/Points", "halves", "()I"⟩ : MethodName)) hown (mvT hZ (hw _ (List.mem_of_getElem? (i := 29) rfl))) (mvT hZ (hw _ (List.mem_of_getElem? (i := 30) rfl))) (notFace_of_selects (args := #[]) (mvT hZ (hw _ (List.mem_of_getElem? (i := 32) rfl)))) (mvT hZ (hw _ (List.mem_of_getElem? (i := 32) rfl))) (mvT hZ (hw _ (List.mem_of_getElem? (i := 31) rfl))) (by decide) (backOf (W := 0) (own_rm6 l Z a0 hw [] b5 (x0 + x1) T5.heap n0 Z5 Q5_1) hZ (hw _ (List.mem_of_getElem? (i := 33) rfl)) (hw _ (List.mem_of_getElem? (i := 4) rfl)) (by decide) (by decide)) q6a q6c (g := (mkF m 55 #[.val (.int x0), .val (.int x1), .val (.long ((x0.toInt64) + (x1.toInt64))), .second, .val (.ref b1), .val (.ref b3), .val (.ref b5)] [(.ref b5)])) rfl (by rw [hml]; rfl) (Steps.refl _) (argsL := []) (rest := []) (lenOf own_pd__28_29I rfl) rfl (by show 2 * 0 + _ ≤ _; exact Nat.le_of_eq rfl) (hb hby at_55) (fun _ _ => ⟨rfl, rfl, (by decide : 3 + 0 ≤ _), (by decide : 3 + 0 ≤ _)⟩)
      dsimp only [Pt.U, Pt.locs, Pt.cells, Pt.slots] at X6 l6 y6 z6 st6 hQ6
      subst l6 y6 z6
      obtain ⟨rfl, Nq6, e6⟩ := hQ6
      have N6 := Fr.app N5 Nq6
      refine own_step (g' := (mkF m 58 #[.val (.int x0), .val (.int x1), .val (.long ((x0.toInt64) + (x1.toInt64))), .second, .val (.ref b1), .val (.ref b3), .val (.ref b5)] [(.int (x0 + x1))])) (fun _ k => st6.trans k) ?_
      refine own_step (g' := (mkF m 59 #[.val (.int x0), .val (.int x1), .val (.long ((x0.toInt64) + (x1.toInt64))), .second, .val (.ref b1), .val (.ref b3), .val (.ref b5)] [(.long ((x0.toInt64) + (x1.toInt64))), (.int (x0 + x1))])) (fun _ k => XS.lloadN X6.here hx rfl (hb hby at_58) rfl k) ?_
      refine own_step (g' := (mkF m 60 #[.val (.int x0), .val (.int x1), .val (.long ((x0.toInt64) + (x1.toInt64))), .second, .val (.ref b1), .val (.ref b3), .val (.ref b5)] [(.int (((x0.toInt64) + (x1.toInt64)).toInt32)), (.int (x0 + x1))])) (fun _ k => XS.l2i X6.here hx rfl (hb hby at_59) rfl k) ?_
      refine own_icN X6 hx (P := ((x0 + x1) = (((x0.toInt64) + (x1.toInt64)).toInt32))) (hb hby at_60) (own_i_ne (x0 + x1) (((x0.toInt64) + (x1.toInt64)).toInt32)) (by decide) (pc1 := 85) (by decide) (fun hc60 => ?_) (fun hc60 => ?_)
      · show own_E p e below (own_F s 16 128) (own_Q0 Z x0 x1 h0 n0) T6 (mkF m 63 #[.val (.int x0), .val (.int x1), .val (.long ((x0.toInt64) + (x1.toInt64))), .second, .val (.ref b1), .val (.ref b3), .val (.ref b5)] [])
        refine own_step (g' := (mkF m 65 #[.val (.int x0), .val (.int x1), .val (.long ((x0.toInt64) + (x1.toInt64))), .second, .val (.ref b1), .val (.ref b3), .val (.ref b5)] [(.ref b1)])) (fun _ k => XS.aload X6.here hx rfl (hb hby at_63) rfl rfl k) ?_
        obtain ⟨cq7, kq7, q7a, q7b, q7c⟩ := isOf hZ e6 Q2_0_5
        obtain ⟨_, _, ⟨T7, L7, k7, n7⟩, -, X7, ⟨Lc7, hQ7, l7, y7, z7⟩, st7⟩ := X6.virtualBack hx (y := (⟨"com/example/muster/muster/core/Points", "halves", "()I"⟩ : MethodName)) (z := (⟨"com/example/muster/muster/core/Points", "halves", "()I"⟩ : MethodName)) hown (mvT hZ (hw _ (List.mem_of_getElem? (i := 29) rfl))) (mvT hZ (hw _ (List.mem_of_getElem? (i := 30) rfl))) (notFace_of_selects (args := #[]) (mvT hZ (hw _ (List.mem_of_getElem? (i := 32) rfl)))) (mvT hZ (hw _ (List.mem_of_getElem? (i := 32) rfl))) (mvT hZ (hw _ (List.mem_of_getElem? (i := 31) rfl))) (by decide) (backOf (W := 0) (own_rm6 l Z a0 hw [] b1 x0 T5.heap n0 Z5 Q2_1_5) hZ (hw _ (List.mem_of_getElem? (i := 33) rfl)) (hw _ (List.mem_of_getElem? (i := 4) rfl)) (by decide) (by decide)) q7a q7c (g := (mkF m 65 #[.val (.int x0), .val (.int x1), .val (.long ((x0.toInt64) + (x1.toInt64))), .second, .val (.ref b1), .val (.ref b3), .val (.ref b5)] [(.ref b1)])) rfl (by rw [hml]; rfl) (Steps.refl _) (argsL := []) (rest := []) (lenOf own_pd__28_29I rfl) rfl (by show 2 * 0 + _ ≤ _; exact Nat.le_of_eq rfl) (hb hby at_65) (fun _ _ => ⟨rfl, e6, (by decide : 3 + 0 ≤ _), (by decide : 3 + 0 ≤ _)⟩)
        dsimp only [Pt.U, Pt.locs, Pt.cells, Pt.slots] at X7 l7 y7 z7 st7 hQ7
        subst l7 y7 z7
        obtain ⟨rfl, Nq7, e7⟩ := hQ7
        have N7 := Fr.app N6 Nq7
        refine own_step (g' := (mkF m 68 #[.val (.int x0), .val (.int x1), .val (.long ((x0.toInt64) + (x1.toInt64))), .second, .val (.ref b1), .val (.ref b3), .val (.ref b5)] [(.int x0)])) (fun _ k => st7.trans k) ?_
        refine own_step (g' := (mkF m 69 #[.val (.int x0), .val (.int x1), .val (.long ((x0.toInt64) + (x1.toInt64))), .second, .val (.ref b1), .val (.ref b3), .val (.ref b5)] [(.int x0), (.int x0)])) (fun _ k => XS.iloadN X7.here hx rfl (hb hby at_68) rfl k) ?_
        refine own_icN X7 hx (P := (x0 = x0)) (hb hby at_69) (own_i_ne x0 x0) (by decide) (pc1 := 85) (by decide) (fun hc69 => ?_) (fun hc69 => ?_)
        · show own_E p e below (own_F s 16 128) (own_Q0 Z x0 x1 h0 n0) T7 (mkF m 72 #[.val (.int x0), .val (.int x1), .val (.long ((x0.toInt64) + (x1.toInt64))), .second, .val (.ref b1), .val (.ref b3), .val (.ref b5)] [])
          refine own_step (g' := (mkF m 74 #[.val (.int x0), .val (.int x1), .val (.long ((x0.toInt64) + (x1.toInt64))), .second, .val (.ref b1), .val (.ref b3), .val (.ref b5)] [(.ref b3)])) (fun _ k => XS.aload X7.here hx rfl (hb hby at_72) rfl rfl k) ?_
          obtain ⟨cq8, kq8, q8a, q8b, q8c⟩ := isOf hZ e7 Q4_0_5
          obtain ⟨_, _, ⟨T8, L8, k8, n8⟩, -, X8, ⟨Lc8, hQ8, l8, y8, z8⟩, st8⟩ := X7.virtualBack hx (y := (⟨"com/example/muster/muster/core/Points", "halves", "()I"⟩ : MethodName)) (z := (⟨"com/example/muster/muster/core/Points", "halves", "()I"⟩ : MethodName)) hown (mvT hZ (hw _ (List.mem_of_getElem? (i := 29) rfl))) (mvT hZ (hw _ (List.mem_of_getElem? (i := 30) rfl))) (notFace_of_selects (args := #[]) (mvT hZ (hw _ (List.mem_of_getElem? (i := 32) rfl)))) (mvT hZ (hw _ (List.mem_of_getElem? (i := 32) rfl))) (mvT hZ (hw _ (List.mem_of_getElem? (i := 31) rfl))) (by decide) (backOf (W := 0) (own_rm6 l Z a0 hw [] b3 x1 T5.heap n0 Z5 Q4_1_5) hZ (hw _ (List.mem_of_getElem? (i := 33) rfl)) (hw _ (List.mem_of_getElem? (i := 4) rfl)) (by decide) (by decide)) q8a q8c (g := (mkF m 74 #[.val (.int x0), .val (.int x1), .val (.long ((x0.toInt64) + (x1.toInt64))), .second, .val (.ref b1), .val (.ref b3), .val (.ref b5)] [(.ref b3)])) rfl (by rw [hml]; rfl) (Steps.refl _) (argsL := []) (rest := []) (lenOf own_pd__28_29I rfl) rfl (by show 2 * 0 + _ ≤ _; exact Nat.le_of_eq rfl) (hb hby at_74) (fun _ _ => ⟨rfl, e7, (by decide : 3 + 0 ≤ _), (by decide : 3 + 0 ≤ _)⟩)
          dsimp only [Pt.U, Pt.locs, Pt.cells, Pt.slots] at X8 l8 y8 z8 st8 hQ8
          subst l8 y8 z8
          obtain ⟨rfl, Nq8, e8⟩ := hQ8
          have N8 := Fr.app N7 Nq8
          refine own_step (g' := (mkF m 77 #[.val (.int x0), .val (.int x1), .val (.long ((x0.toInt64) + (x1.toInt64))), .second, .val (.ref b1), .val (.ref b3), .val (.ref b5)] [(.int x1)])) (fun _ k => st8.trans k) ?_
          refine own_step (g' := (mkF m 78 #[.val (.int x0), .val (.int x1), .val (.long ((x0.toInt64) + (x1.toInt64))), .second, .val (.ref b1), .val (.ref b3), .val (.ref b5)] [(.int x1), (.int x1)])) (fun _ k => XS.iloadN X8.here hx rfl (hb hby at_77) rfl k) ?_
          refine own_icN X8 hx (P := (x1 = x1)) (hb hby at_78) (own_i_ne x1 x1) (by decide) (pc1 := 85) (by decide) (fun hc78 => ?_) (fun hc78 => ?_)
          · show own_E p e below (own_F s 16 128) (own_Q0 Z x0 x1 h0 n0) T8 (mkF m 81 #[.val (.int x0), .val (.int x1), .val (.long ((x0.toInt64) + (x1.toInt64))), .second, .val (.ref b1), .val (.ref b3), .val (.ref b5)] [])
            refine own_step (g' := (mkF m 82 #[.val (.int x0), .val (.int x1), .val (.long ((x0.toInt64) + (x1.toInt64))), .second, .val (.ref b1), .val (.ref b3), .val (.ref b5)] [(.int (1 : Int32))])) (fun _ k => XS.iconst X8.here hx rfl (hb hby at_81) k) ?_
            refine own_step (g' := (mkF m 86 #[.val (.int x0), .val (.int x1), .val (.long ((x0.toInt64) + (x1.toInt64))), .second, .val (.ref b1), .val (.ref b3), .val (.ref b5)] [(.int (1 : Int32))])) (fun _ k => XS.goto X8.here hx rfl (pc0 := 82) (pc' := 86) rfl (hb hby at_82) (by decide) (by decide) k) ?_
            exact own_retI X8 hx hlk hret (by simp) (hb hby at_86) rfl (by decide) (by decide) (by show own_Q0 Z x0 x1 h0 n0 (some (.int (1 : Int32))) T8.heap _; rw [e8]; exact ⟨rfl, N8⟩)
          · show own_E p e below (own_F s 16 128) (own_Q0 Z x0 x1 h0 n0) T8 (mkF m 85 #[.val (.int x0), .val (.int x1), .val (.long ((x0.toInt64) + (x1.toInt64))), .second, .val (.ref b1), .val (.ref b3), .val (.ref b5)] [])
            exact absurd rfl hc78
        · show own_E p e below (own_F s 16 128) (own_Q0 Z x0 x1 h0 n0) T7 (mkF m 85 #[.val (.int x0), .val (.int x1), .val (.long ((x0.toInt64) + (x1.toInt64))), .second, .val (.ref b1), .val (.ref b3), .val (.ref b5)] [])
          exact absurd rfl hc69
      · show own_E p e below (own_F s 16 128) (own_Q0 Z x0 x1 h0 n0) T6 (mkF m 85 #[.val (.int x0), .val (.int x1), .val (.long ((x0.toInt64) + (x1.toInt64))), .second, .val (.ref b1), .val (.ref b3), .val (.ref b5)] [])
        exact absurd (own_law x0 x1) hc60
set_option maxRecDepth 65536 in
set_option maxHeartbeats 40000000 in
theorem own_comes {Post : Tables → Env → Array Value → State → Outcome → State → Prop} (hpost : ∀ tb e args s v u, (limb_1_1.after args s (.returned v) u = true ∧ limb_1_2.after args s (.returned v) u = true ∧ True) → FrameEnd s (.returned v) u (Jvm.fieldLocs frame_1_writes args s ++ Jvm.arrayLocs frame_1_arrays args s ++ Jvm.staticLocs frame_1_statics s) 16 128 → Post tb e args s (.returned v) u) :
    ArmFor flags0 classFile x code maxLocals ret World_1 tables_1 room_1 Calls_1 rest_1 Pre_1 Post := by
  intro l hfl _ _ p e ha hc hk s m args below hf hA hF happ hP
  obtain ⟨hcalls, hrest, hpre⟩ := hP
  obtain ⟨-, -, -, hnamed, -, -, -, hat⟩ := (Spec.applies_iff hf).mp happ
  obtain ⟨hg, hn⟩ := and_e (Cond.before_iff.mp (show (Jvm.Cond.and given_1 narrow_1).before args s = true from hpre))
  obtain ⟨q0, r0⟩ := and_e hg
  obtain ⟨q1, r1⟩ := and_e r0
  obtain ⟨w0, w1, rfl⟩ : ∃ w0 w1 : Value, args = #[w0, w1] := by
    have hs : args.size = 2 := by simpa [Cond.value, given_1] using q0
    obtain ⟨L⟩ := args
    match L, hs with
    | [w0, w1], _ => exact ⟨w0, w1, rfl⟩
  have hw := fun d (hd : d ∈ tables_1) => atoms_spec (ws := Jvm.Cond.code x code maxLocals ret :: tables_1) hat d (List.mem_cons_of_mem _ hd)
  obtain ⟨i0, ei0⟩ := is_v q1
  obtain rfl : w0 = (.int i0) := Option.some.inj ei0
  obtain ⟨i1, ei1⟩ := is_v r1
  obtain rfl : w1 = (.int i1) := Option.some.inj ei1
  obtain ⟨n, o, h1, h2, h3, _, L, rfl, ⟨rfl, N⟩, hq⟩ := own_rm0 l s _ hw tables_1 i0 i1 s.heap s.heap.size (Nat.le_refl _) p e ha hc hk s m _ below hf ((Spec.applies_iff_loose hf).mp happ).1 ⟨rfl, State.Warmed39.refl s, rfl⟩ trivial
  refine ⟨n, _, h1, h2, h3, hpost _ _ _ _ _ _ ⟨Cond.after_iff.mpr rfl, Cond.after_iff.mpr (eq_i res_at (Term.int_eval (1)) rfl), trivial⟩ ⟨hq.1, hq.2.1, (hq.2.2.sift fun y hy => Or.inr (N y hy)).mono (by decide) (by decide)⟩⟩
theorem main_1_1 : Claimed_1_1 := own_comes fun _ _ _ _ _ _ h hF => ⟨h.1, hF⟩
theorem main_1_2 : Claimed_1_2 := own_comes fun _ _ _ _ _ _ h hF => ⟨h.2.1, hF⟩
end Jvm.Pilot.@@N@@
namespace Jvm.Pilot.@@N@@
open Jvm Jvm.ClassFile Sem Op Lib Jvm.Free Jvm.Stand Jvm.Pilot.@@N@@.Jvm.D
/-! MADE BY PROGRAM (witnessworld.py) out of the Statement's table words and the real class files: 12 classes; the members and pool entries that the words name. The judged class is class 1, her method 1. -/
namespace start1
open Jvm.ClassFile
def u (s : String) : CpInfo := .utf8 (stringToUtf16 s)
/-- a pool by its gaps: so many unusable entries, then the entry; so many at the end -/
def gap : Nat → List CpInfo → List CpInfo
  | 0, r => r
  | n + 1, r => .unusable :: gap n r
def poolList (es : List (Nat × CpInfo)) (last : Nat) : List CpInfo := es.foldr (fun e r => gap e.1 (e.2 :: r)) (gap last [])
def pool (es : List (Nat × CpInfo)) (last : Nat) : Array CpInfo := ⟨poolList es last⟩
def fileOf (pool : Array CpInfo) (this : Nat) (attrs : Array Attribute := #[]) (ms : Array MethodInfo := #[]) (fl : Nat := 33) (sup : Nat := 0) (ifs : Array Nat := #[]) (fds : Array FieldInfo := #[]) : ClassFile where
  minorVersion := 0
  majorVersion := 65
  constantPool := pool
  accessFlags := fl
  thisClass := this
  superClass := sup
  interfaces := ifs
  fields := fds
  methods := ms
  attributes := attrs
def plain (name : String) (sup : Option ClassId) : Class where
  name := name
  kind := .ordinary
  loader := none
  accessFlags := 33
  super := sup
  interfaces := #[]
  cf := none
  fields := #[]
  methods := #[]
  instanceTypes := #[]
  staticTypes := #[]
  resolved := #[]
  callSites := []
  init := .initialized
  statics := none
  mirror := none

def pool0 : Array CpInfo := pool [(5, u "<init>"), (0, u "()V"), (1, .class_ 10), (1, u "java/lang/Object")] 113

def k0c0 : Code := { maxStack := 0, maxLocals := 1, code := object_method_1_code, exceptionTable := #[], attributes := #[] }
def k0m0 : Method := { name := "<init>", desc := "()V", sig := { parameters := [], returnType := none }, accessFlags := 1, code := some k0c0 }
/-- java/lang/Object -/
def k0 : Class := { plain "java/lang/Object" none with
  accessFlags := 33
  interfaces := #[]
  cf := some (fileOf pool0 8 #[] #[{ accessFlags := 1, nameIndex := 5, descriptorIndex := 6, attributes := #[] }] 33 0 #[] #[])
  fields := #[]
  methods := #[k0m0]
  instanceTypes := #[]
  staticTypes := #[]
  resolved := Array.replicate 124 none
  statics := none }

def pool1 : Array CpInfo := pool [(2, .class_ 4), (1, u "java/lang/Object"), (0, u "<init>"), (0, u "()V"), (2, .long 2147483647), (1, .long 18446744071562067968), (1, .class_ 14), (0, u "com/example/muster/muster/core/Points"), (0, .methodref 13 16), (0, .nameAndType 5 17), (0, u "(I)V"), (0, .methodref 13 19), (0, .nameAndType 20 21), (0, u "plus"), (0, u "(Lcom/example/muster/muster/core/Points;)Lcom/example/muster/muster/core/Points;"), (0, .methodref 13 23), (0, .nameAndType 24 25), (0, u "halves"), (0, u "()I"), (0, .class_ 27), (0, u "com/example/muster/muster/core/PointsPlusPinLaw"), (2, u "law"), (0, u "(II)Z")] 3

def k1m0 : Method := { name := "<init>", desc := "()V", sig := { parameters := [], returnType := none }, accessFlags := 1, code := none }
def k1c1 : Code := { maxStack := 4, maxLocals := 7, code := code, exceptionTable := #[], attributes := #[] }
def k1m1 : Method := { name := "law", desc := "(II)Z", sig := { parameters := [.int, .int], returnType := some .boolean }, accessFlags := 9, code := some k1c1 }
/-- com/example/muster/muster/core/PointsPlusPinLaw -/
def k1 : Class := { plain "com/example/muster/muster/core/PointsPlusPinLaw" (some 0) with
  accessFlags := 49
  interfaces := #[]
  cf := some (fileOf pool1 26 #[] #[{ accessFlags := 1, nameIndex := 5, descriptorIndex := 6, attributes := #[] }, { accessFlags := 9, nameIndex := 30, descriptorIndex := 31, attributes := #[] }] 49 2 #[] #[])
  fields := #[]
  methods := #[k1m0, k1m1]
  instanceTypes := #[]
  staticTypes := #[]
  resolved := Array.replicate 35 none
  statics := none }

def pool2 : Array CpInfo := pool [(1, .methodref 2 3), (0, .class_ 4), (0, .nameAndType 5 6), (0, u "java/lang/Object"), (0, u "<init>"), (0, u "()V"), (0, .class_ 8), (0, u "java/lang/Record")] 13

def k2c0 : Code := { maxStack := 1, maxLocals := 1, code := jdk_30_method_1_code, exceptionTable := #[], attributes := #[] }
def k2m0 : Method := { name := "<init>", desc := "()V", sig := { parameters := [], returnType := none }, accessFlags := 4, code := some k2c0 }
/-- java/lang/Record -/
def k2 : Class := { plain "java/lang/Record" (some 0) with
  accessFlags := 1057
  interfaces := #[]
  cf := some (fileOf pool2 7 #[] #[{ accessFlags := 4, nameIndex := 5, descriptorIndex := 6, attributes := #[] }] 1057 2 #[] #[])
  fields := #[]
  methods := #[k2m0]
  instanceTypes := #[]
  staticTypes := #[]
  resolved := Array.replicate 22 none
  statics := none }

def pool3 : Array CpInfo := pool [(1, .class_ 2), (0, u "java/lang/Comparable"), (0, .class_ 4), (0, u "java/lang/Object")] 7

/-- java/lang/Comparable -/
def k3 : Class := { plain "java/lang/Comparable" (some 0) with
  accessFlags := 1537
  interfaces := #[]
  cf := some (fileOf pool3 1 #[] #[] 1537 3 #[] #[])
  fields := #[]
  methods := #[]
  instanceTypes := #[]
  staticTypes := #[]
  resolved := Array.replicate 12 none
  statics := none }

def pool4 : Array CpInfo := pool [(1, .methodref 2 3), (0, .class_ 4), (0, .nameAndType 5 6), (0, u "java/lang/Record"), (0, u "<init>"), (0, u "()V"), (0, .fieldref 8 9), (0, .class_ 10), (0, .nameAndType 11 12), (0, u "com/example/muster/muster/core/Points"), (0, u "halves"), (0, u "I"), (1, .class_ 16), (1, u "java/lang/Math"), (1, u "(II)I"), (0, .methodref 8 20), (0, .nameAndType 5 21), (0, u "(I)V"), (0, .methodref 14 23), (0, .nameAndType 24 18), (0, u "addExact"), (33, u "ZERO"), (0, u "Lcom/example/muster/muster/core/Points;"), (0, .class_ 61), (0, u "java/lang/Comparable"), (5, u "plus"), (0, u "(Lcom/example/muster/muster/core/Points;)Lcom/example/muster/muster/core/Points;"), (5, u "()I")] 34

def k4c0 : Code := { maxStack := 2, maxLocals := 2, code := prog_10_method_1_code, exceptionTable := #[], attributes := #[] }
def k4m0 : Method := { name := "<init>", desc := "(I)V", sig := { parameters := [.int], returnType := none }, accessFlags := 1, code := some k4c0 }
def k4c1 : Code := { maxStack := 4, maxLocals := 2, code := prog_10_method_3_code, exceptionTable := #[], attributes := #[] }
def k4m1 : Method := { name := "plus", desc := "(Lcom/example/muster/muster/core/Points;)Lcom/example/muster/muster/core/Points;", sig := { parameters := [(.object "com/example/muster/muster/core/Points")], returnType := some (.object "com/example/muster/muster/core/Points") }, accessFlags := 1, code := some k4c1 }
def k4c2 : Code := { maxStack := 1, maxLocals := 1, code := prog_10_method_8_code, exceptionTable := #[], attributes := #[] }
def k4m2 : Method := { name := "halves", desc := "()I", sig := { parameters := [], returnType := some .int }, accessFlags := 1, code := some k4c2 }
/-- com/example/muster/muster/core/Points -/
def k4 : Class := { plain "com/example/muster/muster/core/Points" (some 2) with
  accessFlags := 49
  interfaces := #[3]
  cf := some (fileOf pool4 8 #[] #[{ accessFlags := 1, nameIndex := 5, descriptorIndex := 21, attributes := #[] }, { accessFlags := 1, nameIndex := 67, descriptorIndex := 68, attributes := #[] }, { accessFlags := 1, nameIndex := 11, descriptorIndex := 74, attributes := #[] }] 49 2 #[60] #[{ accessFlags := 18, nameIndex := 11, descriptorIndex := 12, attributes := #[] }, { accessFlags := 25, nameIndex := 58, descriptorIndex := 59, attributes := #[] }])
  fields := #[{ name := "halves", type := .int, accessFlags := 18, slot := 0, constantValue := 0 }, { name := "ZERO", type := (.object "com/example/muster/muster/core/Points"), accessFlags := 25, slot := 0, constantValue := 0 }]
  methods := #[k4m0, k4m1, k4m2]
  instanceTypes := #[.int]
  staticTypes := #[(.object "com/example/muster/muster/core/Points")]
  resolved := Array.replicate 109 none
  statics := none }

def pool5 : Array CpInfo := pool [(1, .class_ 2), (0, u "java/lang/Math"), (1, .class_ 6), (1, u "java/lang/Object"), (0, u "<init>"), (0, u "()V"), (89, .class_ 100), (1, u "java/lang/Math$RandomNumberGeneratorHolder"), (71, u "negativeZeroFloatBits"), (0, u "J"), (2, u "negativeZeroDoubleBits"), (68, u "$assertionsDisabled"), (0, u "Z"), (88, u "(II)I"), (2, u "twoToTheDoubleScaleDown"), (0, u "D"), (4, u "twoToTheDoubleScaleUp"), (9, u "E"), (3, u "PI"), (2, u "TAU"), (2, u "DEGREES_TO_RADIANS"), (0, u "RADIANS_TO_DEGREES"), (27, u "addExact")] 66

def k5m0 : Method := { name := "<init>", desc := "()V", sig := { parameters := [], returnType := none }, accessFlags := 2, code := none }
def k5c1 : Code := { maxStack := 3, maxLocals := 3, code := jdk_29_method_24_code, exceptionTable := #[], attributes := #[] }
def k5m1 : Method := { name := "addExact", desc := "(II)I", sig := { parameters := [.int, .int], returnType := some .int }, accessFlags := 9, code := some k5c1 }
/-- java/lang/Math -/
def k5 : Class := { plain "java/lang/Math" (some 0) with
  accessFlags := 49
  interfaces := #[]
  cf := some (fileOf pool5 1 #[.nestMembers #[98]] #[{ accessFlags := 2, nameIndex := 7, descriptorIndex := 8, attributes := #[] }, { accessFlags := 9, nameIndex := 393, descriptorIndex := 335, attributes := #[] }] 49 4 #[] #[{ accessFlags := 25, nameIndex := 354, descriptorIndex := 339, attributes := #[] }, { accessFlags := 25, nameIndex := 358, descriptorIndex := 339, attributes := #[] }, { accessFlags := 25, nameIndex := 361, descriptorIndex := 339, attributes := #[] }, { accessFlags := 26, nameIndex := 364, descriptorIndex := 339, attributes := #[] }, { accessFlags := 26, nameIndex := 365, descriptorIndex := 339, attributes := #[] }, { accessFlags := 26, nameIndex := 172, descriptorIndex := 173, attributes := #[] }, { accessFlags := 26, nameIndex := 176, descriptorIndex := 173, attributes := #[] }, { accessFlags := 8, nameIndex := 344, descriptorIndex := 339, attributes := #[] }, { accessFlags := 8, nameIndex := 338, descriptorIndex := 339, attributes := #[] }, { accessFlags := 4120, nameIndex := 245, descriptorIndex := 246, attributes := #[] }])
  fields := #[{ name := "E", type := .double, accessFlags := 25, slot := 0, constantValue := 0 }, { name := "PI", type := .double, accessFlags := 25, slot := 1, constantValue := 0 }, { name := "TAU", type := .double, accessFlags := 25, slot := 2, constantValue := 0 }, { name := "DEGREES_TO_RADIANS", type := .double, accessFlags := 26, slot := 3, constantValue := 0 }, { name := "RADIANS_TO_DEGREES", type := .double, accessFlags := 26, slot := 4, constantValue := 0 }, { name := "negativeZeroFloatBits", type := .long, accessFlags := 26, slot := 5, constantValue := 0 }, { name := "negativeZeroDoubleBits", type := .long, accessFlags := 26, slot := 6, constantValue := 0 }, { name := "twoToTheDoubleScaleUp", type := .double, accessFlags := 8, slot := 7, constantValue := 0 }, { name := "twoToTheDoubleScaleDown", type := .double, accessFlags := 8, slot := 8, constantValue := 0 }, { name := "$assertionsDisabled", type := .boolean, accessFlags := 4120, slot := 9, constantValue := 0 }]
  methods := #[k5m0, k5m1]
  instanceTypes := #[]
  staticTypes := #[.double, .double, .double, .double, .double, .long, .long, .double, .double, .boolean]
  resolved := Array.replicate 460 none
  statics := none }

def pool6 : Array CpInfo := pool [(1, u "java/lang/Cloneable"), (0, .class_ 1), (0, u "java/lang/Object"), (0, .class_ 3)] 3

/-- java/lang/Cloneable -/
def k6 : Class := { plain "java/lang/Cloneable" (some 0) with
  accessFlags := 1537
  interfaces := #[]
  cf := some (fileOf pool6 2 #[] #[] 1537 4 #[] #[])
  fields := #[]
  methods := #[]
  instanceTypes := #[]
  staticTypes := #[]
  resolved := Array.replicate 8 none
  statics := none }

def pool7 : Array CpInfo := pool [(1, u "java/io/Serializable"), (0, .class_ 1), (0, u "java/lang/Object"), (0, .class_ 3)] 3

/-- java/io/Serializable -/
def k7 : Class := { plain "java/io/Serializable" (some 0) with
  accessFlags := 1537
  interfaces := #[]
  cf := some (fileOf pool7 2 #[] #[] 1537 4 #[] #[])
  fields := #[]
  methods := #[]
  instanceTypes := #[]
  staticTypes := #[]
  resolved := Array.replicate 8 none
  statics := none }

/-- the primitive byte -/
def k8 : Class := { plain "byte" none with kind := .primitive 'B', accessFlags := 0x411 }
/-- [B -/
def k9 : Class := { plain "[B" (some 0) with kind := .array 8 .byte, interfaces := #[6, 7], accessFlags := 1041 }

/-- the primitive int -/
def k10 : Class := { plain "int" none with kind := .primitive 'I', accessFlags := 0x411 }
/-- [I -/
def k11 : Class := { plain "[I" (some 0) with kind := .array 10 .int, interfaces := #[6, 7], accessFlags := 1041 }

def heap : Heap := #[]
def classes : Array Class := #[k0, k1, k2, k3, k4, k5, k6, k7, k8, k9, k10, k11]
def interned : List (Array UInt16 × Addr) := []
def slotsUsed : Nat := 0
def theMethod : MethodId := ⟨1, 1⟩
def args0 : Array Value := #[.int 5, .int 7]
def aboutOver (below : List Frame) : State where
  vm := { classes := classes, interned := interned.toArray }
  heap := heap
  slotsUsed := slotsUsed
  threads := #[{ frames := .invoking theMethod args0 :: below }]
def below0 : List Frame := [.native { method := ⟨0, 0⟩, args := #[] }]
def about1 : State := aboutOver below0
def p0 : Program := .bare "" "" ""
def e0 : Env := launch0.env 0 0 0
theorem w_frames : about1.frames = Frame.invoking theMethod args0 :: below0 := rfl
set_option maxRecDepth 65536 in
theorem w_args : argsFit about1.vm theMethod args0 = true := by decide +kernel
set_option maxRecDepth 65536 in
theorem w_heap : heapFits about1 = true := by decide +kernel
set_option maxRecDepth 65536 in
theorem w_runnable : about1.curStatus? = some .runnable := by decide +kernel
set_option maxRecDepth 65536 in
theorem w_alone : about1.alone = true := by decide +kernel
set_option maxRecDepth 65536 in
theorem w_named : about1.methodNamed? x = some theMethod := by decide +kernel
set_option maxRecDepth 65536 in
theorem w_hears : about1.hears theMethod below0 = true := by decide +kernel
set_option maxRecDepth 65536 in
theorem w_ripe : about1.ripe theMethod args0 below0 = true := by decide +kernel
theorem w_running : about1.status = .running := rfl
set_option maxRecDepth 65536 in
theorem w_room : about1.hasRoom e0.platform room_1 = true :=
  launch0.hasRoom_least _ room_1 (by decide +kernel) (by decide +kernel) (by decide +kernel) (by decide +kernel) (by decide +kernel) (by decide +kernel)
theorem allAtoms_all (ts : List Jvm.Cond) (a : Array Jvm.Value) (st : Jvm.State) : (allAtoms ts).before a st = ts.all (fun c => c.before a st) := by
  induction ts with
  | nil => rfl
  | cons c t ih =>
    show (Jvm.Cond.and c (allAtoms t)).before a st = _
    rw [Jvm.Cond.before_and, ih, List.all_cons]
def words1 : List Jvm.Cond := Jvm.Cond.code x code maxLocals ret :: tables_1
/-- a 'code' word, met by the world's own term for the bytes: nothing is compared byte by byte -/
theorem code_word {y : MethodName} {bytes : ByteArray} {mx : Nat} {rt : Option FieldType} {a : Array Value} {s : State} {m : MethodId} {meth : Method} {c : Code} (h1 : s.methodNamed? y = some m) (h2 : s.vm.method? m = some meth) (h3 : meth.code = some c) (h4 : c.code = bytes)
    (h5 : (c.maxLocals == mx && c.exceptionTable.isEmpty && decide (c.maxStack ≤ mostOperands) && decide (meth.sig.returnType = rt) && !meth.locks && decide (parseMethodDescriptor y.desc = some meth.sig)) = true) : (Jvm.Cond.code y bytes mx rt).before a s = true := by
  simp only [Bool.and_eq_true, beq_iff_eq, Bool.not_eq_true', decide_eq_true_eq] at h5
  obtain ⟨⟨⟨⟨⟨g1, g2⟩, g3⟩, g4⟩, g5⟩, g6⟩ := h5
  simp [Cond.before, Cond.holds, Cond.value, h1, h2, h3, h4, g1, g2, g3, g4, g5, g6]
def isCode : Jvm.Cond → Bool
  | .code _ _ _ _ => true
  | _ => false
theorem all_split {L : List Jvm.Cond} {P : Jvm.Cond → Bool} (h1 : L.all (fun c => isCode c || P c) = true) (h2 : ∀ c ∈ L.filter isCode, P c = true) : L.all P = true := by
  refine List.all_eq_true.mpr fun c hc => ?_
  have h := List.all_eq_true.mp h1 c hc
  rcases Bool.eq_false_or_eq_true (isCode c) with hi | hi
  · exact h2 c (List.mem_filter.mpr ⟨hc, hi⟩)
  · simpa [hi] using h
set_option maxRecDepth 65536 in
theorem w_c0 : (Jvm.Cond.code x code maxLocals ret).before args0 about1 = true := code_word (m := ⟨1, 1⟩) (meth := k1m1) (c := k1c1) (by decide +kernel) rfl rfl rfl (by decide +kernel)
set_option maxRecDepth 65536 in
theorem w_c1 : (Jvm.Cond.code ({ cls := "com/example/muster/muster/core/Points", name := "<init>", desc := "(I)V" } : Jvm.MethodName) prog_10_method_1_code (2 : Nat) (Option.none : Option Jvm.ClassFile.FieldType)).before args0 about1 = true := code_word (m := ⟨4, 0⟩) (meth := k4m0) (c := k4c0) (by decide +kernel) rfl rfl rfl (by decide +kernel)
set_option maxRecDepth 65536 in
theorem w_c2 : (Jvm.Cond.code ({ cls := "java/lang/Record", name := "<init>", desc := "()V" } : Jvm.MethodName) jdk_30_method_1_code (1 : Nat) (Option.none : Option Jvm.ClassFile.FieldType)).before args0 about1 = true := code_word (m := ⟨2, 0⟩) (meth := k2m0) (c := k2c0) (by decide +kernel) rfl rfl rfl (by decide +kernel)
set_option maxRecDepth 65536 in
theorem w_c3 : (Jvm.Cond.code ({ cls := "java/lang/Object", name := "<init>", desc := "()V" } : Jvm.MethodName) object_method_1_code (1 : Nat) (Option.none : Option Jvm.ClassFile.FieldType)).before args0 about1 = true := code_word (m := ⟨0, 0⟩) (meth := k0m0) (c := k0c0) (by decide +kernel) rfl rfl rfl (by decide +kernel)
set_option maxRecDepth 65536 in
theorem w_c4 : (Jvm.Cond.code ({ cls := "com/example/muster/muster/core/Points", name := "plus", desc := "(Lcom/example/muster/muster/core/Points;)Lcom/example/muster/muster/core/Points;" } : Jvm.MethodName) prog_10_method_3_code (2 : Nat) (Option.some (Jvm.ClassFile.FieldType.object "com/example/muster/muster/core/Points"))).before args0 about1 = true := code_word (m := ⟨4, 1⟩) (meth := k4m1) (c := k4c1) (by decide +kernel) rfl rfl rfl (by decide +kernel)
set_option maxRecDepth 65536 in
theorem w_c5 : (Jvm.Cond.code ({ cls := "java/lang/Math", name := "addExact", desc := "(II)I" } : Jvm.MethodName) jdk_29_method_24_code (3 : Nat) (Option.some Jvm.ClassFile.FieldType.int)).before args0 about1 = true := code_word (m := ⟨5, 1⟩) (meth := k5m1) (c := k5c1) (by decide +kernel) rfl rfl rfl (by decide +kernel)
set_option maxRecDepth 65536 in
theorem w_c6 : (Jvm.Cond.code ({ cls := "com/example/muster/muster/core/Points", name := "halves", desc := "()I" } : Jvm.MethodName) prog_10_method_8_code (1 : Nat) (Option.some Jvm.ClassFile.FieldType.int)).before args0 about1 = true := code_word (m := ⟨4, 2⟩) (meth := k4m2) (c := k4c2) (by decide +kernel) rfl rfl rfl (by decide +kernel)
def codes1 : List Jvm.Cond := [Jvm.Cond.code x code maxLocals ret, Jvm.Cond.code ({ cls := "com/example/muster/muster/core/Points", name := "<init>", desc := "(I)V" } : Jvm.MethodName) prog_10_method_1_code (2 : Nat) (Option.none : Option Jvm.ClassFile.FieldType), Jvm.Cond.code ({ cls := "java/lang/Record", name := "<init>", desc := "()V" } : Jvm.MethodName) jdk_30_method_1_code (1 : Nat) (Option.none : Option Jvm.ClassFile.FieldType), Jvm.Cond.code ({ cls := "java/lang/Object", name := "<init>", desc := "()V" } : Jvm.MethodName) object_method_1_code (1 : Nat) (Option.none : Option Jvm.ClassFile.FieldType), Jvm.Cond.code ({ cls := "com/example/muster/muster/core/Points", name := "plus", desc := "(Lcom/example/muster/muster/core/Points;)Lcom/example/muster/muster/core/Points;" } : Jvm.MethodName) prog_10_method_3_code (2 : Nat) (Option.some (Jvm.ClassFile.FieldType.object "com/example/muster/muster/core/Points")), Jvm.Cond.code ({ cls := "java/lang/Math", name := "addExact", desc := "(II)I" } : Jvm.MethodName) jdk_29_method_24_code (3 : Nat) (Option.some Jvm.ClassFile.FieldType.int), Jvm.Cond.code ({ cls := "com/example/muster/muster/core/Points", name := "halves", desc := "()I" } : Jvm.MethodName) prog_10_method_8_code (1 : Nat) (Option.some Jvm.ClassFile.FieldType.int)]
set_option maxRecDepth 65536 in
theorem codes_eq : words1.filter isCode = codes1 := rfl
theorem w_codes : ∀ c ∈ words1.filter isCode, c.before args0 about1 = true := by
  rw [codes_eq]
  intro c hc
  simp only [codes1, List.mem_cons, List.not_mem_nil, or_false] at hc
  rcases hc with rfl | rfl | rfl | rfl | rfl | rfl | rfl
  · exact w_c0
  · exact w_c1
  · exact w_c2
  · exact w_c3
  · exact w_c4
  · exact w_c5
  · exact w_c6
set_option maxRecDepth 65536 in
theorem w_t1 : (words1.take 24).all (fun c => isCode c || c.before args0 about1) = true := by decide +kernel
set_option maxRecDepth 65536 in
theorem w_t2 : (words1.drop 24).all (fun c => isCode c || c.before args0 about1) = true := by decide +kernel
theorem w_tables : (allAtoms (Jvm.Cond.code x code maxLocals ret :: tables_1)).before args0 about1 = true := by
  rw [allAtoms_all]
  show words1.all (fun c => c.before args0 about1) = true
  refine all_split ?_ w_codes
  rw [← List.take_append_drop 24 words1, List.all_append, w_t1, w_t2]
  rfl
set_option maxRecDepth 65536 in
theorem w_case : (Jvm.Cond.and given_1 narrow_1).before args0 about1 = true := by decide +kernel
theorem w_applies : (headSpec (Jvm.Cond.code x code maxLocals ret :: tables_1) room_1).applies x e0.platform about1 = true :=
  (Spec.applies_iff w_frames).mpr ⟨w_running, w_runnable, w_alone, w_named, w_hears, w_ripe, w_room, w_tables⟩
theorem atStart : AtStart classFile x code maxLocals ret World_1 tables_1 room_1 Calls_1 rest_1 Pre_1 launch0 p0 e0 about1 theMethod args0 below0 :=
  ⟨lists_1, trivial, launch0.admits_env _ _ _, launch0.least_env, fairChoices_fair.cas, fairChoices_fair.clock, w_frames, w_args, w_heap, w_applies, trivial, trivial, w_case⟩
end start1
theorem witness_1 : WitnessClaimed_1 := ⟨start1.p0, start1.e0, start1.about1, start1.theMethod, start1.args0, start1.below0, start1.atStart⟩
end Jvm.Pilot.@@N@@
