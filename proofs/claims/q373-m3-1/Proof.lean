import JvmDerived
import JvmDerived.Pilot.@@N@@Statement
import JvmDerived.Pilot.@@N@@Code
set_option linter.unusedVariables false
set_option linter.unusedSimpArgs false
namespace Jvm.Pilot.@@N@@
open Jvm Jvm.ClassFile Sem Op Lib Jvm.Free Jvm.Stand Jvm.LawKit Jvm.RoadKit Bundle Jvm.Pilot.@@N@@.Jvm.D
section Own
variable {p : Program} {l : Launch} {e : Env} {R : Room} {s : State} {m : MethodId} {args : Array Value} {below : List Frame} {meth : Method} {c : Code} {T T' : State} {locs : List Loc} {cells slots : Nat}
variable {F : Outcome → State → List Loc → Prop} {Q : Option Value → Heap → List Loc → Prop} {ck sk : Nat} {g g' : JFrame}
def own_F (s : State) (ck sk : Nat) (o : Outcome) (t : State) (L : List Loc) : Prop := FrameEnd s o t L ck sk
/-- from the state T with the frame g on top the method comes to its end, and Q holds of what it returns, of the heap and of the places written -/
def own_E (p : Program) (e : Env) (below : List Frame) (F : Outcome → State → List Loc → Prop) (Q : Option Value → Heap → List Loc → Prop) (T : State) (g : JFrame) : Prop :=
  ∃ s₂ o, Steps p.tables e below (T.setTop g) s₂ ∧ s₂.status = .running ∧ Ended s₂ below o ∧ ∃ v L, o = .returned v ∧ Q v s₂.heap L ∧ F o s₂ L
theorem own_step (st : ∀ t, Steps p.tables e below (T'.setTop g') t → Steps p.tables e below (T.setTop g) t) (k : own_E p e below F Q T' g') : own_E p e below F Q T g := by
  obtain ⟨s2, o, h, r⟩ := k
  exact ⟨s2, o, st _ h, r⟩
theorem own_cast (q : g = g') (k : own_E p e below F Q T g') : own_E p e below F Q T g := q ▸ k
theorem own_ret (X : Stand p l e R s m args below meth c T locs cells slots) (hx : p.tables.exec = Jvm.exec) (hlk : meth.locks = false) {pc : Nat} {Ls : Array Slot} {w : Value} {t : FieldType} {i : Instr} {rest : List Value} (hret : meth.sig.returnType = some t)
    (hi : (i = .ireturn ∧ (t = .int ∨ t = .boolean ∨ t = .byte ∨ t = .char ∨ t = .short) ∧ ∃ z, w = .int z) ∨ (i = .lreturn ∧ t = .long ∧ ∃ z, w = .long z) ∨ (i = .dreturn ∧ t = .double ∧ ∃ z, w = .double z) ∨ (i = .freturn ∧ t = .float ∧ ∃ z, w = .float z) ∨ (i = .areturn ∧ t.isReference = true ∧ w.isRef = true))
    (hd : decode c.code pc = .ok (i, 1)) (hn : narrow t w = w) (hc : cells ≤ ck) (hs : slots ≤ sk) (hQ : Q (some w) T.heap locs) : own_E p e below (own_F s ck sk) Q T (mkF m pc Ls (w :: rest)) := by
  obtain ⟨fs, hr, hrun, hended, hW, hsame⟩ := X.leave (v := some w) (fun h => by rw [hret] at h; cases h) hlk
  exact ⟨_, _, retOut X hx hret hn hi hd hr, hrun, hended, _, _, rfl, hQ, ⟨_, rfl⟩, hW, hsame.mono hc hs⟩
theorem own_retI (X : Stand p l e R s m args below meth c T locs cells slots) (hx : p.tables.exec = Jvm.exec) (hlk : meth.locks = false) {pc : Nat} {Ls : Array Slot} {z : Int32} {t : FieldType} {rest : List Value} (hret : meth.sig.returnType = some t)
    (ht : t = .int ∨ t = .boolean ∨ t = .byte ∨ t = .char ∨ t = .short) (hd : decode c.code pc = .ok (.ireturn, 1)) (hn : narrow t (.int z) = .int z) (hc : cells ≤ ck) (hs : slots ≤ sk) (hQ : Q (some (.int z)) T.heap locs) : own_E p e below (own_F s ck sk) Q T (mkF m pc Ls (.int z :: rest)) :=
  own_ret X hx hlk hret (Or.inl ⟨rfl, ht, z, rfl⟩) hd hn hc hs hQ
theorem own_retJ (X : Stand p l e R s m args below meth c T locs cells slots) (hx : p.tables.exec = Jvm.exec) (hlk : meth.locks = false) {pc : Nat} {Ls : Array Slot} {z : Int64} {rest : List Value} (hret : meth.sig.returnType = some .long)
    (hd : decode c.code pc = .ok (.lreturn, 1)) (hc : cells ≤ ck) (hs : slots ≤ sk) (hQ : Q (some (.long z)) T.heap locs) : own_E p e below (own_F s ck sk) Q T (mkF m pc Ls (.long z :: rest)) :=
  own_ret X hx hlk hret (Or.inr (Or.inl ⟨rfl, rfl, z, rfl⟩)) hd rfl hc hs hQ
theorem own_retA (X : Stand p l e R s m args below meth c T locs cells slots) (hx : p.tables.exec = Jvm.exec) (hlk : meth.locks = false) {pc : Nat} {Ls : Array Slot} {a : Addr} {C : String} {rest : List Value} (hret : meth.sig.returnType = some (.object C))
    (hd : decode c.code pc = .ok (.areturn, 1)) (hc : cells ≤ ck) (hs : slots ≤ sk) (hQ : Q (some (.ref a)) T.heap locs) : own_E p e below (own_F s ck sk) Q T (mkF m pc Ls (.ref a :: rest)) :=
  own_ret X hx hlk hret (Or.inr (Or.inr (Or.inr (Or.inr ⟨rfl, rfl, rfl⟩)))) hd rfl hc hs hQ
theorem own_retV (X : Stand p l e R s m args below meth c T locs cells slots) (hx : p.tables.exec = Jvm.exec) (hlk : meth.locks = false) {pc : Nat} {Ls : Array Slot} (hret : meth.sig.returnType = none)
    (hd : decode c.code pc = .ok (.return_, 1)) (hc : cells ≤ ck) (hs : slots ≤ sk) (hQ : Q none T.heap locs) : own_E p e below (own_F s ck sk) Q T (mkF m pc Ls []) := by
  obtain ⟨fs, hr, hrun, hended, hW, hsame⟩ := X.leave (v := none) (fun _ => rfl) hlk
  exact ⟨_, _, X.returnOut hx hret hd hr, hrun, hended, _, _, rfl, hQ, ⟨_, rfl⟩, hW, hsame.mono hc hs⟩
/-- forks: P first, its denial second -/
theorem own_ifY (X : Stand p l e R s m args below meth c T locs cells slots) (hx : p.tables.exec = Jvm.exec) {cd : ClassFile.Cond} {x : Int32} {rest : List Value} {o : Int} {pc0 pc1 : Nat} {Ls : Array Slot} {P : Prop} [Decidable P] (hd : decode c.code pc0 = .ok (.ifCond cd o, 3)) (hP : ifCond.holds cd x = decide P)
    (ho : 0 ≤ (pc0 : Int) + o) (hp : ((pc0 : Int) + o).toNat = pc1) (hy : P → own_E p e below F Q T (mkF m pc1 Ls rest)) (hn : ¬ P → own_E p e below F Q T (mkF m (pc0 + 3) Ls rest)) : own_E p e below F Q T (mkF m pc0 Ls (.int x :: rest)) := by
  by_cases h : P
  · exact own_step (fun t k => XS.ifYes X.here hx rfl (pc0 := pc0) (pc' := pc1) rfl hd rfl (by rw [hP]; exact decide_eq_true h) ho hp k) (hy h)
  · exact own_step (fun t k => XS.ifNo X.here hx rfl hd rfl (by rw [hP]; exact decide_eq_false h) k) (hn h)
theorem own_ifN (X : Stand p l e R s m args below meth c T locs cells slots) (hx : p.tables.exec = Jvm.exec) {cd : ClassFile.Cond} {x : Int32} {rest : List Value} {o : Int} {pc0 pc1 : Nat} {Ls : Array Slot} {P : Prop} [Decidable P] (hd : decode c.code pc0 = .ok (.ifCond cd o, 3)) (hP : ifCond.holds cd x = !decide P)
    (ho : 0 ≤ (pc0 : Int) + o) (hp : ((pc0 : Int) + o).toNat = pc1) (hy : P → own_E p e below F Q T (mkF m (pc0 + 3) Ls rest)) (hn : ¬ P → own_E p e below F Q T (mkF m pc1 Ls rest)) : own_E p e below F Q T (mkF m pc0 Ls (.int x :: rest)) :=
  own_ifY X hx (P := ¬ P) hd (by rw [hP, decide_not]) ho hp hn (fun h => hy (Decidable.of_not_not h))
theorem own_icY (X : Stand p l e R s m args below meth c T locs cells slots) (hx : p.tables.exec = Jvm.exec) {cd : ClassFile.Cond} {x y : Int32} {rest : List Value} {o : Int} {pc0 pc1 : Nat} {Ls : Array Slot} {P : Prop} [Decidable P] (hd : decode c.code pc0 = .ok (.if_icmp cd o, 3)) (hP : if_icmp.holds cd x y = decide P)
    (ho : 0 ≤ (pc0 : Int) + o) (hp : ((pc0 : Int) + o).toNat = pc1) (hy : P → own_E p e below F Q T (mkF m pc1 Ls rest)) (hn : ¬ P → own_E p e below F Q T (mkF m (pc0 + 3) Ls rest)) : own_E p e below F Q T (mkF m pc0 Ls (.int y :: .int x :: rest)) := by
  by_cases h : P
  · exact own_step (fun t k => XS.icmpYes X.here hx rfl (pc0 := pc0) (pc' := pc1) rfl hd rfl (by rw [hP]; exact decide_eq_true h) ho hp k) (hy h)
  · exact own_step (fun t k => XS.icmpNo X.here hx rfl hd rfl (by rw [hP]; exact decide_eq_false h) k) (hn h)
theorem own_icN (X : Stand p l e R s m args below meth c T locs cells slots) (hx : p.tables.exec = Jvm.exec) {cd : ClassFile.Cond} {x y : Int32} {rest : List Value} {o : Int} {pc0 pc1 : Nat} {Ls : Array Slot} {P : Prop} [Decidable P] (hd : decode c.code pc0 = .ok (.if_icmp cd o, 3)) (hP : if_icmp.holds cd x y = !decide P)
    (ho : 0 ≤ (pc0 : Int) + o) (hp : ((pc0 : Int) + o).toNat = pc1) (hy : P → own_E p e below F Q T (mkF m (pc0 + 3) Ls rest)) (hn : ¬ P → own_E p e below F Q T (mkF m pc1 Ls rest)) : own_E p e below F Q T (mkF m pc0 Ls (.int y :: .int x :: rest)) :=
  own_icY X hx (P := ¬ P) hd (by rw [hP, decide_not]) ho hp hn (fun h => hy (Decidable.of_not_not h))
theorem own_i_eq (x y : Int32) : if_icmp.holds .eq x y = decide (x = y) := by
  by_cases h : x = y
  · rw [(teq h).1, decide_eq_true h]
  · rw [(feq h).1, decide_eq_false h]
theorem own_i_ne (x y : Int32) : if_icmp.holds .ne x y = !decide (x = y) := by
  by_cases h : x = y
  · rw [(teq h).2, decide_eq_true h]; rfl
  · rw [(feq h).2, decide_eq_false h]; rfl
theorem own_i_lt (x y : Int32) : if_icmp.holds .lt x y = decide (x < y) := by
  by_cases h : x < y
  · rw [(tlt h).1, decide_eq_true h]
  · rw [(flt h).1, decide_eq_false h]
theorem own_i_ge (x y : Int32) : if_icmp.holds .ge x y = !decide (x < y) := by
  by_cases h : x < y
  · rw [(tlt h).2.1, decide_eq_true h]; rfl
  · rw [(flt h).2.1, decide_eq_false h]; rfl
theorem own_i_gt (x y : Int32) : if_icmp.holds .gt x y = decide (y < x) := by
  by_cases h : y < x
  · rw [(tlt h).2.2.1, decide_eq_true h]
  · rw [(flt h).2.2.1, decide_eq_false h]
theorem own_i_le (x y : Int32) : if_icmp.holds .le x y = !decide (y < x) := by
  by_cases h : y < x
  · rw [(tlt h).2.2.2, decide_eq_true h]; rfl
  · rw [(flt h).2.2.2, decide_eq_false h]; rfl
theorem own_z_eq (x : Int32) : ifCond.holds .eq x = decide (x = 0) := (if0 _ _).trans (own_i_eq x 0)
theorem own_z_ne (x : Int32) : ifCond.holds .ne x = !decide (x = 0) := (if0 _ _).trans (own_i_ne x 0)
theorem own_z_lt (x : Int32) : ifCond.holds .lt x = decide (x < 0) := (if0 _ _).trans (own_i_lt x 0)
theorem own_z_ge (x : Int32) : ifCond.holds .ge x = !decide (x < 0) := (if0 _ _).trans (own_i_ge x 0)
theorem own_z_gt (x : Int32) : ifCond.holds .gt x = decide (0 < x) := (if0 _ _).trans (own_i_gt x 0)
theorem own_z_le (x : Int32) : ifCond.holds .le x = !decide (0 < x) := (if0 _ _).trans (own_i_le x 0)
theorem own_l_eq (x y : Int64) : ifCond.holds .eq (lcmpW x y) = decide (x = y) := (own_z_eq _).trans (decide_eq_decide.mpr (lw_eq x y))
theorem own_l_ne (x y : Int64) : ifCond.holds .ne (lcmpW x y) = !decide (x = y) := (own_z_ne _).trans (congrArg not (decide_eq_decide.mpr (lw_eq x y)))
theorem own_l_lt (x y : Int64) : ifCond.holds .lt (lcmpW x y) = decide (x < y) := (own_z_lt _).trans (decide_eq_decide.mpr (lw_lt x y))
theorem own_l_ge (x y : Int64) : ifCond.holds .ge (lcmpW x y) = !decide (x < y) := (own_z_ge _).trans (congrArg not (decide_eq_decide.mpr (lw_lt x y)))
theorem own_l_gt (x y : Int64) : ifCond.holds .gt (lcmpW x y) = decide (y < x) := (own_z_gt _).trans (decide_eq_decide.mpr (lw_gt x y))
theorem own_l_le (x y : Int64) : ifCond.holds .le (lcmpW x y) = !decide (y < x) := (own_z_le _).trans (congrArg not (decide_eq_decide.mpr (lw_gt x y)))
/-- a condition as Java's int: 1 or 0 -/
def own_b (P : Prop) [Decidable P] : Int32 := if P then 1 else 0
theorem own_b1 {P : Prop} [Decidable P] (h : P) : own_b P = 1 := if_pos h
theorem own_b0 {P : Prop} [Decidable P] (h : ¬ P) : own_b P = 0 := if_neg h
theorem own_b_ne (P : Prop) [Decidable P] : ifCond.holds .ne (own_b P) = decide P := by
  by_cases h : P
  · rw [own_b1 h, decide_eq_true h]; rfl
  · rw [own_b0 h, decide_eq_false h]; rfl
theorem own_b_eq (P : Prop) [Decidable P] : ifCond.holds .eq (own_b P) = !decide P := by
  by_cases h : P
  · rw [own_b1 h, decide_eq_true h]; rfl
  · rw [own_b0 h, decide_eq_false h]; rfl
theorem own_bn (P : Prop) [Decidable P] : narrow .boolean (.int (own_b P)) = .int (own_b P) := by
  by_cases h : P
  · rw [own_b1 h]; rfl
  · rw [own_b0 h]; rfl
end Own
theorem own_exact (x : Int32) : (((x >>> ((1 : Int32) &&& 31)).toInt64 * (2 : Int32).toInt64).toInt32).toInt64 = (x >>> ((1 : Int32) &&& 31)).toInt64 * (2 : Int32).toInt64 := by
  have h1 := c_ishr x 1 1 (by decide)
  have b1 := x.toInt_lt; have b2 := x.le_toInt
  generalize x >>> ((1 : Int32) &&& 31) = w at *
  have e2 : ((2 : Int32).toInt64).toInt = 2 := by decide
  have h2 := c_lmul w.toInt64 (2 : Int32).toInt64
  rw [c_i2l, e2] at h2
  have h3 := c_l2i (w.toInt64 * (2 : Int32).toInt64)
  generalize w.toInt64 * (2 : Int32).toInt64 = q at *
  have g1 := q.toInt_lt; have g2 := q.le_toInt; have g3 := q.toInt32.toInt_lt; have g4 := q.toInt32.le_toInt
  rw [← Int64.toInt_inj, c_i2l]
  omega
theorem own_law (x : Int32) : (((x >>> ((1 : Int32) &&& 31)).toInt64 * (2 : Int32).toInt64).toInt32).toInt64 = (2 : Int64) * (x >>> ((1 : Int32) &&& 31)).toInt64 := by
  rw [own_exact, Int64.mul_comm]; rfl
theorem own_ef4 (m : MethodId) (x0 : Addr) : entryFrame m #[(.ref x0)] 1 = mkF m 0 #[.val (.ref x0)] [] := by first | (simp [entryFrame, mkF, argsToLocals, Value.category]; done) | rfl
def own_Q4 (Z : State) (a1 : Addr) (h0 : Heap) (n0 : Nat) (v : Option Value) (h : Heap) (L : List Loc) : Prop := v = none ∧ Fr n0 L ∧ h = h0
theorem own_pn_4 : plainName "java/lang/Record" = true := by first | (simp [plainName, overriddenIn]; done) | decide +kernel
theorem own_d4_0 : decode jdk_30_method_1_code 0 = .ok (.aload_n 0, 1) := by decide +kernel
theorem own_d4_1 : decode jdk_30_method_1_code 1 = .ok (.invokespecial 1, 3) := by decide +kernel
theorem own_d4_4 : decode jdk_30_method_1_code 4 = .ok (.return_, 1) := by decide +kernel
set_option maxRecDepth 65536 in
set_option maxHeartbeats 40000000 in
theorem own_rm4 (l : Launch) (Z : State) (a0 : Array Value) (hw : ∀ d ∈ tables_1, d.before a0 Z = true) (ws : List Jvm.Cond) (a1 : Addr) (h0 : Heap) (n0 : Nat) (Z0 : n0 ≤ h0.size)  :
    MetFree l (⟨"java/lang/Record", "<init>", "()V"⟩ : MethodName) (head1 (Jvm.Cond.code (⟨"java/lang/Record", "<init>", "()V"⟩ : MethodName) jdk_30_method_1_code 1 none :: ws) ({ frames := 1, cells := 0, slots := 0, locals := 12 } : Room)) (fun aU U => aU = #[(.ref a1)] ∧ Z.Warmed39 U.vm ∧ U.heap = h0) (fun _ _ _ _ _ => True) (fun _ U o U' => ∃ v L, o = .returned v ∧ own_Q4 Z a1 h0 n0 v U'.heap L ∧ FrameEnd U o U' L 0 0) := by
  refine MetFree.of_bodySF (plainFor_of_name own_pn_4) hisR ?_
  intro p e s m args below meth c s₁ Bd hml0 hP hK
  obtain ⟨rfl, hZ, hh⟩ := hP
  have hx := Bd.exec
  have hby := Bd.bytes
  have hml : c.maxLocals = 1 := hml0
  have hown : s.vm.findClass "java/lang/Record" = some m.cls := findClass_of_methodNamed Bd.named
  have hnm := (name_of_methodNamed Bd.named Bd.method).1
  have hlk : meth.locks = false := Bd.notSynchronized
  have hret := Bd.returns
  have X0 : Stand p l e ({ frames := 1, cells := 0, slots := 0, locals := 12 } : Room) s m #[(.ref a1)] below meth c s₁ [] 0 0 := Stand.of_body Bd
  have e0 : s₁.heap = h0 := by rw [← hh, Bd.state]; rfl
  have N0 := Fr.nil n0
  have K0 := Keep.refl h0 ([] : List Addr)
  show own_E p e below (own_F s 0 0) (own_Q4 Z a1 h0 n0) s₁ (entryFrame m #[(.ref a1)] 1)
  refine own_cast (own_ef4 m a1) ?_
  refine own_step (g' := (mkF m 1 #[.val (.ref a1)] [(.ref a1)])) (fun _ k => XS.aloadN X0.here hx rfl (hb hby own_d4_0) rfl rfl k) ?_
  obtain ⟨T1, X1, e1, st1⟩ := initO X0 hx hZ hown (hw _ (List.mem_of_getElem? (i := 18) rfl)) (hw _ (List.mem_of_getElem? (i := 19) rfl)) (hw _ (List.mem_of_getElem? (i := 20) rfl)) e0 (g := (mkF m 1 #[.val (.ref a1)] [(.ref a1)])) rfl (by rw [hml]; rfl) rfl (hb hby own_d4_1) (by decide) (W := 0) (by show 2 * 0 + _ ≤ _; exact Nat.le_of_eq rfl) (by decide)
  refine own_step (g' := (mkF m 4 #[.val (.ref a1)] [])) st1 ?_
  exact own_retV X1 hx hlk hret (hb hby own_d4_4) (by decide) (by decide) (by show own_Q4 Z a1 h0 n0 none T1.heap _; rw [e1]; exact ⟨rfl, N0, rfl⟩)
theorem own_ef3 (m : MethodId) (x0 : Addr) (x1 : Int32) : entryFrame m #[(.ref x0), (.int x1)] 2 = mkF m 0 #[.val (.ref x0), .val (.int x1)] [] := by first | (simp [entryFrame, mkF, argsToLocals, Value.category]; done) | rfl
def own_Q3 (Z : State) (a1 : Addr) (q0 : Int32) (h0 : Heap) (n0 : Nat) (v : Option Value) (h : Heap) (L : List Loc) : Prop := v = none ∧ Fr n0 L ∧ Keep h0 h [a1] ∧ Exa Z h a1 "com/example/muster/muster/core/Points" ∧ Fld Z h a1 "com/example/muster/muster/core/Points" "halves" "I" (.int q0)
theorem own_pn_3 : plainName "com/example/muster/muster/core/Points" = true := by first | (simp [plainName, overriddenIn]; done) | decide +kernel
theorem own_d3_0 : decode prog_10_method_1_code 0 = .ok (.aload_n 0, 1) := by decide +kernel
theorem own_d3_1 : decode prog_10_method_1_code 1 = .ok (.invokespecial 1, 3) := by decide +kernel
theorem own_pd__28_29V : parseMethodDescriptor "()V" = some ⟨[], none⟩ := by decide +kernel
theorem own_d3_4 : decode prog_10_method_1_code 4 = .ok (.aload_n 0, 1) := by decide +kernel
theorem own_d3_5 : decode prog_10_method_1_code 5 = .ok (.iload_n 1, 1) := by decide +kernel
theorem own_d3_6 : decode prog_10_method_1_code 6 = .ok (.putfield 7, 3) := by decide +kernel
theorem own_d3_9 : decode prog_10_method_1_code 9 = .ok (.return_, 1) := by decide +kernel
set_option maxRecDepth 65536 in
set_option maxHeartbeats 40000000 in
theorem own_rm3 (l : Launch) (Z : State) (a0 : Array Value) (hw : ∀ d ∈ tables_1, d.before a0 Z = true) (ws : List Jvm.Cond) (a1 : Addr) (q0 : Int32) (h0 : Heap) (n0 : Nat) (Z0 : n0 ≤ h0.size) (Ea : Exa Z h0 a1 "com/example/muster/muster/core/Points") (ga : n0 ≤ a1) (Fhalves : Fld Z h0 a1 "com/example/muster/muster/core/Points" "halves" "I" (.int (0 : Int32))) :
    MetFree l (⟨"com/example/muster/muster/core/Points", "<init>", "(I)V"⟩ : MethodName) (head1 (Jvm.Cond.code (⟨"com/example/muster/muster/core/Points", "<init>", "(I)V"⟩ : MethodName) prog_10_method_1_code 2 none :: ws) ({ frames := 2, cells := 0, slots := 0, locals := 24 } : Room)) (fun aU U => aU = #[(.ref a1), (.int q0)] ∧ Z.Warmed39 U.vm ∧ U.heap = h0) (fun _ _ _ _ _ => True) (fun _ U o U' => ∃ v L, o = .returned v ∧ own_Q3 Z a1 q0 h0 n0 v U'.heap L ∧ FrameEnd U o U' L 0 0) := by
  refine MetFree.of_bodySF (plainFor_of_name own_pn_3) hisR ?_
  intro p e s m args below meth c s₁ Bd hml0 hP hK
  obtain ⟨rfl, hZ, hh⟩ := hP
  have hx := Bd.exec
  have hby := Bd.bytes
  have hml : c.maxLocals = 2 := hml0
  have hown : s.vm.findClass "com/example/muster/muster/core/Points" = some m.cls := findClass_of_methodNamed Bd.named
  have hnm := (name_of_methodNamed Bd.named Bd.method).1
  have hlk : meth.locks = false := Bd.notSynchronized
  have hret := Bd.returns
  have X0 : Stand p l e ({ frames := 2, cells := 0, slots := 0, locals := 24 } : Room) s m #[(.ref a1), (.int q0)] below meth c s₁ [] 0 0 := Stand.of_body Bd
  have e0 : s₁.heap = h0 := by rw [← hh, Bd.state]; rfl
  have N0 := Fr.nil n0
  have K0 := Keep.refl h0 [a1]
  show own_E p e below (own_F s 0 0) (own_Q3 Z a1 q0 h0 n0) s₁ (entryFrame m #[(.ref a1), (.int q0)] 2)
  refine own_cast (own_ef3 m a1 q0) ?_
  refine own_step (g' := (mkF m 1 #[.val (.ref a1), .val (.int q0)] [(.ref a1)])) (fun _ k => XS.aloadN X0.here hx rfl (hb hby own_d3_0) rfl rfl k) ?_
  obtain ⟨_, _, ⟨T1, L1, k1, n1⟩, -, X1, ⟨Lc1, hQ1, l1, y1, z1⟩, st1⟩ := X0.specialBack hx (y := (⟨"java/lang/Record", "<init>", "()V"⟩ : MethodName)) rfl hown (mvT hZ (hw _ (List.mem_of_getElem? (i := 13) rfl))) (mvT hZ (hw _ (List.mem_of_getElem? (i := 14) rfl))) (mvT hZ (hw _ (List.mem_of_getElem? (i := 17) rfl))) (by decide) (backOf (W := 0) (own_rm4 l Z a0 hw [] a1 h0 n0 Z0 ) hZ (hw _ (List.mem_of_getElem? (i := 17) rfl)) (hw _ (List.mem_of_getElem? (i := 16) rfl)) (by decide) (by decide)) (g := (mkF m 1 #[.val (.ref a1), .val (.int q0)] [(.ref a1)])) rfl (by rw [hml]; rfl) (Steps.refl _) (a := a1) (argsL := []) (rest := []) (lenOf own_pd__28_29V rfl) rfl (by show 2 * 0 + _ ≤ _; exact Nat.le_of_eq rfl) (hb hby own_d3_1) (fun _ _ => ⟨rfl, e0, (by decide : 0 + 0 ≤ _), (by decide : 0 + 0 ≤ _)⟩)
  dsimp only [Pt.U, Pt.locs, Pt.cells, Pt.slots] at X1 l1 y1 z1 st1 hQ1
  subst l1 y1 z1
  obtain ⟨rfl, Nq1, e1⟩ := hQ1
  have N1 := Fr.app N0 Nq1
  refine own_step (g' := (mkF m 4 #[.val (.ref a1), .val (.int q0)] [])) (fun _ k => st1.trans k) ?_
  refine own_step (g' := (mkF m 5 #[.val (.ref a1), .val (.int q0)] [(.ref a1)])) (fun _ k => XS.aloadN X1.here hx rfl (hb hby own_d3_4) rfl rfl k) ?_
  refine own_step (g' := (mkF m 6 #[.val (.ref a1), .val (.int q0)] [(.int q0), (.ref a1)])) (fun _ k => XS.iloadN X1.here hx rfl (hb hby own_d3_5) rfl k) ?_
  obtain ⟨T2, h2, X2, e2, W2, st2⟩ := putF X1 hx hZ hown (host := "") (Or.inl (hw _ (List.mem_of_getElem? (i := 21) rfl))) Via.refl e1 Fhalves Ea (Or.inr ⟨(hw _ (List.mem_of_getElem? (i := 22) rfl)), rfl, hnm⟩) (hw _ (List.mem_of_getElem? (i := 5) rfl)) (ty := .int) (by decide) rfl rfl (g := (mkF m 6 #[.val (.ref a1), .val (.int q0)] [(.int q0), (.ref a1)])) rfl rfl (hb hby own_d3_6)
  have Fhalves_2 := Fhalves.same W2
  have Ea_2 := Ea.wr W2
  have K2 := K0.wr W2 (Or.inl (List.mem_of_getElem? (i := 0) rfl))
  have Z2 := Nat.le_trans Z0 (Keep.of_wr W2).1
  have N2 := Fr.snoc X2 N1 ga
  refine own_step (g' := (mkF m 9 #[.val (.ref a1), .val (.int q0)] [])) st2 ?_
  exact own_retV X2 hx hlk hret (hb hby own_d3_9) (by decide) (by decide) (by show own_Q3 Z a1 q0 h0 n0 none T2.heap _; rw [e2]; exact ⟨rfl, N2, K2, Ea_2, Fhalves_2⟩)
theorem own_ef2 (m : MethodId) (x0 : Int32) (x1 : Int32) : entryFrame m #[(.int x0), (.int x1)] 4 = mkF m 0 #[.val (.int x0), .val (.int x1), .unset, .unset] [] := by first | (simp [entryFrame, mkF, argsToLocals, Value.category]; done) | rfl
def own_Q2 (Z : State) (x0 : Int32) (x1 : Int32) (h0 : Heap) (n0 : Nat) (v : Option Value) (h : Heap) (L : List Loc) : Prop := v = some (.int (x0.toInt64 * x1.toInt64).toInt32) ∧ Fr n0 L ∧ h = h0
theorem own_pn_2 : plainFor (⟨"java/lang/Math", "multiplyExact", "(II)I"⟩ : MethodName) = true := by decide +kernel
theorem own_d2_0 : decode jdk_29_method_28_code 0 = .ok (.iload_n 0, 1) := by decide +kernel
theorem own_d2_1 : decode jdk_29_method_28_code 1 = .ok (.i2l, 1) := by decide +kernel
theorem own_d2_2 : decode jdk_29_method_28_code 2 = .ok (.iload_n 1, 1) := by decide +kernel
theorem own_d2_3 : decode jdk_29_method_28_code 3 = .ok (.i2l, 1) := by decide +kernel
theorem own_d2_4 : decode jdk_29_method_28_code 4 = .ok (.lmul, 1) := by decide +kernel
theorem own_d2_5 : decode jdk_29_method_28_code 5 = .ok (.lstore_n 2, 1) := by decide +kernel
theorem own_d2_6 : decode jdk_29_method_28_code 6 = .ok (.lload_n 2, 1) := by decide +kernel
theorem own_d2_7 : decode jdk_29_method_28_code 7 = .ok (.l2i, 1) := by decide +kernel
theorem own_d2_8 : decode jdk_29_method_28_code 8 = .ok (.i2l, 1) := by decide +kernel
theorem own_d2_9 : decode jdk_29_method_28_code 9 = .ok (.lload_n 2, 1) := by decide +kernel
theorem own_d2_10 : decode jdk_29_method_28_code 10 = .ok (.lcmp, 1) := by decide +kernel
theorem own_d2_11 : decode jdk_29_method_28_code 11 = .ok (.ifCond .eq 13, 3) := by decide +kernel
theorem own_d2_24 : decode jdk_29_method_28_code 24 = .ok (.lload_n 2, 1) := by decide +kernel
theorem own_d2_25 : decode jdk_29_method_28_code 25 = .ok (.l2i, 1) := by decide +kernel
theorem own_d2_26 : decode jdk_29_method_28_code 26 = .ok (.ireturn, 1) := by decide +kernel
set_option maxRecDepth 65536 in
set_option maxHeartbeats 40000000 in
theorem own_rm2 (l : Launch) (Z : State) (a0 : Array Value) (hw : ∀ d ∈ tables_1, d.before a0 Z = true) (ws : List Jvm.Cond) (x0 : Int32) (x1 : Int32) (h0 : Heap) (n0 : Nat) (Z0 : n0 ≤ h0.size) (hex : (x0.toInt64 * x1.toInt64).toInt32.toInt64 = (x0.toInt64 * x1.toInt64)) :
    MetFree l (⟨"java/lang/Math", "multiplyExact", "(II)I"⟩ : MethodName) (head1 (Jvm.Cond.code (⟨"java/lang/Math", "multiplyExact", "(II)I"⟩ : MethodName) jdk_29_method_28_code 4 (some .int) :: ws) ({ frames := 0, cells := 0, slots := 0, locals := 0 } : Room)) (fun aU U => aU = #[(.int x0), (.int x1)] ∧ Z.Warmed39 U.vm ∧ U.heap = h0) (fun _ _ _ _ _ => True) (fun _ U o U' => ∃ v L, o = .returned v ∧ own_Q2 Z x0 x1 h0 n0 v U'.heap L ∧ FrameEnd U o U' L 0 0) := by
  refine MetFree.of_bodySF own_pn_2 hisR ?_
  intro p e s m args below meth c s₁ Bd hml0 hP hK
  obtain ⟨rfl, hZ, hh⟩ := hP
  have hx := Bd.exec
  have hby := Bd.bytes
  have hml : c.maxLocals = 4 := hml0
  have hown : s.vm.findClass "java/lang/Math" = some m.cls := findClass_of_methodNamed Bd.named
  have hnm := (name_of_methodNamed Bd.named Bd.method).1
  have hlk : meth.locks = false := Bd.notSynchronized
  have hret := Bd.returns
  have X0 : Stand p l e ({ frames := 0, cells := 0, slots := 0, locals := 0 } : Room) s m #[(.int x0), (.int x1)] below meth c s₁ [] 0 0 := Stand.of_body Bd
  have e0 : s₁.heap = h0 := by rw [← hh, Bd.state]; rfl
  have N0 := Fr.nil n0
  have K0 := Keep.refl h0 ([] : List Addr)
  show own_E p e below (own_F s 0 0) (own_Q2 Z x0 x1 h0 n0) s₁ (entryFrame m #[(.int x0), (.int x1)] 4)
  refine own_cast (own_ef2 m x0 x1) ?_
  refine own_step (g' := (mkF m 1 #[.val (.int x0), .val (.int x1), .unset, .unset] [(.int x0)])) (fun _ k => XS.iloadN X0.here hx rfl (hb hby own_d2_0) rfl k) ?_
  refine own_step (g' := (mkF m 2 #[.val (.int x0), .val (.int x1), .unset, .unset] [(.long (x0.toInt64))])) (fun _ k => XS.i2l X0.here hx rfl (hb hby own_d2_1) rfl k) ?_
  refine own_step (g' := (mkF m 3 #[.val (.int x0), .val (.int x1), .unset, .unset] [(.int x1), (.long (x0.toInt64))])) (fun _ k => XS.iloadN X0.here hx rfl (hb hby own_d2_2) rfl k) ?_
  refine own_step (g' := (mkF m 4 #[.val (.int x0), .val (.int x1), .unset, .unset] [(.long (x1.toInt64)), (.long (x0.toInt64))])) (fun _ k => XS.i2l X0.here hx rfl (hb hby own_d2_3) rfl k) ?_
  refine own_step (g' := (mkF m 5 #[.val (.int x0), .val (.int x1), .unset, .unset] [(.long ((x0.toInt64) * (x1.toInt64)))])) (fun _ k => XS.lmul X0.here hx rfl (hb hby own_d2_4) rfl k) ?_
  refine own_step (g' := (mkF m 6 #[.val (.int x0), .val (.int x1), .val (.long ((x0.toInt64) * (x1.toInt64))), .second] [])) (fun _ k => XS.lstoreN X0.here hx rfl (hb hby own_d2_5) rfl (l' := #[.val (.int x0), .val (.int x1), .val (.long ((x0.toInt64) * (x1.toInt64))), .second]) rfl k) ?_
  refine own_step (g' := (mkF m 7 #[.val (.int x0), .val (.int x1), .val (.long ((x0.toInt64) * (x1.toInt64))), .second] [(.long ((x0.toInt64) * (x1.toInt64)))])) (fun _ k => XS.lloadN X0.here hx rfl (hb hby own_d2_6) rfl k) ?_
  refine own_step (g' := (mkF m 8 #[.val (.int x0), .val (.int x1), .val (.long ((x0.toInt64) * (x1.toInt64))), .second] [(.int (((x0.toInt64) * (x1.toInt64)).toInt32))])) (fun _ k => XS.l2i X0.here hx rfl (hb hby own_d2_7) rfl k) ?_
  refine own_step (g' := (mkF m 9 #[.val (.int x0), .val (.int x1), .val (.long ((x0.toInt64) * (x1.toInt64))), .second] [(.long ((((x0.toInt64) * (x1.toInt64)).toInt32).toInt64))])) (fun _ k => XS.i2l X0.here hx rfl (hb hby own_d2_8) rfl k) ?_
  refine own_step (g' := (mkF m 10 #[.val (.int x0), .val (.int x1), .val (.long ((x0.toInt64) * (x1.toInt64))), .second] [(.long ((x0.toInt64) * (x1.toInt64))), (.long ((((x0.toInt64) * (x1.toInt64)).toInt32).toInt64))])) (fun _ k => XS.lloadN X0.here hx rfl (hb hby own_d2_9) rfl k) ?_
  refine own_step (g' := (mkF m 11 #[.val (.int x0), .val (.int x1), .val (.long ((x0.toInt64) * (x1.toInt64))), .second] [(.int (lcmpW ((((x0.toInt64) * (x1.toInt64)).toInt32).toInt64) ((x0.toInt64) * (x1.toInt64))))])) (fun _ k => XS.lcmp X0.here hx rfl (hb hby own_d2_10) rfl k) ?_
  refine own_ifY X0 hx (P := (((((x0.toInt64) * (x1.toInt64)).toInt32).toInt64) = ((x0.toInt64) * (x1.toInt64)))) (hb hby own_d2_11) (own_l_eq ((((x0.toInt64) * (x1.toInt64)).toInt32).toInt64) ((x0.toInt64) * (x1.toInt64))) (by decide) (pc1 := 24) (by decide) (fun hc11 => ?_) (fun hc11 => ?_)
  · show own_E p e below (own_F s 0 0) (own_Q2 Z x0 x1 h0 n0) s₁ (mkF m 24 #[.val (.int x0), .val (.int x1), .val (.long ((x0.toInt64) * (x1.toInt64))), .second] [])
    refine own_step (g' := (mkF m 25 #[.val (.int x0), .val (.int x1), .val (.long ((x0.toInt64) * (x1.toInt64))), .second] [(.long ((x0.toInt64) * (x1.toInt64)))])) (fun _ k => XS.lloadN X0.here hx rfl (hb hby own_d2_24) rfl k) ?_
    refine own_step (g' := (mkF m 26 #[.val (.int x0), .val (.int x1), .val (.long ((x0.toInt64) * (x1.toInt64))), .second] [(.int (((x0.toInt64) * (x1.toInt64)).toInt32))])) (fun _ k => XS.l2i X0.here hx rfl (hb hby own_d2_25) rfl k) ?_
    exact own_retI X0 hx hlk hret (by simp) (hb hby own_d2_26) rfl (by decide) (by decide) (by show own_Q2 Z x0 x1 h0 n0 (some (.int (((x0.toInt64) * (x1.toInt64)).toInt32))) s₁.heap _; rw [e0]; exact ⟨rfl, N0, rfl⟩)
  · show own_E p e below (own_F s 0 0) (own_Q2 Z x0 x1 h0 n0) s₁ (mkF m 14 #[.val (.int x0), .val (.int x1), .val (.long ((x0.toInt64) * (x1.toInt64))), .second] [])
    exact absurd hex hc11
theorem own_ef1 (m : MethodId) (x0 : Int32) : entryFrame m #[(.int x0)] 1 = mkF m 0 #[.val (.int x0)] [] := by first | (simp [entryFrame, mkF, argsToLocals, Value.category]; done) | rfl
def own_Q1 (Z : State) (x0 : Int32) (h0 : Heap) (n0 : Nat) (v : Option Value) (h : Heap) (L : List Loc) : Prop := ∃ b, v = some (.ref b) ∧ Fr n0 L ∧ Keep h0 h [] ∧ h0.size ≤ b ∧ Exa Z h b "com/example/muster/muster/core/Points" ∧ Fld Z h b "com/example/muster/muster/core/Points" "halves" "I" (.int ((x0.toInt64 * (2 : Int32).toInt64).toInt32))
theorem own_pn_1 : plainName "com/example/muster/muster/core/Points" = true := by first | (simp [plainName, overriddenIn]; done) | decide +kernel
theorem own_d1_0 : decode prog_10_method_2_code 0 = .ok (.new 8, 3) := by decide +kernel
theorem own_d1_3 : decode prog_10_method_2_code 3 = .ok (.dup, 1) := by decide +kernel
theorem own_d1_4 : decode prog_10_method_2_code 4 = .ok (.iload_n 0, 1) := by decide +kernel
theorem own_d1_5 : decode prog_10_method_2_code 5 = .ok (.iconst 2, 1) := by decide +kernel
theorem own_d1_6 : decode prog_10_method_2_code 6 = .ok (.invokestatic 13, 3) := by decide +kernel
theorem own_pd__28II_29I : parseMethodDescriptor "(II)I" = some ⟨[.int, .int], some .int⟩ := by decide +kernel
theorem own_d1_9 : decode prog_10_method_2_code 9 = .ok (.invokespecial 19, 3) := by decide +kernel
theorem own_pd__28I_29V : parseMethodDescriptor "(I)V" = some ⟨[.int], none⟩ := by decide +kernel
theorem own_d1_12 : decode prog_10_method_2_code 12 = .ok (.areturn, 1) := by decide +kernel
set_option maxRecDepth 65536 in
set_option maxHeartbeats 40000000 in
theorem own_rm1 (l : Launch) (Z : State) (a0 : Array Value) (hw : ∀ d ∈ tables_1, d.before a0 Z = true) (ws : List Jvm.Cond) (x0 : Int32) (h0 : Heap) (n0 : Nat) (Z0 : n0 ≤ h0.size) (hex : ((x0.toInt64 * (2 : Int32).toInt64).toInt32).toInt64 = (x0.toInt64 * (2 : Int32).toInt64)) :
    MetFree l (⟨"com/example/muster/muster/core/Points", "of", "(I)Lcom/example/muster/muster/core/Points;"⟩ : MethodName) (head1 (Jvm.Cond.code (⟨"com/example/muster/muster/core/Points", "of", "(I)Lcom/example/muster/muster/core/Points;"⟩ : MethodName) prog_10_method_2_code 1 (some (.object "com/example/muster/muster/core/Points")) :: ws) ({ frames := 3, cells := 1, slots := 1, locals := 38 } : Room)) (fun aU U => aU = #[(.int x0)] ∧ Z.Warmed39 U.vm ∧ U.heap = h0) (fun _ _ _ _ _ => True) (fun _ U o U' => ∃ v L, o = .returned v ∧ own_Q1 Z x0 h0 n0 v U'.heap L ∧ FrameEnd U o U' L 1 1) := by
  refine MetFree.of_bodySF (plainFor_of_name own_pn_1) hisR ?_
  intro p e s m args below meth c s₁ Bd hml0 hP hK
  obtain ⟨rfl, hZ, hh⟩ := hP
  have hx := Bd.exec
  have hby := Bd.bytes
  have hml : c.maxLocals = 1 := hml0
  have hown : s.vm.findClass "com/example/muster/muster/core/Points" = some m.cls := findClass_of_methodNamed Bd.named
  have hnm := (name_of_methodNamed Bd.named Bd.method).1
  have hlk : meth.locks = false := Bd.notSynchronized
  have hret := Bd.returns
  have X0 : Stand p l e ({ frames := 3, cells := 1, slots := 1, locals := 38 } : Room) s m #[(.int x0)] below meth c s₁ [] 0 0 := Stand.of_body Bd
  have e0 : s₁.heap = h0 := by rw [← hh, Bd.state]; rfl
  have N0 := Fr.nil n0
  have K0 := Keep.refl h0 ([] : List Addr)
  show own_E p e below (own_F s 1 1) (own_Q1 Z x0 h0 n0) s₁ (entryFrame m #[(.int x0)] 1)
  refine own_cast (own_ef1 m x0) ?_
  obtain ⟨T1, h1, X1, e1, E1, A1, D1, -, st1⟩ := newO X0 hx hZ hown (hw _ (List.mem_of_getElem? (i := 4) rfl)) (hw _ (List.mem_of_getElem? (i := 5) rfl)) (hw _ (List.mem_of_getElem? (i := 2) rfl)) e0 (g := (mkF m 0 #[.val (.int x0)] [])) rfl (hb hby own_d1_0) (by decide) (by decide)
  obtain ⟨b1, g1⟩ : ∃ z, z = h0.size := ⟨_, rfl⟩
  rw [← g1] at A1 D1 st1
  have le_b1 : n0 ≤ b1 := Nat.le_trans Z0 (Nat.le_of_eq g1.symm)
  have sz_b1 : h0.size ≤ b1 := Nat.le_trans K0.1 (Nat.le_of_eq g1.symm)
  have Fhalves_b1 : Fld Z h1 b1 "com/example/muster/muster/core/Points" "halves" "I" (.int (0 : Int32)) := D1 (Or.inr (hw _ (List.mem_of_getElem? (i := 22) rfl))) (ty := .int) (by decide)
  have K1 := K0.ext E1
  have Z1 := Nat.le_trans Z0 E1.1
  refine own_step (g' := (mkF m 3 #[.val (.int x0)] [(.ref b1)])) st1 ?_
  refine own_step (g' := (mkF m 4 #[.val (.int x0)] [(.ref b1), (.ref b1)])) (fun _ k => XS.dup X1.here hx rfl (hb hby own_d1_3) rfl rfl k) ?_
  refine own_step (g' := (mkF m 5 #[.val (.int x0)] [(.int x0), (.ref b1), (.ref b1)])) (fun _ k => XS.iloadN X1.here hx rfl (hb hby own_d1_4) rfl k) ?_
  refine own_step (g' := (mkF m 6 #[.val (.int x0)] [(.int (2 : Int32)), (.int x0), (.ref b1), (.ref b1)])) (fun _ k => XS.iconst X1.here hx rfl (hb hby own_d1_5) k) ?_
  obtain ⟨_, _, ⟨T2, L2, k2, n2⟩, -, X2, ⟨Lc2, hQ2, l2, y2, z2⟩, st2⟩ := Jvm.LawKit.callS X1 hx (y := (⟨"java/lang/Math", "multiplyExact", "(II)I"⟩ : MethodName)) hown (mvT hZ (hw _ (List.mem_of_getElem? (i := 6) rfl))) (mvT hZ (hw _ (List.mem_of_getElem? (i := 7) rfl))) (mvT hZ (hw _ (List.mem_of_getElem? (i := 8) rfl))) (mvT hZ (hw _ (List.mem_of_getElem? (i := 9) rfl))) (by decide) (backOf (W := 2) (own_rm2 l Z a0 hw [] x0 (2 : Int32) h1 n0 Z1 hex) hZ (hw _ (List.mem_of_getElem? (i := 9) rfl)) (hw _ (List.mem_of_getElem? (i := 8) rfl)) (by decide) (by decide)) (g := (mkF m 6 #[.val (.int x0)] [(.int (2 : Int32)), (.int x0), (.ref b1), (.ref b1)])) rfl (by rw [hml]; rfl) (argsL := [(.int x0), (.int (2 : Int32))]) (rest := [(.ref b1), (.ref b1)]) (lenOf own_pd__28II_29I rfl) rfl (by show 2 * 0 + _ ≤ _; exact Nat.le_of_eq rfl) (hb hby own_d1_6) (fun _ _ => ⟨rfl, e1, (by decide : 1 + 0 ≤ _), (by decide : 1 + 0 ≤ _)⟩)
  dsimp only [Pt.U, Pt.locs, Pt.cells, Pt.slots] at X2 l2 y2 z2 st2 hQ2
  subst l2 y2 z2
  obtain ⟨rfl, Nq2, e2⟩ := hQ2
  have N2 := Fr.app N0 Nq2
  refine own_step (g' := (mkF m 9 #[.val (.int x0)] [(.int ((x0.toInt64 * (2 : Int32).toInt64).toInt32)), (.ref b1), (.ref b1)])) (fun _ k => st2 _ k) ?_
  obtain ⟨_, _, ⟨T3, L3, k3, n3⟩, -, X3, ⟨Lc3, hQ3, l3, y3, z3⟩, st3⟩ := X2.specialBack hx (y := (⟨"com/example/muster/muster/core/Points", "<init>", "(I)V"⟩ : MethodName)) rfl hown (mvT hZ (hw _ (List.mem_of_getElem? (i := 10) rfl))) (mvT hZ (hw _ (List.mem_of_getElem? (i := 11) rfl))) (mvT hZ (hw _ (List.mem_of_getElem? (i := 12) rfl))) (by decide) (backOf (W := 1) (own_rm3 l Z a0 hw [] b1 ((x0.toInt64 * (2 : Int32).toInt64).toInt32) h1 n0 Z1 A1 le_b1 Fhalves_b1) hZ (hw _ (List.mem_of_getElem? (i := 12) rfl)) (hw _ (List.mem_of_getElem? (i := 2) rfl)) (by decide) (by decide)) (g := (mkF m 9 #[.val (.int x0)] [(.int ((x0.toInt64 * (2 : Int32).toInt64).toInt32)), (.ref b1), (.ref b1)])) rfl (by rw [hml]; rfl) (Steps.refl _) (a := b1) (argsL := [(.int ((x0.toInt64 * (2 : Int32).toInt64).toInt32))]) (rest := [(.ref b1)]) (lenOf own_pd__28I_29V rfl) rfl (by show 2 * 0 + _ ≤ _; exact Nat.le_of_eq rfl) (hb hby own_d1_9) (fun _ _ => ⟨rfl, e2, (by decide : 1 + 0 ≤ _), (by decide : 1 + 0 ≤ _)⟩)
  dsimp only [Pt.U, Pt.locs, Pt.cells, Pt.slots] at X3 l3 y3 z3 st3 hQ3
  subst l3 y3 z3
  obtain ⟨rfl, Nq3, Kc3, Q3_0, Q3_1⟩ := hQ3
  have N3 := Fr.app N2 Nq3
  have A1_3 := A1.keep Kc3
  have K3 := K1.trans Kc3 (allS (Or.inr sz_b1) all0)
  have Z3 := Nat.le_trans Z1 Kc3.1
  refine own_step (g' := (mkF m 12 #[.val (.int x0)] [(.ref b1)])) (fun _ k => st3.trans k) ?_
  exact own_retA X3 hx hlk hret (hb hby own_d1_12) (by decide) (by decide) (by show own_Q1 Z x0 h0 n0 (some (.ref b1)) T3.heap _; exact ⟨_, rfl, N3, K3, sz_b1, Q3_0, Q3_1⟩)
theorem own_ef6 (m : MethodId) (x0 : Addr) : entryFrame m #[(.ref x0)] 1 = mkF m 0 #[.val (.ref x0)] [] := by first | (simp [entryFrame, mkF, argsToLocals, Value.category]; done) | rfl
def own_Q6 (Z : State) (a1 : Addr) (v1 : Int32) (h0 : Heap) (n0 : Nat) (v : Option Value) (h : Heap) (L : List Loc) : Prop := v = some (.int v1) ∧ Fr n0 L ∧ h = h0
theorem own_pn_6 : plainName "com/example/muster/muster/core/Points" = true := by first | (simp [plainName, overriddenIn]; done) | decide +kernel
theorem own_d6_0 : decode prog_10_method_8_code 0 = .ok (.aload_n 0, 1) := by decide +kernel
theorem own_d6_1 : decode prog_10_method_8_code 1 = .ok (.getfield 7, 3) := by decide +kernel
theorem own_d6_4 : decode prog_10_method_8_code 4 = .ok (.ireturn, 1) := by decide +kernel
set_option maxRecDepth 65536 in
set_option maxHeartbeats 40000000 in
theorem own_rm6 (l : Launch) (Z : State) (a0 : Array Value) (hw : ∀ d ∈ tables_1, d.before a0 Z = true) (ws : List Jvm.Cond) (a1 : Addr) (v1 : Int32) (h0 : Heap) (n0 : Nat) (Z0 : n0 ≤ h0.size) (Fhalves_a1 : Fld Z h0 a1 "com/example/muster/muster/core/Points" "halves" "I" (.int v1)) :
    MetFree l (⟨"com/example/muster/muster/core/Points", "halves", "()I"⟩ : MethodName) (head1 (Jvm.Cond.code (⟨"com/example/muster/muster/core/Points", "halves", "()I"⟩ : MethodName) prog_10_method_8_code 1 (some .int) :: ws) ({ frames := 0, cells := 0, slots := 0, locals := 0 } : Room)) (fun aU U => aU = #[(.ref a1)] ∧ Z.Warmed39 U.vm ∧ U.heap = h0) (fun _ _ _ _ _ => True) (fun _ U o U' => ∃ v L, o = .returned v ∧ own_Q6 Z a1 v1 h0 n0 v U'.heap L ∧ FrameEnd U o U' L 0 0) := by
  refine MetFree.of_bodySF (plainFor_of_name own_pn_6) hisR ?_
  intro p e s m args below meth c s₁ Bd hml0 hP hK
  obtain ⟨rfl, hZ, hh⟩ := hP
  have hx := Bd.exec
  have hby := Bd.bytes
  have hml : c.maxLocals = 1 := hml0
  have hown : s.vm.findClass "com/example/muster/muster/core/Points" = some m.cls := findClass_of_methodNamed Bd.named
  have hnm := (name_of_methodNamed Bd.named Bd.method).1
  have hlk : meth.locks = false := Bd.notSynchronized
  have hret := Bd.returns
  have X0 : Stand p l e ({ frames := 0, cells := 0, slots := 0, locals := 0 } : Room) s m #[(.ref a1)] below meth c s₁ [] 0 0 := Stand.of_body Bd
  have e0 : s₁.heap = h0 := by rw [← hh, Bd.state]; rfl
  have N0 := Fr.nil n0
  have K0 := Keep.refl h0 ([] : List Addr)
  show own_E p e below (own_F s 0 0) (own_Q6 Z a1 v1 h0 n0) s₁ (entryFrame m #[(.ref a1)] 1)
  refine own_cast (own_ef6 m a1) ?_
  refine own_step (g' := (mkF m 1 #[.val (.ref a1)] [(.ref a1)])) (fun _ k => XS.aloadN X0.here hx rfl (hb hby own_d6_0) rfl rfl k) ?_
  obtain ⟨T1, X1, e1, st1⟩ := getF X0 hx hZ hown (host := "") (Or.inl (hw _ (List.mem_of_getElem? (i := 21) rfl))) Via.refl e0 Fhalves_a1 (g := (mkF m 1 #[.val (.ref a1)] [(.ref a1)])) rfl rfl (hb hby own_d6_1)
  refine own_step (g' := (mkF m 4 #[.val (.ref a1)] [(.int v1)])) st1 ?_
  exact own_retI X1 hx hlk hret (by simp) (hb hby own_d6_4) rfl (by decide) (by decide) (by show own_Q6 Z a1 v1 h0 n0 (some (.int v1)) T1.heap _; rw [e1]; exact ⟨rfl, N0, rfl⟩)
theorem own_ef0 (m : MethodId) (x0 : Int32) : entryFrame m #[(.int x0)] maxLocals = mkF m 0 #[.val (.int x0), .unset, .unset, .unset, .unset] [] := by first | (simp [entryFrame, mkF, argsToLocals, Value.category, maxLocals]; done) | rfl
def own_Q0 (Z : State) (x0 : Int32) (h0 : Heap) (n0 : Nat) (v : Option Value) (h : Heap) (L : List Loc) : Prop := v = some (.int 1) ∧ Fr n0 L
theorem own_pn_0 : plainName "com/example/muster/muster/core/PointsOfPinLaw" = true := by first | (simp [plainName, overriddenIn]; done) | decide +kernel
theorem own_pd__28I_29Lcom_2fexample_2fmuster_2fmuster_2fcore_2fPoints_3b : parseMethodDescriptor "(I)Lcom/example/muster/muster/core/Points;" = some ⟨[.int], some (.object "com/example/muster/muster/core/Points")⟩ := by decide +kernel
theorem own_pd__28_29I : parseMethodDescriptor "()I" = some ⟨[], some .int⟩ := by decide +kernel
set_option maxRecDepth 65536 in
set_option maxHeartbeats 40000000 in
theorem own_rm0 (l : Launch) (Z : State) (a0 : Array Value) (hw : ∀ d ∈ tables_1, d.before a0 Z = true) (ws : List Jvm.Cond) (x0 : Int32) (h0 : Heap) (n0 : Nat) (Z0 : n0 ≤ h0.size)  :
    MetFree l x (head1 (Jvm.Cond.code x code maxLocals ret :: ws) room_1) (fun aU U => aU = #[(.int x0)] ∧ Z.Warmed39 U.vm ∧ U.heap = h0) (fun _ _ _ _ _ => True) (fun _ U o U' => ∃ v L, o = .returned v ∧ own_Q0 Z x0 h0 n0 v U'.heap L ∧ FrameEnd U o U' L 16 128) := by
  refine MetFree.of_bodySF (plainFor_of_name own_pn_0) hisR ?_
  intro p e s m args below meth c s₁ Bd hml0 hP hK
  obtain ⟨rfl, hZ, hh⟩ := hP
  have hx := Bd.exec
  have hby := Bd.bytes
  have hml : c.maxLocals = 5 := hml0
  have hown : s.vm.findClass "com/example/muster/muster/core/PointsOfPinLaw" = some m.cls := findClass_of_methodNamed Bd.named
  have hnm := (name_of_methodNamed Bd.named Bd.method).1
  have hlk : meth.locks = false := Bd.notSynchronized
  have hret := Bd.returns
  have X0 : Stand p l e room_1 s m #[(.int x0)] below meth c s₁ [] 0 0 := Stand.of_body Bd
  have e0 : s₁.heap = h0 := by rw [← hh, Bd.state]; rfl
  have N0 := Fr.nil n0
  have K0 := Keep.refl h0 ([] : List Addr)
  show own_E p e below (own_F s 16 128) (own_Q0 Z x0 h0 n0) s₁ (entryFrame m #[(.int x0)] maxLocals)
  refine own_cast (own_ef0 m x0) ?_
  refine own_step (g' := (mkF m 1 #[.val (.int x0), .unset, .unset, .unset, .unset] [(.int x0)])) (fun _ k => XS.iloadN X0.here hx rfl (hb hby at_0) rfl k) ?_
  refine own_step (g' := (mkF m 2 #[.val (.int x0), .unset, .unset, .unset, .unset] [(.int (1 : Int32)), (.int x0)])) (fun _ k => XS.iconst X0.here hx rfl (hb hby at_1) k) ?_
  refine own_step (g' := (mkF m 3 #[.val (.int x0), .unset, .unset, .unset, .unset] [(.int (x0 >>> ((1 : Int32) &&& 31)))])) (fun _ k => XS.ishr X0.here hx rfl (hb hby at_2) rfl k) ?_
  refine own_step (g' := (mkF m 4 #[.val (.int x0), .val (.int (x0 >>> ((1 : Int32) &&& 31))), .unset, .unset, .unset] [])) (fun _ k => XS.istoreN X0.here hx rfl (hb hby at_3) rfl (l' := #[.val (.int x0), .val (.int (x0 >>> ((1 : Int32) &&& 31))), .unset, .unset, .unset]) rfl k) ?_
  refine own_step (g' := (mkF m 5 #[.val (.int x0), .val (.int (x0 >>> ((1 : Int32) &&& 31))), .unset, .unset, .unset] [(.int (x0 >>> ((1 : Int32) &&& 31)))])) (fun _ k => XS.iloadN X0.here hx rfl (hb hby at_4) rfl k) ?_
  obtain ⟨_, _, ⟨T1, L1, k1, n1⟩, -, X1, ⟨Lc1, hQ1, l1, y1, z1⟩, st1⟩ := Jvm.LawKit.callS X0 hx (y := (⟨"com/example/muster/muster/core/Points", "of", "(I)Lcom/example/muster/muster/core/Points;"⟩ : MethodName)) hown (mvT hZ (hw _ (List.mem_of_getElem? (i := 0) rfl))) (mvT hZ (hw _ (List.mem_of_getElem? (i := 1) rfl))) (mvT hZ (hw _ (List.mem_of_getElem? (i := 2) rfl))) (mvT hZ (hw _ (List.mem_of_getElem? (i := 3) rfl))) (by decide) (backOf (W := 0) (own_rm1 l Z a0 hw [] (x0 >>> ((1 : Int32) &&& 31)) h0 n0 Z0 (own_exact x0)) hZ (hw _ (List.mem_of_getElem? (i := 3) rfl)) (hw _ (List.mem_of_getElem? (i := 2) rfl)) (by decide) (by decide)) (g := (mkF m 5 #[.val (.int x0), .val (.int (x0 >>> ((1 : Int32) &&& 31))), .unset, .unset, .unset] [(.int (x0 >>> ((1 : Int32) &&& 31)))])) rfl (by rw [hml]; rfl) (argsL := [(.int (x0 >>> ((1 : Int32) &&& 31)))]) (rest := []) (lenOf own_pd__28I_29Lcom_2fexample_2fmuster_2fmuster_2fcore_2fPoints_3b rfl) rfl (by show 2 * 0 + _ ≤ _; exact Nat.le_of_eq rfl) (hb hby at_5) (fun _ _ => ⟨rfl, e0, (by decide : 0 + 1 ≤ _), (by decide : 0 + 1 ≤ _)⟩)
  dsimp only [Pt.U, Pt.locs, Pt.cells, Pt.slots] at X1 l1 y1 z1 st1 hQ1
  subst l1 y1 z1
  obtain ⟨b1, rfl, Nq1, Kc1, zb1, Q1_0, Q1_1⟩ := hQ1
  have N1 := Fr.app N0 Nq1
  have le_b1 : n0 ≤ b1 := Nat.le_trans Z0 zb1
  have sz_b1 : h0.size ≤ b1 := Nat.le_trans K0.1 zb1
  have K1 := K0.trans Kc1 all0
  have Z1 := Nat.le_trans Z0 Kc1.1
  refine own_step (g' := (mkF m 8 #[.val (.int x0), .val (.int (x0 >>> ((1 : Int32) &&& 31))), .unset, .unset, .unset] [(.ref b1)])) (fun _ k => st1 _ k) ?_
  refine own_step (g' := (mkF m 9 #[.val (.int x0), .val (.int (x0 >>> ((1 : Int32) &&& 31))), .val (.ref b1), .unset, .unset] [])) (fun _ k => XS.astoreN X1.here hx rfl (hb hby at_8) rfl rfl (l' := #[.val (.int x0), .val (.int (x0 >>> ((1 : Int32) &&& 31))), .val (.ref b1), .unset, .unset]) rfl k) ?_
  refine own_step (g' := (mkF m 12 #[.val (.int x0), .val (.int (x0 >>> ((1 : Int32) &&& 31))), .val (.ref b1), .unset, .unset] [(.long (2 : Int64))])) (fun _ k => X1.ldc2Long hx hown (mvT hZ (hw _ (List.mem_of_getElem? (i := 23) rfl))) (g := (mkF m 9 #[.val (.int x0), .val (.int (x0 >>> ((1 : Int32) &&& 31))), .val (.ref b1), .unset, .unset] [])) rfl (hb hby at_9) _ k) ?_
  refine own_step (g' := (mkF m 13 #[.val (.int x0), .val (.int (x0 >>> ((1 : Int32) &&& 31))), .val (.ref b1), .unset, .unset] [(.int (x0 >>> ((1 : Int32) &&& 31))), (.long (2 : Int64))])) (fun _ k => XS.iloadN X1.here hx rfl (hb hby at_12) rfl k) ?_
  refine own_step (g' := (mkF m 14 #[.val (.int x0), .val (.int (x0 >>> ((1 : Int32) &&& 31))), .val (.ref b1), .unset, .unset] [(.long ((x0 >>> ((1 : Int32) &&& 31)).toInt64)), (.long (2 : Int64))])) (fun _ k => XS.i2l X1.here hx rfl (hb hby at_13) rfl k) ?_
  refine own_step (g' := (mkF m 15 #[.val (.int x0), .val (.int (x0 >>> ((1 : Int32) &&& 31))), .val (.ref b1), .unset, .unset] [(.long ((2 : Int64) * ((x0 >>> ((1 : Int32) &&& 31)).toInt64)))])) (fun _ k => XS.lmul X1.here hx rfl (hb hby at_14) rfl k) ?_
  refine own_step (g' := (mkF m 16 #[.val (.int x0), .val (.int (x0 >>> ((1 : Int32) &&& 31))), .val (.ref b1), .val (.long ((2 : Int64) * ((x0 >>> ((1 : Int32) &&& 31)).toInt64))), .second] [])) (fun _ k => XS.lstoreN X1.here hx rfl (hb hby at_15) rfl (l' := #[.val (.int x0), .val (.int (x0 >>> ((1 : Int32) &&& 31))), .val (.ref b1), .val (.long ((2 : Int64) * ((x0 >>> ((1 : Int32) &&& 31)).toInt64))), .second]) rfl k) ?_
  refine own_step (g' := (mkF m 17 #[.val (.int x0), .val (.int (x0 >>> ((1 : Int32) &&& 31))), .val (.ref b1), .val (.long ((2 : Int64) * ((x0 >>> ((1 : Int32) &&& 31)).toInt64))), .second] [(.ref b1)])) (fun _ k => XS.aloadN X1.here hx rfl (hb hby at_16) rfl rfl k) ?_
  obtain ⟨cq2, kq2, q2a, q2b, q2c⟩ := isOf hZ rfl Q1_0
  obtain ⟨_, _, ⟨T2, L2, k2, n2⟩, -, X2, ⟨Lc2, hQ2, l2, y2, z2⟩, st2⟩ := X1.virtualBack hx (y := (⟨"com/example/muster/muster/core/Points", "halves", "()I"⟩ : MethodName)) (z := (⟨"com/example/muster/muster/core/Points", "halves", "()I"⟩ : MethodName)) hown (mvT hZ (hw _ (List.mem_of_getElem? (i := 24) rfl))) (mvT hZ (hw _ (List.mem_of_getElem? (i := 25) rfl))) (notFace_of_selects (args := #[]) (mvT hZ (hw _ (List.mem_of_getElem? (i := 27) rfl)))) (mvT hZ (hw _ (List.mem_of_getElem? (i := 27) rfl))) (mvT hZ (hw _ (List.mem_of_getElem? (i := 26) rfl))) (by decide) (backOf (W := 0) (own_rm6 l Z a0 hw [] b1 (((x0 >>> ((1 : Int32) &&& 31)).toInt64 * (2 : Int32).toInt64).toInt32) T1.heap n0 Z1 Q1_1) hZ (hw _ (List.mem_of_getElem? (i := 28) rfl)) (hw _ (List.mem_of_getElem? (i := 2) rfl)) (by decide) (by decide)) q2a q2c (g := (mkF m 17 #[.val (.int x0), .val (.int (x0 >>> ((1 : Int32) &&& 31))), .val (.ref b1), .val (.long ((2 : Int64) * ((x0 >>> ((1 : Int32) &&& 31)).toInt64))), .second] [(.ref b1)])) rfl (by rw [hml]; rfl) (Steps.refl _) (argsL := []) (rest := []) (lenOf own_pd__28_29I rfl) rfl (by show 2 * 0 + _ ≤ _; exact Nat.le_of_eq rfl) (hb hby at_17) (fun _ _ => ⟨rfl, rfl, (by decide : 1 + 0 ≤ _), (by decide : 1 + 0 ≤ _)⟩)
  dsimp only [Pt.U, Pt.locs, Pt.cells, Pt.slots] at X2 l2 y2 z2 st2 hQ2
  subst l2 y2 z2
  obtain ⟨rfl, Nq2, e2⟩ := hQ2
  have N2 := Fr.app N1 Nq2
  refine own_step (g' := (mkF m 20 #[.val (.int x0), .val (.int (x0 >>> ((1 : Int32) &&& 31))), .val (.ref b1), .val (.long ((2 : Int64) * ((x0 >>> ((1 : Int32) &&& 31)).toInt64))), .second] [(.int (((x0 >>> ((1 : Int32) &&& 31)).toInt64 * (2 : Int32).toInt64).toInt32))])) (fun _ k => st2.trans k) ?_
  refine own_step (g' := (mkF m 21 #[.val (.int x0), .val (.int (x0 >>> ((1 : Int32) &&& 31))), .val (.ref b1), .val (.long ((2 : Int64) * ((x0 >>> ((1 : Int32) &&& 31)).toInt64))), .second] [(.long ((((x0 >>> ((1 : Int32) &&& 31)).toInt64 * (2 : Int32).toInt64).toInt32).toInt64))])) (fun _ k => XS.i2l X2.here hx rfl (hb hby at_20) rfl k) ?_
  refine own_step (g' := (mkF m 22 #[.val (.int x0), .val (.int (x0 >>> ((1 : Int32) &&& 31))), .val (.ref b1), .val (.long ((2 : Int64) * ((x0 >>> ((1 : Int32) &&& 31)).toInt64))), .second] [(.long ((2 : Int64) * ((x0 >>> ((1 : Int32) &&& 31)).toInt64))), (.long ((((x0 >>> ((1 : Int32) &&& 31)).toInt64 * (2 : Int32).toInt64).toInt32).toInt64))])) (fun _ k => XS.lloadN X2.here hx rfl (hb hby at_21) rfl k) ?_
  refine own_step (g' := (mkF m 23 #[.val (.int x0), .val (.int (x0 >>> ((1 : Int32) &&& 31))), .val (.ref b1), .val (.long ((2 : Int64) * ((x0 >>> ((1 : Int32) &&& 31)).toInt64))), .second] [(.int (lcmpW ((((x0 >>> ((1 : Int32) &&& 31)).toInt64 * (2 : Int32).toInt64).toInt32).toInt64) ((2 : Int64) * ((x0 >>> ((1 : Int32) &&& 31)).toInt64))))])) (fun _ k => XS.lcmp X2.here hx rfl (hb hby at_22) rfl k) ?_
  refine own_ifN X2 hx (P := (((((x0 >>> ((1 : Int32) &&& 31)).toInt64 * (2 : Int32).toInt64).toInt32).toInt64) = ((2 : Int64) * ((x0 >>> ((1 : Int32) &&& 31)).toInt64)))) (hb hby at_23) (own_l_ne ((((x0 >>> ((1 : Int32) &&& 31)).toInt64 * (2 : Int32).toInt64).toInt32).toInt64) ((2 : Int64) * ((x0 >>> ((1 : Int32) &&& 31)).toInt64))) (by decide) (pc1 := 30) (by decide) (fun hc23 => ?_) (fun hc23 => ?_)
  · show own_E p e below (own_F s 16 128) (own_Q0 Z x0 h0 n0) T2 (mkF m 26 #[.val (.int x0), .val (.int (x0 >>> ((1 : Int32) &&& 31))), .val (.ref b1), .val (.long ((2 : Int64) * ((x0 >>> ((1 : Int32) &&& 31)).toInt64))), .second] [])
    refine own_step (g' := (mkF m 27 #[.val (.int x0), .val (.int (x0 >>> ((1 : Int32) &&& 31))), .val (.ref b1), .val (.long ((2 : Int64) * ((x0 >>> ((1 : Int32) &&& 31)).toInt64))), .second] [(.int (1 : Int32))])) (fun _ k => XS.iconst X2.here hx rfl (hb hby at_26) k) ?_
    refine own_step (g' := (mkF m 31 #[.val (.int x0), .val (.int (x0 >>> ((1 : Int32) &&& 31))), .val (.ref b1), .val (.long ((2 : Int64) * ((x0 >>> ((1 : Int32) &&& 31)).toInt64))), .second] [(.int (1 : Int32))])) (fun _ k => XS.goto X2.here hx rfl (pc0 := 27) (pc' := 31) rfl (hb hby at_27) (by decide) (by decide) k) ?_
    exact own_retI X2 hx hlk hret (by simp) (hb hby at_31) rfl (by decide) (by decide) (by show own_Q0 Z x0 h0 n0 (some (.int (1 : Int32))) T2.heap _; rw [e2]; exact ⟨rfl, N2⟩)
  · show own_E p e below (own_F s 16 128) (own_Q0 Z x0 h0 n0) T2 (mkF m 30 #[.val (.int x0), .val (.int (x0 >>> ((1 : Int32) &&& 31))), .val (.ref b1), .val (.long ((2 : Int64) * ((x0 >>> ((1 : Int32) &&& 31)).toInt64))), .second] [])
    exact absurd (own_law x0) hc23
set_option maxRecDepth 65536 in
set_option maxHeartbeats 40000000 in
theorem own_comes {Post : Tables → Env → Array Value → State → Outcome → State → Prop} (hpost : ∀ tb e args s v u, (limb_1_1.after args s (.returned v) u = true ∧ limb_1_2.after args s (.returned v) u = true ∧ True) → FrameEnd s (.returned v) u (Jvm.fieldLocs frame_1_writes args s ++ Jvm.arrayLocs frame_1_arrays args s ++ Jvm.staticLocs frame_1_statics s) 16 128 → Post tb e args s (.returned v) u) :
    ArmFor flags0 classFile x code maxLocals ret World_1 tables_1 room_1 Calls_1 rest_1 Pre_1 Post := by
  intro l hfl _ _ p e ha hc hk s m args below hf hA hF happ hP
  obtain ⟨hcalls, hrest, hpre⟩ := hP
  obtain ⟨-, -, -, hnamed, -, -, -, hat⟩ := (Spec.applies_iff hf).mp happ
  obtain ⟨hg, hn⟩ := and_e (Cond.before_iff.mp (show (Jvm.Cond.and given_1 narrow_1).before args s = true from hpre))
  obtain ⟨q0, r0⟩ := and_e hg
  obtain ⟨w0, rfl⟩ : ∃ w0 : Value, args = #[w0] := by
    have hs : args.size = 1 := by simpa [Cond.value, given_1] using q0
    obtain ⟨L⟩ := args
    match L, hs with
    | [w0], _ => exact ⟨w0, rfl⟩
  have hw := fun d (hd : d ∈ tables_1) => atoms_spec (ws := Jvm.Cond.code x code maxLocals ret :: tables_1) hat d (List.mem_cons_of_mem _ hd)
  obtain ⟨i0, ei0⟩ := is_v r0
  obtain rfl : w0 = (.int i0) := Option.some.inj ei0
  obtain ⟨n, o, h1, h2, h3, _, L, rfl, ⟨rfl, N⟩, hq⟩ := own_rm0 l s _ hw tables_1 i0 s.heap s.heap.size (Nat.le_refl _) p e ha hc hk s m _ below hf ((Spec.applies_iff_loose hf).mp happ).1 ⟨rfl, State.Warmed39.refl s, rfl⟩ trivial
  refine ⟨n, _, h1, h2, h3, hpost _ _ _ _ _ _ ⟨Cond.after_iff.mpr rfl, Cond.after_iff.mpr (eq_i res_at (Term.int_eval (1)) rfl), trivial⟩ ⟨hq.1, hq.2.1, (hq.2.2.sift fun y hy => Or.inr (N y hy)).mono (by decide) (by decide)⟩⟩
theorem main_1_1 : Claimed_1_1 := own_comes fun _ _ _ _ _ _ h hF => ⟨h.1, hF⟩
theorem main_1_2 : Claimed_1_2 := own_comes fun _ _ _ _ _ _ h hF => ⟨h.2.1, hF⟩
end Jvm.Pilot.@@N@@
namespace Jvm.Pilot.@@N@@
open Jvm Jvm.ClassFile Sem Op Lib Jvm.Free Jvm.Stand Jvm.Pilot.@@N@@.Jvm.D
/-! MADE BY PROGRAM (witnessworld.py) out of the Statement's table words and the real class files: 12 classes; the members and pool entries that the words name. The judged class is class 1, her method 1. -/
namespace start1
open Jvm.ClassFile
def u (s : String) : CpInfo := .utf8 (stringToUtf16 s)
/-- a pool by its gaps: so many unusable entries, then the entry; so many at the end -/
def gap : Nat → List CpInfo → List CpInfo
  | 0, r => r
  | n + 1, r => .unusable :: gap n r
def poolList (es : List (Nat × CpInfo)) (last : Nat) : List CpInfo := es.foldr (fun e r => gap e.1 (e.2 :: r)) (gap last [])
def pool (es : List (Nat × CpInfo)) (last : Nat) : Array CpInfo := ⟨poolList es last⟩
def fileOf (pool : Array CpInfo) (this : Nat) (attrs : Array Attribute := #[]) (ms : Array MethodInfo := #[]) (fl : Nat := 33) (sup : Nat := 0) (ifs : Array Nat := #[]) (fds : Array FieldInfo := #[]) : ClassFile where
  minorVersion := 0
  majorVersion := 65
  constantPool := pool
  accessFlags := fl
  thisClass := this
  superClass := sup
  interfaces := ifs
  fields := fds
  methods := ms
  attributes := attrs
def plain (name : String) (sup : Option ClassId) : Class where
  name := name
  kind := .ordinary
  loader := none
  accessFlags := 33
  super := sup
  interfaces := #[]
  cf := none
  fields := #[]
  methods := #[]
  instanceTypes := #[]
  staticTypes := #[]
  resolved := #[]
  callSites := []
  init := .initialized
  statics := none
  mirror := none

def pool0 : Array CpInfo := pool [(5, u "<init>"), (0, u "()V"), (1, .class_ 10), (1, u "java/lang/Object")] 113

def k0c0 : Code := { maxStack := 0, maxLocals := 1, code := object_method_1_code, exceptionTable := #[], attributes := #[] }
def k0m0 : Method := { name := "<init>", desc := "()V", sig := { parameters := [], returnType := none }, accessFlags := 1, code := some k0c0 }
/-- java/lang/Object -/
def k0 : Class := { plain "java/lang/Object" none with
  accessFlags := 33
  interfaces := #[]
  cf := some (fileOf pool0 8 #[] #[{ accessFlags := 1, nameIndex := 5, descriptorIndex := 6, attributes := #[] }] 33 0 #[] #[])
  fields := #[]
  methods := #[k0m0]
  instanceTypes := #[]
  staticTypes := #[]
  resolved := Array.replicate 124 none
  statics := none }

def pool1 : Array CpInfo := pool [(2, .class_ 4), (1, u "java/lang/Object"), (0, u "<init>"), (0, u "()V"), (0, .methodref 8 9), (0, .class_ 10), (0, .nameAndType 11 12), (0, u "com/example/muster/muster/core/Points"), (0, u "of"), (0, u "(I)Lcom/example/muster/muster/core/Points;"), (0, .long 2), (1, .methodref 8 16), (0, .nameAndType 17 18), (0, u "halves"), (0, u "()I"), (0, .class_ 20), (0, u "com/example/muster/muster/core/PointsOfPinLaw"), (2, u "law"), (0, u "(I)Z")] 3

def k1m0 : Method := { name := "<init>", desc := "()V", sig := { parameters := [], returnType := none }, accessFlags := 1, code := none }
def k1c1 : Code := { maxStack := 4, maxLocals := 5, code := code, exceptionTable := #[], attributes := #[] }
def k1m1 : Method := { name := "law", desc := "(I)Z", sig := { parameters := [.int], returnType := some .boolean }, accessFlags := 9, code := some k1c1 }
/-- com/example/muster/muster/core/PointsOfPinLaw -/
def k1 : Class := { plain "com/example/muster/muster/core/PointsOfPinLaw" (some 0) with
  accessFlags := 49
  interfaces := #[]
  cf := some (fileOf pool1 19 #[] #[{ accessFlags := 1, nameIndex := 5, descriptorIndex := 6, attributes := #[] }, { accessFlags := 9, nameIndex := 23, descriptorIndex := 24, attributes := #[] }] 49 2 #[] #[])
  fields := #[]
  methods := #[k1m0, k1m1]
  instanceTypes := #[]
  staticTypes := #[]
  resolved := Array.replicate 28 none
  statics := none }

def pool2 : Array CpInfo := pool [(1, .methodref 2 3), (0, .class_ 4), (0, .nameAndType 5 6), (0, u "java/lang/Object"), (0, u "<init>"), (0, u "()V"), (0, .class_ 8), (0, u "java/lang/Record")] 13

def k2c0 : Code := { maxStack := 1, maxLocals := 1, code := jdk_30_method_1_code, exceptionTable := #[], attributes := #[] }
def k2m0 : Method := { name := "<init>", desc := "()V", sig := { parameters := [], returnType := none }, accessFlags := 4, code := some k2c0 }
/-- java/lang/Record -/
def k2 : Class := { plain "java/lang/Record" (some 0) with
  accessFlags := 1057
  interfaces := #[]
  cf := some (fileOf pool2 7 #[] #[{ accessFlags := 4, nameIndex := 5, descriptorIndex := 6, attributes := #[] }] 1057 2 #[] #[])
  fields := #[]
  methods := #[k2m0]
  instanceTypes := #[]
  staticTypes := #[]
  resolved := Array.replicate 22 none
  statics := none }

def pool3 : Array CpInfo := pool [(1, .class_ 2), (0, u "java/lang/Comparable"), (0, .class_ 4), (0, u "java/lang/Object")] 7

/-- java/lang/Comparable -/
def k3 : Class := { plain "java/lang/Comparable" (some 0) with
  accessFlags := 1537
  interfaces := #[]
  cf := some (fileOf pool3 1 #[] #[] 1537 3 #[] #[])
  fields := #[]
  methods := #[]
  instanceTypes := #[]
  staticTypes := #[]
  resolved := Array.replicate 12 none
  statics := none }

def pool4 : Array CpInfo := pool [(1, .methodref 2 3), (0, .class_ 4), (0, .nameAndType 5 6), (0, u "java/lang/Record"), (0, u "<init>"), (0, u "()V"), (0, .fieldref 8 9), (0, .class_ 10), (0, .nameAndType 11 12), (0, u "com/example/muster/muster/core/Points"), (0, u "halves"), (0, u "I"), (0, .methodref 14 15), (0, .class_ 16), (0, .nameAndType 17 18), (0, u "java/lang/Math"), (0, u "multiplyExact"), (0, u "(II)I"), (0, .methodref 8 20), (0, .nameAndType 5 21), (0, u "(I)V"), (36, u "ZERO"), (0, u "Lcom/example/muster/muster/core/Points;"), (0, .class_ 61), (0, u "java/lang/Comparable"), (3, u "of"), (0, u "(I)Lcom/example/muster/muster/core/Points;"), (7, u "()I")] 34

def k4c0 : Code := { maxStack := 2, maxLocals := 2, code := prog_10_method_1_code, exceptionTable := #[], attributes := #[] }
def k4m0 : Method := { name := "<init>", desc := "(I)V", sig := { parameters := [.int], returnType := none }, accessFlags := 1, code := some k4c0 }
def k4c1 : Code := { maxStack := 4, maxLocals := 1, code := prog_10_method_2_code, exceptionTable := #[], attributes := #[] }
def k4m1 : Method := { name := "of", desc := "(I)Lcom/example/muster/muster/core/Points;", sig := { parameters := [.int], returnType := some (.object "com/example/muster/muster/core/Points") }, accessFlags := 9, code := some k4c1 }
def k4c2 : Code := { maxStack := 1, maxLocals := 1, code := prog_10_method_8_code, exceptionTable := #[], attributes := #[] }
def k4m2 : Method := { name := "halves", desc := "()I", sig := { parameters := [], returnType := some .int }, accessFlags := 1, code := some k4c2 }
/-- com/example/muster/muster/core/Points -/
def k4 : Class := { plain "com/example/muster/muster/core/Points" (some 2) with
  accessFlags := 49
  interfaces := #[3]
  cf := some (fileOf pool4 8 #[] #[{ accessFlags := 1, nameIndex := 5, descriptorIndex := 21, attributes := #[] }, { accessFlags := 9, nameIndex := 65, descriptorIndex := 66, attributes := #[] }, { accessFlags := 1, nameIndex := 11, descriptorIndex := 74, attributes := #[] }] 49 2 #[60] #[{ accessFlags := 18, nameIndex := 11, descriptorIndex := 12, attributes := #[] }, { accessFlags := 25, nameIndex := 58, descriptorIndex := 59, attributes := #[] }])
  fields := #[{ name := "halves", type := .int, accessFlags := 18, slot := 0, constantValue := 0 }, { name := "ZERO", type := (.object "com/example/muster/muster/core/Points"), accessFlags := 25, slot := 0, constantValue := 0 }]
  methods := #[k4m0, k4m1, k4m2]
  instanceTypes := #[.int]
  staticTypes := #[(.object "com/example/muster/muster/core/Points")]
  resolved := Array.replicate 109 none
  statics := none }

def pool5 : Array CpInfo := pool [(1, .class_ 2), (0, u "java/lang/Math"), (1, .class_ 6), (1, u "java/lang/Object"), (0, u "<init>"), (0, u "()V"), (89, .class_ 100), (1, u "java/lang/Math$RandomNumberGeneratorHolder"), (19, u "multiplyExact"), (51, u "negativeZeroFloatBits"), (0, u "J"), (2, u "negativeZeroDoubleBits"), (68, u "$assertionsDisabled"), (0, u "Z"), (88, u "(II)I"), (2, u "twoToTheDoubleScaleDown"), (0, u "D"), (4, u "twoToTheDoubleScaleUp"), (9, u "E"), (3, u "PI"), (2, u "TAU"), (2, u "DEGREES_TO_RADIANS"), (0, u "RADIANS_TO_DEGREES")] 94

def k5m0 : Method := { name := "<init>", desc := "()V", sig := { parameters := [], returnType := none }, accessFlags := 2, code := none }
def k5c1 : Code := { maxStack := 4, maxLocals := 4, code := jdk_29_method_28_code, exceptionTable := #[], attributes := #[] }
def k5m1 : Method := { name := "multiplyExact", desc := "(II)I", sig := { parameters := [.int, .int], returnType := some .int }, accessFlags := 9, code := some k5c1 }
/-- java/lang/Math -/
def k5 : Class := { plain "java/lang/Math" (some 0) with
  accessFlags := 49
  interfaces := #[]
  cf := some (fileOf pool5 1 #[.nestMembers #[98]] #[{ accessFlags := 2, nameIndex := 7, descriptorIndex := 8, attributes := #[] }, { accessFlags := 9, nameIndex := 120, descriptorIndex := 335, attributes := #[] }] 49 4 #[] #[{ accessFlags := 25, nameIndex := 354, descriptorIndex := 339, attributes := #[] }, { accessFlags := 25, nameIndex := 358, descriptorIndex := 339, attributes := #[] }, { accessFlags := 25, nameIndex := 361, descriptorIndex := 339, attributes := #[] }, { accessFlags := 26, nameIndex := 364, descriptorIndex := 339, attributes := #[] }, { accessFlags := 26, nameIndex := 365, descriptorIndex := 339, attributes := #[] }, { accessFlags := 26, nameIndex := 172, descriptorIndex := 173, attributes := #[] }, { accessFlags := 26, nameIndex := 176, descriptorIndex := 173, attributes := #[] }, { accessFlags := 8, nameIndex := 344, descriptorIndex := 339, attributes := #[] }, { accessFlags := 8, nameIndex := 338, descriptorIndex := 339, attributes := #[] }, { accessFlags := 4120, nameIndex := 245, descriptorIndex := 246, attributes := #[] }])
  fields := #[{ name := "E", type := .double, accessFlags := 25, slot := 0, constantValue := 0 }, { name := "PI", type := .double, accessFlags := 25, slot := 1, constantValue := 0 }, { name := "TAU", type := .double, accessFlags := 25, slot := 2, constantValue := 0 }, { name := "DEGREES_TO_RADIANS", type := .double, accessFlags := 26, slot := 3, constantValue := 0 }, { name := "RADIANS_TO_DEGREES", type := .double, accessFlags := 26, slot := 4, constantValue := 0 }, { name := "negativeZeroFloatBits", type := .long, accessFlags := 26, slot := 5, constantValue := 0 }, { name := "negativeZeroDoubleBits", type := .long, accessFlags := 26, slot := 6, constantValue := 0 }, { name := "twoToTheDoubleScaleUp", type := .double, accessFlags := 8, slot := 7, constantValue := 0 }, { name := "twoToTheDoubleScaleDown", type := .double, accessFlags := 8, slot := 8, constantValue := 0 }, { name := "$assertionsDisabled", type := .boolean, accessFlags := 4120, slot := 9, constantValue := 0 }]
  methods := #[k5m0, k5m1]
  instanceTypes := #[]
  staticTypes := #[.double, .double, .double, .double, .double, .long, .long, .double, .double, .boolean]
  resolved := Array.replicate 460 none
  statics := none }

def pool6 : Array CpInfo := pool [(1, u "java/lang/Cloneable"), (0, .class_ 1), (0, u "java/lang/Object"), (0, .class_ 3)] 3

/-- java/lang/Cloneable -/
def k6 : Class := { plain "java/lang/Cloneable" (some 0) with
  accessFlags := 1537
  interfaces := #[]
  cf := some (fileOf pool6 2 #[] #[] 1537 4 #[] #[])
  fields := #[]
  methods := #[]
  instanceTypes := #[]
  staticTypes := #[]
  resolved := Array.replicate 8 none
  statics := none }

def pool7 : Array CpInfo := pool [(1, u "java/io/Serializable"), (0, .class_ 1), (0, u "java/lang/Object"), (0, .class_ 3)] 3

/-- java/io/Serializable -/
def k7 : Class := { plain "java/io/Serializable" (some 0) with
  accessFlags := 1537
  interfaces := #[]
  cf := some (fileOf pool7 2 #[] #[] 1537 4 #[] #[])
  fields := #[]
  methods := #[]
  instanceTypes := #[]
  staticTypes := #[]
  resolved := Array.replicate 8 none
  statics := none }

/-- the primitive byte -/
def k8 : Class := { plain "byte" none with kind := .primitive 'B', accessFlags := 0x411 }
/-- [B -/
def k9 : Class := { plain "[B" (some 0) with kind := .array 8 .byte, interfaces := #[6, 7], accessFlags := 1041 }

/-- the primitive int -/
def k10 : Class := { plain "int" none with kind := .primitive 'I', accessFlags := 0x411 }
/-- [I -/
def k11 : Class := { plain "[I" (some 0) with kind := .array 10 .int, interfaces := #[6, 7], accessFlags := 1041 }

def heap : Heap := #[]
def classes : Array Class := #[k0, k1, k2, k3, k4, k5, k6, k7, k8, k9, k10, k11]
def interned : List (Array UInt16 × Addr) := []
def slotsUsed : Nat := 0
def theMethod : MethodId := ⟨1, 1⟩
def args0 : Array Value := #[.int 5]
def aboutOver (below : List Frame) : State where
  vm := { classes := classes, interned := interned.toArray }
  heap := heap
  slotsUsed := slotsUsed
  threads := #[{ frames := .invoking theMethod args0 :: below }]
def below0 : List Frame := [.native { method := ⟨0, 0⟩, args := #[] }]
def about1 : State := aboutOver below0
def p0 : Program := .bare "" "" ""
def e0 : Env := launch0.env 0 0 0
theorem w_frames : about1.frames = Frame.invoking theMethod args0 :: below0 := rfl
set_option maxRecDepth 65536 in
theorem w_args : argsFit about1.vm theMethod args0 = true := by decide +kernel
set_option maxRecDepth 65536 in
theorem w_heap : heapFits about1 = true := by decide +kernel
set_option maxRecDepth 65536 in
theorem w_runnable : about1.curStatus? = some .runnable := by decide +kernel
set_option maxRecDepth 65536 in
theorem w_alone : about1.alone = true := by decide +kernel
set_option maxRecDepth 65536 in
theorem w_named : about1.methodNamed? x = some theMethod := by decide +kernel
set_option maxRecDepth 65536 in
theorem w_hears : about1.hears theMethod below0 = true := by decide +kernel
set_option maxRecDepth 65536 in
theorem w_ripe : about1.ripe theMethod args0 below0 = true := by decide +kernel
theorem w_running : about1.status = .running := rfl
set_option maxRecDepth 65536 in
theorem w_room : about1.hasRoom e0.platform room_1 = true :=
  launch0.hasRoom_least _ room_1 (by decide +kernel) (by decide +kernel) (by decide +kernel) (by decide +kernel) (by decide +kernel) (by decide +kernel)
theorem allAtoms_all (ts : List Jvm.Cond) (a : Array Jvm.Value) (st : Jvm.State) : (allAtoms ts).before a st = ts.all (fun c => c.before a st) := by
  induction ts with
  | nil => rfl
  | cons c t ih =>
    show (Jvm.Cond.and c (allAtoms t)).before a st = _
    rw [Jvm.Cond.before_and, ih, List.all_cons]
def words1 : List Jvm.Cond := Jvm.Cond.code x code maxLocals ret :: tables_1
/-- a 'code' word, met by the world's own term for the bytes: nothing is compared byte by byte -/
theorem code_word {y : MethodName} {bytes : ByteArray} {mx : Nat} {rt : Option FieldType} {a : Array Value} {s : State} {m : MethodId} {meth : Method} {c : Code} (h1 : s.methodNamed? y = some m) (h2 : s.vm.method? m = some meth) (h3 : meth.code = some c) (h4 : c.code = bytes)
    (h5 : (c.maxLocals == mx && c.exceptionTable.isEmpty && decide (c.maxStack ≤ mostOperands) && decide (meth.sig.returnType = rt) && !meth.locks && decide (parseMethodDescriptor y.desc = some meth.sig)) = true) : (Jvm.Cond.code y bytes mx rt).before a s = true := by
  simp only [Bool.and_eq_true, beq_iff_eq, Bool.not_eq_true', decide_eq_true_eq] at h5
  obtain ⟨⟨⟨⟨⟨g1, g2⟩, g3⟩, g4⟩, g5⟩, g6⟩ := h5
  simp [Cond.before, Cond.holds, Cond.value, h1, h2, h3, h4, g1, g2, g3, g4, g5, g6]
def isCode : Jvm.Cond → Bool
  | .code _ _ _ _ => true
  | _ => false
theorem all_split {L : List Jvm.Cond} {P : Jvm.Cond → Bool} (h1 : L.all (fun c => isCode c || P c) = true) (h2 : ∀ c ∈ L.filter isCode, P c = true) : L.all P = true := by
  refine List.all_eq_true.mpr fun c hc => ?_
  have h := List.all_eq_true.mp h1 c hc
  rcases Bool.eq_false_or_eq_true (isCode c) with hi | hi
  · exact h2 c (List.mem_filter.mpr ⟨hc, hi⟩)
  · simpa [hi] using h
set_option maxRecDepth 65536 in
theorem w_c0 : (Jvm.Cond.code x code maxLocals ret).before args0 about1 = true := code_word (m := ⟨1, 1⟩) (meth := k1m1) (c := k1c1) (by decide +kernel) rfl rfl rfl (by decide +kernel)
set_option maxRecDepth 65536 in
theorem w_c1 : (Jvm.Cond.code ({ cls := "com/example/muster/muster/core/Points", name := "of", desc := "(I)Lcom/example/muster/muster/core/Points;" } : Jvm.MethodName) prog_10_method_2_code (1 : Nat) (Option.some (Jvm.ClassFile.FieldType.object "com/example/muster/muster/core/Points"))).before args0 about1 = true := code_word (m := ⟨4, 1⟩) (meth := k4m1) (c := k4c1) (by decide +kernel) rfl rfl rfl (by decide +kernel)
set_option maxRecDepth 65536 in
theorem w_c2 : (Jvm.Cond.code ({ cls := "java/lang/Math", name := "multiplyExact", desc := "(II)I" } : Jvm.MethodName) jdk_29_method_28_code (4 : Nat) (Option.some Jvm.ClassFile.FieldType.int)).before args0 about1 = true := code_word (m := ⟨5, 1⟩) (meth := k5m1) (c := k5c1) (by decide +kernel) rfl rfl rfl (by decide +kernel)
set_option maxRecDepth 65536 in
theorem w_c3 : (Jvm.Cond.code ({ cls := "com/example/muster/muster/core/Points", name := "<init>", desc := "(I)V" } : Jvm.MethodName) prog_10_method_1_code (2 : Nat) (Option.none : Option Jvm.ClassFile.FieldType)).before args0 about1 = true := code_word (m := ⟨4, 0⟩) (meth := k4m0) (c := k4c0) (by decide +kernel) rfl rfl rfl (by decide +kernel)
set_option maxRecDepth 65536 in
theorem w_c4 : (Jvm.Cond.code ({ cls := "java/lang/Record", name := "<init>", desc := "()V" } : Jvm.MethodName) jdk_30_method_1_code (1 : Nat) (Option.none : Option Jvm.ClassFile.FieldType)).before args0 about1 = true := code_word (m := ⟨2, 0⟩) (meth := k2m0) (c := k2c0) (by decide +kernel) rfl rfl rfl (by decide +kernel)
set_option maxRecDepth 65536 in
theorem w_c5 : (Jvm.Cond.code ({ cls := "java/lang/Object", name := "<init>", desc := "()V" } : Jvm.MethodName) object_method_1_code (1 : Nat) (Option.none : Option Jvm.ClassFile.FieldType)).before args0 about1 = true := code_word (m := ⟨0, 0⟩) (meth := k0m0) (c := k0c0) (by decide +kernel) rfl rfl rfl (by decide +kernel)
set_option maxRecDepth 65536 in
theorem w_c6 : (Jvm.Cond.code ({ cls := "com/example/muster/muster/core/Points", name := "halves", desc := "()I" } : Jvm.MethodName) prog_10_method_8_code (1 : Nat) (Option.some Jvm.ClassFile.FieldType.int)).before args0 about1 = true := code_word (m := ⟨4, 2⟩) (meth := k4m2) (c := k4c2) (by decide +kernel) rfl rfl rfl (by decide +kernel)
def codes1 : List Jvm.Cond := [Jvm.Cond.code x code maxLocals ret, Jvm.Cond.code ({ cls := "com/example/muster/muster/core/Points", name := "of", desc := "(I)Lcom/example/muster/muster/core/Points;" } : Jvm.MethodName) prog_10_method_2_code (1 : Nat) (Option.some (Jvm.ClassFile.FieldType.object "com/example/muster/muster/core/Points")), Jvm.Cond.code ({ cls := "java/lang/Math", name := "multiplyExact", desc := "(II)I" } : Jvm.MethodName) jdk_29_method_28_code (4 : Nat) (Option.some Jvm.ClassFile.FieldType.int), Jvm.Cond.code ({ cls := "com/example/muster/muster/core/Points", name := "<init>", desc := "(I)V" } : Jvm.MethodName) prog_10_method_1_code (2 : Nat) (Option.none : Option Jvm.ClassFile.FieldType), Jvm.Cond.code ({ cls := "java/lang/Record", name := "<init>", desc := "()V" } : Jvm.MethodName) jdk_30_method_1_code (1 : Nat) (Option.none : Option Jvm.ClassFile.FieldType), Jvm.Cond.code ({ cls := "java/lang/Object", name := "<init>", desc := "()V" } : Jvm.MethodName) object_method_1_code (1 : Nat) (Option.none : Option Jvm.ClassFile.FieldType), Jvm.Cond.code ({ cls := "com/example/muster/muster/core/Points", name := "halves", desc := "()I" } : Jvm.MethodName) prog_10_method_8_code (1 : Nat) (Option.some Jvm.ClassFile.FieldType.int)]
set_option maxRecDepth 65536 in
theorem codes_eq : words1.filter isCode = codes1 := rfl
theorem w_codes : ∀ c ∈ words1.filter isCode, c.before args0 about1 = true := by
  rw [codes_eq]
  intro c hc
  simp only [codes1, List.mem_cons, List.not_mem_nil, or_false] at hc
  rcases hc with rfl | rfl | rfl | rfl | rfl | rfl | rfl
  · exact w_c0
  · exact w_c1
  · exact w_c2
  · exact w_c3
  · exact w_c4
  · exact w_c5
  · exact w_c6
set_option maxRecDepth 65536 in
theorem w_t1 : (words1.take 24).all (fun c => isCode c || c.before args0 about1) = true := by decide +kernel
set_option maxRecDepth 65536 in
theorem w_t2 : (words1.drop 24).all (fun c => isCode c || c.before args0 about1) = true := by decide +kernel
theorem w_tables : (allAtoms (Jvm.Cond.code x code maxLocals ret :: tables_1)).before args0 about1 = true := by
  rw [allAtoms_all]
  show words1.all (fun c => c.before args0 about1) = true
  refine all_split ?_ w_codes
  rw [← List.take_append_drop 24 words1, List.all_append, w_t1, w_t2]
  rfl
set_option maxRecDepth 65536 in
theorem w_case : (Jvm.Cond.and given_1 narrow_1).before args0 about1 = true := by decide +kernel
theorem w_applies : (headSpec (Jvm.Cond.code x code maxLocals ret :: tables_1) room_1).applies x e0.platform about1 = true :=
  (Spec.applies_iff w_frames).mpr ⟨w_running, w_runnable, w_alone, w_named, w_hears, w_ripe, w_room, w_tables⟩
theorem atStart : AtStart classFile x code maxLocals ret World_1 tables_1 room_1 Calls_1 rest_1 Pre_1 launch0 p0 e0 about1 theMethod args0 below0 :=
  ⟨lists_1, trivial, launch0.admits_env _ _ _, launch0.least_env, fairChoices_fair.cas, fairChoices_fair.clock, w_frames, w_args, w_heap, w_applies, trivial, trivial, w_case⟩
end start1
theorem witness_1 : WitnessClaimed_1 := ⟨start1.p0, start1.e0, start1.about1, start1.theMethod, start1.args0, start1.below0, start1.atStart⟩
end Jvm.Pilot.@@N@@
