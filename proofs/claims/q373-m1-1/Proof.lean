import JvmDerived
import JvmDerived.Pilot.@@N@@Statement
import JvmDerived.Pilot.@@N@@Code
set_option linter.unusedVariables false
set_option linter.unusedSimpArgs false
namespace Jvm.Pilot.@@N@@
open Jvm Jvm.ClassFile Sem Op Lib Jvm.Free Jvm.Stand Jvm.LawKit Jvm.RoadKit Bundle Jvm.Pilot.@@N@@.Jvm.D
section Own
variable {p : Program} {l : Launch} {e : Env} {R : Room} {s : State} {m : MethodId} {args : Array Value} {below : List Frame} {meth : Method} {c : Code} {T T' : State} {locs : List Loc} {cells slots : Nat}
variable {F : Outcome → State → List Loc → Prop} {Q : Option Value → Heap → List Loc → Prop} {ck sk : Nat} {g g' : JFrame}
def own_F (s : State) (ck sk : Nat) (o : Outcome) (t : State) (L : List Loc) : Prop := FrameEnd s o t L ck sk
/-- from the state T with the frame g on top the method comes to its end, and Q holds of what it returns, of the heap and of the places written -/
def own_E (p : Program) (e : Env) (below : List Frame) (F : Outcome → State → List Loc → Prop) (Q : Option Value → Heap → List Loc → Prop) (T : State) (g : JFrame) : Prop :=
  ∃ s₂ o, Steps p.tables e below (T.setTop g) s₂ ∧ s₂.status = .running ∧ Ended s₂ below o ∧ ∃ v L, o = .returned v ∧ Q v s₂.heap L ∧ F o s₂ L
theorem own_step (st : ∀ t, Steps p.tables e below (T'.setTop g') t → Steps p.tables e below (T.setTop g) t) (k : own_E p e below F Q T' g') : own_E p e below F Q T g := by
  obtain ⟨s2, o, h, r⟩ := k
  exact ⟨s2, o, st _ h, r⟩
theorem own_cast (q : g = g') (k : own_E p e below F Q T g') : own_E p e below F Q T g := q ▸ k
theorem own_ret (X : Stand p l e R s m args below meth c T locs cells slots) (hx : p.tables.exec = Jvm.exec) (hlk : meth.locks = false) {pc : Nat} {Ls : Array Slot} {w : Value} {t : FieldType} {i : Instr} {rest : List Value} (hret : meth.sig.returnType = some t)
    (hi : (i = .ireturn ∧ (t = .int ∨ t = .boolean ∨ t = .byte ∨ t = .char ∨ t = .short) ∧ ∃ z, w = .int z) ∨ (i = .lreturn ∧ t = .long ∧ ∃ z, w = .long z) ∨ (i = .dreturn ∧ t = .double ∧ ∃ z, w = .double z) ∨ (i = .freturn ∧ t = .float ∧ ∃ z, w = .float z) ∨ (i = .areturn ∧ t.isReference = true ∧ w.isRef = true))
    (hd : decode c.code pc = .ok (i, 1)) (hn : narrow t w = w) (hc : cells ≤ ck) (hs : slots ≤ sk) (hQ : Q (some w) T.heap locs) : own_E p e below (own_F s ck sk) Q T (mkF m pc Ls (w :: rest)) := by
  obtain ⟨fs, hr, hrun, hended, hW, hsame⟩ := X.leave (v := some w) (fun h => by rw [hret] at h; cases h) hlk
  exact ⟨_, _, retOut X hx hret hn hi hd hr, hrun, hended, _, _, rfl, hQ, ⟨_, rfl⟩, hW, hsame.mono hc hs⟩
theorem own_retI (X : Stand p l e R s m args below meth c T locs cells slots) (hx : p.tables.exec = Jvm.exec) (hlk : meth.locks = false) {pc : Nat} {Ls : Array Slot} {z : Int32} {t : FieldType} {rest : List Value} (hret : meth.sig.returnType = some t)
    (ht : t = .int ∨ t = .boolean ∨ t = .byte ∨ t = .char ∨ t = .short) (hd : decode c.code pc = .ok (.ireturn, 1)) (hn : narrow t (.int z) = .int z) (hc : cells ≤ ck) (hs : slots ≤ sk) (hQ : Q (some (.int z)) T.heap locs) : own_E p e below (own_F s ck sk) Q T (mkF m pc Ls (.int z :: rest)) :=
  own_ret X hx hlk hret (Or.inl ⟨rfl, ht, z, rfl⟩) hd hn hc hs hQ
theorem own_retJ (X : Stand p l e R s m args below meth c T locs cells slots) (hx : p.tables.exec = Jvm.exec) (hlk : meth.locks = false) {pc : Nat} {Ls : Array Slot} {z : Int64} {rest : List Value} (hret : meth.sig.returnType = some .long)
    (hd : decode c.code pc = .ok (.lreturn, 1)) (hc : cells ≤ ck) (hs : slots ≤ sk) (hQ : Q (some (.long z)) T.heap locs) : own_E p e below (own_F s ck sk) Q T (mkF m pc Ls (.long z :: rest)) :=
  own_ret X hx hlk hret (Or.inr (Or.inl ⟨rfl, rfl, z, rfl⟩)) hd rfl hc hs hQ
theorem own_retA (X : Stand p l e R s m args below meth c T locs cells slots) (hx : p.tables.exec = Jvm.exec) (hlk : meth.locks = false) {pc : Nat} {Ls : Array Slot} {a : Addr} {C : String} {rest : List Value} (hret : meth.sig.returnType = some (.object C))
    (hd : decode c.code pc = .ok (.areturn, 1)) (hc : cells ≤ ck) (hs : slots ≤ sk) (hQ : Q (some (.ref a)) T.heap locs) : own_E p e below (own_F s ck sk) Q T (mkF m pc Ls (.ref a :: rest)) :=
  own_ret X hx hlk hret (Or.inr (Or.inr (Or.inr (Or.inr ⟨rfl, rfl, rfl⟩)))) hd rfl hc hs hQ
theorem own_retV (X : Stand p l e R s m args below meth c T locs cells slots) (hx : p.tables.exec = Jvm.exec) (hlk : meth.locks = false) {pc : Nat} {Ls : Array Slot} (hret : meth.sig.returnType = none)
    (hd : decode c.code pc = .ok (.return_, 1)) (hc : cells ≤ ck) (hs : slots ≤ sk) (hQ : Q none T.heap locs) : own_E p e below (own_F s ck sk) Q T (mkF m pc Ls []) := by
  obtain ⟨fs, hr, hrun, hended, hW, hsame⟩ := X.leave (v := none) (fun _ => rfl) hlk
  exact ⟨_, _, X.returnOut hx hret hd hr, hrun, hended, _, _, rfl, hQ, ⟨_, rfl⟩, hW, hsame.mono hc hs⟩
/-- forks: P first, its denial second -/
theorem own_ifY (X : Stand p l e R s m args below meth c T locs cells slots) (hx : p.tables.exec = Jvm.exec) {cd : ClassFile.Cond} {x : Int32} {rest : List Value} {o : Int} {pc0 pc1 : Nat} {Ls : Array Slot} {P : Prop} [Decidable P] (hd : decode c.code pc0 = .ok (.ifCond cd o, 3)) (hP : ifCond.holds cd x = decide P)
    (ho : 0 ≤ (pc0 : Int) + o) (hp : ((pc0 : Int) + o).toNat = pc1) (hy : P → own_E p e below F Q T (mkF m pc1 Ls rest)) (hn : ¬ P → own_E p e below F Q T (mkF m (pc0 + 3) Ls rest)) : own_E p e below F Q T (mkF m pc0 Ls (.int x :: rest)) := by
  by_cases h : P
  · exact own_step (fun t k => XS.ifYes X.here hx rfl (pc0 := pc0) (pc' := pc1) rfl hd rfl (by rw [hP]; exact decide_eq_true h) ho hp k) (hy h)
  · exact own_step (fun t k => XS.ifNo X.here hx rfl hd rfl (by rw [hP]; exact decide_eq_false h) k) (hn h)
theorem own_ifN (X : Stand p l e R s m args below meth c T locs cells slots) (hx : p.tables.exec = Jvm.exec) {cd : ClassFile.Cond} {x : Int32} {rest : List Value} {o : Int} {pc0 pc1 : Nat} {Ls : Array Slot} {P : Prop} [Decidable P] (hd : decode c.code pc0 = .ok (.ifCond cd o, 3)) (hP : ifCond.holds cd x = !decide P)
    (ho : 0 ≤ (pc0 : Int) + o) (hp : ((pc0 : Int) + o).toNat = pc1) (hy : P → own_E p e below F Q T (mkF m (pc0 + 3) Ls rest)) (hn : ¬ P → own_E p e below F Q T (mkF m pc1 Ls rest)) : own_E p e below F Q T (mkF m pc0 Ls (.int x :: rest)) :=
  own_ifY X hx (P := ¬ P) hd (by rw [hP, decide_not]) ho hp hn (fun h => hy (Decidable.of_not_not h))
theorem own_icY (X : Stand p l e R s m args below meth c T locs cells slots) (hx : p.tables.exec = Jvm.exec) {cd : ClassFile.Cond} {x y : Int32} {rest : List Value} {o : Int} {pc0 pc1 : Nat} {Ls : Array Slot} {P : Prop} [Decidable P] (hd : decode c.code pc0 = .ok (.if_icmp cd o, 3)) (hP : if_icmp.holds cd x y = decide P)
    (ho : 0 ≤ (pc0 : Int) + o) (hp : ((pc0 : Int) + o).toNat = pc1) (hy : P → own_E p e below F Q T (mkF m pc1 Ls rest)) (hn : ¬ P → own_E p e below F Q T (mkF m (pc0 + 3) Ls rest)) : own_E p e below F Q T (mkF m pc0 Ls (.int y :: .int x :: rest)) := by
  by_cases h : P
  · exact own_step (fun t k => XS.icmpYes X.here hx rfl (pc0 := pc0) (pc' := pc1) rfl hd rfl (by rw [hP]; exact decide_eq_true h) ho hp k) (hy h)
  · exact own_step (fun t k => XS.icmpNo X.here hx rfl hd rfl (by rw [hP]; exact decide_eq_false h) k) (hn h)
theorem own_icN (X : Stand p l e R s m args below meth c T locs cells slots) (hx : p.tables.exec = Jvm.exec) {cd : ClassFile.Cond} {x y : Int32} {rest : List Value} {o : Int} {pc0 pc1 : Nat} {Ls : Array Slot} {P : Prop} [Decidable P] (hd : decode c.code pc0 = .ok (.if_icmp cd o, 3)) (hP : if_icmp.holds cd x y = !decide P)
    (ho : 0 ≤ (pc0 : Int) + o) (hp : ((pc0 : Int) + o).toNat = pc1) (hy : P → own_E p e below F Q T (mkF m (pc0 + 3) Ls rest)) (hn : ¬ P → own_E p e below F Q T (mkF m pc1 Ls rest)) : own_E p e below F Q T (mkF m pc0 Ls (.int y :: .int x :: rest)) :=
  own_icY X hx (P := ¬ P) hd (by rw [hP, decide_not]) ho hp hn (fun h => hy (Decidable.of_not_not h))
theorem own_i_eq (x y : Int32) : if_icmp.holds .eq x y = decide (x = y) := by
  by_cases h : x = y
  · rw [(teq h).1, decide_eq_true h]
  · rw [(feq h).1, decide_eq_false h]
theorem own_i_ne (x y : Int32) : if_icmp.holds .ne x y = !decide (x = y) := by
  by_cases h : x = y
  · rw [(teq h).2, decide_eq_true h]; rfl
  · rw [(feq h).2, decide_eq_false h]; rfl
theorem own_i_lt (x y : Int32) : if_icmp.holds .lt x y = decide (x < y) := by
  by_cases h : x < y
  · rw [(tlt h).1, decide_eq_true h]
  · rw [(flt h).1, decide_eq_false h]
theorem own_i_ge (x y : Int32) : if_icmp.holds .ge x y = !decide (x < y) := by
  by_cases h : x < y
  · rw [(tlt h).2.1, decide_eq_true h]; rfl
  · rw [(flt h).2.1, decide_eq_false h]; rfl
theorem own_i_gt (x y : Int32) : if_icmp.holds .gt x y = decide (y < x) := by
  by_cases h : y < x
  · rw [(tlt h).2.2.1, decide_eq_true h]
  · rw [(flt h).2.2.1, decide_eq_false h]
theorem own_i_le (x y : Int32) : if_icmp.holds .le x y = !decide (y < x) := by
  by_cases h : y < x
  · rw [(tlt h).2.2.2, decide_eq_true h]; rfl
  · rw [(flt h).2.2.2, decide_eq_false h]; rfl
theorem own_z_eq (x : Int32) : ifCond.holds .eq x = decide (x = 0) := (if0 _ _).trans (own_i_eq x 0)
theorem own_z_ne (x : Int32) : ifCond.holds .ne x = !decide (x = 0) := (if0 _ _).trans (own_i_ne x 0)
theorem own_z_lt (x : Int32) : ifCond.holds .lt x = decide (x < 0) := (if0 _ _).trans (own_i_lt x 0)
theorem own_z_ge (x : Int32) : ifCond.holds .ge x = !decide (x < 0) := (if0 _ _).trans (own_i_ge x 0)
theorem own_z_gt (x : Int32) : ifCond.holds .gt x = decide (0 < x) := (if0 _ _).trans (own_i_gt x 0)
theorem own_z_le (x : Int32) : ifCond.holds .le x = !decide (0 < x) := (if0 _ _).trans (own_i_le x 0)
theorem own_l_eq (x y : Int64) : ifCond.holds .eq (lcmpW x y) = decide (x = y) := (own_z_eq _).trans (decide_eq_decide.mpr (lw_eq x y))
theorem own_l_ne (x y : Int64) : ifCond.holds .ne (lcmpW x y) = !decide (x = y) := (own_z_ne _).trans (congrArg not (decide_eq_decide.mpr (lw_eq x y)))
theorem own_l_lt (x y : Int64) : ifCond.holds .lt (lcmpW x y) = decide (x < y) := (own_z_lt _).trans (decide_eq_decide.mpr (lw_lt x y))
theorem own_l_ge (x y : Int64) : ifCond.holds .ge (lcmpW x y) = !decide (x < y) := (own_z_ge _).trans (congrArg not (decide_eq_decide.mpr (lw_lt x y)))
theorem own_l_gt (x y : Int64) : ifCond.holds .gt (lcmpW x y) = decide (y < x) := (own_z_gt _).trans (decide_eq_decide.mpr (lw_gt x y))
theorem own_l_le (x y : Int64) : ifCond.holds .le (lcmpW x y) = !decide (y < x) := (own_z_le _).trans (congrArg not (decide_eq_decide.mpr (lw_gt x y)))
/-- a condition as Java's int: 1 or 0 -/
def own_b (P : Prop) [Decidable P] : Int32 := if P then 1 else 0
theorem own_b1 {P : Prop} [Decidable P] (h : P) : own_b P = 1 := if_pos h
theorem own_b0 {P : Prop} [Decidable P] (h : ¬ P) : own_b P = 0 := if_neg h
theorem own_b_ne (P : Prop) [Decidable P] : ifCond.holds .ne (own_b P) = decide P := by
  by_cases h : P
  · rw [own_b1 h, decide_eq_true h]; rfl
  · rw [own_b0 h, decide_eq_false h]; rfl
theorem own_b_eq (P : Prop) [Decidable P] : ifCond.holds .eq (own_b P) = !decide P := by
  by_cases h : P
  · rw [own_b1 h, decide_eq_true h]; rfl
  · rw [own_b0 h, decide_eq_false h]; rfl
theorem own_bn (P : Prop) [Decidable P] : narrow .boolean (.int (own_b P)) = .int (own_b P) := by
  by_cases h : P
  · rw [own_b1 h]; rfl
  · rw [own_b0 h]; rfl
end Own
def own_cmp (x y : Int32) : Int32 := if x < y then -1 else if x = y then 0 else 1
def own_sign (x : Int32) : Int32 := if x < 0 then -1 else if x = 0 then 0 else 1
theorem own_law1 (x y : Int32) : own_sign (own_cmp x y) = own_cmp x y := by
  unfold own_sign own_cmp; split
  · decide
  · split <;> decide
theorem own_law2 (x y : Int32) : own_sign (own_cmp y x) = -own_cmp x y := by
  rw [own_law1]; unfold own_cmp
  simp only [Int32.lt_iff_toInt_lt, ← Int32.toInt_inj]
  repeat' split
  all_goals first | rfl | (exfalso; omega)
theorem own_ef2 (m : MethodId) (x0 : Addr) : entryFrame m #[(.ref x0)] 1 = mkF m 0 #[.val (.ref x0)] [] := by first | (simp [entryFrame, mkF, argsToLocals, Value.category]; done) | rfl
def own_Q2 (Z : State) (a1 : Addr) (h0 : Heap) (n0 : Nat) (v : Option Value) (h : Heap) (L : List Loc) : Prop := v = none ∧ Fr n0 L ∧ h = h0
theorem own_pn_2 : plainName "java/lang/Record" = true := by first | (simp [plainName, overriddenIn]; done) | decide +kernel
theorem own_d2_0 : decode jdk_30_method_1_code 0 = .ok (.aload_n 0, 1) := by decide +kernel
theorem own_d2_1 : decode jdk_30_method_1_code 1 = .ok (.invokespecial 1, 3) := by decide +kernel
theorem own_d2_4 : decode jdk_30_method_1_code 4 = .ok (.return_, 1) := by decide +kernel
set_option maxRecDepth 65536 in
set_option maxHeartbeats 40000000 in
theorem own_rm2 (l : Launch) (Z : State) (a0 : Array Value) (hw : ∀ d ∈ tables_1, d.before a0 Z = true) (ws : List Jvm.Cond) (a1 : Addr) (h0 : Heap) (n0 : Nat) (Z0 : n0 ≤ h0.size)  :
    MetFree l (⟨"java/lang/Record", "<init>", "()V"⟩ : MethodName) (head1 (Jvm.Cond.code (⟨"java/lang/Record", "<init>", "()V"⟩ : MethodName) jdk_30_method_1_code 1 none :: ws) ({ frames := 1, cells := 0, slots := 0, locals := 12 } : Room)) (fun aU U => aU = #[(.ref a1)] ∧ Z.Warmed39 U.vm ∧ U.heap = h0) (fun _ _ _ _ _ => True) (fun _ U o U' => ∃ v L, o = .returned v ∧ own_Q2 Z a1 h0 n0 v U'.heap L ∧ FrameEnd U o U' L 0 0) := by
  refine MetFree.of_bodySF (plainFor_of_name own_pn_2) hisR ?_
  intro p e s m args below meth c s₁ Bd hml0 hP hK
  obtain ⟨rfl, hZ, hh⟩ := hP
  have hx := Bd.exec
  have hby := Bd.bytes
  have hml : c.maxLocals = 1 := hml0
  have hown : s.vm.findClass "java/lang/Record" = some m.cls := findClass_of_methodNamed Bd.named
  have hnm := (name_of_methodNamed Bd.named Bd.method).1
  have hlk : meth.locks = false := Bd.notSynchronized
  have hret := Bd.returns
  have X0 : Stand p l e ({ frames := 1, cells := 0, slots := 0, locals := 12 } : Room) s m #[(.ref a1)] below meth c s₁ [] 0 0 := Stand.of_body Bd
  have e0 : s₁.heap = h0 := by rw [← hh, Bd.state]; rfl
  have N0 := Fr.nil n0
  have K0 := Keep.refl h0 ([] : List Addr)
  show own_E p e below (own_F s 0 0) (own_Q2 Z a1 h0 n0) s₁ (entryFrame m #[(.ref a1)] 1)
  refine own_cast (own_ef2 m a1) ?_
  refine own_step (g' := (mkF m 1 #[.val (.ref a1)] [(.ref a1)])) (fun _ k => XS.aloadN X0.here hx rfl (hb hby own_d2_0) rfl rfl k) ?_
  obtain ⟨T1, X1, e1, st1⟩ := initO X0 hx hZ hown (hw _ (List.mem_of_getElem? (i := 11) rfl)) (hw _ (List.mem_of_getElem? (i := 12) rfl)) (hw _ (List.mem_of_getElem? (i := 13) rfl)) e0 (g := (mkF m 1 #[.val (.ref a1)] [(.ref a1)])) rfl (by rw [hml]; rfl) rfl (hb hby own_d2_1) (by decide) (W := 0) (by show 2 * 0 + _ ≤ _; exact Nat.le_of_eq rfl) (by decide)
  refine own_step (g' := (mkF m 4 #[.val (.ref a1)] [])) st1 ?_
  exact own_retV X1 hx hlk hret (hb hby own_d2_4) (by decide) (by decide) (by show own_Q2 Z a1 h0 n0 none T1.heap _; rw [e1]; exact ⟨rfl, N0, rfl⟩)
theorem own_ef1 (m : MethodId) (x0 : Addr) (x1 : Int32) : entryFrame m #[(.ref x0), (.int x1)] 2 = mkF m 0 #[.val (.ref x0), .val (.int x1)] [] := by first | (simp [entryFrame, mkF, argsToLocals, Value.category]; done) | rfl
def own_Q1 (Z : State) (a1 : Addr) (q0 : Int32) (h0 : Heap) (n0 : Nat) (v : Option Value) (h : Heap) (L : List Loc) : Prop := v = none ∧ Fr n0 L ∧ Keep h0 h [a1] ∧ Exa Z h a1 "com/example/muster/muster/core/Points" ∧ Fld Z h a1 "com/example/muster/muster/core/Points" "halves" "I" (.int q0)
theorem own_pn_1 : plainName "com/example/muster/muster/core/Points" = true := by first | (simp [plainName, overriddenIn]; done) | decide +kernel
theorem own_d1_0 : decode prog_10_method_1_code 0 = .ok (.aload_n 0, 1) := by decide +kernel
theorem own_d1_1 : decode prog_10_method_1_code 1 = .ok (.invokespecial 1, 3) := by decide +kernel
theorem own_pd__28_29V : parseMethodDescriptor "()V" = some ⟨[], none⟩ := by decide +kernel
theorem own_d1_4 : decode prog_10_method_1_code 4 = .ok (.aload_n 0, 1) := by decide +kernel
theorem own_d1_5 : decode prog_10_method_1_code 5 = .ok (.iload_n 1, 1) := by decide +kernel
theorem own_d1_6 : decode prog_10_method_1_code 6 = .ok (.putfield 7, 3) := by decide +kernel
theorem own_d1_9 : decode prog_10_method_1_code 9 = .ok (.return_, 1) := by decide +kernel
set_option maxRecDepth 65536 in
set_option maxHeartbeats 40000000 in
theorem own_rm1 (l : Launch) (Z : State) (a0 : Array Value) (hw : ∀ d ∈ tables_1, d.before a0 Z = true) (ws : List Jvm.Cond) (a1 : Addr) (q0 : Int32) (h0 : Heap) (n0 : Nat) (Z0 : n0 ≤ h0.size) (Ea : Exa Z h0 a1 "com/example/muster/muster/core/Points") (ga : n0 ≤ a1) (Fhalves : Fld Z h0 a1 "com/example/muster/muster/core/Points" "halves" "I" (.int (0 : Int32))) :
    MetFree l (⟨"com/example/muster/muster/core/Points", "<init>", "(I)V"⟩ : MethodName) (head1 (Jvm.Cond.code (⟨"com/example/muster/muster/core/Points", "<init>", "(I)V"⟩ : MethodName) prog_10_method_1_code 2 none :: ws) ({ frames := 2, cells := 0, slots := 0, locals := 24 } : Room)) (fun aU U => aU = #[(.ref a1), (.int q0)] ∧ Z.Warmed39 U.vm ∧ U.heap = h0) (fun _ _ _ _ _ => True) (fun _ U o U' => ∃ v L, o = .returned v ∧ own_Q1 Z a1 q0 h0 n0 v U'.heap L ∧ FrameEnd U o U' L 0 0) := by
  refine MetFree.of_bodySF (plainFor_of_name own_pn_1) hisR ?_
  intro p e s m args below meth c s₁ Bd hml0 hP hK
  obtain ⟨rfl, hZ, hh⟩ := hP
  have hx := Bd.exec
  have hby := Bd.bytes
  have hml : c.maxLocals = 2 := hml0
  have hown : s.vm.findClass "com/example/muster/muster/core/Points" = some m.cls := findClass_of_methodNamed Bd.named
  have hnm := (name_of_methodNamed Bd.named Bd.method).1
  have hlk : meth.locks = false := Bd.notSynchronized
  have hret := Bd.returns
  have X0 : Stand p l e ({ frames := 2, cells := 0, slots := 0, locals := 24 } : Room) s m #[(.ref a1), (.int q0)] below meth c s₁ [] 0 0 := Stand.of_body Bd
  have e0 : s₁.heap = h0 := by rw [← hh, Bd.state]; rfl
  have N0 := Fr.nil n0
  have K0 := Keep.refl h0 [a1]
  show own_E p e below (own_F s 0 0) (own_Q1 Z a1 q0 h0 n0) s₁ (entryFrame m #[(.ref a1), (.int q0)] 2)
  refine own_cast (own_ef1 m a1 q0) ?_
  refine own_step (g' := (mkF m 1 #[.val (.ref a1), .val (.int q0)] [(.ref a1)])) (fun _ k => XS.aloadN X0.here hx rfl (hb hby own_d1_0) rfl rfl k) ?_
  obtain ⟨_, _, ⟨T1, L1, k1, n1⟩, -, X1, ⟨Lc1, hQ1, l1, y1, z1⟩, st1⟩ := X0.specialBack hx (y := (⟨"java/lang/Record", "<init>", "()V"⟩ : MethodName)) rfl hown (mvT hZ (hw _ (List.mem_of_getElem? (i := 6) rfl))) (mvT hZ (hw _ (List.mem_of_getElem? (i := 7) rfl))) (mvT hZ (hw _ (List.mem_of_getElem? (i := 10) rfl))) (by decide) (backOf (W := 0) (own_rm2 l Z a0 hw [] a1 h0 n0 Z0 ) hZ (hw _ (List.mem_of_getElem? (i := 10) rfl)) (hw _ (List.mem_of_getElem? (i := 9) rfl)) (by decide) (by decide)) (g := (mkF m 1 #[.val (.ref a1), .val (.int q0)] [(.ref a1)])) rfl (by rw [hml]; rfl) (Steps.refl _) (a := a1) (argsL := []) (rest := []) (lenOf own_pd__28_29V rfl) rfl (by show 2 * 0 + _ ≤ _; exact Nat.le_of_eq rfl) (hb hby own_d1_1) (fun _ _ => ⟨rfl, e0, (by decide : 0 + 0 ≤ _), (by decide : 0 + 0 ≤ _)⟩)
  dsimp only [Pt.U, Pt.locs, Pt.cells, Pt.slots] at X1 l1 y1 z1 st1 hQ1
  subst l1 y1 z1
  obtain ⟨rfl, Nq1, e1⟩ := hQ1
  have N1 := Fr.app N0 Nq1
  refine own_step (g' := (mkF m 4 #[.val (.ref a1), .val (.int q0)] [])) (fun _ k => st1.trans k) ?_
  refine own_step (g' := (mkF m 5 #[.val (.ref a1), .val (.int q0)] [(.ref a1)])) (fun _ k => XS.aloadN X1.here hx rfl (hb hby own_d1_4) rfl rfl k) ?_
  refine own_step (g' := (mkF m 6 #[.val (.ref a1), .val (.int q0)] [(.int q0), (.ref a1)])) (fun _ k => XS.iloadN X1.here hx rfl (hb hby own_d1_5) rfl k) ?_
  obtain ⟨T2, h2, X2, e2, W2, st2⟩ := putF X1 hx hZ hown (host := "") (Or.inl (hw _ (List.mem_of_getElem? (i := 14) rfl))) Via.refl e1 Fhalves Ea (Or.inr ⟨(hw _ (List.mem_of_getElem? (i := 15) rfl)), rfl, hnm⟩) (hw _ (List.mem_of_getElem? (i := 1) rfl)) (ty := .int) (by decide) rfl rfl (g := (mkF m 6 #[.val (.ref a1), .val (.int q0)] [(.int q0), (.ref a1)])) rfl rfl (hb hby own_d1_6)
  have Fhalves_2 := Fhalves.same W2
  have Ea_2 := Ea.wr W2
  have K2 := K0.wr W2 (Or.inl (List.mem_of_getElem? (i := 0) rfl))
  have Z2 := Nat.le_trans Z0 (Keep.of_wr W2).1
  have N2 := Fr.snoc X2 N1 ga
  refine own_step (g' := (mkF m 9 #[.val (.ref a1), .val (.int q0)] [])) st2 ?_
  exact own_retV X2 hx hlk hret (hb hby own_d1_9) (by decide) (by decide) (by show own_Q1 Z a1 q0 h0 n0 none T2.heap _; rw [e2]; exact ⟨rfl, N2, K2, Ea_2, Fhalves_2⟩)
theorem own_ef5 (m : MethodId) (x0 : Int32) (x1 : Int32) : entryFrame m #[(.int x0), (.int x1)] 2 = mkF m 0 #[.val (.int x0), .val (.int x1)] [] := by first | (simp [entryFrame, mkF, argsToLocals, Value.category]; done) | rfl
def own_Q5 (Z : State) (x0 : Int32) (x1 : Int32) (h0 : Heap) (n0 : Nat) (v : Option Value) (h : Heap) (L : List Loc) : Prop := v = some (.int (own_cmp x0 x1)) ∧ Fr n0 L ∧ h = h0
theorem own_pn_5 : plainName "java/lang/Integer" = true := by first | (simp [plainName, overriddenIn]; done) | decide +kernel
theorem own_d5_0 : decode jdk_33_method_40_code 0 = .ok (.iload_n 0, 1) := by decide +kernel
theorem own_d5_1 : decode jdk_33_method_40_code 1 = .ok (.iload_n 1, 1) := by decide +kernel
theorem own_d5_2 : decode jdk_33_method_40_code 2 = .ok (.if_icmp .ge 7, 3) := by decide +kernel
theorem own_d5_5 : decode jdk_33_method_40_code 5 = .ok (.iconst (-1), 1) := by decide +kernel
theorem own_d5_6 : decode jdk_33_method_40_code 6 = .ok (.goto 13, 3) := by decide +kernel
theorem own_d5_19 : decode jdk_33_method_40_code 19 = .ok (.ireturn, 1) := by decide +kernel
theorem own_d5_9 : decode jdk_33_method_40_code 9 = .ok (.iload_n 0, 1) := by decide +kernel
theorem own_d5_10 : decode jdk_33_method_40_code 10 = .ok (.iload_n 1, 1) := by decide +kernel
theorem own_d5_11 : decode jdk_33_method_40_code 11 = .ok (.if_icmp .ne 7, 3) := by decide +kernel
theorem own_d5_14 : decode jdk_33_method_40_code 14 = .ok (.iconst 0, 1) := by decide +kernel
theorem own_d5_15 : decode jdk_33_method_40_code 15 = .ok (.goto 4, 3) := by decide +kernel
theorem own_d5_18 : decode jdk_33_method_40_code 18 = .ok (.iconst 1, 1) := by decide +kernel
set_option maxRecDepth 65536 in
set_option maxHeartbeats 40000000 in
theorem own_rm5 (l : Launch) (Z : State) (a0 : Array Value) (hw : ∀ d ∈ tables_1, d.before a0 Z = true) (ws : List Jvm.Cond) (x0 : Int32) (x1 : Int32) (h0 : Heap) (n0 : Nat) (Z0 : n0 ≤ h0.size)  :
    MetFree l (⟨"java/lang/Integer", "compare", "(II)I"⟩ : MethodName) (head1 (Jvm.Cond.code (⟨"java/lang/Integer", "compare", "(II)I"⟩ : MethodName) jdk_33_method_40_code 2 (some .int) :: ws) ({ frames := 0, cells := 0, slots := 0, locals := 0 } : Room)) (fun aU U => aU = #[(.int x0), (.int x1)] ∧ Z.Warmed39 U.vm ∧ U.heap = h0) (fun _ _ _ _ _ => True) (fun _ U o U' => ∃ v L, o = .returned v ∧ own_Q5 Z x0 x1 h0 n0 v U'.heap L ∧ FrameEnd U o U' L 0 0) := by
  refine MetFree.of_bodySF (plainFor_of_name own_pn_5) hisR ?_
  intro p e s m args below meth c s₁ Bd hml0 hP hK
  obtain ⟨rfl, hZ, hh⟩ := hP
  have hx := Bd.exec
  have hby := Bd.bytes
  have hml : c.maxLocals = 2 := hml0
  have hown : s.vm.findClass "java/lang/Integer" = some m.cls := findClass_of_methodNamed Bd.named
  have hnm := (name_of_methodNamed Bd.named Bd.method).1
  have hlk : meth.locks = false := Bd.notSynchronized
  have hret := Bd.returns
  have X0 : Stand p l e ({ frames := 0, cells := 0, slots := 0, locals := 0 } : Room) s m #[(.int x0), (.int x1)] below meth c s₁ [] 0 0 := Stand.of_body Bd
  have e0 : s₁.heap = h0 := by rw [← hh, Bd.state]; rfl
  have N0 := Fr.nil n0
  have K0 := Keep.refl h0 ([] : List Addr)
  show own_E p e below (own_F s 0 0) (own_Q5 Z x0 x1 h0 n0) s₁ (entryFrame m #[(.int x0), (.int x1)] 2)
  refine own_cast (own_ef5 m x0 x1) ?_
  refine own_step (g' := (mkF m 1 #[.val (.int x0), .val (.int x1)] [(.int x0)])) (fun _ k => XS.iloadN X0.here hx rfl (hb hby own_d5_0) rfl k) ?_
  refine own_step (g' := (mkF m 2 #[.val (.int x0), .val (.int x1)] [(.int x1), (.int x0)])) (fun _ k => XS.iloadN X0.here hx rfl (hb hby own_d5_1) rfl k) ?_
  refine own_icN X0 hx (P := (x0 < x1)) (hb hby own_d5_2) (own_i_ge x0 x1) (by decide) (pc1 := 9) (by decide) (fun hc2 => ?_) (fun hc2 => ?_)
  · show own_E p e below (own_F s 0 0) (own_Q5 Z x0 x1 h0 n0) s₁ (mkF m 5 #[.val (.int x0), .val (.int x1)] [])
    refine own_step (g' := (mkF m 6 #[.val (.int x0), .val (.int x1)] [(.int (-1 : Int32))])) (fun _ k => XS.iconst X0.here hx rfl (hb hby own_d5_5) k) ?_
    refine own_step (g' := (mkF m 19 #[.val (.int x0), .val (.int x1)] [(.int (-1 : Int32))])) (fun _ k => XS.goto X0.here hx rfl (pc0 := 6) (pc' := 19) rfl (hb hby own_d5_6) (by decide) (by decide) k) ?_
    exact own_retI X0 hx hlk hret (by simp) (hb hby own_d5_19) rfl (by decide) (by decide) (by show own_Q5 Z x0 x1 h0 n0 (some (.int (-1 : Int32))) s₁.heap _; rw [e0]; exact ⟨by simp only [own_cmp, if_pos hc2], N0, rfl⟩)
  · show own_E p e below (own_F s 0 0) (own_Q5 Z x0 x1 h0 n0) s₁ (mkF m 9 #[.val (.int x0), .val (.int x1)] [])
    refine own_step (g' := (mkF m 10 #[.val (.int x0), .val (.int x1)] [(.int x0)])) (fun _ k => XS.iloadN X0.here hx rfl (hb hby own_d5_9) rfl k) ?_
    refine own_step (g' := (mkF m 11 #[.val (.int x0), .val (.int x1)] [(.int x1), (.int x0)])) (fun _ k => XS.iloadN X0.here hx rfl (hb hby own_d5_10) rfl k) ?_
    refine own_icN X0 hx (P := (x0 = x1)) (hb hby own_d5_11) (own_i_ne x0 x1) (by decide) (pc1 := 18) (by decide) (fun hc11 => ?_) (fun hc11 => ?_)
    · show own_E p e below (own_F s 0 0) (own_Q5 Z x0 x1 h0 n0) s₁ (mkF m 14 #[.val (.int x0), .val (.int x1)] [])
      refine own_step (g' := (mkF m 15 #[.val (.int x0), .val (.int x1)] [(.int (0 : Int32))])) (fun _ k => XS.iconst X0.here hx rfl (hb hby own_d5_14) k) ?_
      refine own_step (g' := (mkF m 19 #[.val (.int x0), .val (.int x1)] [(.int (0 : Int32))])) (fun _ k => XS.goto X0.here hx rfl (pc0 := 15) (pc' := 19) rfl (hb hby own_d5_15) (by decide) (by decide) k) ?_
      exact own_retI X0 hx hlk hret (by simp) (hb hby own_d5_19) rfl (by decide) (by decide) (by show own_Q5 Z x0 x1 h0 n0 (some (.int (0 : Int32))) s₁.heap _; rw [e0]; exact ⟨by simp only [own_cmp, if_neg hc2, if_pos hc11], N0, rfl⟩)
    · show own_E p e below (own_F s 0 0) (own_Q5 Z x0 x1 h0 n0) s₁ (mkF m 18 #[.val (.int x0), .val (.int x1)] [])
      refine own_step (g' := (mkF m 19 #[.val (.int x0), .val (.int x1)] [(.int (1 : Int32))])) (fun _ k => XS.iconst X0.here hx rfl (hb hby own_d5_18) k) ?_
      exact own_retI X0 hx hlk hret (by simp) (hb hby own_d5_19) rfl (by decide) (by decide) (by show own_Q5 Z x0 x1 h0 n0 (some (.int (1 : Int32))) s₁.heap _; rw [e0]; exact ⟨by simp only [own_cmp, if_neg hc2, if_neg hc11], N0, rfl⟩)
theorem own_ef4 (m : MethodId) (x0 : Addr) (x1 : Addr) : entryFrame m #[(.ref x0), (.ref x1)] 2 = mkF m 0 #[.val (.ref x0), .val (.ref x1)] [] := by first | (simp [entryFrame, mkF, argsToLocals, Value.category]; done) | rfl
def own_Q4 (Z : State) (a1 : Addr) (a2 : Addr) (v1 : Int32) (v2 : Int32) (h0 : Heap) (n0 : Nat) (v : Option Value) (h : Heap) (L : List Loc) : Prop := v = some (.int (own_cmp v1 v2)) ∧ Fr n0 L ∧ h = h0
theorem own_pn_4 : plainName "com/example/muster/muster/core/Points" = true := by first | (simp [plainName, overriddenIn]; done) | decide +kernel
theorem own_d4_0 : decode prog_10_method_4_code 0 = .ok (.aload_n 0, 1) := by decide +kernel
theorem own_d4_1 : decode prog_10_method_4_code 1 = .ok (.getfield 7, 3) := by decide +kernel
theorem own_d4_4 : decode prog_10_method_4_code 4 = .ok (.aload_n 1, 1) := by decide +kernel
theorem own_d4_5 : decode prog_10_method_4_code 5 = .ok (.getfield 7, 3) := by decide +kernel
theorem own_d4_8 : decode prog_10_method_4_code 8 = .ok (.invokestatic 25, 3) := by decide +kernel
theorem own_pd__28II_29I : parseMethodDescriptor "(II)I" = some ⟨[.int, .int], some .int⟩ := by decide +kernel
theorem own_d4_11 : decode prog_10_method_4_code 11 = .ok (.ireturn, 1) := by decide +kernel
set_option maxRecDepth 65536 in
set_option maxHeartbeats 40000000 in
theorem own_rm4 (l : Launch) (Z : State) (a0 : Array Value) (hw : ∀ d ∈ tables_1, d.before a0 Z = true) (ws : List Jvm.Cond) (a1 : Addr) (a2 : Addr) (v1 : Int32) (v2 : Int32) (h0 : Heap) (n0 : Nat) (Z0 : n0 ≤ h0.size) (Fhalves_a1 : Fld Z h0 a1 "com/example/muster/muster/core/Points" "halves" "I" (.int v1)) (Fhalves_a2 : Fld Z h0 a2 "com/example/muster/muster/core/Points" "halves" "I" (.int v2)) :
    MetFree l (⟨"com/example/muster/muster/core/Points", "compareTo", "(Lcom/example/muster/muster/core/Points;)I"⟩ : MethodName) (head1 (Jvm.Cond.code (⟨"com/example/muster/muster/core/Points", "compareTo", "(Lcom/example/muster/muster/core/Points;)I"⟩ : MethodName) prog_10_method_4_code 2 (some .int) :: ws) ({ frames := 1, cells := 0, slots := 0, locals := 13 } : Room)) (fun aU U => aU = #[(.ref a1), (.ref a2)] ∧ Z.Warmed39 U.vm ∧ U.heap = h0) (fun _ _ _ _ _ => True) (fun _ U o U' => ∃ v L, o = .returned v ∧ own_Q4 Z a1 a2 v1 v2 h0 n0 v U'.heap L ∧ FrameEnd U o U' L 0 0) := by
  refine MetFree.of_bodySF (plainFor_of_name own_pn_4) hisR ?_
  intro p e s m args below meth c s₁ Bd hml0 hP hK
  obtain ⟨rfl, hZ, hh⟩ := hP
  have hx := Bd.exec
  have hby := Bd.bytes
  have hml : c.maxLocals = 2 := hml0
  have hown : s.vm.findClass "com/example/muster/muster/core/Points" = some m.cls := findClass_of_methodNamed Bd.named
  have hnm := (name_of_methodNamed Bd.named Bd.method).1
  have hlk : meth.locks = false := Bd.notSynchronized
  have hret := Bd.returns
  have X0 : Stand p l e ({ frames := 1, cells := 0, slots := 0, locals := 13 } : Room) s m #[(.ref a1), (.ref a2)] below meth c s₁ [] 0 0 := Stand.of_body Bd
  have e0 : s₁.heap = h0 := by rw [← hh, Bd.state]; rfl
  have N0 := Fr.nil n0
  have K0 := Keep.refl h0 ([] : List Addr)
  show own_E p e below (own_F s 0 0) (own_Q4 Z a1 a2 v1 v2 h0 n0) s₁ (entryFrame m #[(.ref a1), (.ref a2)] 2)
  refine own_cast (own_ef4 m a1 a2) ?_
  refine own_step (g' := (mkF m 1 #[.val (.ref a1), .val (.ref a2)] [(.ref a1)])) (fun _ k => XS.aloadN X0.here hx rfl (hb hby own_d4_0) rfl rfl k) ?_
  obtain ⟨T1, X1, e1, st1⟩ := getF X0 hx hZ hown (host := "") (Or.inl (hw _ (List.mem_of_getElem? (i := 14) rfl))) Via.refl e0 Fhalves_a1 (g := (mkF m 1 #[.val (.ref a1), .val (.ref a2)] [(.ref a1)])) rfl rfl (hb hby own_d4_1)
  refine own_step (g' := (mkF m 4 #[.val (.ref a1), .val (.ref a2)] [(.int v1)])) st1 ?_
  refine own_step (g' := (mkF m 5 #[.val (.ref a1), .val (.ref a2)] [(.ref a2), (.int v1)])) (fun _ k => XS.aloadN X1.here hx rfl (hb hby own_d4_4) rfl rfl k) ?_
  obtain ⟨T2, X2, e2, st2⟩ := getF X1 hx hZ hown (host := "") (Or.inl (hw _ (List.mem_of_getElem? (i := 14) rfl))) Via.refl e1 Fhalves_a2 (g := (mkF m 5 #[.val (.ref a1), .val (.ref a2)] [(.ref a2), (.int v1)])) rfl rfl (hb hby own_d4_5)
  refine own_step (g' := (mkF m 8 #[.val (.ref a1), .val (.ref a2)] [(.int v2), (.int v1)])) st2 ?_
  obtain ⟨_, _, ⟨T3, L3, k3, n3⟩, -, X3, ⟨Lc3, hQ3, l3, y3, z3⟩, st3⟩ := Jvm.LawKit.callS X2 hx (y := (⟨"java/lang/Integer", "compare", "(II)I"⟩ : MethodName)) hown (mvT hZ (hw _ (List.mem_of_getElem? (i := 21) rfl))) (mvT hZ (hw _ (List.mem_of_getElem? (i := 22) rfl))) (mvT hZ (hw _ (List.mem_of_getElem? (i := 23) rfl))) (mvT hZ (hw _ (List.mem_of_getElem? (i := 24) rfl))) (by decide) (backOf (W := 0) (own_rm5 l Z a0 hw [] v1 v2 h0 n0 Z0 ) hZ (hw _ (List.mem_of_getElem? (i := 24) rfl)) (hw _ (List.mem_of_getElem? (i := 23) rfl)) (by decide) (by decide)) (g := (mkF m 8 #[.val (.ref a1), .val (.ref a2)] [(.int v2), (.int v1)])) rfl (by rw [hml]; rfl) (argsL := [(.int v1), (.int v2)]) (rest := []) (lenOf own_pd__28II_29I rfl) rfl (by show 2 * 0 + _ ≤ _; exact Nat.le_of_eq rfl) (hb hby own_d4_8) (fun _ _ => ⟨rfl, e2, (by decide : 0 + 0 ≤ _), (by decide : 0 + 0 ≤ _)⟩)
  dsimp only [Pt.U, Pt.locs, Pt.cells, Pt.slots] at X3 l3 y3 z3 st3 hQ3
  subst l3 y3 z3
  obtain ⟨rfl, Nq3, e3⟩ := hQ3
  have N3 := Fr.app N0 Nq3
  refine own_step (g' := (mkF m 11 #[.val (.ref a1), .val (.ref a2)] [(.int (own_cmp v1 v2))])) (fun _ k => st3 _ k) ?_
  exact own_retI X3 hx hlk hret (by simp) (hb hby own_d4_11) rfl (by decide) (by decide) (by show own_Q4 Z a1 a2 v1 v2 h0 n0 (some (.int (own_cmp v1 v2))) T3.heap _; rw [e3]; exact ⟨rfl, N3, rfl⟩)
theorem own_ef6 (m : MethodId) (x0 : Int32) : entryFrame m #[(.int x0)] 1 = mkF m 0 #[.val (.int x0)] [] := by first | (simp [entryFrame, mkF, argsToLocals, Value.category]; done) | rfl
def own_Q6 (Z : State) (x0 : Int32) (h0 : Heap) (n0 : Nat) (v : Option Value) (h : Heap) (L : List Loc) : Prop := v = some (.int (own_sign x0)) ∧ Fr n0 L ∧ h = h0
theorem own_pn_6 : plainName "com/example/muster/muster/core/PointsCompareToPinLaw" = true := by first | (simp [plainName, overriddenIn]; done) | decide +kernel
theorem own_d6_0 : decode method_2_code 0 = .ok (.iload_n 0, 1) := by decide +kernel
theorem own_d6_1 : decode method_2_code 1 = .ok (.ifCond .ge 5, 3) := by decide +kernel
theorem own_d6_4 : decode method_2_code 4 = .ok (.iconst (-1), 1) := by decide +kernel
theorem own_d6_5 : decode method_2_code 5 = .ok (.ireturn, 1) := by decide +kernel
theorem own_d6_6 : decode method_2_code 6 = .ok (.iload_n 0, 1) := by decide +kernel
theorem own_d6_7 : decode method_2_code 7 = .ok (.ifCond .ne 5, 3) := by decide +kernel
theorem own_d6_10 : decode method_2_code 10 = .ok (.iconst 0, 1) := by decide +kernel
theorem own_d6_11 : decode method_2_code 11 = .ok (.ireturn, 1) := by decide +kernel
theorem own_d6_12 : decode method_2_code 12 = .ok (.iconst 1, 1) := by decide +kernel
theorem own_d6_13 : decode method_2_code 13 = .ok (.ireturn, 1) := by decide +kernel
set_option maxRecDepth 65536 in
set_option maxHeartbeats 40000000 in
theorem own_rm6 (l : Launch) (Z : State) (a0 : Array Value) (hw : ∀ d ∈ tables_1, d.before a0 Z = true) (ws : List Jvm.Cond) (x0 : Int32) (h0 : Heap) (n0 : Nat) (Z0 : n0 ≤ h0.size)  :
    MetFree l (⟨"com/example/muster/muster/core/PointsCompareToPinLaw", "sign", "(I)I"⟩ : MethodName) (head1 (Jvm.Cond.code (⟨"com/example/muster/muster/core/PointsCompareToPinLaw", "sign", "(I)I"⟩ : MethodName) method_2_code 1 (some .int) :: ws) ({ frames := 0, cells := 0, slots := 0, locals := 0 } : Room)) (fun aU U => aU = #[(.int x0)] ∧ Z.Warmed39 U.vm ∧ U.heap = h0) (fun _ _ _ _ _ => True) (fun _ U o U' => ∃ v L, o = .returned v ∧ own_Q6 Z x0 h0 n0 v U'.heap L ∧ FrameEnd U o U' L 0 0) := by
  refine MetFree.of_bodySF (plainFor_of_name own_pn_6) hisR ?_
  intro p e s m args below meth c s₁ Bd hml0 hP hK
  obtain ⟨rfl, hZ, hh⟩ := hP
  have hx := Bd.exec
  have hby := Bd.bytes
  have hml : c.maxLocals = 1 := hml0
  have hown : s.vm.findClass "com/example/muster/muster/core/PointsCompareToPinLaw" = some m.cls := findClass_of_methodNamed Bd.named
  have hnm := (name_of_methodNamed Bd.named Bd.method).1
  have hlk : meth.locks = false := Bd.notSynchronized
  have hret := Bd.returns
  have X0 : Stand p l e ({ frames := 0, cells := 0, slots := 0, locals := 0 } : Room) s m #[(.int x0)] below meth c s₁ [] 0 0 := Stand.of_body Bd
  have e0 : s₁.heap = h0 := by rw [← hh, Bd.state]; rfl
  have N0 := Fr.nil n0
  have K0 := Keep.refl h0 ([] : List Addr)
  show own_E p e below (own_F s 0 0) (own_Q6 Z x0 h0 n0) s₁ (entryFrame m #[(.int x0)] 1)
  refine own_cast (own_ef6 m x0) ?_
  refine own_step (g' := (mkF m 1 #[.val (.int x0)] [(.int x0)])) (fun _ k => XS.iloadN X0.here hx rfl (hb hby own_d6_0) rfl k) ?_
  refine own_ifN X0 hx (P := (x0 < 0)) (hb hby own_d6_1) (own_z_ge x0) (by decide) (pc1 := 6) (by decide) (fun hc1 => ?_) (fun hc1 => ?_)
  · show own_E p e below (own_F s 0 0) (own_Q6 Z x0 h0 n0) s₁ (mkF m 4 #[.val (.int x0)] [])
    refine own_step (g' := (mkF m 5 #[.val (.int x0)] [(.int (-1 : Int32))])) (fun _ k => XS.iconst X0.here hx rfl (hb hby own_d6_4) k) ?_
    exact own_retI X0 hx hlk hret (by simp) (hb hby own_d6_5) rfl (by decide) (by decide) (by show own_Q6 Z x0 h0 n0 (some (.int (-1 : Int32))) s₁.heap _; rw [e0]; exact ⟨by simp only [own_sign, if_pos hc1], N0, rfl⟩)
  · show own_E p e below (own_F s 0 0) (own_Q6 Z x0 h0 n0) s₁ (mkF m 6 #[.val (.int x0)] [])
    refine own_step (g' := (mkF m 7 #[.val (.int x0)] [(.int x0)])) (fun _ k => XS.iloadN X0.here hx rfl (hb hby own_d6_6) rfl k) ?_
    refine own_ifN X0 hx (P := (x0 = 0)) (hb hby own_d6_7) (own_z_ne x0) (by decide) (pc1 := 12) (by decide) (fun hc7 => ?_) (fun hc7 => ?_)
    · show own_E p e below (own_F s 0 0) (own_Q6 Z x0 h0 n0) s₁ (mkF m 10 #[.val (.int x0)] [])
      refine own_step (g' := (mkF m 11 #[.val (.int x0)] [(.int (0 : Int32))])) (fun _ k => XS.iconst X0.here hx rfl (hb hby own_d6_10) k) ?_
      exact own_retI X0 hx hlk hret (by simp) (hb hby own_d6_11) rfl (by decide) (by decide) (by show own_Q6 Z x0 h0 n0 (some (.int (0 : Int32))) s₁.heap _; rw [e0]; exact ⟨by simp only [own_sign, if_neg hc1, if_pos hc7], N0, rfl⟩)
    · show own_E p e below (own_F s 0 0) (own_Q6 Z x0 h0 n0) s₁ (mkF m 12 #[.val (.int x0)] [])
      refine own_step (g' := (mkF m 13 #[.val (.int x0)] [(.int (1 : Int32))])) (fun _ k => XS.iconst X0.here hx rfl (hb hby own_d6_12) k) ?_
      exact own_retI X0 hx hlk hret (by simp) (hb hby own_d6_13) rfl (by decide) (by decide) (by show own_Q6 Z x0 h0 n0 (some (.int (1 : Int32))) s₁.heap _; rw [e0]; exact ⟨by simp only [own_sign, if_neg hc1, if_neg hc7], N0, rfl⟩)
theorem own_ef0 (m : MethodId) (x0 : Int32) (x1 : Int32) (x2 : Int32) : entryFrame m #[(.int x0), (.int x1), (.int x2)] maxLocals = mkF m 0 #[.val (.int x0), .val (.int x1), .val (.int x2), .unset, .unset, .unset, .unset, .unset, .unset, .unset] [] := by first | (simp [entryFrame, mkF, argsToLocals, Value.category, maxLocals]; done) | rfl
def own_Q0 (Z : State) (x0 : Int32) (x1 : Int32) (x2 : Int32) (h0 : Heap) (n0 : Nat) (v : Option Value) (h : Heap) (L : List Loc) : Prop := v = some (.int 1) ∧ Fr n0 L
theorem own_pn_0 : plainName "com/example/muster/muster/core/PointsCompareToPinLaw" = true := by first | (simp [plainName, overriddenIn]; done) | decide +kernel
theorem own_pd__28I_29V : parseMethodDescriptor "(I)V" = some ⟨[.int], none⟩ := by decide +kernel
theorem own_pd__28Lcom_2fexample_2fmuster_2fmuster_2fcore_2fPoints_3b_29I : parseMethodDescriptor "(Lcom/example/muster/muster/core/Points;)I" = some ⟨[(.object "com/example/muster/muster/core/Points")], some .int⟩ := by decide +kernel
theorem own_pd__28I_29I : parseMethodDescriptor "(I)I" = some ⟨[.int], some .int⟩ := by decide +kernel
set_option maxRecDepth 65536 in
set_option maxHeartbeats 40000000 in
theorem own_rm0 (l : Launch) (Z : State) (a0 : Array Value) (hw : ∀ d ∈ tables_1, d.before a0 Z = true) (ws : List Jvm.Cond) (x0 : Int32) (x1 : Int32) (x2 : Int32) (h0 : Heap) (n0 : Nat) (Z0 : n0 ≤ h0.size)  :
    MetFree l x (head1 (Jvm.Cond.code x code maxLocals ret :: ws) room_1) (fun aU U => aU = #[(.int x0), (.int x1), (.int x2)] ∧ Z.Warmed39 U.vm ∧ U.heap = h0) (fun _ _ _ _ _ => True) (fun _ U o U' => ∃ v L, o = .returned v ∧ own_Q0 Z x0 x1 x2 h0 n0 v U'.heap L ∧ FrameEnd U o U' L 16 128) := by
  refine MetFree.of_bodySF (plainFor_of_name own_pn_0) hisR ?_
  intro p e s m args below meth c s₁ Bd hml0 hP hK
  obtain ⟨rfl, hZ, hh⟩ := hP
  have hx := Bd.exec
  have hby := Bd.bytes
  have hml : c.maxLocals = 10 := hml0
  have hown : s.vm.findClass "com/example/muster/muster/core/PointsCompareToPinLaw" = some m.cls := findClass_of_methodNamed Bd.named
  have hnm := (name_of_methodNamed Bd.named Bd.method).1
  have hlk : meth.locks = false := Bd.notSynchronized
  have hret := Bd.returns
  have X0 : Stand p l e room_1 s m #[(.int x0), (.int x1), (.int x2)] below meth c s₁ [] 0 0 := Stand.of_body Bd
  have e0 : s₁.heap = h0 := by rw [← hh, Bd.state]; rfl
  have N0 := Fr.nil n0
  have K0 := Keep.refl h0 ([] : List Addr)
  show own_E p e below (own_F s 16 128) (own_Q0 Z x0 x1 x2 h0 n0) s₁ (entryFrame m #[(.int x0), (.int x1), (.int x2)] maxLocals)
  refine own_cast (own_ef0 m x0 x1 x2) ?_
  refine own_step (g' := (mkF m 1 #[.val (.int x0), .val (.int x1), .val (.int x2), .unset, .unset, .unset, .unset, .unset, .unset, .unset] [(.int x2)])) (fun _ k => XS.iloadN X0.here hx rfl (hb hby at_0) rfl k) ?_
  refine own_step (g' := (mkF m 2 #[.val (.int x0), .val (.int x1), .val (.int x2), .unset, .unset, .unset, .unset, .unset, .unset, .unset] [(.int (1 : Int32)), (.int x2)])) (fun _ k => XS.iconst X0.here hx rfl (hb hby at_1) k) ?_
  refine own_step (g' := (mkF m 3 #[.val (.int x0), .val (.int x1), .val (.int x2), .unset, .unset, .unset, .unset, .unset, .unset, .unset] [(.int (x2 &&& (1 : Int32)))])) (fun _ k => XS.iand X0.here hx rfl (hb hby at_2) rfl k) ?_
  have kj1 : (∀ (z1_0 : Int32), z1_0 = (own_b (¬ ((x2 &&& (1 : Int32)) = 0))) → own_E p e below (own_F s 16 128) (own_Q0 Z x0 x1 x2 h0 n0) s₁ (mkF m 11 #[.val (.int x0), .val (.int x1), .val (.int x2), .unset, .unset, .unset, .unset, .unset, .unset, .unset] [(.int z1_0)])) → own_E p e below (own_F s 16 128) (own_Q0 Z x0 x1 x2 h0 n0) s₁ (mkF m 3 #[.val (.int x0), .val (.int x1), .val (.int x2), .unset, .unset, .unset, .unset, .unset, .unset, .unset] [(.int (x2 &&& (1 : Int32)))]) := by
    intro kj
    refine own_ifY X0 hx (P := ((x2 &&& (1 : Int32)) = 0)) (hb hby at_3) (own_z_eq (x2 &&& (1 : Int32))) (by decide) (pc1 := 10) (by decide) (fun hc3 => ?_) (fun hc3 => ?_)
    · show own_E p e below (own_F s 16 128) (own_Q0 Z x0 x1 x2 h0 n0) s₁ (mkF m 10 #[.val (.int x0), .val (.int x1), .val (.int x2), .unset, .unset, .unset, .unset, .unset, .unset, .unset] [])
      refine own_step (g' := (mkF m 11 #[.val (.int x0), .val (.int x1), .val (.int x2), .unset, .unset, .unset, .unset, .unset, .unset, .unset] [(.int (0 : Int32))])) (fun _ k => XS.iconst X0.here hx rfl (hb hby at_10) k) ?_
      exact kj (0 : Int32) (by simp [own_b, hc3])
    · show own_E p e below (own_F s 16 128) (own_Q0 Z x0 x1 x2 h0 n0) s₁ (mkF m 6 #[.val (.int x0), .val (.int x1), .val (.int x2), .unset, .unset, .unset, .unset, .unset, .unset, .unset] [])
      refine own_step (g' := (mkF m 7 #[.val (.int x0), .val (.int x1), .val (.int x2), .unset, .unset, .unset, .unset, .unset, .unset, .unset] [(.int (1 : Int32))])) (fun _ k => XS.iconst X0.here hx rfl (hb hby at_6) k) ?_
      refine own_step (g' := (mkF m 11 #[.val (.int x0), .val (.int x1), .val (.int x2), .unset, .unset, .unset, .unset, .unset, .unset, .unset] [(.int (1 : Int32))])) (fun _ k => XS.goto X0.here hx rfl (pc0 := 7) (pc' := 11) rfl (hb hby at_7) (by decide) (by decide) k) ?_
      exact kj (1 : Int32) (by simp [own_b, hc3])
  refine kj1 fun z1_0 hz1 => ?_
  subst hz1
  show own_E p e below (own_F s 16 128) (own_Q0 Z x0 x1 x2 h0 n0) s₁ (mkF m 11 #[.val (.int x0), .val (.int x1), .val (.int x2), .unset, .unset, .unset, .unset, .unset, .unset, .unset] [(.int (own_b (¬ ((x2 &&& (1 : Int32)) = 0))))])
  refine own_step (g' := (mkF m 12 #[.val (.int x0), .val (.int x1), .val (.int x2), .val (.int (own_b (¬ ((x2 &&& (1 : Int32)) = 0)))), .unset, .unset, .unset, .unset, .unset, .unset] [])) (fun _ k => XS.istoreN X0.here hx rfl (hb hby at_11) rfl (l' := #[.val (.int x0), .val (.int x1), .val (.int x2), .val (.int (own_b (¬ ((x2 &&& (1 : Int32)) = 0)))), .unset, .unset, .unset, .unset, .unset, .unset]) rfl k) ?_
  refine own_step (g' := (mkF m 13 #[.val (.int x0), .val (.int x1), .val (.int x2), .val (.int (own_b (¬ ((x2 &&& (1 : Int32)) = 0)))), .unset, .unset, .unset, .unset, .unset, .unset] [(.int (own_b (¬ ((x2 &&& (1 : Int32)) = 0))))])) (fun _ k => XS.iloadN X0.here hx rfl (hb hby at_12) rfl k) ?_
  have kj2 : (∀ (z2_0 : Int32), z2_0 = (if ¬ ((x2 &&& (1 : Int32)) = 0) then x0 else x1) → own_E p e below (own_F s 16 128) (own_Q0 Z x0 x1 x2 h0 n0) s₁ (mkF m 21 #[.val (.int x0), .val (.int x1), .val (.int x2), .val (.int (own_b (¬ ((x2 &&& (1 : Int32)) = 0)))), .unset, .unset, .unset, .unset, .unset, .unset] [(.int z2_0)])) → own_E p e below (own_F s 16 128) (own_Q0 Z x0 x1 x2 h0 n0) s₁ (mkF m 13 #[.val (.int x0), .val (.int x1), .val (.int x2), .val (.int (own_b (¬ ((x2 &&& (1 : Int32)) = 0)))), .unset, .unset, .unset, .unset, .unset, .unset] [(.int (own_b (¬ ((x2 &&& (1 : Int32)) = 0))))]) := by
    intro kj
    refine own_ifN X0 hx (P := (¬ ((x2 &&& (1 : Int32)) = 0))) (hb hby at_13) (own_b_eq (¬ ((x2 &&& (1 : Int32)) = 0))) (by decide) (pc1 := 20) (by decide) (fun hc13 => ?_) (fun hc13 => ?_)
    · show own_E p e below (own_F s 16 128) (own_Q0 Z x0 x1 x2 h0 n0) s₁ (mkF m 16 #[.val (.int x0), .val (.int x1), .val (.int x2), .val (.int (own_b (¬ ((x2 &&& (1 : Int32)) = 0)))), .unset, .unset, .unset, .unset, .unset, .unset] [])
      refine own_step (g' := (mkF m 17 #[.val (.int x0), .val (.int x1), .val (.int x2), .val (.int (own_b (¬ ((x2 &&& (1 : Int32)) = 0)))), .unset, .unset, .unset, .unset, .unset, .unset] [(.int x0)])) (fun _ k => XS.iloadN X0.here hx rfl (hb hby at_16) rfl k) ?_
      refine own_step (g' := (mkF m 21 #[.val (.int x0), .val (.int x1), .val (.int x2), .val (.int (own_b (¬ ((x2 &&& (1 : Int32)) = 0)))), .unset, .unset, .unset, .unset, .unset, .unset] [(.int x0)])) (fun _ k => XS.goto X0.here hx rfl (pc0 := 17) (pc' := 21) rfl (hb hby at_17) (by decide) (by decide) k) ?_
      exact kj x0 (by simp only [if_pos hc13])
    · show own_E p e below (own_F s 16 128) (own_Q0 Z x0 x1 x2 h0 n0) s₁ (mkF m 20 #[.val (.int x0), .val (.int x1), .val (.int x2), .val (.int (own_b (¬ ((x2 &&& (1 : Int32)) = 0)))), .unset, .unset, .unset, .unset, .unset, .unset] [])
      refine own_step (g' := (mkF m 21 #[.val (.int x0), .val (.int x1), .val (.int x2), .val (.int (own_b (¬ ((x2 &&& (1 : Int32)) = 0)))), .unset, .unset, .unset, .unset, .unset, .unset] [(.int x1)])) (fun _ k => XS.iloadN X0.here hx rfl (hb hby at_20) rfl k) ?_
      exact kj x1 (by simp only [if_neg hc13])
  refine kj2 fun z2_0 hz2 => ?_
  subst hz2
  show own_E p e below (own_F s 16 128) (own_Q0 Z x0 x1 x2 h0 n0) s₁ (mkF m 21 #[.val (.int x0), .val (.int x1), .val (.int x2), .val (.int (own_b (¬ ((x2 &&& (1 : Int32)) = 0)))), .unset, .unset, .unset, .unset, .unset, .unset] [(.int (if ¬ ((x2 &&& (1 : Int32)) = 0) then x0 else x1))])
  refine own_step (g' := (mkF m 23 #[.val (.int x0), .val (.int x1), .val (.int x2), .val (.int (own_b (¬ ((x2 &&& (1 : Int32)) = 0)))), .val (.int (if ¬ ((x2 &&& (1 : Int32)) = 0) then x0 else x1)), .unset, .unset, .unset, .unset, .unset] [])) (fun _ k => XS.istore X0.here hx rfl (hb hby at_21) rfl (l' := #[.val (.int x0), .val (.int x1), .val (.int x2), .val (.int (own_b (¬ ((x2 &&& (1 : Int32)) = 0)))), .val (.int (if ¬ ((x2 &&& (1 : Int32)) = 0) then x0 else x1)), .unset, .unset, .unset, .unset, .unset]) rfl k) ?_
  generalize (if ¬ ((x2 &&& (1 : Int32)) = 0) then x0 else x1) = y0
  obtain ⟨T3, h3, X3, e3, E3, A3, D3, -, st3⟩ := newO X0 hx hZ hown (hw _ (List.mem_of_getElem? (i := 0) rfl)) (hw _ (List.mem_of_getElem? (i := 1) rfl)) (hw _ (List.mem_of_getElem? (i := 2) rfl)) e0 (g := (mkF m 23 #[.val (.int x0), .val (.int x1), .val (.int x2), .val (.int (own_b (¬ ((x2 &&& (1 : Int32)) = 0)))), .val (.int y0), .unset, .unset, .unset, .unset, .unset] [])) rfl (hb hby at_23) (by decide) (by decide)
  obtain ⟨b3, g3⟩ : ∃ z, z = h0.size := ⟨_, rfl⟩
  rw [← g3] at A3 D3 st3
  have le_b3 : n0 ≤ b3 := Nat.le_trans Z0 (Nat.le_of_eq g3.symm)
  have sz_b3 : h0.size ≤ b3 := Nat.le_trans K0.1 (Nat.le_of_eq g3.symm)
  have Fhalves_b3 : Fld Z h3 b3 "com/example/muster/muster/core/Points" "halves" "I" (.int (0 : Int32)) := D3 (Or.inr (hw _ (List.mem_of_getElem? (i := 15) rfl))) (ty := .int) (by decide)
  have K3 := K0.ext E3
  have Z3 := Nat.le_trans Z0 E3.1
  refine own_step (g' := (mkF m 26 #[.val (.int x0), .val (.int x1), .val (.int x2), .val (.int (own_b (¬ ((x2 &&& (1 : Int32)) = 0)))), .val (.int y0), .unset, .unset, .unset, .unset, .unset] [(.ref b3)])) st3 ?_
  refine own_step (g' := (mkF m 27 #[.val (.int x0), .val (.int x1), .val (.int x2), .val (.int (own_b (¬ ((x2 &&& (1 : Int32)) = 0)))), .val (.int y0), .unset, .unset, .unset, .unset, .unset] [(.ref b3), (.ref b3)])) (fun _ k => XS.dup X3.here hx rfl (hb hby at_26) rfl rfl k) ?_
  refine own_step (g' := (mkF m 28 #[.val (.int x0), .val (.int x1), .val (.int x2), .val (.int (own_b (¬ ((x2 &&& (1 : Int32)) = 0)))), .val (.int y0), .unset, .unset, .unset, .unset, .unset] [(.int x0), (.ref b3), (.ref b3)])) (fun _ k => XS.iloadN X3.here hx rfl (hb hby at_27) rfl k) ?_
  obtain ⟨_, _, ⟨T4, L4, k4, n4⟩, -, X4, ⟨Lc4, hQ4, l4, y4, z4⟩, st4⟩ := X3.specialBack hx (y := (⟨"com/example/muster/muster/core/Points", "<init>", "(I)V"⟩ : MethodName)) rfl hown (mvT hZ (hw _ (List.mem_of_getElem? (i := 3) rfl))) (mvT hZ (hw _ (List.mem_of_getElem? (i := 4) rfl))) (mvT hZ (hw _ (List.mem_of_getElem? (i := 5) rfl))) (by decide) (backOf (W := 1) (own_rm1 l Z a0 hw [] b3 x0 h3 n0 Z3 A3 le_b3 Fhalves_b3) hZ (hw _ (List.mem_of_getElem? (i := 5) rfl)) (hw _ (List.mem_of_getElem? (i := 2) rfl)) (by decide) (by decide)) (g := (mkF m 28 #[.val (.int x0), .val (.int x1), .val (.int x2), .val (.int (own_b (¬ ((x2 &&& (1 : Int32)) = 0)))), .val (.int y0), .unset, .unset, .unset, .unset, .unset] [(.int x0), (.ref b3), (.ref b3)])) rfl (by rw [hml]; rfl) (Steps.refl _) (a := b3) (argsL := [(.int x0)]) (rest := [(.ref b3)]) (lenOf own_pd__28I_29V rfl) rfl (by show 2 * 0 + _ ≤ _; exact Nat.le_of_eq rfl) (hb hby at_28) (fun _ _ => ⟨rfl, e3, (by decide : 1 + 0 ≤ _), (by decide : 1 + 0 ≤ _)⟩)
  dsimp only [Pt.U, Pt.locs, Pt.cells, Pt.slots] at X4 l4 y4 z4 st4 hQ4
  subst l4 y4 z4
  obtain ⟨rfl, Nq4, Kc4, Q4_0, Q4_1⟩ := hQ4
  have N4 := Fr.app N0 Nq4
  have A3_4 := A3.keep Kc4
  have K4 := K3.trans Kc4 (allS (Or.inr sz_b3) all0)
  have Z4 := Nat.le_trans Z3 Kc4.1
  refine own_step (g' := (mkF m 31 #[.val (.int x0), .val (.int x1), .val (.int x2), .val (.int (own_b (¬ ((x2 &&& (1 : Int32)) = 0)))), .val (.int y0), .unset, .unset, .unset, .unset, .unset] [(.ref b3)])) (fun _ k => st4.trans k) ?_
  refine own_step (g' := (mkF m 33 #[.val (.int x0), .val (.int x1), .val (.int x2), .val (.int (own_b (¬ ((x2 &&& (1 : Int32)) = 0)))), .val (.int y0), .val (.ref b3), .unset, .unset, .unset, .unset] [])) (fun _ k => XS.astore X4.here hx rfl (hb hby at_31) rfl rfl (l' := #[.val (.int x0), .val (.int x1), .val (.int x2), .val (.int (own_b (¬ ((x2 &&& (1 : Int32)) = 0)))), .val (.int y0), .val (.ref b3), .unset, .unset, .unset, .unset]) rfl k) ?_
  obtain ⟨T5, h5, X5, e5, E5, A5, D5, -, st5⟩ := newO X4 hx hZ hown (hw _ (List.mem_of_getElem? (i := 0) rfl)) (hw _ (List.mem_of_getElem? (i := 1) rfl)) (hw _ (List.mem_of_getElem? (i := 2) rfl)) rfl (g := (mkF m 33 #[.val (.int x0), .val (.int x1), .val (.int x2), .val (.int (own_b (¬ ((x2 &&& (1 : Int32)) = 0)))), .val (.int y0), .val (.ref b3), .unset, .unset, .unset, .unset] [])) rfl (hb hby at_33) (by decide) (by decide)
  obtain ⟨b5, g5⟩ : ∃ z, z = T4.heap.size := ⟨_, rfl⟩
  rw [← g5] at A5 D5 st5
  have ne_b3_b5 : b3 ≠ b5 := Nat.ne_of_lt (Nat.lt_of_lt_of_le Q4_0.lt (Nat.le_of_eq g5.symm))
  have le_b5 : n0 ≤ b5 := Nat.le_trans Z4 (Nat.le_of_eq g5.symm)
  have sz_b5 : h0.size ≤ b5 := Nat.le_trans K4.1 (Nat.le_of_eq g5.symm)
  have Q4_0_5 := Q4_0.ext E5
  have Q4_1_5 := Q4_1.ext E5
  have Fhalves_b5 : Fld Z h5 b5 "com/example/muster/muster/core/Points" "halves" "I" (.int (0 : Int32)) := D5 (Or.inr (hw _ (List.mem_of_getElem? (i := 15) rfl))) (ty := .int) (by decide)
  have K5 := K4.ext E5
  have Z5 := Nat.le_trans Z4 E5.1
  refine own_step (g' := (mkF m 36 #[.val (.int x0), .val (.int x1), .val (.int x2), .val (.int (own_b (¬ ((x2 &&& (1 : Int32)) = 0)))), .val (.int y0), .val (.ref b3), .unset, .unset, .unset, .unset] [(.ref b5)])) st5 ?_
  refine own_step (g' := (mkF m 37 #[.val (.int x0), .val (.int x1), .val (.int x2), .val (.int (own_b (¬ ((x2 &&& (1 : Int32)) = 0)))), .val (.int y0), .val (.ref b3), .unset, .unset, .unset, .unset] [(.ref b5), (.ref b5)])) (fun _ k => XS.dup X5.here hx rfl (hb hby at_36) rfl rfl k) ?_
  refine own_step (g' := (mkF m 39 #[.val (.int x0), .val (.int x1), .val (.int x2), .val (.int (own_b (¬ ((x2 &&& (1 : Int32)) = 0)))), .val (.int y0), .val (.ref b3), .unset, .unset, .unset, .unset] [(.int y0), (.ref b5), (.ref b5)])) (fun _ k => XS.iload X5.here hx rfl (hb hby at_37) rfl k) ?_
  obtain ⟨_, _, ⟨T6, L6, k6, n6⟩, -, X6, ⟨Lc6, hQ6, l6, y6, z6⟩, st6⟩ := X5.specialBack hx (y := (⟨"com/example/muster/muster/core/Points", "<init>", "(I)V"⟩ : MethodName)) rfl hown (mvT hZ (hw _ (List.mem_of_getElem? (i := 3) rfl))) (mvT hZ (hw _ (List.mem_of_getElem? (i := 4) rfl))) (mvT hZ (hw _ (List.mem_of_getElem? (i := 5) rfl))) (by decide) (backOf (W := 1) (own_rm1 l Z a0 hw [] b5 y0 h5 n0 Z5 A5 le_b5 Fhalves_b5) hZ (hw _ (List.mem_of_getElem? (i := 5) rfl)) (hw _ (List.mem_of_getElem? (i := 2) rfl)) (by decide) (by decide)) (g := (mkF m 39 #[.val (.int x0), .val (.int x1), .val (.int x2), .val (.int (own_b (¬ ((x2 &&& (1 : Int32)) = 0)))), .val (.int y0), .val (.ref b3), .unset, .unset, .unset, .unset] [(.int y0), (.ref b5), (.ref b5)])) rfl (by rw [hml]; rfl) (Steps.refl _) (a := b5) (argsL := [(.int y0)]) (rest := [(.ref b5)]) (lenOf own_pd__28I_29V rfl) rfl (by show 2 * 0 + _ ≤ _; exact Nat.le_of_eq rfl) (hb hby at_39) (fun _ _ => ⟨rfl, e5, (by decide : 2 + 0 ≤ _), (by decide : 2 + 0 ≤ _)⟩)
  dsimp only [Pt.U, Pt.locs, Pt.cells, Pt.slots] at X6 l6 y6 z6 st6 hQ6
  subst l6 y6 z6
  obtain ⟨rfl, Nq6, Kc6, Q6_0, Q6_1⟩ := hQ6
  have N6 := Fr.app N4 Nq6
  have Q4_0_6 := Q4_0_5.keep Kc6
  have Q4_1_6 := Q4_1_5.keep Kc6 (ninS ne_b3_b5 nin0)
  have A5_6 := A5.keep Kc6
  have K6 := K5.trans Kc6 (allS (Or.inr sz_b5) all0)
  have Z6 := Nat.le_trans Z5 Kc6.1
  refine own_step (g' := (mkF m 42 #[.val (.int x0), .val (.int x1), .val (.int x2), .val (.int (own_b (¬ ((x2 &&& (1 : Int32)) = 0)))), .val (.int y0), .val (.ref b3), .unset, .unset, .unset, .unset] [(.ref b5)])) (fun _ k => st6.trans k) ?_
  refine own_step (g' := (mkF m 44 #[.val (.int x0), .val (.int x1), .val (.int x2), .val (.int (own_b (¬ ((x2 &&& (1 : Int32)) = 0)))), .val (.int y0), .val (.ref b3), .val (.ref b5), .unset, .unset, .unset] [])) (fun _ k => XS.astore X6.here hx rfl (hb hby at_42) rfl rfl (l' := #[.val (.int x0), .val (.int x1), .val (.int x2), .val (.int (own_b (¬ ((x2 &&& (1 : Int32)) = 0)))), .val (.int y0), .val (.ref b3), .val (.ref b5), .unset, .unset, .unset]) rfl k) ?_
  refine own_step (g' := (mkF m 46 #[.val (.int x0), .val (.int x1), .val (.int x2), .val (.int (own_b (¬ ((x2 &&& (1 : Int32)) = 0)))), .val (.int y0), .val (.ref b3), .val (.ref b5), .unset, .unset, .unset] [(.ref b3)])) (fun _ k => XS.aload X6.here hx rfl (hb hby at_44) rfl rfl k) ?_
  refine own_step (g' := (mkF m 48 #[.val (.int x0), .val (.int x1), .val (.int x2), .val (.int (own_b (¬ ((x2 &&& (1 : Int32)) = 0)))), .val (.int y0), .val (.ref b3), .val (.ref b5), .unset, .unset, .unset] [(.ref b5), (.ref b3)])) (fun _ k => XS.aload X6.here hx rfl (hb hby at_46) rfl rfl k) ?_
  obtain ⟨cq7, kq7, q7a, q7b, q7c⟩ := isOf hZ rfl Q4_0_6
  obtain ⟨_, _, ⟨T7, L7, k7, n7⟩, -, X7, ⟨Lc7, hQ7, l7, y7, z7⟩, st7⟩ := X6.virtualBack hx (y := (⟨"com/example/muster/muster/core/Points", "compareTo", "(Lcom/example/muster/muster/core/Points;)I"⟩ : MethodName)) (z := (⟨"com/example/muster/muster/core/Points", "compareTo", "(Lcom/example/muster/muster/core/Points;)I"⟩ : MethodName)) hown (mvT hZ (hw _ (List.mem_of_getElem? (i := 16) rfl))) (mvT hZ (hw _ (List.mem_of_getElem? (i := 17) rfl))) (notFace_of_selects (args := #[]) (mvT hZ (hw _ (List.mem_of_getElem? (i := 19) rfl)))) (mvT hZ (hw _ (List.mem_of_getElem? (i := 19) rfl))) (mvT hZ (hw _ (List.mem_of_getElem? (i := 18) rfl))) (by decide) (backOf (W := 0) (own_rm4 l Z a0 hw [] b3 b5 x0 y0 T6.heap n0 Z6 Q4_1_6 Q6_1) hZ (hw _ (List.mem_of_getElem? (i := 20) rfl)) (hw _ (List.mem_of_getElem? (i := 2) rfl)) (by decide) (by decide)) q7a q7c (g := (mkF m 48 #[.val (.int x0), .val (.int x1), .val (.int x2), .val (.int (own_b (¬ ((x2 &&& (1 : Int32)) = 0)))), .val (.int y0), .val (.ref b3), .val (.ref b5), .unset, .unset, .unset] [(.ref b5), (.ref b3)])) rfl (by rw [hml]; rfl) (Steps.refl _) (argsL := [(.ref b5)]) (rest := []) (lenOf own_pd__28Lcom_2fexample_2fmuster_2fmuster_2fcore_2fPoints_3b_29I rfl) rfl (by show 2 * 0 + _ ≤ _; exact Nat.le_of_eq rfl) (hb hby at_48) (fun _ _ => ⟨rfl, rfl, (by decide : 2 + 0 ≤ _), (by decide : 2 + 0 ≤ _)⟩)
  dsimp only [Pt.U, Pt.locs, Pt.cells, Pt.slots] at X7 l7 y7 z7 st7 hQ7
  subst l7 y7 z7
  obtain ⟨rfl, Nq7, e7⟩ := hQ7
  have N7 := Fr.app N6 Nq7
  refine own_step (g' := (mkF m 51 #[.val (.int x0), .val (.int x1), .val (.int x2), .val (.int (own_b (¬ ((x2 &&& (1 : Int32)) = 0)))), .val (.int y0), .val (.ref b3), .val (.ref b5), .unset, .unset, .unset] [(.int (own_cmp x0 y0))])) (fun _ k => st7.trans k) ?_
  refine own_step (g' := (mkF m 53 #[.val (.int x0), .val (.int x1), .val (.int x2), .val (.int (own_b (¬ ((x2 &&& (1 : Int32)) = 0)))), .val (.int y0), .val (.ref b3), .val (.ref b5), .val (.int (own_cmp x0 y0)), .unset, .unset] [])) (fun _ k => XS.istore X7.here hx rfl (hb hby at_51) rfl (l' := #[.val (.int x0), .val (.int x1), .val (.int x2), .val (.int (own_b (¬ ((x2 &&& (1 : Int32)) = 0)))), .val (.int y0), .val (.ref b3), .val (.ref b5), .val (.int (own_cmp x0 y0)), .unset, .unset]) rfl k) ?_
  refine own_step (g' := (mkF m 55 #[.val (.int x0), .val (.int x1), .val (.int x2), .val (.int (own_b (¬ ((x2 &&& (1 : Int32)) = 0)))), .val (.int y0), .val (.ref b3), .val (.ref b5), .val (.int (own_cmp x0 y0)), .unset, .unset] [(.ref b5)])) (fun _ k => XS.aload X7.here hx rfl (hb hby at_53) rfl rfl k) ?_
  refine own_step (g' := (mkF m 57 #[.val (.int x0), .val (.int x1), .val (.int x2), .val (.int (own_b (¬ ((x2 &&& (1 : Int32)) = 0)))), .val (.int y0), .val (.ref b3), .val (.ref b5), .val (.int (own_cmp x0 y0)), .unset, .unset] [(.ref b3), (.ref b5)])) (fun _ k => XS.aload X7.here hx rfl (hb hby at_55) rfl rfl k) ?_
  obtain ⟨cq8, kq8, q8a, q8b, q8c⟩ := isOf hZ e7 Q6_0
  obtain ⟨_, _, ⟨T8, L8, k8, n8⟩, -, X8, ⟨Lc8, hQ8, l8, y8, z8⟩, st8⟩ := X7.virtualBack hx (y := (⟨"com/example/muster/muster/core/Points", "compareTo", "(Lcom/example/muster/muster/core/Points;)I"⟩ : MethodName)) (z := (⟨"com/example/muster/muster/core/Points", "compareTo", "(Lcom/example/muster/muster/core/Points;)I"⟩ : MethodName)) hown (mvT hZ (hw _ (List.mem_of_getElem? (i := 16) rfl))) (mvT hZ (hw _ (List.mem_of_getElem? (i := 17) rfl))) (notFace_of_selects (args := #[]) (mvT hZ (hw _ (List.mem_of_getElem? (i := 19) rfl)))) (mvT hZ (hw _ (List.mem_of_getElem? (i := 19) rfl))) (mvT hZ (hw _ (List.mem_of_getElem? (i := 18) rfl))) (by decide) (backOf (W := 0) (own_rm4 l Z a0 hw [] b5 b3 y0 x0 T6.heap n0 Z6 Q6_1 Q4_1_6) hZ (hw _ (List.mem_of_getElem? (i := 20) rfl)) (hw _ (List.mem_of_getElem? (i := 2) rfl)) (by decide) (by decide)) q8a q8c (g := (mkF m 57 #[.val (.int x0), .val (.int x1), .val (.int x2), .val (.int (own_b (¬ ((x2 &&& (1 : Int32)) = 0)))), .val (.int y0), .val (.ref b3), .val (.ref b5), .val (.int (own_cmp x0 y0)), .unset, .unset] [(.ref b3), (.ref b5)])) rfl (by rw [hml]; rfl) (Steps.refl _) (argsL := [(.ref b3)]) (rest := []) (lenOf own_pd__28Lcom_2fexample_2fmuster_2fmuster_2fcore_2fPoints_3b_29I rfl) rfl (by show 2 * 0 + _ ≤ _; exact Nat.le_of_eq rfl) (hb hby at_57) (fun _ _ => ⟨rfl, e7, (by decide : 2 + 0 ≤ _), (by decide : 2 + 0 ≤ _)⟩)
  dsimp only [Pt.U, Pt.locs, Pt.cells, Pt.slots] at X8 l8 y8 z8 st8 hQ8
  subst l8 y8 z8
  obtain ⟨rfl, Nq8, e8⟩ := hQ8
  have N8 := Fr.app N7 Nq8
  refine own_step (g' := (mkF m 60 #[.val (.int x0), .val (.int x1), .val (.int x2), .val (.int (own_b (¬ ((x2 &&& (1 : Int32)) = 0)))), .val (.int y0), .val (.ref b3), .val (.ref b5), .val (.int (own_cmp x0 y0)), .unset, .unset] [(.int (own_cmp y0 x0))])) (fun _ k => st8.trans k) ?_
  refine own_step (g' := (mkF m 62 #[.val (.int x0), .val (.int x1), .val (.int x2), .val (.int (own_b (¬ ((x2 &&& (1 : Int32)) = 0)))), .val (.int y0), .val (.ref b3), .val (.ref b5), .val (.int (own_cmp x0 y0)), .val (.int (own_cmp y0 x0)), .unset] [])) (fun _ k => XS.istore X8.here hx rfl (hb hby at_60) rfl (l' := #[.val (.int x0), .val (.int x1), .val (.int x2), .val (.int (own_b (¬ ((x2 &&& (1 : Int32)) = 0)))), .val (.int y0), .val (.ref b3), .val (.ref b5), .val (.int (own_cmp x0 y0)), .val (.int (own_cmp y0 x0)), .unset]) rfl k) ?_
  refine own_step (g' := (mkF m 63 #[.val (.int x0), .val (.int x1), .val (.int x2), .val (.int (own_b (¬ ((x2 &&& (1 : Int32)) = 0)))), .val (.int y0), .val (.ref b3), .val (.ref b5), .val (.int (own_cmp x0 y0)), .val (.int (own_cmp y0 x0)), .unset] [(.int x0)])) (fun _ k => XS.iloadN X8.here hx rfl (hb hby at_62) rfl k) ?_
  refine own_step (g' := (mkF m 65 #[.val (.int x0), .val (.int x1), .val (.int x2), .val (.int (own_b (¬ ((x2 &&& (1 : Int32)) = 0)))), .val (.int y0), .val (.ref b3), .val (.ref b5), .val (.int (own_cmp x0 y0)), .val (.int (own_cmp y0 x0)), .unset] [(.int y0), (.int x0)])) (fun _ k => XS.iload X8.here hx rfl (hb hby at_63) rfl k) ?_
  have kj9 : (∀ (z9_0 : Int32), z9_0 = (own_cmp x0 y0) → own_E p e below (own_F s 16 128) (own_Q0 Z x0 x1 x2 h0 n0) T8 (mkF m 89 #[.val (.int x0), .val (.int x1), .val (.int x2), .val (.int (own_b (¬ ((x2 &&& (1 : Int32)) = 0)))), .val (.int y0), .val (.ref b3), .val (.ref b5), .val (.int (own_cmp x0 y0)), .val (.int (own_cmp y0 x0)), .val (.int z9_0)] [])) → own_E p e below (own_F s 16 128) (own_Q0 Z x0 x1 x2 h0 n0) T8 (mkF m 65 #[.val (.int x0), .val (.int x1), .val (.int x2), .val (.int (own_b (¬ ((x2 &&& (1 : Int32)) = 0)))), .val (.int y0), .val (.ref b3), .val (.ref b5), .val (.int (own_cmp x0 y0)), .val (.int (own_cmp y0 x0)), .unset] [(.int y0), (.int x0)]) := by
    intro kj
    refine own_icN X8 hx (P := (x0 < y0)) (hb hby at_65) (own_i_ge x0 y0) (by decide) (pc1 := 74) (by decide) (fun hc65 => ?_) (fun hc65 => ?_)
    · show own_E p e below (own_F s 16 128) (own_Q0 Z x0 x1 x2 h0 n0) T8 (mkF m 68 #[.val (.int x0), .val (.int x1), .val (.int x2), .val (.int (own_b (¬ ((x2 &&& (1 : Int32)) = 0)))), .val (.int y0), .val (.ref b3), .val (.ref b5), .val (.int (own_cmp x0 y0)), .val (.int (own_cmp y0 x0)), .unset] [])
      refine own_step (g' := (mkF m 69 #[.val (.int x0), .val (.int x1), .val (.int x2), .val (.int (own_b (¬ ((x2 &&& (1 : Int32)) = 0)))), .val (.int y0), .val (.ref b3), .val (.ref b5), .val (.int (own_cmp x0 y0)), .val (.int (own_cmp y0 x0)), .unset] [(.int (-1 : Int32))])) (fun _ k => XS.iconst X8.here hx rfl (hb hby at_68) k) ?_
      refine own_step (g' := (mkF m 71 #[.val (.int x0), .val (.int x1), .val (.int x2), .val (.int (own_b (¬ ((x2 &&& (1 : Int32)) = 0)))), .val (.int y0), .val (.ref b3), .val (.ref b5), .val (.int (own_cmp x0 y0)), .val (.int (own_cmp y0 x0)), .val (.int (-1 : Int32))] [])) (fun _ k => XS.istore X8.here hx rfl (hb hby at_69) rfl (l' := #[.val (.int x0), .val (.int x1), .val (.int x2), .val (.int (own_b (¬ ((x2 &&& (1 : Int32)) = 0)))), .val (.int y0), .val (.ref b3), .val (.ref b5), .val (.int (own_cmp x0 y0)), .val (.int (own_cmp y0 x0)), .val (.int (-1 : Int32))]) rfl k) ?_
      refine own_step (g' := (mkF m 89 #[.val (.int x0), .val (.int x1), .val (.int x2), .val (.int (own_b (¬ ((x2 &&& (1 : Int32)) = 0)))), .val (.int y0), .val (.ref b3), .val (.ref b5), .val (.int (own_cmp x0 y0)), .val (.int (own_cmp y0 x0)), .val (.int (-1 : Int32))] [])) (fun _ k => XS.goto X8.here hx rfl (pc0 := 71) (pc' := 89) rfl (hb hby at_71) (by decide) (by decide) k) ?_
      exact kj (-1 : Int32) (by simp only [own_cmp, if_pos hc65])
    · show own_E p e below (own_F s 16 128) (own_Q0 Z x0 x1 x2 h0 n0) T8 (mkF m 74 #[.val (.int x0), .val (.int x1), .val (.int x2), .val (.int (own_b (¬ ((x2 &&& (1 : Int32)) = 0)))), .val (.int y0), .val (.ref b3), .val (.ref b5), .val (.int (own_cmp x0 y0)), .val (.int (own_cmp y0 x0)), .unset] [])
      refine own_step (g' := (mkF m 75 #[.val (.int x0), .val (.int x1), .val (.int x2), .val (.int (own_b (¬ ((x2 &&& (1 : Int32)) = 0)))), .val (.int y0), .val (.ref b3), .val (.ref b5), .val (.int (own_cmp x0 y0)), .val (.int (own_cmp y0 x0)), .unset] [(.int x0)])) (fun _ k => XS.iloadN X8.here hx rfl (hb hby at_74) rfl k) ?_
      refine own_step (g' := (mkF m 77 #[.val (.int x0), .val (.int x1), .val (.int x2), .val (.int (own_b (¬ ((x2 &&& (1 : Int32)) = 0)))), .val (.int y0), .val (.ref b3), .val (.ref b5), .val (.int (own_cmp x0 y0)), .val (.int (own_cmp y0 x0)), .unset] [(.int y0), (.int x0)])) (fun _ k => XS.iload X8.here hx rfl (hb hby at_75) rfl k) ?_
      refine own_icN X8 hx (P := (x0 = y0)) (hb hby at_77) (own_i_ne x0 y0) (by decide) (pc1 := 86) (by decide) (fun hc77 => ?_) (fun hc77 => ?_)
      · show own_E p e below (own_F s 16 128) (own_Q0 Z x0 x1 x2 h0 n0) T8 (mkF m 80 #[.val (.int x0), .val (.int x1), .val (.int x2), .val (.int (own_b (¬ ((x2 &&& (1 : Int32)) = 0)))), .val (.int y0), .val (.ref b3), .val (.ref b5), .val (.int (own_cmp x0 y0)), .val (.int (own_cmp y0 x0)), .unset] [])
        refine own_step (g' := (mkF m 81 #[.val (.int x0), .val (.int x1), .val (.int x2), .val (.int (own_b (¬ ((x2 &&& (1 : Int32)) = 0)))), .val (.int y0), .val (.ref b3), .val (.ref b5), .val (.int (own_cmp x0 y0)), .val (.int (own_cmp y0 x0)), .unset] [(.int (0 : Int32))])) (fun _ k => XS.iconst X8.here hx rfl (hb hby at_80) k) ?_
        refine own_step (g' := (mkF m 83 #[.val (.int x0), .val (.int x1), .val (.int x2), .val (.int (own_b (¬ ((x2 &&& (1 : Int32)) = 0)))), .val (.int y0), .val (.ref b3), .val (.ref b5), .val (.int (own_cmp x0 y0)), .val (.int (own_cmp y0 x0)), .val (.int (0 : Int32))] [])) (fun _ k => XS.istore X8.here hx rfl (hb hby at_81) rfl (l' := #[.val (.int x0), .val (.int x1), .val (.int x2), .val (.int (own_b (¬ ((x2 &&& (1 : Int32)) = 0)))), .val (.int y0), .val (.ref b3), .val (.ref b5), .val (.int (own_cmp x0 y0)), .val (.int (own_cmp y0 x0)), .val (.int (0 : Int32))]) rfl k) ?_
        refine own_step (g' := (mkF m 89 #[.val (.int x0), .val (.int x1), .val (.int x2), .val (.int (own_b (¬ ((x2 &&& (1 : Int32)) = 0)))), .val (.int y0), .val (.ref b3), .val (.ref b5), .val (.int (own_cmp x0 y0)), .val (.int (own_cmp y0 x0)), .val (.int (0 : Int32))] [])) (fun _ k => XS.goto X8.here hx rfl (pc0 := 83) (pc' := 89) rfl (hb hby at_83) (by decide) (by decide) k) ?_
        exact kj (0 : Int32) (by simp only [own_cmp, if_neg hc65, if_pos hc77])
      · show own_E p e below (own_F s 16 128) (own_Q0 Z x0 x1 x2 h0 n0) T8 (mkF m 86 #[.val (.int x0), .val (.int x1), .val (.int x2), .val (.int (own_b (¬ ((x2 &&& (1 : Int32)) = 0)))), .val (.int y0), .val (.ref b3), .val (.ref b5), .val (.int (own_cmp x0 y0)), .val (.int (own_cmp y0 x0)), .unset] [])
        refine own_step (g' := (mkF m 87 #[.val (.int x0), .val (.int x1), .val (.int x2), .val (.int (own_b (¬ ((x2 &&& (1 : Int32)) = 0)))), .val (.int y0), .val (.ref b3), .val (.ref b5), .val (.int (own_cmp x0 y0)), .val (.int (own_cmp y0 x0)), .unset] [(.int (1 : Int32))])) (fun _ k => XS.iconst X8.here hx rfl (hb hby at_86) k) ?_
        refine own_step (g' := (mkF m 89 #[.val (.int x0), .val (.int x1), .val (.int x2), .val (.int (own_b (¬ ((x2 &&& (1 : Int32)) = 0)))), .val (.int y0), .val (.ref b3), .val (.ref b5), .val (.int (own_cmp x0 y0)), .val (.int (own_cmp y0 x0)), .val (.int (1 : Int32))] [])) (fun _ k => XS.istore X8.here hx rfl (hb hby at_87) rfl (l' := #[.val (.int x0), .val (.int x1), .val (.int x2), .val (.int (own_b (¬ ((x2 &&& (1 : Int32)) = 0)))), .val (.int y0), .val (.ref b3), .val (.ref b5), .val (.int (own_cmp x0 y0)), .val (.int (own_cmp y0 x0)), .val (.int (1 : Int32))]) rfl k) ?_
        exact kj (1 : Int32) (by simp only [own_cmp, if_neg hc65, if_neg hc77])
  refine kj9 fun z9_0 hz9 => ?_
  subst hz9
  show own_E p e below (own_F s 16 128) (own_Q0 Z x0 x1 x2 h0 n0) T8 (mkF m 89 #[.val (.int x0), .val (.int x1), .val (.int x2), .val (.int (own_b (¬ ((x2 &&& (1 : Int32)) = 0)))), .val (.int y0), .val (.ref b3), .val (.ref b5), .val (.int (own_cmp x0 y0)), .val (.int (own_cmp y0 x0)), .val (.int (own_cmp x0 y0))] [])
  refine own_step (g' := (mkF m 91 #[.val (.int x0), .val (.int x1), .val (.int x2), .val (.int (own_b (¬ ((x2 &&& (1 : Int32)) = 0)))), .val (.int y0), .val (.ref b3), .val (.ref b5), .val (.int (own_cmp x0 y0)), .val (.int (own_cmp y0 x0)), .val (.int (own_cmp x0 y0))] [(.int (own_cmp x0 y0))])) (fun _ k => XS.iload X8.here hx rfl (hb hby at_89) rfl k) ?_
  obtain ⟨_, _, ⟨T10, L10, k10, n10⟩, -, X10, ⟨Lc10, hQ10, l10, y10, z10⟩, st10⟩ := Jvm.LawKit.callS X8 hx (y := (⟨"com/example/muster/muster/core/PointsCompareToPinLaw", "sign", "(I)I"⟩ : MethodName)) hown (mvT hZ (hw _ (List.mem_of_getElem? (i := 25) rfl))) (mvT hZ (hw _ (List.mem_of_getElem? (i := 26) rfl))) (mvT hZ (hw _ (List.mem_of_getElem? (i := 27) rfl))) (mvT hZ (hw _ (List.mem_of_getElem? (i := 28) rfl))) (by decide) (backOf (W := 0) (own_rm6 l Z a0 hw [] (own_cmp x0 y0) T6.heap n0 Z6 ) hZ (hw _ (List.mem_of_getElem? (i := 28) rfl)) (hw _ (List.mem_of_getElem? (i := 27) rfl)) (by decide) (by decide)) (g := (mkF m 91 #[.val (.int x0), .val (.int x1), .val (.int x2), .val (.int (own_b (¬ ((x2 &&& (1 : Int32)) = 0)))), .val (.int y0), .val (.ref b3), .val (.ref b5), .val (.int (own_cmp x0 y0)), .val (.int (own_cmp y0 x0)), .val (.int (own_cmp x0 y0))] [(.int (own_cmp x0 y0))])) rfl (by rw [hml]; rfl) (argsL := [(.int (own_cmp x0 y0))]) (rest := []) (lenOf own_pd__28I_29I rfl) rfl (by show 2 * 0 + _ ≤ _; exact Nat.le_of_eq rfl) (hb hby at_91) (fun _ _ => ⟨rfl, e8, (by decide : 2 + 0 ≤ _), (by decide : 2 + 0 ≤ _)⟩)
  dsimp only [Pt.U, Pt.locs, Pt.cells, Pt.slots] at X10 l10 y10 z10 st10 hQ10
  subst l10 y10 z10
  obtain ⟨rfl, Nq10, e10⟩ := hQ10
  have N10 := Fr.app N8 Nq10
  refine own_step (g' := (mkF m 94 #[.val (.int x0), .val (.int x1), .val (.int x2), .val (.int (own_b (¬ ((x2 &&& (1 : Int32)) = 0)))), .val (.int y0), .val (.ref b3), .val (.ref b5), .val (.int (own_cmp x0 y0)), .val (.int (own_cmp y0 x0)), .val (.int (own_cmp x0 y0))] [(.int (own_sign (own_cmp x0 y0)))])) (fun _ k => st10 _ k) ?_
  refine own_step (g' := (mkF m 96 #[.val (.int x0), .val (.int x1), .val (.int x2), .val (.int (own_b (¬ ((x2 &&& (1 : Int32)) = 0)))), .val (.int y0), .val (.ref b3), .val (.ref b5), .val (.int (own_cmp x0 y0)), .val (.int (own_cmp y0 x0)), .val (.int (own_cmp x0 y0))] [(.int (own_cmp x0 y0)), (.int (own_sign (own_cmp x0 y0)))])) (fun _ k => XS.iload X10.here hx rfl (hb hby at_94) rfl k) ?_
  refine own_icN X10 hx (P := ((own_sign (own_cmp x0 y0)) = (own_cmp x0 y0))) (hb hby at_96) (own_i_ne (own_sign (own_cmp x0 y0)) (own_cmp x0 y0)) (by decide) (pc1 := 114) (by decide) (fun hc96 => ?_) (fun hc96 => ?_)
  · show own_E p e below (own_F s 16 128) (own_Q0 Z x0 x1 x2 h0 n0) T10 (mkF m 99 #[.val (.int x0), .val (.int x1), .val (.int x2), .val (.int (own_b (¬ ((x2 &&& (1 : Int32)) = 0)))), .val (.int y0), .val (.ref b3), .val (.ref b5), .val (.int (own_cmp x0 y0)), .val (.int (own_cmp y0 x0)), .val (.int (own_cmp x0 y0))] [])
    refine own_step (g' := (mkF m 101 #[.val (.int x0), .val (.int x1), .val (.int x2), .val (.int (own_b (¬ ((x2 &&& (1 : Int32)) = 0)))), .val (.int y0), .val (.ref b3), .val (.ref b5), .val (.int (own_cmp x0 y0)), .val (.int (own_cmp y0 x0)), .val (.int (own_cmp x0 y0))] [(.int (own_cmp y0 x0))])) (fun _ k => XS.iload X10.here hx rfl (hb hby at_99) rfl k) ?_
    obtain ⟨_, _, ⟨T11, L11, k11, n11⟩, -, X11, ⟨Lc11, hQ11, l11, y11, z11⟩, st11⟩ := Jvm.LawKit.callS X10 hx (y := (⟨"com/example/muster/muster/core/PointsCompareToPinLaw", "sign", "(I)I"⟩ : MethodName)) hown (mvT hZ (hw _ (List.mem_of_getElem? (i := 25) rfl))) (mvT hZ (hw _ (List.mem_of_getElem? (i := 26) rfl))) (mvT hZ (hw _ (List.mem_of_getElem? (i := 27) rfl))) (mvT hZ (hw _ (List.mem_of_getElem? (i := 28) rfl))) (by decide) (backOf (W := 0) (own_rm6 l Z a0 hw [] (own_cmp y0 x0) T6.heap n0 Z6 ) hZ (hw _ (List.mem_of_getElem? (i := 28) rfl)) (hw _ (List.mem_of_getElem? (i := 27) rfl)) (by decide) (by decide)) (g := (mkF m 101 #[.val (.int x0), .val (.int x1), .val (.int x2), .val (.int (own_b (¬ ((x2 &&& (1 : Int32)) = 0)))), .val (.int y0), .val (.ref b3), .val (.ref b5), .val (.int (own_cmp x0 y0)), .val (.int (own_cmp y0 x0)), .val (.int (own_cmp x0 y0))] [(.int (own_cmp y0 x0))])) rfl (by rw [hml]; rfl) (argsL := [(.int (own_cmp y0 x0))]) (rest := []) (lenOf own_pd__28I_29I rfl) rfl (by show 2 * 0 + _ ≤ _; exact Nat.le_of_eq rfl) (hb hby at_101) (fun _ _ => ⟨rfl, e10, (by decide : 2 + 0 ≤ _), (by decide : 2 + 0 ≤ _)⟩)
    dsimp only [Pt.U, Pt.locs, Pt.cells, Pt.slots] at X11 l11 y11 z11 st11 hQ11
    subst l11 y11 z11
    obtain ⟨rfl, Nq11, e11⟩ := hQ11
    have N11 := Fr.app N10 Nq11
    refine own_step (g' := (mkF m 104 #[.val (.int x0), .val (.int x1), .val (.int x2), .val (.int (own_b (¬ ((x2 &&& (1 : Int32)) = 0)))), .val (.int y0), .val (.ref b3), .val (.ref b5), .val (.int (own_cmp x0 y0)), .val (.int (own_cmp y0 x0)), .val (.int (own_cmp x0 y0))] [(.int (own_sign (own_cmp y0 x0)))])) (fun _ k => st11 _ k) ?_
    refine own_step (g' := (mkF m 106 #[.val (.int x0), .val (.int x1), .val (.int x2), .val (.int (own_b (¬ ((x2 &&& (1 : Int32)) = 0)))), .val (.int y0), .val (.ref b3), .val (.ref b5), .val (.int (own_cmp x0 y0)), .val (.int (own_cmp y0 x0)), .val (.int (own_cmp x0 y0))] [(.int (own_cmp x0 y0)), (.int (own_sign (own_cmp y0 x0)))])) (fun _ k => XS.iload X11.here hx rfl (hb hby at_104) rfl k) ?_
    refine own_step (g' := (mkF m 107 #[.val (.int x0), .val (.int x1), .val (.int x2), .val (.int (own_b (¬ ((x2 &&& (1 : Int32)) = 0)))), .val (.int y0), .val (.ref b3), .val (.ref b5), .val (.int (own_cmp x0 y0)), .val (.int (own_cmp y0 x0)), .val (.int (own_cmp x0 y0))] [(.int (-(own_cmp x0 y0))), (.int (own_sign (own_cmp y0 x0)))])) (fun _ k => XS.ineg X11.here hx rfl (hb hby at_106) rfl k) ?_
    refine own_icN X11 hx (P := ((own_sign (own_cmp y0 x0)) = (-(own_cmp x0 y0)))) (hb hby at_107) (own_i_ne (own_sign (own_cmp y0 x0)) (-(own_cmp x0 y0))) (by decide) (pc1 := 114) (by decide) (fun hc107 => ?_) (fun hc107 => ?_)
    · show own_E p e below (own_F s 16 128) (own_Q0 Z x0 x1 x2 h0 n0) T11 (mkF m 110 #[.val (.int x0), .val (.int x1), .val (.int x2), .val (.int (own_b (¬ ((x2 &&& (1 : Int32)) = 0)))), .val (.int y0), .val (.ref b3), .val (.ref b5), .val (.int (own_cmp x0 y0)), .val (.int (own_cmp y0 x0)), .val (.int (own_cmp x0 y0))] [])
      refine own_step (g' := (mkF m 111 #[.val (.int x0), .val (.int x1), .val (.int x2), .val (.int (own_b (¬ ((x2 &&& (1 : Int32)) = 0)))), .val (.int y0), .val (.ref b3), .val (.ref b5), .val (.int (own_cmp x0 y0)), .val (.int (own_cmp y0 x0)), .val (.int (own_cmp x0 y0))] [(.int (1 : Int32))])) (fun _ k => XS.iconst X11.here hx rfl (hb hby at_110) k) ?_
      refine own_step (g' := (mkF m 115 #[.val (.int x0), .val (.int x1), .val (.int x2), .val (.int (own_b (¬ ((x2 &&& (1 : Int32)) = 0)))), .val (.int y0), .val (.ref b3), .val (.ref b5), .val (.int (own_cmp x0 y0)), .val (.int (own_cmp y0 x0)), .val (.int (own_cmp x0 y0))] [(.int (1 : Int32))])) (fun _ k => XS.goto X11.here hx rfl (pc0 := 111) (pc' := 115) rfl (hb hby at_111) (by decide) (by decide) k) ?_
      exact own_retI X11 hx hlk hret (by simp) (hb hby at_115) rfl (by decide) (by decide) (by show own_Q0 Z x0 x1 x2 h0 n0 (some (.int (1 : Int32))) T11.heap _; rw [e11]; exact ⟨rfl, N11⟩)
    · show own_E p e below (own_F s 16 128) (own_Q0 Z x0 x1 x2 h0 n0) T11 (mkF m 114 #[.val (.int x0), .val (.int x1), .val (.int x2), .val (.int (own_b (¬ ((x2 &&& (1 : Int32)) = 0)))), .val (.int y0), .val (.ref b3), .val (.ref b5), .val (.int (own_cmp x0 y0)), .val (.int (own_cmp y0 x0)), .val (.int (own_cmp x0 y0))] [])
      exact absurd (own_law2 x0 y0) hc107
  · show own_E p e below (own_F s 16 128) (own_Q0 Z x0 x1 x2 h0 n0) T10 (mkF m 114 #[.val (.int x0), .val (.int x1), .val (.int x2), .val (.int (own_b (¬ ((x2 &&& (1 : Int32)) = 0)))), .val (.int y0), .val (.ref b3), .val (.ref b5), .val (.int (own_cmp x0 y0)), .val (.int (own_cmp y0 x0)), .val (.int (own_cmp x0 y0))] [])
    exact absurd (own_law1 x0 y0) hc96
set_option maxRecDepth 65536 in
set_option maxHeartbeats 40000000 in
theorem own_comes {Post : Tables → Env → Array Value → State → Outcome → State → Prop} (hpost : ∀ tb e args s v u, (limb_1_1.after args s (.returned v) u = true ∧ limb_1_2.after args s (.returned v) u = true ∧ True) → FrameEnd s (.returned v) u (Jvm.fieldLocs frame_1_writes args s ++ Jvm.arrayLocs frame_1_arrays args s ++ Jvm.staticLocs frame_1_statics s) 16 128 → Post tb e args s (.returned v) u) :
    ArmFor flags0 classFile x code maxLocals ret World_1 tables_1 room_1 Calls_1 rest_1 Pre_1 Post := by
  intro l hfl _ _ p e ha hc hk s m args below hf hA hF happ hP
  obtain ⟨hcalls, hrest, hpre⟩ := hP
  obtain ⟨-, -, -, hnamed, -, -, -, hat⟩ := (Spec.applies_iff hf).mp happ
  obtain ⟨hg, hn⟩ := and_e (Cond.before_iff.mp (show (Jvm.Cond.and given_1 narrow_1).before args s = true from hpre))
  obtain ⟨q0, r0⟩ := and_e hg
  obtain ⟨q1, r1⟩ := and_e r0
  obtain ⟨q2, r2⟩ := and_e r1
  obtain ⟨w0, w1, w2, rfl⟩ : ∃ w0 w1 w2 : Value, args = #[w0, w1, w2] := by
    have hs : args.size = 3 := by simpa [Cond.value, given_1] using q0
    obtain ⟨L⟩ := args
    match L, hs with
    | [w0, w1, w2], _ => exact ⟨w0, w1, w2, rfl⟩
  have hw := fun d (hd : d ∈ tables_1) => atoms_spec (ws := Jvm.Cond.code x code maxLocals ret :: tables_1) hat d (List.mem_cons_of_mem _ hd)
  obtain ⟨i0, ei0⟩ := is_v q1
  obtain rfl : w0 = (.int i0) := Option.some.inj ei0
  obtain ⟨i1, ei1⟩ := is_v q2
  obtain rfl : w1 = (.int i1) := Option.some.inj ei1
  obtain ⟨i2, ei2⟩ := is_v r2
  obtain rfl : w2 = (.int i2) := Option.some.inj ei2
  obtain ⟨n, o, h1, h2, h3, _, L, rfl, ⟨rfl, N⟩, hq⟩ := own_rm0 l s _ hw tables_1 i0 i1 i2 s.heap s.heap.size (Nat.le_refl _) p e ha hc hk s m _ below hf ((Spec.applies_iff_loose hf).mp happ).1 ⟨rfl, State.Warmed39.refl s, rfl⟩ trivial
  refine ⟨n, _, h1, h2, h3, hpost _ _ _ _ _ _ ⟨Cond.after_iff.mpr rfl, Cond.after_iff.mpr (eq_i res_at (Term.int_eval (1)) rfl), trivial⟩ ⟨hq.1, hq.2.1, (hq.2.2.sift fun y hy => Or.inr (N y hy)).mono (by decide) (by decide)⟩⟩
theorem main_1_1 : Claimed_1_1 := own_comes fun _ _ _ _ _ _ h hF => ⟨h.1, hF⟩
theorem main_1_2 : Claimed_1_2 := own_comes fun _ _ _ _ _ _ h hF => ⟨h.2.1, hF⟩
end Jvm.Pilot.@@N@@
namespace Jvm.Pilot.@@N@@
open Jvm Jvm.ClassFile Sem Op Lib Jvm.Free Jvm.Stand Jvm.Pilot.@@N@@.Jvm.D
/-! MADE BY PROGRAM (witnessworld.py) out of the Statement's table words and the real class files: 15 classes; the members and pool entries that the words name. The judged class is class 1, her method 2. -/
namespace start1
open Jvm.ClassFile
def u (s : String) : CpInfo := .utf8 (stringToUtf16 s)
/-- a pool by its gaps: so many unusable entries, then the entry; so many at the end -/
def gap : Nat → List CpInfo → List CpInfo
  | 0, r => r
  | n + 1, r => .unusable :: gap n r
def poolList (es : List (Nat × CpInfo)) (last : Nat) : List CpInfo := es.foldr (fun e r => gap e.1 (e.2 :: r)) (gap last [])
def pool (es : List (Nat × CpInfo)) (last : Nat) : Array CpInfo := ⟨poolList es last⟩
def fileOf (pool : Array CpInfo) (this : Nat) (attrs : Array Attribute := #[]) (ms : Array MethodInfo := #[]) (fl : Nat := 33) (sup : Nat := 0) (ifs : Array Nat := #[]) (fds : Array FieldInfo := #[]) : ClassFile where
  minorVersion := 0
  majorVersion := 65
  constantPool := pool
  accessFlags := fl
  thisClass := this
  superClass := sup
  interfaces := ifs
  fields := fds
  methods := ms
  attributes := attrs
def plain (name : String) (sup : Option ClassId) : Class where
  name := name
  kind := .ordinary
  loader := none
  accessFlags := 33
  super := sup
  interfaces := #[]
  cf := none
  fields := #[]
  methods := #[]
  instanceTypes := #[]
  staticTypes := #[]
  resolved := #[]
  callSites := []
  init := .initialized
  statics := none
  mirror := none

def pool0 : Array CpInfo := pool [(5, u "<init>"), (0, u "()V"), (1, .class_ 10), (1, u "java/lang/Object")] 113

def k0c0 : Code := { maxStack := 0, maxLocals := 1, code := object_method_1_code, exceptionTable := #[], attributes := #[] }
def k0m0 : Method := { name := "<init>", desc := "()V", sig := { parameters := [], returnType := none }, accessFlags := 1, code := some k0c0 }
/-- java/lang/Object -/
def k0 : Class := { plain "java/lang/Object" none with
  accessFlags := 33
  interfaces := #[]
  cf := some (fileOf pool0 8 #[] #[{ accessFlags := 1, nameIndex := 5, descriptorIndex := 6, attributes := #[] }] 33 0 #[] #[])
  fields := #[]
  methods := #[k0m0]
  instanceTypes := #[]
  staticTypes := #[]
  resolved := Array.replicate 124 none
  statics := none }

def pool1 : Array CpInfo := pool [(2, .class_ 4), (1, u "java/lang/Object"), (0, u "<init>"), (0, u "()V"), (0, .class_ 8), (0, u "com/example/muster/muster/core/Points"), (0, .methodref 7 10), (0, .nameAndType 5 11), (0, u "(I)V"), (0, .methodref 7 13), (0, .nameAndType 14 15), (0, u "compareTo"), (0, u "(Lcom/example/muster/muster/core/Points;)I"), (0, .methodref 17 18), (0, .class_ 19), (0, .nameAndType 20 21), (0, u "com/example/muster/muster/core/PointsCompareToPinLaw"), (0, u "sign"), (0, u "(I)I"), (3, u "law"), (0, u "(III)Z")] 2

def k1m0 : Method := { name := "<init>", desc := "()V", sig := { parameters := [], returnType := none }, accessFlags := 2, code := none }
def k1c1 : Code := { maxStack := 1, maxLocals := 1, code := method_2_code, exceptionTable := #[], attributes := #[] }
def k1m1 : Method := { name := "sign", desc := "(I)I", sig := { parameters := [.int], returnType := some .int }, accessFlags := 10, code := some k1c1 }
def k1c2 : Code := { maxStack := 3, maxLocals := 10, code := code, exceptionTable := #[], attributes := #[] }
def k1m2 : Method := { name := "law", desc := "(III)Z", sig := { parameters := [.int, .int, .int], returnType := some .boolean }, accessFlags := 9, code := some k1c2 }
/-- com/example/muster/muster/core/PointsCompareToPinLaw -/
def k1 : Class := { plain "com/example/muster/muster/core/PointsCompareToPinLaw" (some 0) with
  accessFlags := 49
  interfaces := #[]
  cf := some (fileOf pool1 17 #[] #[{ accessFlags := 2, nameIndex := 5, descriptorIndex := 6, attributes := #[] }, { accessFlags := 10, nameIndex := 20, descriptorIndex := 21, attributes := #[] }, { accessFlags := 9, nameIndex := 25, descriptorIndex := 26, attributes := #[] }] 49 2 #[] #[])
  fields := #[]
  methods := #[k1m0, k1m1, k1m2]
  instanceTypes := #[]
  staticTypes := #[]
  resolved := Array.replicate 29 none
  statics := none }

def pool2 : Array CpInfo := pool [(1, .methodref 2 3), (0, .class_ 4), (0, .nameAndType 5 6), (0, u "java/lang/Object"), (0, u "<init>"), (0, u "()V"), (0, .class_ 8), (0, u "java/lang/Record")] 13

def k2c0 : Code := { maxStack := 1, maxLocals := 1, code := jdk_30_method_1_code, exceptionTable := #[], attributes := #[] }
def k2m0 : Method := { name := "<init>", desc := "()V", sig := { parameters := [], returnType := none }, accessFlags := 4, code := some k2c0 }
/-- java/lang/Record -/
def k2 : Class := { plain "java/lang/Record" (some 0) with
  accessFlags := 1057
  interfaces := #[]
  cf := some (fileOf pool2 7 #[] #[{ accessFlags := 4, nameIndex := 5, descriptorIndex := 6, attributes := #[] }] 1057 2 #[] #[])
  fields := #[]
  methods := #[k2m0]
  instanceTypes := #[]
  staticTypes := #[]
  resolved := Array.replicate 22 none
  statics := none }

def pool3 : Array CpInfo := pool [(1, .class_ 2), (0, u "java/lang/Comparable"), (0, .class_ 4), (0, u "java/lang/Object")] 7

/-- java/lang/Comparable -/
def k3 : Class := { plain "java/lang/Comparable" (some 0) with
  accessFlags := 1537
  interfaces := #[]
  cf := some (fileOf pool3 1 #[] #[] 1537 3 #[] #[])
  fields := #[]
  methods := #[]
  instanceTypes := #[]
  staticTypes := #[]
  resolved := Array.replicate 12 none
  statics := none }

def pool4 : Array CpInfo := pool [(1, .methodref 2 3), (0, .class_ 4), (0, .nameAndType 5 6), (0, u "java/lang/Record"), (0, u "<init>"), (0, u "()V"), (0, .fieldref 8 9), (0, .class_ 10), (0, .nameAndType 11 12), (0, u "com/example/muster/muster/core/Points"), (0, u "halves"), (0, u "I"), (5, u "(II)I"), (2, u "(I)V"), (3, .methodref 26 27), (0, .class_ 28), (0, .nameAndType 29 18), (0, u "java/lang/Integer"), (0, u "compare"), (17, u "compareTo"), (0, u "(Lcom/example/muster/muster/core/Points;)I"), (9, u "ZERO"), (0, u "Lcom/example/muster/muster/core/Points;"), (0, .class_ 61), (0, u "java/lang/Comparable")] 47

def k4c0 : Code := { maxStack := 2, maxLocals := 2, code := prog_10_method_1_code, exceptionTable := #[], attributes := #[] }
def k4m0 : Method := { name := "<init>", desc := "(I)V", sig := { parameters := [.int], returnType := none }, accessFlags := 1, code := some k4c0 }
def k4c1 : Code := { maxStack := 2, maxLocals := 2, code := prog_10_method_4_code, exceptionTable := #[], attributes := #[] }
def k4m1 : Method := { name := "compareTo", desc := "(Lcom/example/muster/muster/core/Points;)I", sig := { parameters := [(.object "com/example/muster/muster/core/Points")], returnType := some .int }, accessFlags := 1, code := some k4c1 }
/-- com/example/muster/muster/core/Points -/
def k4 : Class := { plain "com/example/muster/muster/core/Points" (some 2) with
  accessFlags := 49
  interfaces := #[3]
  cf := some (fileOf pool4 8 #[] #[{ accessFlags := 1, nameIndex := 5, descriptorIndex := 21, attributes := #[] }, { accessFlags := 1, nameIndex := 47, descriptorIndex := 48, attributes := #[] }] 49 2 #[60] #[{ accessFlags := 18, nameIndex := 11, descriptorIndex := 12, attributes := #[] }, { accessFlags := 25, nameIndex := 58, descriptorIndex := 59, attributes := #[] }])
  fields := #[{ name := "halves", type := .int, accessFlags := 18, slot := 0, constantValue := 0 }, { name := "ZERO", type := (.object "com/example/muster/muster/core/Points"), accessFlags := 25, slot := 0, constantValue := 0 }]
  methods := #[k4m0, k4m1]
  instanceTypes := #[.int]
  staticTypes := #[(.object "com/example/muster/muster/core/Points")]
  resolved := Array.replicate 109 none
  statics := none }

def pool5 : Array CpInfo := pool [(1, .class_ 2), (0, u "java/io/Serializable"), (0, .class_ 4), (0, u "java/lang/Object")] 2

/-- java/io/Serializable -/
def k5 : Class := { plain "java/io/Serializable" (some 0) with
  accessFlags := 1537
  interfaces := #[]
  cf := some (fileOf pool5 1 #[] #[] 1537 3 #[] #[])
  fields := #[]
  methods := #[]
  instanceTypes := #[]
  staticTypes := #[]
  resolved := Array.replicate 7 none
  statics := none }

def pool6 : Array CpInfo := pool [(2, .class_ 4), (1, u "java/lang/Object"), (0, u "<init>"), (0, u "()V"), (1, .class_ 10), (1, u "java/lang/Number"), (2, .class_ 14), (0, u "java/io/Serializable"), (0, u "serialVersionUID"), (0, u "J")] 20

def k6m0 : Method := { name := "<init>", desc := "()V", sig := { parameters := [], returnType := none }, accessFlags := 1, code := none }
/-- java/lang/Number -/
def k6 : Class := { plain "java/lang/Number" (some 0) with
  accessFlags := 1057
  interfaces := #[5]
  cf := some (fileOf pool6 8 #[] #[{ accessFlags := 1, nameIndex := 5, descriptorIndex := 6, attributes := #[] }] 1057 2 #[13] #[{ accessFlags := 26, nameIndex := 15, descriptorIndex := 16, attributes := #[] }])
  fields := #[{ name := "serialVersionUID", type := .long, accessFlags := 26, slot := 0, constantValue := 0 }]
  methods := #[k6m0]
  instanceTypes := #[]
  staticTypes := #[.long]
  resolved := Array.replicate 37 none
  statics := none }

def pool7 : Array CpInfo := pool [(1, .class_ 2), (0, u "java/lang/constant/Constable"), (0, .class_ 4), (0, u "java/lang/Object")] 6

/-- java/lang/constant/Constable -/
def k7 : Class := { plain "java/lang/constant/Constable" (some 0) with
  accessFlags := 1537
  interfaces := #[]
  cf := some (fileOf pool7 1 #[] #[] 1537 3 #[] #[])
  fields := #[]
  methods := #[]
  instanceTypes := #[]
  staticTypes := #[]
  resolved := Array.replicate 11 none
  statics := none }

def pool8 : Array CpInfo := pool [(1, .class_ 2), (0, u "java/lang/constant/ConstantDesc"), (0, .class_ 4), (0, u "java/lang/Object")] 32

/-- java/lang/constant/ConstantDesc -/
def k8 : Class := { plain "java/lang/constant/ConstantDesc" (some 0) with
  accessFlags := 1537
  interfaces := #[]
  cf := some (fileOf pool8 1 #[] #[] 1537 3 #[] #[])
  fields := #[]
  methods := #[]
  instanceTypes := #[]
  staticTypes := #[]
  resolved := Array.replicate 37 none
  statics := none }

def pool9 : Array CpInfo := pool [(1, .class_ 2), (0, u "java/lang/Integer"), (16, u "digits"), (0, u "[C"), (39, u "(II)I"), (24, u "DigitOnes"), (0, u "[B"), (2, u "DigitTens"), (99, .class_ 190), (0, u "java/lang/Integer$IntegerCache"), (3, u "I"), (8, .class_ 204), (0, u "java/lang/Number"), (2, u "value"), (53, u "compare"), (40, u "TYPE"), (0, u "Ljava/lang/Class;"), (0, .class_ 305), (0, u "java/lang/Comparable"), (0, .class_ 307), (0, u "java/lang/constant/Constable"), (0, .class_ 309), (0, u "java/lang/constant/ConstantDesc"), (0, u "MIN_VALUE"), (1, u "MAX_VALUE"), (3, u "SIZE"), (1, u "BYTES"), (1, u "serialVersionUID"), (0, u "J")] 131

def k9c0 : Code := { maxStack := 2, maxLocals := 2, code := jdk_33_method_40_code, exceptionTable := #[], attributes := #[] }
def k9m0 : Method := { name := "compare", desc := "(II)I", sig := { parameters := [.int, .int], returnType := some .int }, accessFlags := 9, code := some k9c0 }
/-- java/lang/Integer -/
def k9 : Class := { plain "java/lang/Integer" (some 6) with
  accessFlags := 49
  interfaces := #[3, 7, 8]
  cf := some (fileOf pool9 1 #[.nestMembers #[189]] #[{ accessFlags := 9, nameIndex := 261, descriptorIndex := 60, attributes := #[] }] 49 203 #[304, 306, 308] #[{ accessFlags := 25, nameIndex := 310, descriptorIndex := 194, attributes := #[] }, { accessFlags := 25, nameIndex := 312, descriptorIndex := 194, attributes := #[] }, { accessFlags := 25, nameIndex := 302, descriptorIndex := 303, attributes := #[] }, { accessFlags := 24, nameIndex := 19, descriptorIndex := 20, attributes := #[] }, { accessFlags := 24, nameIndex := 89, descriptorIndex := 86, attributes := #[] }, { accessFlags := 24, nameIndex := 85, descriptorIndex := 86, attributes := #[] }, { accessFlags := 18, nameIndex := 207, descriptorIndex := 194, attributes := #[] }, { accessFlags := 25, nameIndex := 316, descriptorIndex := 194, attributes := #[] }, { accessFlags := 25, nameIndex := 318, descriptorIndex := 194, attributes := #[] }, { accessFlags := 26, nameIndex := 320, descriptorIndex := 321, attributes := #[] }])
  fields := #[{ name := "MIN_VALUE", type := .int, accessFlags := 25, slot := 0, constantValue := 0 }, { name := "MAX_VALUE", type := .int, accessFlags := 25, slot := 1, constantValue := 0 }, { name := "TYPE", type := (.object "java/lang/Class"), accessFlags := 25, slot := 2, constantValue := 0 }, { name := "digits", type := (.array .char), accessFlags := 24, slot := 3, constantValue := 0 }, { name := "DigitTens", type := (.array .byte), accessFlags := 24, slot := 4, constantValue := 0 }, { name := "DigitOnes", type := (.array .byte), accessFlags := 24, slot := 5, constantValue := 0 }, { name := "value", type := .int, accessFlags := 18, slot := 0, constantValue := 0 }, { name := "SIZE", type := .int, accessFlags := 25, slot := 6, constantValue := 0 }, { name := "BYTES", type := .int, accessFlags := 25, slot := 7, constantValue := 0 }, { name := "serialVersionUID", type := .long, accessFlags := 26, slot := 8, constantValue := 0 }]
  methods := #[k9m0]
  instanceTypes := #[.int]
  staticTypes := #[.int, .int, (.object "java/lang/Class"), (.array .char), (.array .byte), (.array .byte), .int, .int, .long]
  resolved := Array.replicate 453 none
  statics := none }

def pool10 : Array CpInfo := pool [(1, u "java/lang/Cloneable"), (0, .class_ 1), (0, u "java/lang/Object"), (0, .class_ 3)] 3

/-- java/lang/Cloneable -/
def k10 : Class := { plain "java/lang/Cloneable" (some 0) with
  accessFlags := 1537
  interfaces := #[]
  cf := some (fileOf pool10 2 #[] #[] 1537 4 #[] #[])
  fields := #[]
  methods := #[]
  instanceTypes := #[]
  staticTypes := #[]
  resolved := Array.replicate 8 none
  statics := none }

/-- the primitive byte -/
def k11 : Class := { plain "byte" none with kind := .primitive 'B', accessFlags := 0x411 }
/-- [B -/
def k12 : Class := { plain "[B" (some 0) with kind := .array 11 .byte, interfaces := #[10, 5], accessFlags := 1041 }

/-- the primitive int -/
def k13 : Class := { plain "int" none with kind := .primitive 'I', accessFlags := 0x411 }
/-- [I -/
def k14 : Class := { plain "[I" (some 0) with kind := .array 13 .int, interfaces := #[10, 5], accessFlags := 1041 }

def heap : Heap := #[]
def classes : Array Class := #[k0, k1, k2, k3, k4, k5, k6, k7, k8, k9, k10, k11, k12, k13, k14]
def interned : List (Array UInt16 × Addr) := []
def slotsUsed : Nat := 0
def theMethod : MethodId := ⟨1, 2⟩
def args0 : Array Value := #[.int 5, .int 7, .int 2]
def aboutOver (below : List Frame) : State where
  vm := { classes := classes, interned := interned.toArray }
  heap := heap
  slotsUsed := slotsUsed
  threads := #[{ frames := .invoking theMethod args0 :: below }]
def below0 : List Frame := [.native { method := ⟨0, 0⟩, args := #[] }]
def about1 : State := aboutOver below0
def p0 : Program := .bare "" "" ""
def e0 : Env := launch0.env 0 0 0
theorem w_frames : about1.frames = Frame.invoking theMethod args0 :: below0 := rfl
set_option maxRecDepth 65536 in
theorem w_args : argsFit about1.vm theMethod args0 = true := by decide +kernel
set_option maxRecDepth 65536 in
theorem w_heap : heapFits about1 = true := by decide +kernel
set_option maxRecDepth 65536 in
theorem w_runnable : about1.curStatus? = some .runnable := by decide +kernel
set_option maxRecDepth 65536 in
theorem w_alone : about1.alone = true := by decide +kernel
set_option maxRecDepth 65536 in
theorem w_named : about1.methodNamed? x = some theMethod := by decide +kernel
set_option maxRecDepth 65536 in
theorem w_hears : about1.hears theMethod below0 = true := by decide +kernel
set_option maxRecDepth 65536 in
theorem w_ripe : about1.ripe theMethod args0 below0 = true := by decide +kernel
theorem w_running : about1.status = .running := rfl
set_option maxRecDepth 65536 in
theorem w_room : about1.hasRoom e0.platform room_1 = true :=
  launch0.hasRoom_least _ room_1 (by decide +kernel) (by decide +kernel) (by decide +kernel) (by decide +kernel) (by decide +kernel) (by decide +kernel)
theorem allAtoms_all (ts : List Jvm.Cond) (a : Array Jvm.Value) (st : Jvm.State) : (allAtoms ts).before a st = ts.all (fun c => c.before a st) := by
  induction ts with
  | nil => rfl
  | cons c t ih =>
    show (Jvm.Cond.and c (allAtoms t)).before a st = _
    rw [Jvm.Cond.before_and, ih, List.all_cons]
def words1 : List Jvm.Cond := Jvm.Cond.code x code maxLocals ret :: tables_1
/-- a 'code' word, met by the world's own term for the bytes: nothing is compared byte by byte -/
theorem code_word {y : MethodName} {bytes : ByteArray} {mx : Nat} {rt : Option FieldType} {a : Array Value} {s : State} {m : MethodId} {meth : Method} {c : Code} (h1 : s.methodNamed? y = some m) (h2 : s.vm.method? m = some meth) (h3 : meth.code = some c) (h4 : c.code = bytes)
    (h5 : (c.maxLocals == mx && c.exceptionTable.isEmpty && decide (c.maxStack ≤ mostOperands) && decide (meth.sig.returnType = rt) && !meth.locks && decide (parseMethodDescriptor y.desc = some meth.sig)) = true) : (Jvm.Cond.code y bytes mx rt).before a s = true := by
  simp only [Bool.and_eq_true, beq_iff_eq, Bool.not_eq_true', decide_eq_true_eq] at h5
  obtain ⟨⟨⟨⟨⟨g1, g2⟩, g3⟩, g4⟩, g5⟩, g6⟩ := h5
  simp [Cond.before, Cond.holds, Cond.value, h1, h2, h3, h4, g1, g2, g3, g4, g5, g6]
def isCode : Jvm.Cond → Bool
  | .code _ _ _ _ => true
  | _ => false
theorem all_split {L : List Jvm.Cond} {P : Jvm.Cond → Bool} (h1 : L.all (fun c => isCode c || P c) = true) (h2 : ∀ c ∈ L.filter isCode, P c = true) : L.all P = true := by
  refine List.all_eq_true.mpr fun c hc => ?_
  have h := List.all_eq_true.mp h1 c hc
  rcases Bool.eq_false_or_eq_true (isCode c) with hi | hi
  · exact h2 c (List.mem_filter.mpr ⟨hc, hi⟩)
  · simpa [hi] using h
set_option maxRecDepth 65536 in
theorem w_c0 : (Jvm.Cond.code x code maxLocals ret).before args0 about1 = true := code_word (m := ⟨1, 2⟩) (meth := k1m2) (c := k1c2) (by decide +kernel) rfl rfl rfl (by decide +kernel)
set_option maxRecDepth 65536 in
theorem w_c1 : (Jvm.Cond.code ({ cls := "com/example/muster/muster/core/Points", name := "<init>", desc := "(I)V" } : Jvm.MethodName) prog_10_method_1_code (2 : Nat) (Option.none : Option Jvm.ClassFile.FieldType)).before args0 about1 = true := code_word (m := ⟨4, 0⟩) (meth := k4m0) (c := k4c0) (by decide +kernel) rfl rfl rfl (by decide +kernel)
set_option maxRecDepth 65536 in
theorem w_c2 : (Jvm.Cond.code ({ cls := "java/lang/Record", name := "<init>", desc := "()V" } : Jvm.MethodName) jdk_30_method_1_code (1 : Nat) (Option.none : Option Jvm.ClassFile.FieldType)).before args0 about1 = true := code_word (m := ⟨2, 0⟩) (meth := k2m0) (c := k2c0) (by decide +kernel) rfl rfl rfl (by decide +kernel)
set_option maxRecDepth 65536 in
theorem w_c3 : (Jvm.Cond.code ({ cls := "java/lang/Object", name := "<init>", desc := "()V" } : Jvm.MethodName) object_method_1_code (1 : Nat) (Option.none : Option Jvm.ClassFile.FieldType)).before args0 about1 = true := code_word (m := ⟨0, 0⟩) (meth := k0m0) (c := k0c0) (by decide +kernel) rfl rfl rfl (by decide +kernel)
set_option maxRecDepth 65536 in
theorem w_c4 : (Jvm.Cond.code ({ cls := "com/example/muster/muster/core/Points", name := "compareTo", desc := "(Lcom/example/muster/muster/core/Points;)I" } : Jvm.MethodName) prog_10_method_4_code (2 : Nat) (Option.some Jvm.ClassFile.FieldType.int)).before args0 about1 = true := code_word (m := ⟨4, 1⟩) (meth := k4m1) (c := k4c1) (by decide +kernel) rfl rfl rfl (by decide +kernel)
set_option maxRecDepth 65536 in
theorem w_c5 : (Jvm.Cond.code ({ cls := "java/lang/Integer", name := "compare", desc := "(II)I" } : Jvm.MethodName) jdk_33_method_40_code (2 : Nat) (Option.some Jvm.ClassFile.FieldType.int)).before args0 about1 = true := code_word (m := ⟨9, 0⟩) (meth := k9m0) (c := k9c0) (by decide +kernel) rfl rfl rfl (by decide +kernel)
set_option maxRecDepth 65536 in
theorem w_c6 : (Jvm.Cond.code ({ cls := "com/example/muster/muster/core/PointsCompareToPinLaw", name := "sign", desc := "(I)I" } : Jvm.MethodName) method_2_code (1 : Nat) (Option.some Jvm.ClassFile.FieldType.int)).before args0 about1 = true := code_word (m := ⟨1, 1⟩) (meth := k1m1) (c := k1c1) (by decide +kernel) rfl rfl rfl (by decide +kernel)
def codes1 : List Jvm.Cond := [Jvm.Cond.code x code maxLocals ret, Jvm.Cond.code ({ cls := "com/example/muster/muster/core/Points", name := "<init>", desc := "(I)V" } : Jvm.MethodName) prog_10_method_1_code (2 : Nat) (Option.none : Option Jvm.ClassFile.FieldType), Jvm.Cond.code ({ cls := "java/lang/Record", name := "<init>", desc := "()V" } : Jvm.MethodName) jdk_30_method_1_code (1 : Nat) (Option.none : Option Jvm.ClassFile.FieldType), Jvm.Cond.code ({ cls := "java/lang/Object", name := "<init>", desc := "()V" } : Jvm.MethodName) object_method_1_code (1 : Nat) (Option.none : Option Jvm.ClassFile.FieldType), Jvm.Cond.code ({ cls := "com/example/muster/muster/core/Points", name := "compareTo", desc := "(Lcom/example/muster/muster/core/Points;)I" } : Jvm.MethodName) prog_10_method_4_code (2 : Nat) (Option.some Jvm.ClassFile.FieldType.int), Jvm.Cond.code ({ cls := "java/lang/Integer", name := "compare", desc := "(II)I" } : Jvm.MethodName) jdk_33_method_40_code (2 : Nat) (Option.some Jvm.ClassFile.FieldType.int), Jvm.Cond.code ({ cls := "com/example/muster/muster/core/PointsCompareToPinLaw", name := "sign", desc := "(I)I" } : Jvm.MethodName) method_2_code (1 : Nat) (Option.some Jvm.ClassFile.FieldType.int)]
set_option maxRecDepth 65536 in
theorem codes_eq : words1.filter isCode = codes1 := rfl
theorem w_codes : ∀ c ∈ words1.filter isCode, c.before args0 about1 = true := by
  rw [codes_eq]
  intro c hc
  simp only [codes1, List.mem_cons, List.not_mem_nil, or_false] at hc
  rcases hc with rfl | rfl | rfl | rfl | rfl | rfl | rfl
  · exact w_c0
  · exact w_c1
  · exact w_c2
  · exact w_c3
  · exact w_c4
  · exact w_c5
  · exact w_c6
set_option maxRecDepth 65536 in
theorem w_t1 : (words1.take 24).all (fun c => isCode c || c.before args0 about1) = true := by decide +kernel
set_option maxRecDepth 65536 in
theorem w_t2 : (words1.drop 24).all (fun c => isCode c || c.before args0 about1) = true := by decide +kernel
theorem w_tables : (allAtoms (Jvm.Cond.code x code maxLocals ret :: tables_1)).before args0 about1 = true := by
  rw [allAtoms_all]
  show words1.all (fun c => c.before args0 about1) = true
  refine all_split ?_ w_codes
  rw [← List.take_append_drop 24 words1, List.all_append, w_t1, w_t2]
  rfl
set_option maxRecDepth 65536 in
theorem w_case : (Jvm.Cond.and given_1 narrow_1).before args0 about1 = true := by decide +kernel
theorem w_applies : (headSpec (Jvm.Cond.code x code maxLocals ret :: tables_1) room_1).applies x e0.platform about1 = true :=
  (Spec.applies_iff w_frames).mpr ⟨w_running, w_runnable, w_alone, w_named, w_hears, w_ripe, w_room, w_tables⟩
theorem atStart : AtStart classFile x code maxLocals ret World_1 tables_1 room_1 Calls_1 rest_1 Pre_1 launch0 p0 e0 about1 theMethod args0 below0 :=
  ⟨lists_1, trivial, launch0.admits_env _ _ _, launch0.least_env, fairChoices_fair.cas, fairChoices_fair.clock, w_frames, w_args, w_heap, w_applies, trivial, trivial, w_case⟩
end start1
theorem witness_1 : WitnessClaimed_1 := ⟨start1.p0, start1.e0, start1.about1, start1.theMethod, start1.args0, start1.below0, start1.atStart⟩
end Jvm.Pilot.@@N@@
