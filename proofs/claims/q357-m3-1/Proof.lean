import JvmDerived
import JvmDerived.Pilot.@@N@@Statement
import JvmDerived.Pilot.@@N@@Code
set_option linter.unusedVariables false
set_option linter.unusedSimpArgs false
namespace Jvm.Pilot.@@N@@
open Jvm Jvm.ClassFile Sem Op Lib Jvm.Free Jvm.Stand Jvm.LawKit Jvm.RoadKit Bundle Jvm.Pilot.@@N@@.Jvm.D
section Own
variable {p : Program} {l : Launch} {e : Env} {R : Room} {s : State} {m : MethodId} {args : Array Value} {below : List Frame} {meth : Method} {c : Code} {T T' : State} {locs : List Loc} {cells slots : Nat}
variable {F : Outcome → State → List Loc → Prop} {Q : Option Value → Heap → List Loc → Prop} {ck sk : Nat} {g g' : JFrame}
def own_F (s : State) (ck sk : Nat) (o : Outcome) (t : State) (L : List Loc) : Prop := FrameEnd s o t L ck sk
/-- from the state T with the frame g on top the method comes to its end, and Q holds of what it returns, of the heap and of the places written -/
def own_E (p : Program) (e : Env) (below : List Frame) (F : Outcome → State → List Loc → Prop) (Q : Option Value → Heap → List Loc → Prop) (T : State) (g : JFrame) : Prop :=
  ∃ s₂ o, Steps p.tables e below (T.setTop g) s₂ ∧ s₂.status = .running ∧ Ended s₂ below o ∧ ∃ v L, o = .returned v ∧ Q v s₂.heap L ∧ F o s₂ L
theorem own_step (st : ∀ t, Steps p.tables e below (T'.setTop g') t → Steps p.tables e below (T.setTop g) t) (k : own_E p e below F Q T' g') : own_E p e below F Q T g := by
  obtain ⟨s2, o, h, r⟩ := k
  exact ⟨s2, o, st _ h, r⟩
theorem own_cast (q : g = g') (k : own_E p e below F Q T g') : own_E p e below F Q T g := q ▸ k
theorem own_ret (X : Stand p l e R s m args below meth c T locs cells slots) (hx : p.tables.exec = Jvm.exec) (hlk : meth.locks = false) {pc : Nat} {Ls : Array Slot} {w : Value} {t : FieldType} {i : Instr} {rest : List Value} (hret : meth.sig.returnType = some t)
    (hi : (i = .ireturn ∧ (t = .int ∨ t = .boolean ∨ t = .byte ∨ t = .char ∨ t = .short) ∧ ∃ z, w = .int z) ∨ (i = .lreturn ∧ t = .long ∧ ∃ z, w = .long z) ∨ (i = .dreturn ∧ t = .double ∧ ∃ z, w = .double z) ∨ (i = .freturn ∧ t = .float ∧ ∃ z, w = .float z) ∨ (i = .areturn ∧ t.isReference = true ∧ w.isRef = true))
    (hd : decode c.code pc = .ok (i, 1)) (hn : narrow t w = w) (hc : cells ≤ ck) (hs : slots ≤ sk) (hQ : Q (some w) T.heap locs) : own_E p e below (own_F s ck sk) Q T (mkF m pc Ls (w :: rest)) := by
  obtain ⟨fs, hr, hrun, hended, hW, hsame⟩ := X.leave (v := some w) (fun h => by rw [hret] at h; cases h) hlk
  exact ⟨_, _, retOut X hx hret hn hi hd hr, hrun, hended, _, _, rfl, hQ, ⟨_, rfl⟩, hW, hsame.mono hc hs⟩
theorem own_retI (X : Stand p l e R s m args below meth c T locs cells slots) (hx : p.tables.exec = Jvm.exec) (hlk : meth.locks = false) {pc : Nat} {Ls : Array Slot} {z : Int32} {t : FieldType} {rest : List Value} (hret : meth.sig.returnType = some t)
    (ht : t = .int ∨ t = .boolean ∨ t = .byte ∨ t = .char ∨ t = .short) (hd : decode c.code pc = .ok (.ireturn, 1)) (hn : narrow t (.int z) = .int z) (hc : cells ≤ ck) (hs : slots ≤ sk) (hQ : Q (some (.int z)) T.heap locs) : own_E p e below (own_F s ck sk) Q T (mkF m pc Ls (.int z :: rest)) :=
  own_ret X hx hlk hret (Or.inl ⟨rfl, ht, z, rfl⟩) hd hn hc hs hQ
theorem own_retJ (X : Stand p l e R s m args below meth c T locs cells slots) (hx : p.tables.exec = Jvm.exec) (hlk : meth.locks = false) {pc : Nat} {Ls : Array Slot} {z : Int64} {rest : List Value} (hret : meth.sig.returnType = some .long)
    (hd : decode c.code pc = .ok (.lreturn, 1)) (hc : cells ≤ ck) (hs : slots ≤ sk) (hQ : Q (some (.long z)) T.heap locs) : own_E p e below (own_F s ck sk) Q T (mkF m pc Ls (.long z :: rest)) :=
  own_ret X hx hlk hret (Or.inr (Or.inl ⟨rfl, rfl, z, rfl⟩)) hd rfl hc hs hQ
theorem own_retA (X : Stand p l e R s m args below meth c T locs cells slots) (hx : p.tables.exec = Jvm.exec) (hlk : meth.locks = false) {pc : Nat} {Ls : Array Slot} {a : Addr} {C : String} {rest : List Value} (hret : meth.sig.returnType = some (.object C))
    (hd : decode c.code pc = .ok (.areturn, 1)) (hc : cells ≤ ck) (hs : slots ≤ sk) (hQ : Q (some (.ref a)) T.heap locs) : own_E p e below (own_F s ck sk) Q T (mkF m pc Ls (.ref a :: rest)) :=
  own_ret X hx hlk hret (Or.inr (Or.inr (Or.inr (Or.inr ⟨rfl, rfl, rfl⟩)))) hd rfl hc hs hQ
theorem own_retV (X : Stand p l e R s m args below meth c T locs cells slots) (hx : p.tables.exec = Jvm.exec) (hlk : meth.locks = false) {pc : Nat} {Ls : Array Slot} (hret : meth.sig.returnType = none)
    (hd : decode c.code pc = .ok (.return_, 1)) (hc : cells ≤ ck) (hs : slots ≤ sk) (hQ : Q none T.heap locs) : own_E p e below (own_F s ck sk) Q T (mkF m pc Ls []) := by
  obtain ⟨fs, hr, hrun, hended, hW, hsame⟩ := X.leave (v := none) (fun _ => rfl) hlk
  exact ⟨_, _, X.returnOut hx hret hd hr, hrun, hended, _, _, rfl, hQ, ⟨_, rfl⟩, hW, hsame.mono hc hs⟩
/-- forks: P first, its denial second -/
theorem own_ifY (X : Stand p l e R s m args below meth c T locs cells slots) (hx : p.tables.exec = Jvm.exec) {cd : ClassFile.Cond} {x : Int32} {rest : List Value} {o : Int} {pc0 pc1 : Nat} {Ls : Array Slot} {P : Prop} [Decidable P] (hd : decode c.code pc0 = .ok (.ifCond cd o, 3)) (hP : ifCond.holds cd x = decide P)
    (ho : 0 ≤ (pc0 : Int) + o) (hp : ((pc0 : Int) + o).toNat = pc1) (hy : P → own_E p e below F Q T (mkF m pc1 Ls rest)) (hn : ¬ P → own_E p e below F Q T (mkF m (pc0 + 3) Ls rest)) : own_E p e below F Q T (mkF m pc0 Ls (.int x :: rest)) := by
  by_cases h : P
  · exact own_step (fun t k => XS.ifYes X.here hx rfl (pc0 := pc0) (pc' := pc1) rfl hd rfl (by rw [hP]; exact decide_eq_true h) ho hp k) (hy h)
  · exact own_step (fun t k => XS.ifNo X.here hx rfl hd rfl (by rw [hP]; exact decide_eq_false h) k) (hn h)
theorem own_ifN (X : Stand p l e R s m args below meth c T locs cells slots) (hx : p.tables.exec = Jvm.exec) {cd : ClassFile.Cond} {x : Int32} {rest : List Value} {o : Int} {pc0 pc1 : Nat} {Ls : Array Slot} {P : Prop} [Decidable P] (hd : decode c.code pc0 = .ok (.ifCond cd o, 3)) (hP : ifCond.holds cd x = !decide P)
    (ho : 0 ≤ (pc0 : Int) + o) (hp : ((pc0 : Int) + o).toNat = pc1) (hy : P → own_E p e below F Q T (mkF m (pc0 + 3) Ls rest)) (hn : ¬ P → own_E p e below F Q T (mkF m pc1 Ls rest)) : own_E p e below F Q T (mkF m pc0 Ls (.int x :: rest)) :=
  own_ifY X hx (P := ¬ P) hd (by rw [hP, decide_not]) ho hp hn (fun h => hy (Decidable.of_not_not h))
theorem own_icY (X : Stand p l e R s m args below meth c T locs cells slots) (hx : p.tables.exec = Jvm.exec) {cd : ClassFile.Cond} {x y : Int32} {rest : List Value} {o : Int} {pc0 pc1 : Nat} {Ls : Array Slot} {P : Prop} [Decidable P] (hd : decode c.code pc0 = .ok (.if_icmp cd o, 3)) (hP : if_icmp.holds cd x y = decide P)
    (ho : 0 ≤ (pc0 : Int) + o) (hp : ((pc0 : Int) + o).toNat = pc1) (hy : P → own_E p e below F Q T (mkF m pc1 Ls rest)) (hn : ¬ P → own_E p e below F Q T (mkF m (pc0 + 3) Ls rest)) : own_E p e below F Q T (mkF m pc0 Ls (.int y :: .int x :: rest)) := by
  by_cases h : P
  · exact own_step (fun t k => XS.icmpYes X.here hx rfl (pc0 := pc0) (pc' := pc1) rfl hd rfl (by rw [hP]; exact decide_eq_true h) ho hp k) (hy h)
  · exact own_step (fun t k => XS.icmpNo X.here hx rfl hd rfl (by rw [hP]; exact decide_eq_false h) k) (hn h)
theorem own_icN (X : Stand p l e R s m args below meth c T locs cells slots) (hx : p.tables.exec = Jvm.exec) {cd : ClassFile.Cond} {x y : Int32} {rest : List Value} {o : Int} {pc0 pc1 : Nat} {Ls : Array Slot} {P : Prop} [Decidable P] (hd : decode c.code pc0 = .ok (.if_icmp cd o, 3)) (hP : if_icmp.holds cd x y = !decide P)
    (ho : 0 ≤ (pc0 : Int) + o) (hp : ((pc0 : Int) + o).toNat = pc1) (hy : P → own_E p e below F Q T (mkF m (pc0 + 3) Ls rest)) (hn : ¬ P → own_E p e below F Q T (mkF m pc1 Ls rest)) : own_E p e below F Q T (mkF m pc0 Ls (.int y :: .int x :: rest)) :=
  own_icY X hx (P := ¬ P) hd (by rw [hP, decide_not]) ho hp hn (fun h => hy (Decidable.of_not_not h))
theorem own_i_eq (x y : Int32) : if_icmp.holds .eq x y = decide (x = y) := by
  by_cases h : x = y
  · rw [(teq h).1, decide_eq_true h]
  · rw [(feq h).1, decide_eq_false h]
theorem own_i_ne (x y : Int32) : if_icmp.holds .ne x y = !decide (x = y) := by
  by_cases h : x = y
  · rw [(teq h).2, decide_eq_true h]; rfl
  · rw [(feq h).2, decide_eq_false h]; rfl
theorem own_i_lt (x y : Int32) : if_icmp.holds .lt x y = decide (x < y) := by
  by_cases h : x < y
  · rw [(tlt h).1, decide_eq_true h]
  · rw [(flt h).1, decide_eq_false h]
theorem own_i_ge (x y : Int32) : if_icmp.holds .ge x y = !decide (x < y) := by
  by_cases h : x < y
  · rw [(tlt h).2.1, decide_eq_true h]; rfl
  · rw [(flt h).2.1, decide_eq_false h]; rfl
theorem own_i_gt (x y : Int32) : if_icmp.holds .gt x y = decide (y < x) := by
  by_cases h : y < x
  · rw [(tlt h).2.2.1, decide_eq_true h]
  · rw [(flt h).2.2.1, decide_eq_false h]
theorem own_i_le (x y : Int32) : if_icmp.holds .le x y = !decide (y < x) := by
  by_cases h : y < x
  · rw [(tlt h).2.2.2, decide_eq_true h]; rfl
  · rw [(flt h).2.2.2, decide_eq_false h]; rfl
theorem own_z_eq (x : Int32) : ifCond.holds .eq x = decide (x = 0) := (if0 _ _).trans (own_i_eq x 0)
theorem own_z_ne (x : Int32) : ifCond.holds .ne x = !decide (x = 0) := (if0 _ _).trans (own_i_ne x 0)
theorem own_z_lt (x : Int32) : ifCond.holds .lt x = decide (x < 0) := (if0 _ _).trans (own_i_lt x 0)
theorem own_z_ge (x : Int32) : ifCond.holds .ge x = !decide (x < 0) := (if0 _ _).trans (own_i_ge x 0)
theorem own_z_gt (x : Int32) : ifCond.holds .gt x = decide (0 < x) := (if0 _ _).trans (own_i_gt x 0)
theorem own_z_le (x : Int32) : ifCond.holds .le x = !decide (0 < x) := (if0 _ _).trans (own_i_le x 0)
theorem own_l_eq (x y : Int64) : ifCond.holds .eq (lcmpW x y) = decide (x = y) := (own_z_eq _).trans (decide_eq_decide.mpr (lw_eq x y))
theorem own_l_ne (x y : Int64) : ifCond.holds .ne (lcmpW x y) = !decide (x = y) := (own_z_ne _).trans (congrArg not (decide_eq_decide.mpr (lw_eq x y)))
theorem own_l_lt (x y : Int64) : ifCond.holds .lt (lcmpW x y) = decide (x < y) := (own_z_lt _).trans (decide_eq_decide.mpr (lw_lt x y))
theorem own_l_ge (x y : Int64) : ifCond.holds .ge (lcmpW x y) = !decide (x < y) := (own_z_ge _).trans (congrArg not (decide_eq_decide.mpr (lw_lt x y)))
theorem own_l_gt (x y : Int64) : ifCond.holds .gt (lcmpW x y) = decide (y < x) := (own_z_gt _).trans (decide_eq_decide.mpr (lw_gt x y))
theorem own_l_le (x y : Int64) : ifCond.holds .le (lcmpW x y) = !decide (y < x) := (own_z_le _).trans (congrArg not (decide_eq_decide.mpr (lw_gt x y)))
/-- a condition as Java's int: 1 or 0 -/
def own_b (P : Prop) [Decidable P] : Int32 := if P then 1 else 0
theorem own_b1 {P : Prop} [Decidable P] (h : P) : own_b P = 1 := if_pos h
theorem own_b0 {P : Prop} [Decidable P] (h : ¬ P) : own_b P = 0 := if_neg h
theorem own_b_ne (P : Prop) [Decidable P] : ifCond.holds .ne (own_b P) = decide P := by
  by_cases h : P
  · rw [own_b1 h, decide_eq_true h]; rfl
  · rw [own_b0 h, decide_eq_false h]; rfl
theorem own_b_eq (P : Prop) [Decidable P] : ifCond.holds .eq (own_b P) = !decide P := by
  by_cases h : P
  · rw [own_b1 h, decide_eq_true h]; rfl
  · rw [own_b0 h, decide_eq_false h]; rfl
theorem own_bn (P : Prop) [Decidable P] : narrow .boolean (.int (own_b P)) = .int (own_b P) := by
  by_cases h : P
  · rw [own_b1 h]; rfl
  · rw [own_b0 h]; rfl
end Own
theorem own_law (x0 x1 x2 x3 x4 : Int64) : ((((((((x0 - x1) - x2) - x3) - x4) + x1) + x2) + x3) + x4) = x0 := by
  have h : ∀ a b : Int64, a - b + b = a := fun a b => by
    apply Int64.toBitVec_inj.mp
    rw [Int64.toBitVec_add, Int64.toBitVec_sub, BitVec.sub_add_cancel]
  have q : ∀ a b d : Int64, a - b + d = a + d - b := fun a b d => by
    apply Int64.toBitVec_inj.mp
    rw [Int64.toBitVec_add, Int64.toBitVec_sub, Int64.toBitVec_sub, Int64.toBitVec_add]
    apply BitVec.eq_of_toNat_eq
    simp only [BitVec.toNat_add, BitVec.toNat_sub]
    have h0 := a.toBitVec.isLt; have h1 := b.toBitVec.isLt; have h2 := d.toBitVec.isLt
    omega
  rw [q _ x4 x1, q _ x3 x1, q _ x2 x1, h, q _ x4 x2, q _ x3 x2, h, q _ x4 x3, h, h]
theorem own_ef2 (m : MethodId) (x0 : Addr) : entryFrame m #[(.ref x0)] 1 = mkF m 0 #[.val (.ref x0)] [] := by first | (simp [entryFrame, mkF, argsToLocals, Value.category]; done) | rfl
def own_Q2 (Z : State) (a1 : Addr) (h0 : Heap) (n0 : Nat) (v : Option Value) (h : Heap) (L : List Loc) : Prop := v = none ∧ Fr n0 L ∧ h = h0
theorem own_pn_2 : plainName "java/lang/Record" = true := by first | (simp [plainName, overriddenIn]; done) | decide +kernel
theorem own_d2_0 : decode jdk_30_method_1_code 0 = .ok (.aload_n 0, 1) := by decide +kernel
theorem own_d2_1 : decode jdk_30_method_1_code 1 = .ok (.invokespecial 1, 3) := by decide +kernel
theorem own_d2_4 : decode jdk_30_method_1_code 4 = .ok (.return_, 1) := by decide +kernel
set_option maxRecDepth 65536 in
set_option maxHeartbeats 40000000 in
theorem own_rm2 (l : Launch) (Z : State) (a0 : Array Value) (hw : ∀ d ∈ tables_1, d.before a0 Z = true) (ws : List Jvm.Cond) (a1 : Addr) (h0 : Heap) (n0 : Nat) (Z0 : n0 ≤ h0.size)  :
    MetFree l (⟨"java/lang/Record", "<init>", "()V"⟩ : MethodName) (head1 (Jvm.Cond.code (⟨"java/lang/Record", "<init>", "()V"⟩ : MethodName) jdk_30_method_1_code 1 none :: ws) ({ frames := 1, cells := 0, slots := 0, locals := 12 } : Room)) (fun aU U => aU = #[(.ref a1)] ∧ Z.Warmed39 U.vm ∧ U.heap = h0) (fun _ _ _ _ _ => True) (fun _ U o U' => ∃ v L, o = .returned v ∧ own_Q2 Z a1 h0 n0 v U'.heap L ∧ FrameEnd U o U' L 0 0) := by
  refine MetFree.of_bodySF (plainFor_of_name own_pn_2) hisR ?_
  intro p e s m args below meth c s₁ Bd hml0 hP hK
  obtain ⟨rfl, hZ, hh⟩ := hP
  have hx := Bd.exec
  have hby := Bd.bytes
  have hml : c.maxLocals = 1 := hml0
  have hown : s.vm.findClass "java/lang/Record" = some m.cls := findClass_of_methodNamed Bd.named
  have hnm := (name_of_methodNamed Bd.named Bd.method).1
  have hlk : meth.locks = false := Bd.notSynchronized
  have hret := Bd.returns
  have X0 : Stand p l e ({ frames := 1, cells := 0, slots := 0, locals := 12 } : Room) s m #[(.ref a1)] below meth c s₁ [] 0 0 := Stand.of_body Bd
  have e0 : s₁.heap = h0 := by rw [← hh, Bd.state]; rfl
  have N0 := Fr.nil n0
  have K0 := Keep.refl h0 ([] : List Addr)
  show own_E p e below (own_F s 0 0) (own_Q2 Z a1 h0 n0) s₁ (entryFrame m #[(.ref a1)] 1)
  refine own_cast (own_ef2 m a1) ?_
  refine own_step (g' := (mkF m 1 #[.val (.ref a1)] [(.ref a1)])) (fun _ k => XS.aloadN X0.here hx rfl (hb hby own_d2_0) rfl rfl k) ?_
  obtain ⟨T1, X1, e1, st1⟩ := initO X0 hx hZ hown (hw _ (List.mem_of_getElem? (i := 11) rfl)) (hw _ (List.mem_of_getElem? (i := 12) rfl)) (hw _ (List.mem_of_getElem? (i := 13) rfl)) e0 (g := (mkF m 1 #[.val (.ref a1)] [(.ref a1)])) rfl (by rw [hml]; rfl) rfl (hb hby own_d2_1) (by decide) (W := 0) (by show 2 * 0 + _ ≤ _; exact Nat.le_of_eq rfl) (by decide)
  refine own_step (g' := (mkF m 4 #[.val (.ref a1)] [])) st1 ?_
  exact own_retV X1 hx hlk hret (hb hby own_d2_4) (by decide) (by decide) (by show own_Q2 Z a1 h0 n0 none T1.heap _; rw [e1]; exact ⟨rfl, N0, rfl⟩)
theorem own_ef1 (m : MethodId) (x0 : Addr) (x1 : Int64) (x2 : Int64) (x3 : Int64) (x4 : Int64) (x5 : Int64) : entryFrame m #[(.ref x0), (.long x1), (.long x2), (.long x3), (.long x4), (.long x5)] 11 = mkF m 0 #[.val (.ref x0), .val (.long x1), .second, .val (.long x2), .second, .val (.long x3), .second, .val (.long x4), .second, .val (.long x5), .second] [] := by first | (simp [entryFrame, mkF, argsToLocals, Value.category]; done) | rfl
def own_Q1 (Z : State) (a1 : Addr) (q0 : Int64) (q1 : Int64) (q2 : Int64) (q3 : Int64) (q4 : Int64) (h0 : Heap) (n0 : Nat) (v : Option Value) (h : Heap) (L : List Loc) : Prop := v = none ∧ Fr n0 L ∧ Keep h0 h [a1] ∧ Exa Z h a1 "com/example/millrace/millrace/join/Status" ∧ Fld Z h a1 "com/example/millrace/millrace/join/Status" "read" "J" (.long q0) ∧ Fld Z h a1 "com/example/millrace/millrace/join/Status" "skipped" "J" (.long q1) ∧ Fld Z h a1 "com/example/millrace/millrace/join/Status" "joined" "J" (.long q2) ∧ Fld Z h a1 "com/example/millrace/millrace/join/Status" "unjoinable" "J" (.long q3) ∧ Fld Z h a1 "com/example/millrace/millrace/join/Status" "duplicates" "J" (.long q4)
theorem own_pn_1 : plainName "com/example/millrace/millrace/join/Status" = true := by first | (simp [plainName, overriddenIn]; done) | decide +kernel
theorem own_d1_0 : decode prog_138_method_1_code 0 = .ok (.aload_n 0, 1) := by decide +kernel
theorem own_d1_1 : decode prog_138_method_1_code 1 = .ok (.invokespecial 1, 3) := by decide +kernel
theorem own_pd__28_29V : parseMethodDescriptor "()V" = some ⟨[], none⟩ := by decide +kernel
theorem own_d1_4 : decode prog_138_method_1_code 4 = .ok (.aload_n 0, 1) := by decide +kernel
theorem own_d1_5 : decode prog_138_method_1_code 5 = .ok (.lload_n 1, 1) := by decide +kernel
theorem own_d1_6 : decode prog_138_method_1_code 6 = .ok (.putfield 7, 3) := by decide +kernel
theorem own_d1_9 : decode prog_138_method_1_code 9 = .ok (.aload_n 0, 1) := by decide +kernel
theorem own_d1_10 : decode prog_138_method_1_code 10 = .ok (.lload_n 3, 1) := by decide +kernel
theorem own_d1_11 : decode prog_138_method_1_code 11 = .ok (.putfield 13, 3) := by decide +kernel
theorem own_d1_14 : decode prog_138_method_1_code 14 = .ok (.aload_n 0, 1) := by decide +kernel
theorem own_d1_15 : decode prog_138_method_1_code 15 = .ok (.lload 5, 2) := by decide +kernel
theorem own_d1_17 : decode prog_138_method_1_code 17 = .ok (.putfield 16, 3) := by decide +kernel
theorem own_d1_20 : decode prog_138_method_1_code 20 = .ok (.aload_n 0, 1) := by decide +kernel
theorem own_d1_21 : decode prog_138_method_1_code 21 = .ok (.lload 7, 2) := by decide +kernel
theorem own_d1_23 : decode prog_138_method_1_code 23 = .ok (.putfield 19, 3) := by decide +kernel
theorem own_d1_26 : decode prog_138_method_1_code 26 = .ok (.aload_n 0, 1) := by decide +kernel
theorem own_d1_27 : decode prog_138_method_1_code 27 = .ok (.lload 9, 2) := by decide +kernel
theorem own_d1_29 : decode prog_138_method_1_code 29 = .ok (.putfield 22, 3) := by decide +kernel
theorem own_d1_32 : decode prog_138_method_1_code 32 = .ok (.return_, 1) := by decide +kernel
set_option maxRecDepth 65536 in
set_option maxHeartbeats 40000000 in
theorem own_rm1 (l : Launch) (Z : State) (a0 : Array Value) (hw : ∀ d ∈ tables_1, d.before a0 Z = true) (ws : List Jvm.Cond) (a1 : Addr) (q0 : Int64) (q1 : Int64) (q2 : Int64) (q3 : Int64) (q4 : Int64) (h0 : Heap) (n0 : Nat) (Z0 : n0 ≤ h0.size) (Ea : Exa Z h0 a1 "com/example/millrace/millrace/join/Status") (ga : n0 ≤ a1) (Fread : Fld Z h0 a1 "com/example/millrace/millrace/join/Status" "read" "J" (.long (0 : Int64))) (Fskipped : Fld Z h0 a1 "com/example/millrace/millrace/join/Status" "skipped" "J" (.long (0 : Int64))) (Fjoined : Fld Z h0 a1 "com/example/millrace/millrace/join/Status" "joined" "J" (.long (0 : Int64))) (Funjoinable : Fld Z h0 a1 "com/example/millrace/millrace/join/Status" "unjoinable" "J" (.long (0 : Int64))) (Fduplicates : Fld Z h0 a1 "com/example/millrace/millrace/join/Status" "duplicates" "J" (.long (0 : Int64))) :
    MetFree l (⟨"com/example/millrace/millrace/join/Status", "<init>", "(JJJJJ)V"⟩ : MethodName) (head1 (Jvm.Cond.code (⟨"com/example/millrace/millrace/join/Status", "<init>", "(JJJJJ)V"⟩ : MethodName) prog_138_method_1_code 11 none :: ws) ({ frames := 2, cells := 0, slots := 0, locals := 24 } : Room)) (fun aU U => aU = #[(.ref a1), (.long q0), (.long q1), (.long q2), (.long q3), (.long q4)] ∧ Z.Warmed39 U.vm ∧ U.heap = h0) (fun _ _ _ _ _ => True) (fun _ U o U' => ∃ v L, o = .returned v ∧ own_Q1 Z a1 q0 q1 q2 q3 q4 h0 n0 v U'.heap L ∧ FrameEnd U o U' L 0 0) := by
  refine MetFree.of_bodySF (plainFor_of_name own_pn_1) hisR ?_
  intro p e s m args below meth c s₁ Bd hml0 hP hK
  obtain ⟨rfl, hZ, hh⟩ := hP
  have hx := Bd.exec
  have hby := Bd.bytes
  have hml : c.maxLocals = 11 := hml0
  have hown : s.vm.findClass "com/example/millrace/millrace/join/Status" = some m.cls := findClass_of_methodNamed Bd.named
  have hnm := (name_of_methodNamed Bd.named Bd.method).1
  have hlk : meth.locks = false := Bd.notSynchronized
  have hret := Bd.returns
  have X0 : Stand p l e ({ frames := 2, cells := 0, slots := 0, locals := 24 } : Room) s m #[(.ref a1), (.long q0), (.long q1), (.long q2), (.long q3), (.long q4)] below meth c s₁ [] 0 0 := Stand.of_body Bd
  have e0 : s₁.heap = h0 := by rw [← hh, Bd.state]; rfl
  have N0 := Fr.nil n0
  have K0 := Keep.refl h0 [a1]
  show own_E p e below (own_F s 0 0) (own_Q1 Z a1 q0 q1 q2 q3 q4 h0 n0) s₁ (entryFrame m #[(.ref a1), (.long q0), (.long q1), (.long q2), (.long q3), (.long q4)] 11)
  refine own_cast (own_ef1 m a1 q0 q1 q2 q3 q4) ?_
  refine own_step (g' := (mkF m 1 #[.val (.ref a1), .val (.long q0), .second, .val (.long q1), .second, .val (.long q2), .second, .val (.long q3), .second, .val (.long q4), .second] [(.ref a1)])) (fun _ k => XS.aloadN X0.here hx rfl (hb hby own_d1_0) rfl rfl k) ?_
  obtain ⟨_, _, ⟨T1, L1, k1, n1⟩, -, X1, ⟨Lc1, hQ1, l1, y1, z1⟩, st1⟩ := X0.specialBack hx (y := (⟨"java/lang/Record", "<init>", "()V"⟩ : MethodName)) rfl hown (mvT hZ (hw _ (List.mem_of_getElem? (i := 6) rfl))) (mvT hZ (hw _ (List.mem_of_getElem? (i := 7) rfl))) (mvT hZ (hw _ (List.mem_of_getElem? (i := 10) rfl))) (by decide) (backOf (W := 0) (own_rm2 l Z a0 hw [] a1 h0 n0 Z0 ) hZ (hw _ (List.mem_of_getElem? (i := 10) rfl)) (hw _ (List.mem_of_getElem? (i := 9) rfl)) (by decide) (by decide)) (g := (mkF m 1 #[.val (.ref a1), .val (.long q0), .second, .val (.long q1), .second, .val (.long q2), .second, .val (.long q3), .second, .val (.long q4), .second] [(.ref a1)])) rfl (by rw [hml]; rfl) (Steps.refl _) (a := a1) (argsL := []) (rest := []) (lenOf own_pd__28_29V rfl) rfl (by show 2 * 0 + _ ≤ _; exact Nat.le_of_eq rfl) (hb hby own_d1_1) (fun _ _ => ⟨rfl, e0, (by decide : 0 + 0 ≤ _), (by decide : 0 + 0 ≤ _)⟩)
  dsimp only [Pt.U, Pt.locs, Pt.cells, Pt.slots] at X1 l1 y1 z1 st1 hQ1
  subst l1 y1 z1
  obtain ⟨rfl, Nq1, e1⟩ := hQ1
  have N1 := Fr.app N0 Nq1
  refine own_step (g' := (mkF m 4 #[.val (.ref a1), .val (.long q0), .second, .val (.long q1), .second, .val (.long q2), .second, .val (.long q3), .second, .val (.long q4), .second] [])) (fun _ k => st1.trans k) ?_
  refine own_step (g' := (mkF m 5 #[.val (.ref a1), .val (.long q0), .second, .val (.long q1), .second, .val (.long q2), .second, .val (.long q3), .second, .val (.long q4), .second] [(.ref a1)])) (fun _ k => XS.aloadN X1.here hx rfl (hb hby own_d1_4) rfl rfl k) ?_
  refine own_step (g' := (mkF m 6 #[.val (.ref a1), .val (.long q0), .second, .val (.long q1), .second, .val (.long q2), .second, .val (.long q3), .second, .val (.long q4), .second] [(.long q0), (.ref a1)])) (fun _ k => XS.lloadN X1.here hx rfl (hb hby own_d1_5) rfl k) ?_
  obtain ⟨T2, h2, X2, e2, W2, st2⟩ := putF X1 hx hZ hown (host := "") (Or.inl (hw _ (List.mem_of_getElem? (i := 14) rfl))) Via.refl e1 Fread Ea (Or.inr ⟨(hw _ (List.mem_of_getElem? (i := 15) rfl)), rfl, hnm⟩) (hw _ (List.mem_of_getElem? (i := 1) rfl)) (ty := .long) (by decide) rfl rfl (g := (mkF m 6 #[.val (.ref a1), .val (.long q0), .second, .val (.long q1), .second, .val (.long q2), .second, .val (.long q3), .second, .val (.long q4), .second] [(.long q0), (.ref a1)])) rfl rfl (hb hby own_d1_6)
  have Fread_2 := Fread.same W2
  have Ea_2 := Ea.wr W2
  have Fskipped_2 := Fskipped.other W2 (Or.inr (slot_ne (Or.inr (hw _ (List.mem_of_getElem? (i := 17) rfl))) (Or.inr (hw _ (List.mem_of_getElem? (i := 15) rfl))) (by decide) (t := .long) (t' := .long) (by decide) (by decide)))
  have Fjoined_2 := Fjoined.other W2 (Or.inr (slot_ne (Or.inr (hw _ (List.mem_of_getElem? (i := 19) rfl))) (Or.inr (hw _ (List.mem_of_getElem? (i := 15) rfl))) (by decide) (t := .long) (t' := .long) (by decide) (by decide)))
  have Funjoinable_2 := Funjoinable.other W2 (Or.inr (slot_ne (Or.inr (hw _ (List.mem_of_getElem? (i := 21) rfl))) (Or.inr (hw _ (List.mem_of_getElem? (i := 15) rfl))) (by decide) (t := .long) (t' := .long) (by decide) (by decide)))
  have Fduplicates_2 := Fduplicates.other W2 (Or.inr (slot_ne (Or.inr (hw _ (List.mem_of_getElem? (i := 23) rfl))) (Or.inr (hw _ (List.mem_of_getElem? (i := 15) rfl))) (by decide) (t := .long) (t' := .long) (by decide) (by decide)))
  have K2 := K0.wr W2 (Or.inl (List.mem_of_getElem? (i := 0) rfl))
  have Z2 := Nat.le_trans Z0 (Keep.of_wr W2).1
  have N2 := Fr.snoc X2 N1 ga
  refine own_step (g' := (mkF m 9 #[.val (.ref a1), .val (.long q0), .second, .val (.long q1), .second, .val (.long q2), .second, .val (.long q3), .second, .val (.long q4), .second] [])) st2 ?_
  refine own_step (g' := (mkF m 10 #[.val (.ref a1), .val (.long q0), .second, .val (.long q1), .second, .val (.long q2), .second, .val (.long q3), .second, .val (.long q4), .second] [(.ref a1)])) (fun _ k => XS.aloadN X2.here hx rfl (hb hby own_d1_9) rfl rfl k) ?_
  refine own_step (g' := (mkF m 11 #[.val (.ref a1), .val (.long q0), .second, .val (.long q1), .second, .val (.long q2), .second, .val (.long q3), .second, .val (.long q4), .second] [(.long q1), (.ref a1)])) (fun _ k => XS.lloadN X2.here hx rfl (hb hby own_d1_10) rfl k) ?_
  obtain ⟨T3, h3, X3, e3, W3, st3⟩ := putF X2 hx hZ hown (host := "") (Or.inl (hw _ (List.mem_of_getElem? (i := 16) rfl))) Via.refl e2 Fskipped_2 Ea_2 (Or.inr ⟨(hw _ (List.mem_of_getElem? (i := 17) rfl)), rfl, hnm⟩) (hw _ (List.mem_of_getElem? (i := 1) rfl)) (ty := .long) (by decide) rfl rfl (g := (mkF m 11 #[.val (.ref a1), .val (.long q0), .second, .val (.long q1), .second, .val (.long q2), .second, .val (.long q3), .second, .val (.long q4), .second] [(.long q1), (.ref a1)])) rfl rfl (hb hby own_d1_11)
  have Fskipped_3 := Fskipped_2.same W3
  have Ea_3 := Ea_2.wr W3
  have Fread_2_3 := Fread_2.other W3 (Or.inr (slot_ne (Or.inr (hw _ (List.mem_of_getElem? (i := 15) rfl))) (Or.inr (hw _ (List.mem_of_getElem? (i := 17) rfl))) (by decide) (t := .long) (t' := .long) (by decide) (by decide)))
  have Fjoined_3 := Fjoined_2.other W3 (Or.inr (slot_ne (Or.inr (hw _ (List.mem_of_getElem? (i := 19) rfl))) (Or.inr (hw _ (List.mem_of_getElem? (i := 17) rfl))) (by decide) (t := .long) (t' := .long) (by decide) (by decide)))
  have Funjoinable_3 := Funjoinable_2.other W3 (Or.inr (slot_ne (Or.inr (hw _ (List.mem_of_getElem? (i := 21) rfl))) (Or.inr (hw _ (List.mem_of_getElem? (i := 17) rfl))) (by decide) (t := .long) (t' := .long) (by decide) (by decide)))
  have Fduplicates_3 := Fduplicates_2.other W3 (Or.inr (slot_ne (Or.inr (hw _ (List.mem_of_getElem? (i := 23) rfl))) (Or.inr (hw _ (List.mem_of_getElem? (i := 17) rfl))) (by decide) (t := .long) (t' := .long) (by decide) (by decide)))
  have K3 := K2.wr W3 (Or.inl (List.mem_of_getElem? (i := 0) rfl))
  have Z3 := Nat.le_trans Z2 (Keep.of_wr W3).1
  have N3 := Fr.snoc X3 N2 ga
  refine own_step (g' := (mkF m 14 #[.val (.ref a1), .val (.long q0), .second, .val (.long q1), .second, .val (.long q2), .second, .val (.long q3), .second, .val (.long q4), .second] [])) st3 ?_
  refine own_step (g' := (mkF m 15 #[.val (.ref a1), .val (.long q0), .second, .val (.long q1), .second, .val (.long q2), .second, .val (.long q3), .second, .val (.long q4), .second] [(.ref a1)])) (fun _ k => XS.aloadN X3.here hx rfl (hb hby own_d1_14) rfl rfl k) ?_
  refine own_step (g' := (mkF m 17 #[.val (.ref a1), .val (.long q0), .second, .val (.long q1), .second, .val (.long q2), .second, .val (.long q3), .second, .val (.long q4), .second] [(.long q2), (.ref a1)])) (fun _ k => XS.lload X3.here hx rfl (hb hby own_d1_15) rfl k) ?_
  obtain ⟨T4, h4, X4, e4, W4, st4⟩ := putF X3 hx hZ hown (host := "") (Or.inl (hw _ (List.mem_of_getElem? (i := 18) rfl))) Via.refl e3 Fjoined_3 Ea_3 (Or.inr ⟨(hw _ (List.mem_of_getElem? (i := 19) rfl)), rfl, hnm⟩) (hw _ (List.mem_of_getElem? (i := 1) rfl)) (ty := .long) (by decide) rfl rfl (g := (mkF m 17 #[.val (.ref a1), .val (.long q0), .second, .val (.long q1), .second, .val (.long q2), .second, .val (.long q3), .second, .val (.long q4), .second] [(.long q2), (.ref a1)])) rfl rfl (hb hby own_d1_17)
  have Fjoined_4 := Fjoined_3.same W4
  have Ea_4 := Ea_3.wr W4
  have Fread_2_4 := Fread_2_3.other W4 (Or.inr (slot_ne (Or.inr (hw _ (List.mem_of_getElem? (i := 15) rfl))) (Or.inr (hw _ (List.mem_of_getElem? (i := 19) rfl))) (by decide) (t := .long) (t' := .long) (by decide) (by decide)))
  have Fskipped_3_4 := Fskipped_3.other W4 (Or.inr (slot_ne (Or.inr (hw _ (List.mem_of_getElem? (i := 17) rfl))) (Or.inr (hw _ (List.mem_of_getElem? (i := 19) rfl))) (by decide) (t := .long) (t' := .long) (by decide) (by decide)))
  have Funjoinable_4 := Funjoinable_3.other W4 (Or.inr (slot_ne (Or.inr (hw _ (List.mem_of_getElem? (i := 21) rfl))) (Or.inr (hw _ (List.mem_of_getElem? (i := 19) rfl))) (by decide) (t := .long) (t' := .long) (by decide) (by decide)))
  have Fduplicates_4 := Fduplicates_3.other W4 (Or.inr (slot_ne (Or.inr (hw _ (List.mem_of_getElem? (i := 23) rfl))) (Or.inr (hw _ (List.mem_of_getElem? (i := 19) rfl))) (by decide) (t := .long) (t' := .long) (by decide) (by decide)))
  have K4 := K3.wr W4 (Or.inl (List.mem_of_getElem? (i := 0) rfl))
  have Z4 := Nat.le_trans Z3 (Keep.of_wr W4).1
  have N4 := Fr.snoc X4 N3 ga
  refine own_step (g' := (mkF m 20 #[.val (.ref a1), .val (.long q0), .second, .val (.long q1), .second, .val (.long q2), .second, .val (.long q3), .second, .val (.long q4), .second] [])) st4 ?_
  refine own_step (g' := (mkF m 21 #[.val (.ref a1), .val (.long q0), .second, .val (.long q1), .second, .val (.long q2), .second, .val (.long q3), .second, .val (.long q4), .second] [(.ref a1)])) (fun _ k => XS.aloadN X4.here hx rfl (hb hby own_d1_20) rfl rfl k) ?_
  refine own_step (g' := (mkF m 23 #[.val (.ref a1), .val (.long q0), .second, .val (.long q1), .second, .val (.long q2), .second, .val (.long q3), .second, .val (.long q4), .second] [(.long q3), (.ref a1)])) (fun _ k => XS.lload X4.here hx rfl (hb hby own_d1_21) rfl k) ?_
  obtain ⟨T5, h5, X5, e5, W5, st5⟩ := putF X4 hx hZ hown (host := "") (Or.inl (hw _ (List.mem_of_getElem? (i := 20) rfl))) Via.refl e4 Funjoinable_4 Ea_4 (Or.inr ⟨(hw _ (List.mem_of_getElem? (i := 21) rfl)), rfl, hnm⟩) (hw _ (List.mem_of_getElem? (i := 1) rfl)) (ty := .long) (by decide) rfl rfl (g := (mkF m 23 #[.val (.ref a1), .val (.long q0), .second, .val (.long q1), .second, .val (.long q2), .second, .val (.long q3), .second, .val (.long q4), .second] [(.long q3), (.ref a1)])) rfl rfl (hb hby own_d1_23)
  have Funjoinable_5 := Funjoinable_4.same W5
  have Ea_5 := Ea_4.wr W5
  have Fread_2_5 := Fread_2_4.other W5 (Or.inr (slot_ne (Or.inr (hw _ (List.mem_of_getElem? (i := 15) rfl))) (Or.inr (hw _ (List.mem_of_getElem? (i := 21) rfl))) (by decide) (t := .long) (t' := .long) (by decide) (by decide)))
  have Fskipped_3_5 := Fskipped_3_4.other W5 (Or.inr (slot_ne (Or.inr (hw _ (List.mem_of_getElem? (i := 17) rfl))) (Or.inr (hw _ (List.mem_of_getElem? (i := 21) rfl))) (by decide) (t := .long) (t' := .long) (by decide) (by decide)))
  have Fjoined_4_5 := Fjoined_4.other W5 (Or.inr (slot_ne (Or.inr (hw _ (List.mem_of_getElem? (i := 19) rfl))) (Or.inr (hw _ (List.mem_of_getElem? (i := 21) rfl))) (by decide) (t := .long) (t' := .long) (by decide) (by decide)))
  have Fduplicates_5 := Fduplicates_4.other W5 (Or.inr (slot_ne (Or.inr (hw _ (List.mem_of_getElem? (i := 23) rfl))) (Or.inr (hw _ (List.mem_of_getElem? (i := 21) rfl))) (by decide) (t := .long) (t' := .long) (by decide) (by decide)))
  have K5 := K4.wr W5 (Or.inl (List.mem_of_getElem? (i := 0) rfl))
  have Z5 := Nat.le_trans Z4 (Keep.of_wr W5).1
  have N5 := Fr.snoc X5 N4 ga
  refine own_step (g' := (mkF m 26 #[.val (.ref a1), .val (.long q0), .second, .val (.long q1), .second, .val (.long q2), .second, .val (.long q3), .second, .val (.long q4), .second] [])) st5 ?_
  refine own_step (g' := (mkF m 27 #[.val (.ref a1), .val (.long q0), .second, .val (.long q1), .second, .val (.long q2), .second, .val (.long q3), .second, .val (.long q4), .second] [(.ref a1)])) (fun _ k => XS.aloadN X5.here hx rfl (hb hby own_d1_26) rfl rfl k) ?_
  refine own_step (g' := (mkF m 29 #[.val (.ref a1), .val (.long q0), .second, .val (.long q1), .second, .val (.long q2), .second, .val (.long q3), .second, .val (.long q4), .second] [(.long q4), (.ref a1)])) (fun _ k => XS.lload X5.here hx rfl (hb hby own_d1_27) rfl k) ?_
  obtain ⟨T6, h6, X6, e6, W6, st6⟩ := putF X5 hx hZ hown (host := "") (Or.inl (hw _ (List.mem_of_getElem? (i := 22) rfl))) Via.refl e5 Fduplicates_5 Ea_5 (Or.inr ⟨(hw _ (List.mem_of_getElem? (i := 23) rfl)), rfl, hnm⟩) (hw _ (List.mem_of_getElem? (i := 1) rfl)) (ty := .long) (by decide) rfl rfl (g := (mkF m 29 #[.val (.ref a1), .val (.long q0), .second, .val (.long q1), .second, .val (.long q2), .second, .val (.long q3), .second, .val (.long q4), .second] [(.long q4), (.ref a1)])) rfl rfl (hb hby own_d1_29)
  have Fduplicates_6 := Fduplicates_5.same W6
  have Ea_6 := Ea_5.wr W6
  have Fread_2_6 := Fread_2_5.other W6 (Or.inr (slot_ne (Or.inr (hw _ (List.mem_of_getElem? (i := 15) rfl))) (Or.inr (hw _ (List.mem_of_getElem? (i := 23) rfl))) (by decide) (t := .long) (t' := .long) (by decide) (by decide)))
  have Fskipped_3_6 := Fskipped_3_5.other W6 (Or.inr (slot_ne (Or.inr (hw _ (List.mem_of_getElem? (i := 17) rfl))) (Or.inr (hw _ (List.mem_of_getElem? (i := 23) rfl))) (by decide) (t := .long) (t' := .long) (by decide) (by decide)))
  have Fjoined_4_6 := Fjoined_4_5.other W6 (Or.inr (slot_ne (Or.inr (hw _ (List.mem_of_getElem? (i := 19) rfl))) (Or.inr (hw _ (List.mem_of_getElem? (i := 23) rfl))) (by decide) (t := .long) (t' := .long) (by decide) (by decide)))
  have Funjoinable_5_6 := Funjoinable_5.other W6 (Or.inr (slot_ne (Or.inr (hw _ (List.mem_of_getElem? (i := 21) rfl))) (Or.inr (hw _ (List.mem_of_getElem? (i := 23) rfl))) (by decide) (t := .long) (t' := .long) (by decide) (by decide)))
  have K6 := K5.wr W6 (Or.inl (List.mem_of_getElem? (i := 0) rfl))
  have Z6 := Nat.le_trans Z5 (Keep.of_wr W6).1
  have N6 := Fr.snoc X6 N5 ga
  refine own_step (g' := (mkF m 32 #[.val (.ref a1), .val (.long q0), .second, .val (.long q1), .second, .val (.long q2), .second, .val (.long q3), .second, .val (.long q4), .second] [])) st6 ?_
  exact own_retV X6 hx hlk hret (hb hby own_d1_32) (by decide) (by decide) (by show own_Q1 Z a1 q0 q1 q2 q3 q4 h0 n0 none T6.heap _; rw [e6]; exact ⟨rfl, N6, K6, Ea_6, Fread_2_6, Fskipped_3_6, Fjoined_4_6, Funjoinable_5_6, Fduplicates_6⟩)
theorem own_ef4 (m : MethodId) (x0 : Addr) : entryFrame m #[(.ref x0)] 1 = mkF m 0 #[.val (.ref x0)] [] := by first | (simp [entryFrame, mkF, argsToLocals, Value.category]; done) | rfl
def own_Q4 (Z : State) (a1 : Addr) (v0 : Int64) (v1 : Int64) (v2 : Int64) (v3 : Int64) (v4 : Int64) (h0 : Heap) (n0 : Nat) (v : Option Value) (h : Heap) (L : List Loc) : Prop := v = some (.long ((((v0 - v1) - v2) - v3) - v4)) ∧ Fr n0 L ∧ h = h0
theorem own_pn_4 : plainName "com/example/millrace/millrace/join/Status" = true := by first | (simp [plainName, overriddenIn]; done) | decide +kernel
theorem own_d4_0 : decode prog_138_method_2_code 0 = .ok (.aload_n 0, 1) := by decide +kernel
theorem own_d4_1 : decode prog_138_method_2_code 1 = .ok (.getfield 7, 3) := by decide +kernel
theorem own_d4_4 : decode prog_138_method_2_code 4 = .ok (.aload_n 0, 1) := by decide +kernel
theorem own_d4_5 : decode prog_138_method_2_code 5 = .ok (.getfield 13, 3) := by decide +kernel
theorem own_d4_8 : decode prog_138_method_2_code 8 = .ok (.lsub, 1) := by decide +kernel
theorem own_d4_9 : decode prog_138_method_2_code 9 = .ok (.aload_n 0, 1) := by decide +kernel
theorem own_d4_10 : decode prog_138_method_2_code 10 = .ok (.getfield 16, 3) := by decide +kernel
theorem own_d4_13 : decode prog_138_method_2_code 13 = .ok (.lsub, 1) := by decide +kernel
theorem own_d4_14 : decode prog_138_method_2_code 14 = .ok (.aload_n 0, 1) := by decide +kernel
theorem own_d4_15 : decode prog_138_method_2_code 15 = .ok (.getfield 19, 3) := by decide +kernel
theorem own_d4_18 : decode prog_138_method_2_code 18 = .ok (.lsub, 1) := by decide +kernel
theorem own_d4_19 : decode prog_138_method_2_code 19 = .ok (.aload_n 0, 1) := by decide +kernel
theorem own_d4_20 : decode prog_138_method_2_code 20 = .ok (.getfield 22, 3) := by decide +kernel
theorem own_d4_23 : decode prog_138_method_2_code 23 = .ok (.lsub, 1) := by decide +kernel
theorem own_d4_24 : decode prog_138_method_2_code 24 = .ok (.lreturn, 1) := by decide +kernel
set_option maxRecDepth 65536 in
set_option maxHeartbeats 40000000 in
theorem own_rm4 (l : Launch) (Z : State) (a0 : Array Value) (hw : ∀ d ∈ tables_1, d.before a0 Z = true) (ws : List Jvm.Cond) (a1 : Addr) (v0 : Int64) (v1 : Int64) (v2 : Int64) (v3 : Int64) (v4 : Int64) (h0 : Heap) (n0 : Nat) (Z0 : n0 ≤ h0.size) (Fread_a1 : Fld Z h0 a1 "com/example/millrace/millrace/join/Status" "read" "J" (.long v0)) (Fskipped_a1 : Fld Z h0 a1 "com/example/millrace/millrace/join/Status" "skipped" "J" (.long v1)) (Fjoined_a1 : Fld Z h0 a1 "com/example/millrace/millrace/join/Status" "joined" "J" (.long v2)) (Funjoinable_a1 : Fld Z h0 a1 "com/example/millrace/millrace/join/Status" "unjoinable" "J" (.long v3)) (Fduplicates_a1 : Fld Z h0 a1 "com/example/millrace/millrace/join/Status" "duplicates" "J" (.long v4)) :
    MetFree l (⟨"com/example/millrace/millrace/join/Status", "pending", "()J"⟩ : MethodName) (head1 (Jvm.Cond.code (⟨"com/example/millrace/millrace/join/Status", "pending", "()J"⟩ : MethodName) prog_138_method_2_code 1 (some .long) :: ws) ({ frames := 0, cells := 0, slots := 0, locals := 0 } : Room)) (fun aU U => aU = #[(.ref a1)] ∧ Z.Warmed39 U.vm ∧ U.heap = h0) (fun _ _ _ _ _ => True) (fun _ U o U' => ∃ v L, o = .returned v ∧ own_Q4 Z a1 v0 v1 v2 v3 v4 h0 n0 v U'.heap L ∧ FrameEnd U o U' L 0 0) := by
  refine MetFree.of_bodySF (plainFor_of_name own_pn_4) hisR ?_
  intro p e s m args below meth c s₁ Bd hml0 hP hK
  obtain ⟨rfl, hZ, hh⟩ := hP
  have hx := Bd.exec
  have hby := Bd.bytes
  have hml : c.maxLocals = 1 := hml0
  have hown : s.vm.findClass "com/example/millrace/millrace/join/Status" = some m.cls := findClass_of_methodNamed Bd.named
  have hnm := (name_of_methodNamed Bd.named Bd.method).1
  have hlk : meth.locks = false := Bd.notSynchronized
  have hret := Bd.returns
  have X0 : Stand p l e ({ frames := 0, cells := 0, slots := 0, locals := 0 } : Room) s m #[(.ref a1)] below meth c s₁ [] 0 0 := Stand.of_body Bd
  have e0 : s₁.heap = h0 := by rw [← hh, Bd.state]; rfl
  have N0 := Fr.nil n0
  have K0 := Keep.refl h0 ([] : List Addr)
  show own_E p e below (own_F s 0 0) (own_Q4 Z a1 v0 v1 v2 v3 v4 h0 n0) s₁ (entryFrame m #[(.ref a1)] 1)
  refine own_cast (own_ef4 m a1) ?_
  refine own_step (g' := (mkF m 1 #[.val (.ref a1)] [(.ref a1)])) (fun _ k => XS.aloadN X0.here hx rfl (hb hby own_d4_0) rfl rfl k) ?_
  obtain ⟨T1, X1, e1, st1⟩ := getF X0 hx hZ hown (host := "") (Or.inl (hw _ (List.mem_of_getElem? (i := 14) rfl))) Via.refl e0 Fread_a1 (g := (mkF m 1 #[.val (.ref a1)] [(.ref a1)])) rfl rfl (hb hby own_d4_1)
  refine own_step (g' := (mkF m 4 #[.val (.ref a1)] [(.long v0)])) st1 ?_
  refine own_step (g' := (mkF m 5 #[.val (.ref a1)] [(.ref a1), (.long v0)])) (fun _ k => XS.aloadN X1.here hx rfl (hb hby own_d4_4) rfl rfl k) ?_
  obtain ⟨T2, X2, e2, st2⟩ := getF X1 hx hZ hown (host := "") (Or.inl (hw _ (List.mem_of_getElem? (i := 16) rfl))) Via.refl e1 Fskipped_a1 (g := (mkF m 5 #[.val (.ref a1)] [(.ref a1), (.long v0)])) rfl rfl (hb hby own_d4_5)
  refine own_step (g' := (mkF m 8 #[.val (.ref a1)] [(.long v1), (.long v0)])) st2 ?_
  refine own_step (g' := (mkF m 9 #[.val (.ref a1)] [(.long (v0 - v1))])) (fun _ k => XS.lsub X2.here hx rfl (hb hby own_d4_8) rfl k) ?_
  refine own_step (g' := (mkF m 10 #[.val (.ref a1)] [(.ref a1), (.long (v0 - v1))])) (fun _ k => XS.aloadN X2.here hx rfl (hb hby own_d4_9) rfl rfl k) ?_
  obtain ⟨T3, X3, e3, st3⟩ := getF X2 hx hZ hown (host := "") (Or.inl (hw _ (List.mem_of_getElem? (i := 18) rfl))) Via.refl e2 Fjoined_a1 (g := (mkF m 10 #[.val (.ref a1)] [(.ref a1), (.long (v0 - v1))])) rfl rfl (hb hby own_d4_10)
  refine own_step (g' := (mkF m 13 #[.val (.ref a1)] [(.long v2), (.long (v0 - v1))])) st3 ?_
  refine own_step (g' := (mkF m 14 #[.val (.ref a1)] [(.long ((v0 - v1) - v2))])) (fun _ k => XS.lsub X3.here hx rfl (hb hby own_d4_13) rfl k) ?_
  refine own_step (g' := (mkF m 15 #[.val (.ref a1)] [(.ref a1), (.long ((v0 - v1) - v2))])) (fun _ k => XS.aloadN X3.here hx rfl (hb hby own_d4_14) rfl rfl k) ?_
  obtain ⟨T4, X4, e4, st4⟩ := getF X3 hx hZ hown (host := "") (Or.inl (hw _ (List.mem_of_getElem? (i := 20) rfl))) Via.refl e3 Funjoinable_a1 (g := (mkF m 15 #[.val (.ref a1)] [(.ref a1), (.long ((v0 - v1) - v2))])) rfl rfl (hb hby own_d4_15)
  refine own_step (g' := (mkF m 18 #[.val (.ref a1)] [(.long v3), (.long ((v0 - v1) - v2))])) st4 ?_
  refine own_step (g' := (mkF m 19 #[.val (.ref a1)] [(.long (((v0 - v1) - v2) - v3))])) (fun _ k => XS.lsub X4.here hx rfl (hb hby own_d4_18) rfl k) ?_
  refine own_step (g' := (mkF m 20 #[.val (.ref a1)] [(.ref a1), (.long (((v0 - v1) - v2) - v3))])) (fun _ k => XS.aloadN X4.here hx rfl (hb hby own_d4_19) rfl rfl k) ?_
  obtain ⟨T5, X5, e5, st5⟩ := getF X4 hx hZ hown (host := "") (Or.inl (hw _ (List.mem_of_getElem? (i := 22) rfl))) Via.refl e4 Fduplicates_a1 (g := (mkF m 20 #[.val (.ref a1)] [(.ref a1), (.long (((v0 - v1) - v2) - v3))])) rfl rfl (hb hby own_d4_20)
  refine own_step (g' := (mkF m 23 #[.val (.ref a1)] [(.long v4), (.long (((v0 - v1) - v2) - v3))])) st5 ?_
  refine own_step (g' := (mkF m 24 #[.val (.ref a1)] [(.long ((((v0 - v1) - v2) - v3) - v4))])) (fun _ k => XS.lsub X5.here hx rfl (hb hby own_d4_23) rfl k) ?_
  exact own_retJ X5 hx hlk hret (hb hby own_d4_24) (by decide) (by decide) (by show own_Q4 Z a1 v0 v1 v2 v3 v4 h0 n0 (some (.long ((((v0 - v1) - v2) - v3) - v4))) T5.heap _; rw [e5]; exact ⟨rfl, N0, rfl⟩)
theorem own_ef0 (m : MethodId) (x0 : Int64) (x1 : Int64) (x2 : Int64) (x3 : Int64) (x4 : Int64) : entryFrame m #[(.long x0), (.long x1), (.long x2), (.long x3), (.long x4)] maxLocals = mkF m 0 #[.val (.long x0), .second, .val (.long x1), .second, .val (.long x2), .second, .val (.long x3), .second, .val (.long x4), .second, .unset, .unset, .unset] [] := by first | (simp [entryFrame, mkF, argsToLocals, Value.category, maxLocals]; done) | rfl
def own_Q0 (Z : State) (x0 : Int64) (x1 : Int64) (x2 : Int64) (x3 : Int64) (x4 : Int64) (h0 : Heap) (n0 : Nat) (v : Option Value) (h : Heap) (L : List Loc) : Prop := v = some (.int 1) ∧ Fr n0 L
theorem own_pn_0 : plainName "com/example/millrace/millrace/join/StatusPendingPinLaw" = true := by first | (simp [plainName, overriddenIn]; done) | decide +kernel
theorem own_pd__28JJJJJ_29V : parseMethodDescriptor "(JJJJJ)V" = some ⟨[.long, .long, .long, .long, .long], none⟩ := by decide +kernel
theorem own_pd__28_29J : parseMethodDescriptor "()J" = some ⟨[], some .long⟩ := by decide +kernel
set_option maxRecDepth 65536 in
set_option maxHeartbeats 40000000 in
theorem own_rm0 (l : Launch) (Z : State) (a0 : Array Value) (hw : ∀ d ∈ tables_1, d.before a0 Z = true) (ws : List Jvm.Cond) (x0 : Int64) (x1 : Int64) (x2 : Int64) (x3 : Int64) (x4 : Int64) (h0 : Heap) (n0 : Nat) (Z0 : n0 ≤ h0.size)  :
    MetFree l x (head1 (Jvm.Cond.code x code maxLocals ret :: ws) room_1) (fun aU U => aU = #[(.long x0), (.long x1), (.long x2), (.long x3), (.long x4)] ∧ Z.Warmed39 U.vm ∧ U.heap = h0) (fun _ _ _ _ _ => True) (fun _ U o U' => ∃ v L, o = .returned v ∧ own_Q0 Z x0 x1 x2 x3 x4 h0 n0 v U'.heap L ∧ FrameEnd U o U' L 16 128) := by
  refine MetFree.of_bodySF (plainFor_of_name own_pn_0) hisR ?_
  intro p e s m args below meth c s₁ Bd hml0 hP hK
  obtain ⟨rfl, hZ, hh⟩ := hP
  have hx := Bd.exec
  have hby := Bd.bytes
  have hml : c.maxLocals = 13 := hml0
  have hown : s.vm.findClass "com/example/millrace/millrace/join/StatusPendingPinLaw" = some m.cls := findClass_of_methodNamed Bd.named
  have hnm := (name_of_methodNamed Bd.named Bd.method).1
  have hlk : meth.locks = false := Bd.notSynchronized
  have hret := Bd.returns
  have X0 : Stand p l e room_1 s m #[(.long x0), (.long x1), (.long x2), (.long x3), (.long x4)] below meth c s₁ [] 0 0 := Stand.of_body Bd
  have e0 : s₁.heap = h0 := by rw [← hh, Bd.state]; rfl
  have N0 := Fr.nil n0
  have K0 := Keep.refl h0 ([] : List Addr)
  show own_E p e below (own_F s 16 128) (own_Q0 Z x0 x1 x2 x3 x4 h0 n0) s₁ (entryFrame m #[(.long x0), (.long x1), (.long x2), (.long x3), (.long x4)] maxLocals)
  refine own_cast (own_ef0 m x0 x1 x2 x3 x4) ?_
  obtain ⟨T1, h1, X1, e1, E1, A1, D1, -, st1⟩ := newO X0 hx hZ hown (hw _ (List.mem_of_getElem? (i := 0) rfl)) (hw _ (List.mem_of_getElem? (i := 1) rfl)) (hw _ (List.mem_of_getElem? (i := 2) rfl)) e0 (g := (mkF m 0 #[.val (.long x0), .second, .val (.long x1), .second, .val (.long x2), .second, .val (.long x3), .second, .val (.long x4), .second, .unset, .unset, .unset] [])) rfl (hb hby at_0) (by decide) (by decide)
  obtain ⟨b1, g1⟩ : ∃ z, z = h0.size := ⟨_, rfl⟩
  rw [← g1] at A1 D1 st1
  have le_b1 : n0 ≤ b1 := Nat.le_trans Z0 (Nat.le_of_eq g1.symm)
  have sz_b1 : h0.size ≤ b1 := Nat.le_trans K0.1 (Nat.le_of_eq g1.symm)
  have Fread_b1 : Fld Z h1 b1 "com/example/millrace/millrace/join/Status" "read" "J" (.long (0 : Int64)) := D1 (Or.inr (hw _ (List.mem_of_getElem? (i := 15) rfl))) (ty := .long) (by decide)
  have Fskipped_b1 : Fld Z h1 b1 "com/example/millrace/millrace/join/Status" "skipped" "J" (.long (0 : Int64)) := D1 (Or.inr (hw _ (List.mem_of_getElem? (i := 17) rfl))) (ty := .long) (by decide)
  have Fjoined_b1 : Fld Z h1 b1 "com/example/millrace/millrace/join/Status" "joined" "J" (.long (0 : Int64)) := D1 (Or.inr (hw _ (List.mem_of_getElem? (i := 19) rfl))) (ty := .long) (by decide)
  have Funjoinable_b1 : Fld Z h1 b1 "com/example/millrace/millrace/join/Status" "unjoinable" "J" (.long (0 : Int64)) := D1 (Or.inr (hw _ (List.mem_of_getElem? (i := 21) rfl))) (ty := .long) (by decide)
  have Fduplicates_b1 : Fld Z h1 b1 "com/example/millrace/millrace/join/Status" "duplicates" "J" (.long (0 : Int64)) := D1 (Or.inr (hw _ (List.mem_of_getElem? (i := 23) rfl))) (ty := .long) (by decide)
  have K1 := K0.ext E1
  have Z1 := Nat.le_trans Z0 E1.1
  refine own_step (g' := (mkF m 3 #[.val (.long x0), .second, .val (.long x1), .second, .val (.long x2), .second, .val (.long x3), .second, .val (.long x4), .second, .unset, .unset, .unset] [(.ref b1)])) st1 ?_
  refine own_step (g' := (mkF m 4 #[.val (.long x0), .second, .val (.long x1), .second, .val (.long x2), .second, .val (.long x3), .second, .val (.long x4), .second, .unset, .unset, .unset] [(.ref b1), (.ref b1)])) (fun _ k => XS.dup X1.here hx rfl (hb hby at_3) rfl rfl k) ?_
  refine own_step (g' := (mkF m 5 #[.val (.long x0), .second, .val (.long x1), .second, .val (.long x2), .second, .val (.long x3), .second, .val (.long x4), .second, .unset, .unset, .unset] [(.long x0), (.ref b1), (.ref b1)])) (fun _ k => XS.lloadN X1.here hx rfl (hb hby at_4) rfl k) ?_
  refine own_step (g' := (mkF m 6 #[.val (.long x0), .second, .val (.long x1), .second, .val (.long x2), .second, .val (.long x3), .second, .val (.long x4), .second, .unset, .unset, .unset] [(.long x1), (.long x0), (.ref b1), (.ref b1)])) (fun _ k => XS.lloadN X1.here hx rfl (hb hby at_5) rfl k) ?_
  refine own_step (g' := (mkF m 8 #[.val (.long x0), .second, .val (.long x1), .second, .val (.long x2), .second, .val (.long x3), .second, .val (.long x4), .second, .unset, .unset, .unset] [(.long x2), (.long x1), (.long x0), (.ref b1), (.ref b1)])) (fun _ k => XS.lload X1.here hx rfl (hb hby at_6) rfl k) ?_
  refine own_step (g' := (mkF m 10 #[.val (.long x0), .second, .val (.long x1), .second, .val (.long x2), .second, .val (.long x3), .second, .val (.long x4), .second, .unset, .unset, .unset] [(.long x3), (.long x2), (.long x1), (.long x0), (.ref b1), (.ref b1)])) (fun _ k => XS.lload X1.here hx rfl (hb hby at_8) rfl k) ?_
  refine own_step (g' := (mkF m 12 #[.val (.long x0), .second, .val (.long x1), .second, .val (.long x2), .second, .val (.long x3), .second, .val (.long x4), .second, .unset, .unset, .unset] [(.long x4), (.long x3), (.long x2), (.long x1), (.long x0), (.ref b1), (.ref b1)])) (fun _ k => XS.lload X1.here hx rfl (hb hby at_10) rfl k) ?_
  obtain ⟨_, _, ⟨T2, L2, k2, n2⟩, -, X2, ⟨Lc2, hQ2, l2, y2, z2⟩, st2⟩ := X1.specialBack hx (y := (⟨"com/example/millrace/millrace/join/Status", "<init>", "(JJJJJ)V"⟩ : MethodName)) rfl hown (mvT hZ (hw _ (List.mem_of_getElem? (i := 3) rfl))) (mvT hZ (hw _ (List.mem_of_getElem? (i := 4) rfl))) (mvT hZ (hw _ (List.mem_of_getElem? (i := 5) rfl))) (by decide) (backOf (W := 1) (own_rm1 l Z a0 hw [] b1 x0 x1 x2 x3 x4 h1 n0 Z1 A1 le_b1 Fread_b1 Fskipped_b1 Fjoined_b1 Funjoinable_b1 Fduplicates_b1) hZ (hw _ (List.mem_of_getElem? (i := 5) rfl)) (hw _ (List.mem_of_getElem? (i := 2) rfl)) (by decide) (by decide)) (g := (mkF m 12 #[.val (.long x0), .second, .val (.long x1), .second, .val (.long x2), .second, .val (.long x3), .second, .val (.long x4), .second, .unset, .unset, .unset] [(.long x4), (.long x3), (.long x2), (.long x1), (.long x0), (.ref b1), (.ref b1)])) rfl (by rw [hml]; rfl) (Steps.refl _) (a := b1) (argsL := [(.long x0), (.long x1), (.long x2), (.long x3), (.long x4)]) (rest := [(.ref b1)]) (lenOf own_pd__28JJJJJ_29V rfl) rfl (by show 2 * 0 + _ ≤ _; exact Nat.le_of_eq rfl) (hb hby at_12) (fun _ _ => ⟨rfl, e1, (by decide : 1 + 0 ≤ _), (by decide : 5 + 0 ≤ _)⟩)
  dsimp only [Pt.U, Pt.locs, Pt.cells, Pt.slots] at X2 l2 y2 z2 st2 hQ2
  subst l2 y2 z2
  obtain ⟨rfl, Nq2, Kc2, Q2_0, Q2_1, Q2_2, Q2_3, Q2_4, Q2_5⟩ := hQ2
  have N2 := Fr.app N0 Nq2
  have A1_2 := A1.keep Kc2
  have K2 := K1.trans Kc2 (allS (Or.inr sz_b1) all0)
  have Z2 := Nat.le_trans Z1 Kc2.1
  refine own_step (g' := (mkF m 15 #[.val (.long x0), .second, .val (.long x1), .second, .val (.long x2), .second, .val (.long x3), .second, .val (.long x4), .second, .unset, .unset, .unset] [(.ref b1)])) (fun _ k => st2.trans k) ?_
  refine own_step (g' := (mkF m 17 #[.val (.long x0), .second, .val (.long x1), .second, .val (.long x2), .second, .val (.long x3), .second, .val (.long x4), .second, .val (.ref b1), .unset, .unset] [])) (fun _ k => XS.astore X2.here hx rfl (hb hby at_15) rfl rfl (l' := #[.val (.long x0), .second, .val (.long x1), .second, .val (.long x2), .second, .val (.long x3), .second, .val (.long x4), .second, .val (.ref b1), .unset, .unset]) rfl k) ?_
  refine own_step (g' := (mkF m 19 #[.val (.long x0), .second, .val (.long x1), .second, .val (.long x2), .second, .val (.long x3), .second, .val (.long x4), .second, .val (.ref b1), .unset, .unset] [(.ref b1)])) (fun _ k => XS.aload X2.here hx rfl (hb hby at_17) rfl rfl k) ?_
  obtain ⟨cq3, kq3, q3a, q3b, q3c⟩ := isOf hZ rfl Q2_0
  obtain ⟨_, _, ⟨T3, L3, k3, n3⟩, -, X3, ⟨Lc3, hQ3, l3, y3, z3⟩, st3⟩ := X2.virtualBack hx (y := (⟨"com/example/millrace/millrace/join/Status", "pending", "()J"⟩ : MethodName)) (z := (⟨"com/example/millrace/millrace/join/Status", "pending", "()J"⟩ : MethodName)) hown (mvT hZ (hw _ (List.mem_of_getElem? (i := 24) rfl))) (mvT hZ (hw _ (List.mem_of_getElem? (i := 25) rfl))) (notFace_of_selects (args := #[]) (mvT hZ (hw _ (List.mem_of_getElem? (i := 27) rfl)))) (mvT hZ (hw _ (List.mem_of_getElem? (i := 27) rfl))) (mvT hZ (hw _ (List.mem_of_getElem? (i := 26) rfl))) (by decide) (backOf (W := 0) (own_rm4 l Z a0 hw [] b1 x0 x1 x2 x3 x4 T2.heap n0 Z2 Q2_1 Q2_2 Q2_3 Q2_4 Q2_5) hZ (hw _ (List.mem_of_getElem? (i := 28) rfl)) (hw _ (List.mem_of_getElem? (i := 2) rfl)) (by decide) (by decide)) q3a q3c (g := (mkF m 19 #[.val (.long x0), .second, .val (.long x1), .second, .val (.long x2), .second, .val (.long x3), .second, .val (.long x4), .second, .val (.ref b1), .unset, .unset] [(.ref b1)])) rfl (by rw [hml]; rfl) (Steps.refl _) (argsL := []) (rest := []) (lenOf own_pd__28_29J rfl) rfl (by show 2 * 0 + _ ≤ _; exact Nat.le_of_eq rfl) (hb hby at_19) (fun _ _ => ⟨rfl, rfl, (by decide : 1 + 0 ≤ _), (by decide : 5 + 0 ≤ _)⟩)
  dsimp only [Pt.U, Pt.locs, Pt.cells, Pt.slots] at X3 l3 y3 z3 st3 hQ3
  subst l3 y3 z3
  obtain ⟨rfl, Nq3, e3⟩ := hQ3
  have N3 := Fr.app N2 Nq3
  refine own_step (g' := (mkF m 22 #[.val (.long x0), .second, .val (.long x1), .second, .val (.long x2), .second, .val (.long x3), .second, .val (.long x4), .second, .val (.ref b1), .unset, .unset] [(.long ((((x0 - x1) - x2) - x3) - x4))])) (fun _ k => st3.trans k) ?_
  refine own_step (g' := (mkF m 24 #[.val (.long x0), .second, .val (.long x1), .second, .val (.long x2), .second, .val (.long x3), .second, .val (.long x4), .second, .val (.ref b1), .val (.long ((((x0 - x1) - x2) - x3) - x4)), .second] [])) (fun _ k => XS.lstore X3.here hx rfl (hb hby at_22) rfl (l' := #[.val (.long x0), .second, .val (.long x1), .second, .val (.long x2), .second, .val (.long x3), .second, .val (.long x4), .second, .val (.ref b1), .val (.long ((((x0 - x1) - x2) - x3) - x4)), .second]) rfl k) ?_
  refine own_step (g' := (mkF m 26 #[.val (.long x0), .second, .val (.long x1), .second, .val (.long x2), .second, .val (.long x3), .second, .val (.long x4), .second, .val (.ref b1), .val (.long ((((x0 - x1) - x2) - x3) - x4)), .second] [(.long ((((x0 - x1) - x2) - x3) - x4))])) (fun _ k => XS.lload X3.here hx rfl (hb hby at_24) rfl k) ?_
  refine own_step (g' := (mkF m 27 #[.val (.long x0), .second, .val (.long x1), .second, .val (.long x2), .second, .val (.long x3), .second, .val (.long x4), .second, .val (.ref b1), .val (.long ((((x0 - x1) - x2) - x3) - x4)), .second] [(.long x1), (.long ((((x0 - x1) - x2) - x3) - x4))])) (fun _ k => XS.lloadN X3.here hx rfl (hb hby at_26) rfl k) ?_
  refine own_step (g' := (mkF m 28 #[.val (.long x0), .second, .val (.long x1), .second, .val (.long x2), .second, .val (.long x3), .second, .val (.long x4), .second, .val (.ref b1), .val (.long ((((x0 - x1) - x2) - x3) - x4)), .second] [(.long (((((x0 - x1) - x2) - x3) - x4) + x1))])) (fun _ k => XS.ladd X3.here hx rfl (hb hby at_27) rfl k) ?_
  refine own_step (g' := (mkF m 30 #[.val (.long x0), .second, .val (.long x1), .second, .val (.long x2), .second, .val (.long x3), .second, .val (.long x4), .second, .val (.ref b1), .val (.long ((((x0 - x1) - x2) - x3) - x4)), .second] [(.long x2), (.long (((((x0 - x1) - x2) - x3) - x4) + x1))])) (fun _ k => XS.lload X3.here hx rfl (hb hby at_28) rfl k) ?_
  refine own_step (g' := (mkF m 31 #[.val (.long x0), .second, .val (.long x1), .second, .val (.long x2), .second, .val (.long x3), .second, .val (.long x4), .second, .val (.ref b1), .val (.long ((((x0 - x1) - x2) - x3) - x4)), .second] [(.long ((((((x0 - x1) - x2) - x3) - x4) + x1) + x2))])) (fun _ k => XS.ladd X3.here hx rfl (hb hby at_30) rfl k) ?_
  refine own_step (g' := (mkF m 33 #[.val (.long x0), .second, .val (.long x1), .second, .val (.long x2), .second, .val (.long x3), .second, .val (.long x4), .second, .val (.ref b1), .val (.long ((((x0 - x1) - x2) - x3) - x4)), .second] [(.long x3), (.long ((((((x0 - x1) - x2) - x3) - x4) + x1) + x2))])) (fun _ k => XS.lload X3.here hx rfl (hb hby at_31) rfl k) ?_
  refine own_step (g' := (mkF m 34 #[.val (.long x0), .second, .val (.long x1), .second, .val (.long x2), .second, .val (.long x3), .second, .val (.long x4), .second, .val (.ref b1), .val (.long ((((x0 - x1) - x2) - x3) - x4)), .second] [(.long (((((((x0 - x1) - x2) - x3) - x4) + x1) + x2) + x3))])) (fun _ k => XS.ladd X3.here hx rfl (hb hby at_33) rfl k) ?_
  refine own_step (g' := (mkF m 36 #[.val (.long x0), .second, .val (.long x1), .second, .val (.long x2), .second, .val (.long x3), .second, .val (.long x4), .second, .val (.ref b1), .val (.long ((((x0 - x1) - x2) - x3) - x4)), .second] [(.long x4), (.long (((((((x0 - x1) - x2) - x3) - x4) + x1) + x2) + x3))])) (fun _ k => XS.lload X3.here hx rfl (hb hby at_34) rfl k) ?_
  refine own_step (g' := (mkF m 37 #[.val (.long x0), .second, .val (.long x1), .second, .val (.long x2), .second, .val (.long x3), .second, .val (.long x4), .second, .val (.ref b1), .val (.long ((((x0 - x1) - x2) - x3) - x4)), .second] [(.long ((((((((x0 - x1) - x2) - x3) - x4) + x1) + x2) + x3) + x4))])) (fun _ k => XS.ladd X3.here hx rfl (hb hby at_36) rfl k) ?_
  refine own_step (g' := (mkF m 38 #[.val (.long x0), .second, .val (.long x1), .second, .val (.long x2), .second, .val (.long x3), .second, .val (.long x4), .second, .val (.ref b1), .val (.long ((((x0 - x1) - x2) - x3) - x4)), .second] [(.long x0), (.long ((((((((x0 - x1) - x2) - x3) - x4) + x1) + x2) + x3) + x4))])) (fun _ k => XS.lloadN X3.here hx rfl (hb hby at_37) rfl k) ?_
  refine own_step (g' := (mkF m 39 #[.val (.long x0), .second, .val (.long x1), .second, .val (.long x2), .second, .val (.long x3), .second, .val (.long x4), .second, .val (.ref b1), .val (.long ((((x0 - x1) - x2) - x3) - x4)), .second] [(.int (lcmpW ((((((((x0 - x1) - x2) - x3) - x4) + x1) + x2) + x3) + x4) x0))])) (fun _ k => XS.lcmp X3.here hx rfl (hb hby at_38) rfl k) ?_
  refine own_ifN X3 hx (P := (((((((((x0 - x1) - x2) - x3) - x4) + x1) + x2) + x3) + x4) = x0)) (hb hby at_39) (own_l_ne ((((((((x0 - x1) - x2) - x3) - x4) + x1) + x2) + x3) + x4) x0) (by decide) (pc1 := 46) (by decide) (fun hc39 => ?_) (fun hc39 => ?_)
  · show own_E p e below (own_F s 16 128) (own_Q0 Z x0 x1 x2 x3 x4 h0 n0) T3 (mkF m 42 #[.val (.long x0), .second, .val (.long x1), .second, .val (.long x2), .second, .val (.long x3), .second, .val (.long x4), .second, .val (.ref b1), .val (.long ((((x0 - x1) - x2) - x3) - x4)), .second] [])
    refine own_step (g' := (mkF m 43 #[.val (.long x0), .second, .val (.long x1), .second, .val (.long x2), .second, .val (.long x3), .second, .val (.long x4), .second, .val (.ref b1), .val (.long ((((x0 - x1) - x2) - x3) - x4)), .second] [(.int (1 : Int32))])) (fun _ k => XS.iconst X3.here hx rfl (hb hby at_42) k) ?_
    refine own_step (g' := (mkF m 47 #[.val (.long x0), .second, .val (.long x1), .second, .val (.long x2), .second, .val (.long x3), .second, .val (.long x4), .second, .val (.ref b1), .val (.long ((((x0 - x1) - x2) - x3) - x4)), .second] [(.int (1 : Int32))])) (fun _ k => XS.goto X3.here hx rfl (pc0 := 43) (pc' := 47) rfl (hb hby at_43) (by decide) (by decide) k) ?_
    exact own_retI X3 hx hlk hret (by simp) (hb hby at_47) rfl (by decide) (by decide) (by show own_Q0 Z x0 x1 x2 x3 x4 h0 n0 (some (.int (1 : Int32))) T3.heap _; rw [e3]; exact ⟨rfl, N3⟩)
  · show own_E p e below (own_F s 16 128) (own_Q0 Z x0 x1 x2 x3 x4 h0 n0) T3 (mkF m 46 #[.val (.long x0), .second, .val (.long x1), .second, .val (.long x2), .second, .val (.long x3), .second, .val (.long x4), .second, .val (.ref b1), .val (.long ((((x0 - x1) - x2) - x3) - x4)), .second] [])
    exact absurd (own_law x0 x1 x2 x3 x4) hc39
set_option maxRecDepth 65536 in
set_option maxHeartbeats 40000000 in
theorem own_comes {Post : Tables → Env → Array Value → State → Outcome → State → Prop} (hpost : ∀ tb e args s v u, (limb_1_1.after args s (.returned v) u = true ∧ limb_1_2.after args s (.returned v) u = true ∧ True) → FrameEnd s (.returned v) u (Jvm.fieldLocs frame_1_writes args s ++ Jvm.arrayLocs frame_1_arrays args s ++ Jvm.staticLocs frame_1_statics s) 16 128 → Post tb e args s (.returned v) u) :
    ArmFor flags0 classFile x code maxLocals ret World_1 tables_1 room_1 Calls_1 rest_1 Pre_1 Post := by
  intro l hfl _ _ p e ha hc hk s m args below hf hA hF happ hP
  obtain ⟨hcalls, hrest, hpre⟩ := hP
  obtain ⟨-, -, -, hnamed, -, -, -, hat⟩ := (Spec.applies_iff hf).mp happ
  obtain ⟨hg, hn⟩ := and_e (Cond.before_iff.mp (show (Jvm.Cond.and given_1 narrow_1).before args s = true from hpre))
  obtain ⟨q0, r0⟩ := and_e hg
  obtain ⟨q1, r1⟩ := and_e r0
  obtain ⟨q2, r2⟩ := and_e r1
  obtain ⟨q3, r3⟩ := and_e r2
  obtain ⟨q4, r4⟩ := and_e r3
  obtain ⟨w0, w1, w2, w3, w4, rfl⟩ : ∃ w0 w1 w2 w3 w4 : Value, args = #[w0, w1, w2, w3, w4] := by
    have hs : args.size = 5 := by simpa [Cond.value, given_1] using q0
    obtain ⟨L⟩ := args
    match L, hs with
    | [w0, w1, w2, w3, w4], _ => exact ⟨w0, w1, w2, w3, w4, rfl⟩
  have hw := fun d (hd : d ∈ tables_1) => atoms_spec (ws := Jvm.Cond.code x code maxLocals ret :: tables_1) hat d (List.mem_cons_of_mem _ hd)
  obtain ⟨i0, ei0⟩ := isL_v q1
  obtain rfl : w0 = (.long i0) := Option.some.inj ei0
  obtain ⟨i1, ei1⟩ := isL_v q2
  obtain rfl : w1 = (.long i1) := Option.some.inj ei1
  obtain ⟨i2, ei2⟩ := isL_v q3
  obtain rfl : w2 = (.long i2) := Option.some.inj ei2
  obtain ⟨i3, ei3⟩ := isL_v q4
  obtain rfl : w3 = (.long i3) := Option.some.inj ei3
  obtain ⟨i4, ei4⟩ := isL_v r4
  obtain rfl : w4 = (.long i4) := Option.some.inj ei4
  obtain ⟨n, o, h1, h2, h3, _, L, rfl, ⟨rfl, N⟩, hq⟩ := own_rm0 l s _ hw tables_1 i0 i1 i2 i3 i4 s.heap s.heap.size (Nat.le_refl _) p e ha hc hk s m _ below hf ((Spec.applies_iff_loose hf).mp happ).1 ⟨rfl, State.Warmed39.refl s, rfl⟩ trivial
  refine ⟨n, _, h1, h2, h3, hpost _ _ _ _ _ _ ⟨Cond.after_iff.mpr rfl, Cond.after_iff.mpr (eq_i res_at (Term.int_eval (1)) rfl), trivial⟩ ⟨hq.1, hq.2.1, (hq.2.2.sift fun y hy => Or.inr (N y hy)).mono (by decide) (by decide)⟩⟩
theorem main_1_1 : Claimed_1_1 := own_comes fun _ _ _ _ _ _ h hF => ⟨h.1, hF⟩
theorem main_1_2 : Claimed_1_2 := own_comes fun _ _ _ _ _ _ h hF => ⟨h.2.1, hF⟩
end Jvm.Pilot.@@N@@
namespace Jvm.Pilot.@@N@@
open Jvm Jvm.ClassFile Sem Op Lib Jvm.Free Jvm.Stand Jvm.Pilot.@@N@@.Jvm.D
/-! MADE BY PROGRAM (witnessworld.py) out of the Statement's table words and the real class files: 10 classes; the members and pool entries that the words name. The judged class is class 1, her method 1. -/
namespace start1
open Jvm.ClassFile
def u (s : String) : CpInfo := .utf8 (stringToUtf16 s)
/-- a pool by its gaps: so many unusable entries, then the entry; so many at the end -/
def gap : Nat → List CpInfo → List CpInfo
  | 0, r => r
  | n + 1, r => .unusable :: gap n r
def poolList (es : List (Nat × CpInfo)) (last : Nat) : List CpInfo := es.foldr (fun e r => gap e.1 (e.2 :: r)) (gap last [])
def pool (es : List (Nat × CpInfo)) (last : Nat) : Array CpInfo := ⟨poolList es last⟩
def fileOf (pool : Array CpInfo) (this : Nat) (attrs : Array Attribute := #[]) (ms : Array MethodInfo := #[]) (fl : Nat := 33) (sup : Nat := 0) (ifs : Array Nat := #[]) (fds : Array FieldInfo := #[]) : ClassFile where
  minorVersion := 0
  majorVersion := 65
  constantPool := pool
  accessFlags := fl
  thisClass := this
  superClass := sup
  interfaces := ifs
  fields := fds
  methods := ms
  attributes := attrs
def plain (name : String) (sup : Option ClassId) : Class where
  name := name
  kind := .ordinary
  loader := none
  accessFlags := 33
  super := sup
  interfaces := #[]
  cf := none
  fields := #[]
  methods := #[]
  instanceTypes := #[]
  staticTypes := #[]
  resolved := #[]
  callSites := []
  init := .initialized
  statics := none
  mirror := none

def pool0 : Array CpInfo := pool [(5, u "<init>"), (0, u "()V"), (1, .class_ 10), (1, u "java/lang/Object")] 113

def k0c0 : Code := { maxStack := 0, maxLocals := 1, code := object_method_1_code, exceptionTable := #[], attributes := #[] }
def k0m0 : Method := { name := "<init>", desc := "()V", sig := { parameters := [], returnType := none }, accessFlags := 1, code := some k0c0 }
/-- java/lang/Object -/
def k0 : Class := { plain "java/lang/Object" none with
  accessFlags := 33
  interfaces := #[]
  cf := some (fileOf pool0 8 #[] #[{ accessFlags := 1, nameIndex := 5, descriptorIndex := 6, attributes := #[] }] 33 0 #[] #[])
  fields := #[]
  methods := #[k0m0]
  instanceTypes := #[]
  staticTypes := #[]
  resolved := Array.replicate 124 none
  statics := none }

def pool1 : Array CpInfo := pool [(2, .class_ 4), (1, u "java/lang/Object"), (0, u "<init>"), (0, u "()V"), (0, .class_ 8), (0, u "com/example/millrace/millrace/join/Status"), (0, .methodref 7 10), (0, .nameAndType 5 11), (0, u "(JJJJJ)V"), (0, .methodref 7 13), (0, .nameAndType 14 15), (0, u "pending"), (0, u "()J"), (0, .class_ 17), (0, u "com/example/millrace/millrace/join/StatusPendingPinLaw"), (2, u "law"), (0, u "(JJJJJ)Z")] 3

def k1m0 : Method := { name := "<init>", desc := "()V", sig := { parameters := [], returnType := none }, accessFlags := 1, code := none }
def k1c1 : Code := { maxStack := 12, maxLocals := 13, code := code, exceptionTable := #[], attributes := #[] }
def k1m1 : Method := { name := "law", desc := "(JJJJJ)Z", sig := { parameters := [.long, .long, .long, .long, .long], returnType := some .boolean }, accessFlags := 9, code := some k1c1 }
/-- com/example/millrace/millrace/join/StatusPendingPinLaw -/
def k1 : Class := { plain "com/example/millrace/millrace/join/StatusPendingPinLaw" (some 0) with
  accessFlags := 49
  interfaces := #[]
  cf := some (fileOf pool1 16 #[] #[{ accessFlags := 1, nameIndex := 5, descriptorIndex := 6, attributes := #[] }, { accessFlags := 9, nameIndex := 20, descriptorIndex := 21, attributes := #[] }] 49 2 #[] #[])
  fields := #[]
  methods := #[k1m0, k1m1]
  instanceTypes := #[]
  staticTypes := #[]
  resolved := Array.replicate 25 none
  statics := none }

def pool2 : Array CpInfo := pool [(1, .methodref 2 3), (0, .class_ 4), (0, .nameAndType 5 6), (0, u "java/lang/Object"), (0, u "<init>"), (0, u "()V"), (0, .class_ 8), (0, u "java/lang/Record")] 13

def k2c0 : Code := { maxStack := 1, maxLocals := 1, code := jdk_30_method_1_code, exceptionTable := #[], attributes := #[] }
def k2m0 : Method := { name := "<init>", desc := "()V", sig := { parameters := [], returnType := none }, accessFlags := 4, code := some k2c0 }
/-- java/lang/Record -/
def k2 : Class := { plain "java/lang/Record" (some 0) with
  accessFlags := 1057
  interfaces := #[]
  cf := some (fileOf pool2 7 #[] #[{ accessFlags := 4, nameIndex := 5, descriptorIndex := 6, attributes := #[] }] 1057 2 #[] #[])
  fields := #[]
  methods := #[k2m0]
  instanceTypes := #[]
  staticTypes := #[]
  resolved := Array.replicate 22 none
  statics := none }

def pool3 : Array CpInfo := pool [(1, .methodref 2 3), (0, .class_ 4), (0, .nameAndType 5 6), (0, u "java/lang/Record"), (0, u "<init>"), (0, u "()V"), (0, .fieldref 8 9), (0, .class_ 10), (0, .nameAndType 11 12), (0, u "com/example/millrace/millrace/join/Status"), (0, u "read"), (0, u "J"), (0, .fieldref 8 14), (0, .nameAndType 15 12), (0, u "skipped"), (0, .fieldref 8 17), (0, .nameAndType 18 12), (0, u "joined"), (0, .fieldref 8 20), (0, .nameAndType 21 12), (0, u "unjoinable"), (0, .fieldref 8 23), (0, .nameAndType 24 12), (0, u "duplicates"), (12, u "(JJJJJ)V"), (3, u "pending"), (0, u "()J")] 27

def k3c0 : Code := { maxStack := 3, maxLocals := 11, code := prog_138_method_1_code, exceptionTable := #[], attributes := #[] }
def k3m0 : Method := { name := "<init>", desc := "(JJJJJ)V", sig := { parameters := [.long, .long, .long, .long, .long], returnType := none }, accessFlags := 1, code := some k3c0 }
def k3c1 : Code := { maxStack := 4, maxLocals := 1, code := prog_138_method_2_code, exceptionTable := #[], attributes := #[] }
def k3m1 : Method := { name := "pending", desc := "()J", sig := { parameters := [], returnType := some .long }, accessFlags := 1, code := some k3c1 }
/-- com/example/millrace/millrace/join/Status -/
def k3 : Class := { plain "com/example/millrace/millrace/join/Status" (some 2) with
  accessFlags := 49
  interfaces := #[]
  cf := some (fileOf pool3 8 #[] #[{ accessFlags := 1, nameIndex := 5, descriptorIndex := 37, attributes := #[] }, { accessFlags := 1, nameIndex := 41, descriptorIndex := 42, attributes := #[] }] 49 2 #[] #[{ accessFlags := 18, nameIndex := 11, descriptorIndex := 12, attributes := #[] }, { accessFlags := 18, nameIndex := 15, descriptorIndex := 12, attributes := #[] }, { accessFlags := 18, nameIndex := 18, descriptorIndex := 12, attributes := #[] }, { accessFlags := 18, nameIndex := 21, descriptorIndex := 12, attributes := #[] }, { accessFlags := 18, nameIndex := 24, descriptorIndex := 12, attributes := #[] }])
  fields := #[{ name := "read", type := .long, accessFlags := 18, slot := 0, constantValue := 0 }, { name := "skipped", type := .long, accessFlags := 18, slot := 1, constantValue := 0 }, { name := "joined", type := .long, accessFlags := 18, slot := 2, constantValue := 0 }, { name := "unjoinable", type := .long, accessFlags := 18, slot := 3, constantValue := 0 }, { name := "duplicates", type := .long, accessFlags := 18, slot := 4, constantValue := 0 }]
  methods := #[k3m0, k3m1]
  instanceTypes := #[.long, .long, .long, .long, .long]
  staticTypes := #[]
  resolved := Array.replicate 70 none
  statics := none }

def pool4 : Array CpInfo := pool [(1, u "java/lang/Cloneable"), (0, .class_ 1), (0, u "java/lang/Object"), (0, .class_ 3)] 3

/-- java/lang/Cloneable -/
def k4 : Class := { plain "java/lang/Cloneable" (some 0) with
  accessFlags := 1537
  interfaces := #[]
  cf := some (fileOf pool4 2 #[] #[] 1537 4 #[] #[])
  fields := #[]
  methods := #[]
  instanceTypes := #[]
  staticTypes := #[]
  resolved := Array.replicate 8 none
  statics := none }

def pool5 : Array CpInfo := pool [(1, u "java/io/Serializable"), (0, .class_ 1), (0, u "java/lang/Object"), (0, .class_ 3)] 3

/-- java/io/Serializable -/
def k5 : Class := { plain "java/io/Serializable" (some 0) with
  accessFlags := 1537
  interfaces := #[]
  cf := some (fileOf pool5 2 #[] #[] 1537 4 #[] #[])
  fields := #[]
  methods := #[]
  instanceTypes := #[]
  staticTypes := #[]
  resolved := Array.replicate 8 none
  statics := none }

/-- the primitive byte -/
def k6 : Class := { plain "byte" none with kind := .primitive 'B', accessFlags := 0x411 }
/-- [B -/
def k7 : Class := { plain "[B" (some 0) with kind := .array 6 .byte, interfaces := #[4, 5], accessFlags := 1041 }

/-- the primitive int -/
def k8 : Class := { plain "int" none with kind := .primitive 'I', accessFlags := 0x411 }
/-- [I -/
def k9 : Class := { plain "[I" (some 0) with kind := .array 8 .int, interfaces := #[4, 5], accessFlags := 1041 }

def heap : Heap := #[]
def classes : Array Class := #[k0, k1, k2, k3, k4, k5, k6, k7, k8, k9]
def interned : List (Array UInt16 × Addr) := []
def slotsUsed : Nat := 0
def theMethod : MethodId := ⟨1, 1⟩
def args0 : Array Value := #[.long 50, .long 7, .long 3, .long 2, .long 1]
def aboutOver (below : List Frame) : State where
  vm := { classes := classes, interned := interned.toArray }
  heap := heap
  slotsUsed := slotsUsed
  threads := #[{ frames := .invoking theMethod args0 :: below }]
def below0 : List Frame := [.native { method := ⟨0, 0⟩, args := #[] }]
def about1 : State := aboutOver below0
def p0 : Program := .bare "" "" ""
def e0 : Env := launch0.env 0 0 0
theorem w_frames : about1.frames = Frame.invoking theMethod args0 :: below0 := rfl
set_option maxRecDepth 65536 in
theorem w_args : argsFit about1.vm theMethod args0 = true := by decide +kernel
set_option maxRecDepth 65536 in
theorem w_heap : heapFits about1 = true := by decide +kernel
set_option maxRecDepth 65536 in
theorem w_runnable : about1.curStatus? = some .runnable := by decide +kernel
set_option maxRecDepth 65536 in
theorem w_alone : about1.alone = true := by decide +kernel
set_option maxRecDepth 65536 in
theorem w_named : about1.methodNamed? x = some theMethod := by decide +kernel
set_option maxRecDepth 65536 in
theorem w_hears : about1.hears theMethod below0 = true := by decide +kernel
set_option maxRecDepth 65536 in
theorem w_ripe : about1.ripe theMethod args0 below0 = true := by decide +kernel
theorem w_running : about1.status = .running := rfl
set_option maxRecDepth 65536 in
theorem w_room : about1.hasRoom e0.platform room_1 = true :=
  launch0.hasRoom_least _ room_1 (by decide +kernel) (by decide +kernel) (by decide +kernel) (by decide +kernel) (by decide +kernel) (by decide +kernel)
theorem allAtoms_all (ts : List Jvm.Cond) (a : Array Jvm.Value) (st : Jvm.State) : (allAtoms ts).before a st = ts.all (fun c => c.before a st) := by
  induction ts with
  | nil => rfl
  | cons c t ih =>
    show (Jvm.Cond.and c (allAtoms t)).before a st = _
    rw [Jvm.Cond.before_and, ih, List.all_cons]
def words1 : List Jvm.Cond := Jvm.Cond.code x code maxLocals ret :: tables_1
/-- a 'code' word, met by the world's own term for the bytes: nothing is compared byte by byte -/
theorem code_word {y : MethodName} {bytes : ByteArray} {mx : Nat} {rt : Option FieldType} {a : Array Value} {s : State} {m : MethodId} {meth : Method} {c : Code} (h1 : s.methodNamed? y = some m) (h2 : s.vm.method? m = some meth) (h3 : meth.code = some c) (h4 : c.code = bytes)
    (h5 : (c.maxLocals == mx && c.exceptionTable.isEmpty && decide (c.maxStack ≤ mostOperands) && decide (meth.sig.returnType = rt) && !meth.locks && decide (parseMethodDescriptor y.desc = some meth.sig)) = true) : (Jvm.Cond.code y bytes mx rt).before a s = true := by
  simp only [Bool.and_eq_true, beq_iff_eq, Bool.not_eq_true', decide_eq_true_eq] at h5
  obtain ⟨⟨⟨⟨⟨g1, g2⟩, g3⟩, g4⟩, g5⟩, g6⟩ := h5
  simp [Cond.before, Cond.holds, Cond.value, h1, h2, h3, h4, g1, g2, g3, g4, g5, g6]
def isCode : Jvm.Cond → Bool
  | .code _ _ _ _ => true
  | _ => false
theorem all_split {L : List Jvm.Cond} {P : Jvm.Cond → Bool} (h1 : L.all (fun c => isCode c || P c) = true) (h2 : ∀ c ∈ L.filter isCode, P c = true) : L.all P = true := by
  refine List.all_eq_true.mpr fun c hc => ?_
  have h := List.all_eq_true.mp h1 c hc
  rcases Bool.eq_false_or_eq_true (isCode c) with hi | hi
  · exact h2 c (List.mem_filter.mpr ⟨hc, hi⟩)
  · simpa [hi] using h
set_option maxRecDepth 65536 in
theorem w_c0 : (Jvm.Cond.code x code maxLocals ret).before args0 about1 = true := code_word (m := ⟨1, 1⟩) (meth := k1m1) (c := k1c1) (by decide +kernel) rfl rfl rfl (by decide +kernel)
set_option maxRecDepth 65536 in
theorem w_c1 : (Jvm.Cond.code ({ cls := "com/example/millrace/millrace/join/Status", name := "<init>", desc := "(JJJJJ)V" } : Jvm.MethodName) prog_138_method_1_code (11 : Nat) (Option.none : Option Jvm.ClassFile.FieldType)).before args0 about1 = true := code_word (m := ⟨3, 0⟩) (meth := k3m0) (c := k3c0) (by decide +kernel) rfl rfl rfl (by decide +kernel)
set_option maxRecDepth 65536 in
theorem w_c2 : (Jvm.Cond.code ({ cls := "java/lang/Record", name := "<init>", desc := "()V" } : Jvm.MethodName) jdk_30_method_1_code (1 : Nat) (Option.none : Option Jvm.ClassFile.FieldType)).before args0 about1 = true := code_word (m := ⟨2, 0⟩) (meth := k2m0) (c := k2c0) (by decide +kernel) rfl rfl rfl (by decide +kernel)
set_option maxRecDepth 65536 in
theorem w_c3 : (Jvm.Cond.code ({ cls := "java/lang/Object", name := "<init>", desc := "()V" } : Jvm.MethodName) object_method_1_code (1 : Nat) (Option.none : Option Jvm.ClassFile.FieldType)).before args0 about1 = true := code_word (m := ⟨0, 0⟩) (meth := k0m0) (c := k0c0) (by decide +kernel) rfl rfl rfl (by decide +kernel)
set_option maxRecDepth 65536 in
theorem w_c4 : (Jvm.Cond.code ({ cls := "com/example/millrace/millrace/join/Status", name := "pending", desc := "()J" } : Jvm.MethodName) prog_138_method_2_code (1 : Nat) (Option.some Jvm.ClassFile.FieldType.long)).before args0 about1 = true := code_word (m := ⟨3, 1⟩) (meth := k3m1) (c := k3c1) (by decide +kernel) rfl rfl rfl (by decide +kernel)
def codes1 : List Jvm.Cond := [Jvm.Cond.code x code maxLocals ret, Jvm.Cond.code ({ cls := "com/example/millrace/millrace/join/Status", name := "<init>", desc := "(JJJJJ)V" } : Jvm.MethodName) prog_138_method_1_code (11 : Nat) (Option.none : Option Jvm.ClassFile.FieldType), Jvm.Cond.code ({ cls := "java/lang/Record", name := "<init>", desc := "()V" } : Jvm.MethodName) jdk_30_method_1_code (1 : Nat) (Option.none : Option Jvm.ClassFile.FieldType), Jvm.Cond.code ({ cls := "java/lang/Object", name := "<init>", desc := "()V" } : Jvm.MethodName) object_method_1_code (1 : Nat) (Option.none : Option Jvm.ClassFile.FieldType), Jvm.Cond.code ({ cls := "com/example/millrace/millrace/join/Status", name := "pending", desc := "()J" } : Jvm.MethodName) prog_138_method_2_code (1 : Nat) (Option.some Jvm.ClassFile.FieldType.long)]
set_option maxRecDepth 65536 in
theorem codes_eq : words1.filter isCode = codes1 := rfl
theorem w_codes : ∀ c ∈ words1.filter isCode, c.before args0 about1 = true := by
  rw [codes_eq]
  intro c hc
  simp only [codes1, List.mem_cons, List.not_mem_nil, or_false] at hc
  rcases hc with rfl | rfl | rfl | rfl | rfl
  · exact w_c0
  · exact w_c1
  · exact w_c2
  · exact w_c3
  · exact w_c4
set_option maxRecDepth 65536 in
theorem w_t1 : (words1.take 24).all (fun c => isCode c || c.before args0 about1) = true := by decide +kernel
set_option maxRecDepth 65536 in
theorem w_t2 : (words1.drop 24).all (fun c => isCode c || c.before args0 about1) = true := by decide +kernel
theorem w_tables : (allAtoms (Jvm.Cond.code x code maxLocals ret :: tables_1)).before args0 about1 = true := by
  rw [allAtoms_all]
  show words1.all (fun c => c.before args0 about1) = true
  refine all_split ?_ w_codes
  rw [← List.take_append_drop 24 words1, List.all_append, w_t1, w_t2]
  rfl
set_option maxRecDepth 65536 in
theorem w_case : (Jvm.Cond.and given_1 narrow_1).before args0 about1 = true := by decide +kernel
theorem w_applies : (headSpec (Jvm.Cond.code x code maxLocals ret :: tables_1) room_1).applies x e0.platform about1 = true :=
  (Spec.applies_iff w_frames).mpr ⟨w_running, w_runnable, w_alone, w_named, w_hears, w_ripe, w_room, w_tables⟩
theorem atStart : AtStart classFile x code maxLocals ret World_1 tables_1 room_1 Calls_1 rest_1 Pre_1 launch0 p0 e0 about1 theMethod args0 below0 :=
  ⟨lists_1, trivial, launch0.admits_env _ _ _, launch0.least_env, fairChoices_fair.cas, fairChoices_fair.clock, w_frames, w_args, w_heap, w_applies, trivial, trivial, w_case⟩
end start1
theorem witness_1 : WitnessClaimed_1 := ⟨start1.p0, start1.e0, start1.about1, start1.theMethod, start1.args0, start1.below0, start1.atStart⟩
end Jvm.Pilot.@@N@@
