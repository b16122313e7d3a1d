import JvmDerived
import JvmDerived.Pilot.@@N@@Statement
import JvmDerived.Pilot.@@N@@Code
set_option linter.unusedVariables false
set_option linter.unusedSimpArgs false
namespace Jvm.Pilot.@@N@@
open Jvm Jvm.ClassFile Sem Op Lib Jvm.Free Jvm.Stand Jvm.LawKit Jvm.RoadKit Bundle Jvm.Pilot.@@N@@.Jvm.D
def Go (tb : Tables) (e : Env) (below : List Frame) (P : State → Outcome → Prop) (T : State) : Prop := ∃ s₂ o, Steps tb e below T s₂ ∧ P s₂ o
theorem own_go {tb : Tables} {e : Env} {below : List Frame} {P : State → Outcome → Prop} {T T' : State} (h : ∀ t, Steps tb e below T' t → Steps tb e below T t) (k : Go tb e below P T') : Go tb e below P T := by
  obtain ⟨a, b, c, d⟩ := k
  exact ⟨a, b, h a c, d⟩
def Fin (s : State) (below : List Frame) (Q : Option Value → Heap → List Loc → Prop) (cc ss : Nat) (s₂ : State) (o : Outcome) : Prop := s₂.status = .running ∧ Ended s₂ below o ∧ ∃ v L, o = .returned v ∧ Q v s₂.heap L ∧ FrameEnd s o s₂ L cc ss
def PQ (w : Value) (h0 : Heap) (n0 : Nat) (v : Option Value) (h : Heap) (L : List Loc) : Prop := v = some w ∧ Fr n0 L ∧ h = h0
theorem own_ret {p : Program} {l : Launch} {e : Env} {R : Room} {s : State} {m : MethodId} {args : Array Value} {below : List Frame} {meth : Method} {c : Code} {T : State} {locs : List Loc} {cells slots : Nat} (X : Stand p l e R s m args below meth c T locs cells slots) (hx : p.tables.exec = Jvm.exec) (hlk : meth.locks = false)
    {pc : Nat} {Ls : Array Slot} {w : Value} {t : FieldType} {i : Instr} {rest : List Value} (hret : meth.sig.returnType = some t) (hn : narrow t w = w)
    (hi : (i = .ireturn ∧ (t = .int ∨ t = .boolean ∨ t = .byte ∨ t = .char ∨ t = .short) ∧ ∃ z, w = .int z) ∨ (i = .lreturn ∧ t = .long ∧ ∃ z, w = .long z) ∨ (i = .dreturn ∧ t = .double ∧ ∃ z, w = .double z) ∨ (i = .freturn ∧ t = .float ∧ ∃ z, w = .float z) ∨ (i = .areturn ∧ t.isReference = true ∧ w.isRef = true))
    (hd : decode c.code pc = .ok (i, 1)) {Q : Option Value → Heap → List Loc → Prop} (hQ : Q (some w) T.heap locs) {cc ss : Nat} (hc : cells ≤ cc) (hs : slots ≤ ss) :
    Go p.tables e below (Fin s below Q cc ss) (T.setTop (mkF m pc Ls (w :: rest))) := by
  obtain ⟨fs, hr, hrun, hended, hW, hsame⟩ := X.leave (v := some w) (fun h => by rw [hret] at h; cases h) hlk
  exact ⟨_, _, retOut X hx hret hn hi hd hr, hrun, hended, _, _, rfl, hQ, ⟨_, rfl⟩, hW, hsame.mono hc hs⟩
theorem own_fld {Z : State} {args : Array Value} {t : Term} {a : Addr} {C n d : String} {k : Int32} (ev : t.eval args Z none [] Z = some (.ref a)) (h : (Jvm.Cond.eq (.field t C n d) (.int k)).value args Z none Z [] = some true) : Fld Z Z.heap a C n d (.int k) := by
  have e1 : (Term.field t C n d).eval args Z none [] Z = Z.fieldOf? a C n d := fld_at ev
  obtain ⟨x, y, h1, h2, h3, h4⟩ := cmp_v (Or.inl h)
  have e2 : (Term.int k).eval args Z none [] Z = some (.int k) := Term.int_eval k
  cases e2.symm.trans h2
  obtain ⟨z, rfl⟩ := h4
  have q := gotT (u := (Jvm.Cond.eq (.field t C n d) (.int k)).value args Z none Z []) (P := z = k) (by simp [Cond.value, h1, e2]) h
  subst q
  exact Fld.start (e1 ▸ h1)
theorem own_ne {Z : State} {h : Heap} {a b : Addr} {C n d : String} {v w : Value} (F : Fld Z h a C n d v) (G : Fld Z h b C n d w) (hn : v ≠ w) : a ≠ b := by
  rintro rfl
  obtain ⟨c1, cf1, k1, i1, f1, a1, a2, a3, a4, a5, a6, a7⟩ := F
  obtain ⟨c2, cf2, k2, i2, f2, b1, b2, b3, b4, b5, b6, b7⟩ := G
  cases a1.symm.trans b1
  cases a2.symm.trans b2
  exact hn (Option.some.inj (a7.symm.trans b7))
theorem own_mask (x : Int32) : 0 ≤ (x &&& 2147483647).toInt ∧ (x &&& 2147483647).toInt < 2147483648 := by
  have h1 : (x &&& 2147483647).toBitVec.toNat < 2 ^ 31 := by
    rw [Int32.toBitVec_and, BitVec.toNat_and]
    exact Nat.lt_of_le_of_lt Nat.and_le_right (by decide)
  have h2 : (x &&& 2147483647).toInt = ((x &&& 2147483647).toBitVec.toNat : Int) := by
    show (x &&& 2147483647).toBitVec.toInt = _
    rw [BitVec.toInt_eq_toNat_of_lt (by omega)]
  omega
theorem own_mod (x : Int32) (k : Int32) (hk : 0 < k.toInt) : 0 ≤ ((x &&& 2147483647) % k).toInt ∧ ((x &&& 2147483647) % k).toInt < k.toInt := by
  have h := own_mask x
  rw [Int32.toInt_mod]
  rw [Int.tmod_eq_emod_of_nonneg h.1]
  exact ⟨Int.emod_nonneg _ (by omega), Int.emod_lt_of_pos _ hk⟩
def own_S (Z : State) (h0 : Heap) (w_TRUE w_FALSE w_UNKNOWN : Addr) : Prop := Sta Z h0 "com/example/deft_refine/deftrefine/prover/sequent/Evaluation$Value" "TRUE" "Lcom/example/deft_refine/deftrefine/prover/sequent/Evaluation$Value;" (.ref w_TRUE) ∧ Sta Z h0 "com/example/deft_refine/deftrefine/prover/sequent/Evaluation$Value" "FALSE" "Lcom/example/deft_refine/deftrefine/prover/sequent/Evaluation$Value;" (.ref w_FALSE) ∧ Sta Z h0 "com/example/deft_refine/deftrefine/prover/sequent/Evaluation$Value" "UNKNOWN" "Lcom/example/deft_refine/deftrefine/prover/sequent/Evaluation$Value;" (.ref w_UNKNOWN)
def own_E (Z : State) (h0 : Heap) (w_TRUE w_FALSE w_UNKNOWN : Addr) : Prop := Exa Z h0 w_TRUE "com/example/deft_refine/deftrefine/prover/sequent/Evaluation$Value" ∧ Exa Z h0 w_FALSE "com/example/deft_refine/deftrefine/prover/sequent/Evaluation$Value" ∧ Exa Z h0 w_UNKNOWN "com/example/deft_refine/deftrefine/prover/sequent/Evaluation$Value"
def own_O (Z : State) (h0 : Heap) (w_TRUE w_FALSE w_UNKNOWN : Addr) : Prop := Fld Z h0 w_FALSE "java/lang/Enum" "ordinal" "I" (.int 1) ∧ Fld Z h0 w_TRUE "java/lang/Enum" "ordinal" "I" (.int 0) ∧ Fld Z h0 w_UNKNOWN "java/lang/Enum" "ordinal" "I" (.int 2)
def own_of (wT wF : Addr) (b : Int32) : Addr := if b = 0 then wF else wT
def own_not (wT wF wU a : Addr) : Addr := if a = wT then wF else if a = wF then wT else wU
theorem d1_0 : decode prog_94_method_5_code 0 = .ok (.iload_n 0, 1) := by decide +kernel
theorem d1_1 : decode prog_94_method_5_code 1 = .ok (.ifCond .eq 9, 3) := by decide +kernel
theorem d1_4 : decode prog_94_method_5_code 4 = .ok (.getstatic 3, 3) := by decide +kernel
theorem d1_7 : decode prog_94_method_5_code 7 = .ok (.goto 6, 3) := by decide +kernel
theorem d1_10 : decode prog_94_method_5_code 10 = .ok (.getstatic 7, 3) := by decide +kernel
theorem d1_13 : decode prog_94_method_5_code 13 = .ok (.areturn, 1) := by decide +kernel
theorem pn_0 : plainName "com/example/deft_refine/deftrefine/prover/sequent/Evaluation$Value" = true := by first | (simp [plainName, overriddenIn]; done) | decide +kernel
theorem ef_rm_of (m : MethodId) (x0 : Int32) : entryFrame m #[(.int x0)] 1 = mkF m 0 #[.val (.int x0)] [] := by first | (simp [entryFrame, mkF, argsToLocals, Value.category]; done) | rfl
set_option maxRecDepth 65536 in
set_option maxHeartbeats 40000000 in
theorem rm_of (l : Launch) (Z : State) (a0 : Array Value) (hw : ∀ d ∈ tables_1, d.before a0 Z = true) (ws : List Jvm.Cond) (b : Int32) (w_TRUE w_FALSE w_UNKNOWN : Addr) (h0 : Heap) (n0 : Nat) (SS : own_S Z h0 w_TRUE w_FALSE w_UNKNOWN) :
    MetFree l (⟨"com/example/deft_refine/deftrefine/prover/sequent/Evaluation$Value", "of", "(Z)Lcom/example/deft_refine/deftrefine/prover/sequent/Evaluation$Value;"⟩ : MethodName) (head1 (Jvm.Cond.code (⟨"com/example/deft_refine/deftrefine/prover/sequent/Evaluation$Value", "of", "(Z)Lcom/example/deft_refine/deftrefine/prover/sequent/Evaluation$Value;"⟩ : MethodName) prog_94_method_5_code 1 (some (.object "com/example/deft_refine/deftrefine/prover/sequent/Evaluation$Value")) :: ws) ({ frames := 0, cells := 0, slots := 0, locals := 0 } : Room)) (fun aa U => aa = #[(.int b)] ∧ Z.Warmed39 U.vm ∧ U.heap = h0) (fun _ _ _ _ _ => True) (fun _ U o U' => ∃ v L, o = .returned v ∧ PQ (.ref (own_of w_TRUE w_FALSE b)) h0 n0 v U'.heap L ∧ FrameEnd U o U' L ({ frames := 0, cells := 0, slots := 0, locals := 0 } : Room).cells ({ frames := 0, cells := 0, slots := 0, locals := 0 } : Room).slots) := by
  refine MetFree.of_bodySF (plainFor_of_name pn_0) hisR ?_
  intro p e s m args below meth c s₁ Bd hml0 hP hK
  obtain ⟨rfl, hZ, hh⟩ := hP
  have hx := Bd.exec
  have hby := Bd.bytes
  have hlk := Bd.notSynchronized
  have hml : c.maxLocals = 1 := hml0
  have hown : s.vm.findClass "com/example/deft_refine/deftrefine/prover/sequent/Evaluation$Value" = some m.cls := findClass_of_methodNamed Bd.named
  have X0 : Stand p l e ({ frames := 0, cells := 0, slots := 0, locals := 0 } : Room) s m #[(.int b)] below meth c s₁ [] 0 0 := Stand.of_body Bd
  have e0 : s₁.heap = h0 := by rw [← hh, Bd.state]; rfl
  have N0 := Fr.nil n0
  obtain ⟨S_TRUE, S_FALSE, S_UNKNOWN⟩ := SS
  show Go p.tables e below (Fin s below (PQ (.ref (own_of w_TRUE w_FALSE b)) h0 n0) ({ frames := 0, cells := 0, slots := 0, locals := 0 } : Room).cells ({ frames := 0, cells := 0, slots := 0, locals := 0 } : Room).slots) (s₁.setTop (entryFrame m #[(.int b)] 1))
  refine own_go (fun t k => castTop (ef_rm_of m b) k) ?_
  show Go p.tables e below _ (s₁.setTop (mkF m 0 #[.val (.int b)] []))
  refine own_go (fun t k => XS.iloadN X0.here hx rfl (hb hby d1_0) rfl k) ?_
  show Go p.tables e below _ (s₁.setTop (mkF m 1 #[.val (.int b)] [(.int b)]))
  by_cases hc1 : b = 0
  · refine own_go (fun t k => XS.ifYes X0.here hx rfl (pc0 := 1) (pc' := 10) rfl (hb hby d1_1) rfl (XT.i0_eq_t hc1) (by decide) (by decide) k) ?_
    show Go p.tables e below _ (s₁.setTop (mkF m 10 #[.val (.int b)] []))
    obtain ⟨T2, X2, e2, st2⟩ := getS2 X0 hx hZ hown (host := "") (Or.inl (hw _ (List.mem_of_getElem? (i := 12) rfl))) Via.refl e0 S_FALSE (g := (mkF m 10 #[.val (.int b)] [])) rfl (hb hby d1_10)
    refine own_go (fun t k => st2 t k) ?_
    show Go p.tables e below _ (T2.setTop (mkF m 13 #[.val (.int b)] [(.ref w_FALSE)]))
    exact own_ret X2 hx hlk Bd.returns rfl (Or.inr (Or.inr (Or.inr (Or.inr ⟨rfl, rfl, rfl⟩)))) (hb hby d1_13) ⟨by first | (simp [own_of, hc1]; done) | rw [own_of, if_pos hc1], N0, e2⟩ (by decide) (by decide)
  · refine own_go (fun t k => XS.ifNo X0.here hx rfl (hb hby d1_1) rfl (XT.i0_eq_f hc1) k) ?_
    show Go p.tables e below _ (s₁.setTop (mkF m 4 #[.val (.int b)] []))
    obtain ⟨T3, X3, e3, st3⟩ := getS2 X0 hx hZ hown (host := "") (Or.inl (hw _ (List.mem_of_getElem? (i := 5) rfl))) Via.refl e0 S_TRUE (g := (mkF m 4 #[.val (.int b)] [])) rfl (hb hby d1_4)
    refine own_go (fun t k => st3 t k) ?_
    show Go p.tables e below _ (T3.setTop (mkF m 7 #[.val (.int b)] [(.ref w_TRUE)]))
    refine own_go (fun t k => XS.goto X3.here hx rfl (pc0 := 7) (pc' := 13) rfl (hb hby d1_7) (by decide) (by decide) k) ?_
    show Go p.tables e below _ (T3.setTop (mkF m 13 #[.val (.int b)] [(.ref w_TRUE)]))
    exact own_ret X3 hx hlk Bd.returns rfl (Or.inr (Or.inr (Or.inr (Or.inr ⟨rfl, rfl, rfl⟩)))) (hb hby d1_13) ⟨by first | (simp [own_of, hc1]; done) | rw [own_of, if_neg hc1], N0, e3⟩ (by decide) (by decide)
theorem d2_0 : decode prog_94_method_4_code 0 = .ok (.aload_n 0, 1) := by decide +kernel
theorem d2_1 : decode prog_94_method_4_code 1 = .ok (.getstatic 3, 3) := by decide +kernel
theorem d2_4 : decode prog_94_method_4_code 4 = .ok (.if_acmp .ne 10, 3) := by decide +kernel
theorem d2_7 : decode prog_94_method_4_code 7 = .ok (.getstatic 7, 3) := by decide +kernel
theorem d2_10 : decode prog_94_method_4_code 10 = .ok (.astore_n 1, 1) := by decide +kernel
theorem d2_11 : decode prog_94_method_4_code 11 = .ok (.goto 21, 3) := by decide +kernel
theorem d2_14 : decode prog_94_method_4_code 14 = .ok (.aload_n 0, 1) := by decide +kernel
theorem d2_15 : decode prog_94_method_4_code 15 = .ok (.getstatic 7, 3) := by decide +kernel
theorem d2_18 : decode prog_94_method_4_code 18 = .ok (.if_acmp .ne 10, 3) := by decide +kernel
theorem d2_21 : decode prog_94_method_4_code 21 = .ok (.getstatic 3, 3) := by decide +kernel
theorem d2_24 : decode prog_94_method_4_code 24 = .ok (.astore_n 1, 1) := by decide +kernel
theorem d2_25 : decode prog_94_method_4_code 25 = .ok (.goto 7, 3) := by decide +kernel
theorem d2_28 : decode prog_94_method_4_code 28 = .ok (.getstatic 10, 3) := by decide +kernel
theorem d2_31 : decode prog_94_method_4_code 31 = .ok (.astore_n 1, 1) := by decide +kernel
theorem d2_32 : decode prog_94_method_4_code 32 = .ok (.aload_n 1, 1) := by decide +kernel
theorem d2_33 : decode prog_94_method_4_code 33 = .ok (.areturn, 1) := by decide +kernel
theorem ef_rm_not (m : MethodId) (x0 : Addr) : entryFrame m #[(.ref x0)] 2 = mkF m 0 #[.val (.ref x0), .unset] [] := by first | (simp [entryFrame, mkF, argsToLocals, Value.category]; done) | rfl
set_option maxRecDepth 65536 in
set_option maxHeartbeats 40000000 in
theorem rm_not (l : Launch) (Z : State) (a0 : Array Value) (hw : ∀ d ∈ tables_1, d.before a0 Z = true) (ws : List Jvm.Cond) (a : Addr) (w_TRUE w_FALSE w_UNKNOWN : Addr) (h0 : Heap) (n0 : Nat) (SS : own_S Z h0 w_TRUE w_FALSE w_UNKNOWN) :
    MetFree l (⟨"com/example/deft_refine/deftrefine/prover/sequent/Evaluation$Value", "not", "()Lcom/example/deft_refine/deftrefine/prover/sequent/Evaluation$Value;"⟩ : MethodName) (head1 (Jvm.Cond.code (⟨"com/example/deft_refine/deftrefine/prover/sequent/Evaluation$Value", "not", "()Lcom/example/deft_refine/deftrefine/prover/sequent/Evaluation$Value;"⟩ : MethodName) prog_94_method_4_code 2 (some (.object "com/example/deft_refine/deftrefine/prover/sequent/Evaluation$Value")) :: ws) ({ frames := 0, cells := 0, slots := 0, locals := 0 } : Room)) (fun aa U => aa = #[(.ref a)] ∧ Z.Warmed39 U.vm ∧ U.heap = h0) (fun _ _ _ _ _ => True) (fun _ U o U' => ∃ v L, o = .returned v ∧ PQ (.ref (own_not w_TRUE w_FALSE w_UNKNOWN a)) h0 n0 v U'.heap L ∧ FrameEnd U o U' L ({ frames := 0, cells := 0, slots := 0, locals := 0 } : Room).cells ({ frames := 0, cells := 0, slots := 0, locals := 0 } : Room).slots) := by
  refine MetFree.of_bodySF (plainFor_of_name pn_0) hisR ?_
  intro p e s m args below meth c s₁ Bd hml0 hP hK
  obtain ⟨rfl, hZ, hh⟩ := hP
  have hx := Bd.exec
  have hby := Bd.bytes
  have hlk := Bd.notSynchronized
  have hml : c.maxLocals = 2 := hml0
  have hown : s.vm.findClass "com/example/deft_refine/deftrefine/prover/sequent/Evaluation$Value" = some m.cls := findClass_of_methodNamed Bd.named
  have X0 : Stand p l e ({ frames := 0, cells := 0, slots := 0, locals := 0 } : Room) s m #[(.ref a)] below meth c s₁ [] 0 0 := Stand.of_body Bd
  have e0 : s₁.heap = h0 := by rw [← hh, Bd.state]; rfl
  have N0 := Fr.nil n0
  obtain ⟨S_TRUE, S_FALSE, S_UNKNOWN⟩ := SS
  show Go p.tables e below (Fin s below (PQ (.ref (own_not w_TRUE w_FALSE w_UNKNOWN a)) h0 n0) ({ frames := 0, cells := 0, slots := 0, locals := 0 } : Room).cells ({ frames := 0, cells := 0, slots := 0, locals := 0 } : Room).slots) (s₁.setTop (entryFrame m #[(.ref a)] 2))
  refine own_go (fun t k => castTop (ef_rm_not m a) k) ?_
  show Go p.tables e below _ (s₁.setTop (mkF m 0 #[.val (.ref a), .unset] []))
  refine own_go (fun t k => XS.aloadN X0.here hx rfl (hb hby d2_0) rfl rfl k) ?_
  show Go p.tables e below _ (s₁.setTop (mkF m 1 #[.val (.ref a), .unset] [(.ref a)]))
  obtain ⟨T1, X1, e1, st1⟩ := getS2 X0 hx hZ hown (host := "") (Or.inl (hw _ (List.mem_of_getElem? (i := 5) rfl))) Via.refl e0 S_TRUE (g := (mkF m 1 #[.val (.ref a), .unset] [(.ref a)])) rfl (hb hby d2_1)
  refine own_go (fun t k => st1 t k) ?_
  show Go p.tables e below _ (T1.setTop (mkF m 4 #[.val (.ref a), .unset] [(.ref w_TRUE), (.ref a)]))
  by_cases hc2 : a = w_TRUE
  · refine own_go (fun t k => XT.acmpNo X1.here hx rfl (hb hby d2_4) rfl rfl rfl (XT.aa_ne_f (congrArg Value.ref hc2)) k) ?_
    show Go p.tables e below _ (T1.setTop (mkF m 7 #[.val (.ref a), .unset] []))
    obtain ⟨T3, X3, e3, st3⟩ := getS2 X1 hx hZ hown (host := "") (Or.inl (hw _ (List.mem_of_getElem? (i := 12) rfl))) Via.refl e1 S_FALSE (g := (mkF m 7 #[.val (.ref a), .unset] [])) rfl (hb hby d2_7)
    refine own_go (fun t k => st3 t k) ?_
    show Go p.tables e below _ (T3.setTop (mkF m 10 #[.val (.ref a), .unset] [(.ref w_FALSE)]))
    refine own_go (fun t k => XS.astoreN X3.here hx rfl (hb hby d2_10) rfl rfl (l' := #[.val (.ref a), .val (.ref w_FALSE)]) rfl k) ?_
    show Go p.tables e below _ (T3.setTop (mkF m 11 #[.val (.ref a), .val (.ref w_FALSE)] []))
    refine own_go (fun t k => XS.goto X3.here hx rfl (pc0 := 11) (pc' := 32) rfl (hb hby d2_11) (by decide) (by decide) k) ?_
    show Go p.tables e below _ (T3.setTop (mkF m 32 #[.val (.ref a), .val (.ref w_FALSE)] []))
    refine own_go (fun t k => XS.aloadN X3.here hx rfl (hb hby d2_32) rfl rfl k) ?_
    show Go p.tables e below _ (T3.setTop (mkF m 33 #[.val (.ref a), .val (.ref w_FALSE)] [(.ref w_FALSE)]))
    exact own_ret X3 hx hlk Bd.returns rfl (Or.inr (Or.inr (Or.inr (Or.inr ⟨rfl, rfl, rfl⟩)))) (hb hby d2_33) ⟨by first | (simp [own_not, hc2]; done) | rw [own_not, if_pos hc2], N0, e3⟩ (by decide) (by decide)
  · refine own_go (fun t k => XT.acmpYes X1.here hx rfl (pc0 := 4) (pc' := 14) rfl (hb hby d2_4) rfl rfl rfl (XT.aa_ne_t (fun q => hc2 (Value.ref.inj q))) (by decide) (by decide) k) ?_
    show Go p.tables e below _ (T1.setTop (mkF m 14 #[.val (.ref a), .unset] []))
    refine own_go (fun t k => XS.aloadN X1.here hx rfl (hb hby d2_14) rfl rfl k) ?_
    show Go p.tables e below _ (T1.setTop (mkF m 15 #[.val (.ref a), .unset] [(.ref a)]))
    obtain ⟨T4, X4, e4, st4⟩ := getS2 X1 hx hZ hown (host := "") (Or.inl (hw _ (List.mem_of_getElem? (i := 12) rfl))) Via.refl e1 S_FALSE (g := (mkF m 15 #[.val (.ref a), .unset] [(.ref a)])) rfl (hb hby d2_15)
    refine own_go (fun t k => st4 t k) ?_
    show Go p.tables e below _ (T4.setTop (mkF m 18 #[.val (.ref a), .unset] [(.ref w_FALSE), (.ref a)]))
    by_cases hc5 : a = w_FALSE
    · refine own_go (fun t k => XT.acmpNo X4.here hx rfl (hb hby d2_18) rfl rfl rfl (XT.aa_ne_f (congrArg Value.ref hc5)) k) ?_
      show Go p.tables e below _ (T4.setTop (mkF m 21 #[.val (.ref a), .unset] []))
      obtain ⟨T6, X6, e6, st6⟩ := getS2 X4 hx hZ hown (host := "") (Or.inl (hw _ (List.mem_of_getElem? (i := 5) rfl))) Via.refl e4 S_TRUE (g := (mkF m 21 #[.val (.ref a), .unset] [])) rfl (hb hby d2_21)
      refine own_go (fun t k => st6 t k) ?_
      show Go p.tables e below _ (T6.setTop (mkF m 24 #[.val (.ref a), .unset] [(.ref w_TRUE)]))
      refine own_go (fun t k => XS.astoreN X6.here hx rfl (hb hby d2_24) rfl rfl (l' := #[.val (.ref a), .val (.ref w_TRUE)]) rfl k) ?_
      show Go p.tables e below _ (T6.setTop (mkF m 25 #[.val (.ref a), .val (.ref w_TRUE)] []))
      refine own_go (fun t k => XS.goto X6.here hx rfl (pc0 := 25) (pc' := 32) rfl (hb hby d2_25) (by decide) (by decide) k) ?_
      show Go p.tables e below _ (T6.setTop (mkF m 32 #[.val (.ref a), .val (.ref w_TRUE)] []))
      refine own_go (fun t k => XS.aloadN X6.here hx rfl (hb hby d2_32) rfl rfl k) ?_
      show Go p.tables e below _ (T6.setTop (mkF m 33 #[.val (.ref a), .val (.ref w_TRUE)] [(.ref w_TRUE)]))
      exact own_ret X6 hx hlk Bd.returns rfl (Or.inr (Or.inr (Or.inr (Or.inr ⟨rfl, rfl, rfl⟩)))) (hb hby d2_33) ⟨by first | (simp [own_not, hc2, hc5]; done) | rw [own_not, if_neg hc2, if_pos hc5], N0, e6⟩ (by decide) (by decide)
    · refine own_go (fun t k => XT.acmpYes X4.here hx rfl (pc0 := 18) (pc' := 28) rfl (hb hby d2_18) rfl rfl rfl (XT.aa_ne_t (fun q => hc5 (Value.ref.inj q))) (by decide) (by decide) k) ?_
      show Go p.tables e below _ (T4.setTop (mkF m 28 #[.val (.ref a), .unset] []))
      obtain ⟨T7, X7, e7, st7⟩ := getS2 X4 hx hZ hown (host := "") (Or.inl (hw _ (List.mem_of_getElem? (i := 16) rfl))) Via.refl e4 S_UNKNOWN (g := (mkF m 28 #[.val (.ref a), .unset] [])) rfl (hb hby d2_28)
      refine own_go (fun t k => st7 t k) ?_
      show Go p.tables e below _ (T7.setTop (mkF m 31 #[.val (.ref a), .unset] [(.ref w_UNKNOWN)]))
      refine own_go (fun t k => XS.astoreN X7.here hx rfl (hb hby d2_31) rfl rfl (l' := #[.val (.ref a), .val (.ref w_UNKNOWN)]) rfl k) ?_
      show Go p.tables e below _ (T7.setTop (mkF m 32 #[.val (.ref a), .val (.ref w_UNKNOWN)] []))
      refine own_go (fun t k => XS.aloadN X7.here hx rfl (hb hby d2_32) rfl rfl k) ?_
      show Go p.tables e below _ (T7.setTop (mkF m 33 #[.val (.ref a), .val (.ref w_UNKNOWN)] [(.ref w_UNKNOWN)]))
      exact own_ret X7 hx hlk Bd.returns rfl (Or.inr (Or.inr (Or.inr (Or.inr ⟨rfl, rfl, rfl⟩)))) (hb hby d2_33) ⟨by first | (simp [own_not, hc2, hc5]; done) | rw [own_not, if_neg hc2, if_neg hc5], N0, e7⟩ (by decide) (by decide)
theorem pd_0 : parseMethodDescriptor "(Z)Lcom/example/deft_refine/deftrefine/prover/sequent/Evaluation$Value;" = some ⟨[.boolean], some (.object "com/example/deft_refine/deftrefine/prover/sequent/Evaluation$Value")⟩ := by decide +kernel
theorem pd_1 : parseMethodDescriptor "()Lcom/example/deft_refine/deftrefine/prover/sequent/Evaluation$Value;" = some ⟨[], some (.object "com/example/deft_refine/deftrefine/prover/sequent/Evaluation$Value")⟩ := by decide +kernel
theorem pn_1 : plainName "com/example/deft_refine/deftrefine/prover/sequent/ValueNotPinLaw" = true := by first | (simp [plainName, overriddenIn]; done) | decide +kernel
theorem ef_rm_law_0 (m : MethodId) (x0 : Int32) : entryFrame m #[(.int x0)] maxLocals = mkF m 0 #[.val (.int x0), .unset, .unset, .unset, .unset, .unset] [] := by first | (simp [entryFrame, mkF, argsToLocals, Value.category, maxLocals]; done) | rfl
set_option maxRecDepth 65536 in
set_option maxHeartbeats 40000000 in
theorem rm_law_0 (l : Launch) (Z : State) (a0 : Array Value) (hw : ∀ d ∈ tables_1, d.before a0 Z = true) (ws : List Jvm.Cond) (p1 : Int32) (w_TRUE w_FALSE w_UNKNOWN : Addr) (h0 : Heap) (n0 : Nat) (SS : own_S Z h0 w_TRUE w_FALSE w_UNKNOWN) (EE : own_E Z h0 w_TRUE w_FALSE w_UNKNOWN) (OO : own_O Z h0 w_TRUE w_FALSE w_UNKNOWN) (q1 : (p1 &&& 2147483647) % 3 = 0) :
    MetFree l x (head1 (Jvm.Cond.code x code maxLocals ret :: ws) room_1) (fun aa U => aa = #[(.int p1)] ∧ Z.Warmed39 U.vm ∧ U.heap = h0) (fun _ _ _ _ _ => True) (fun _ U o U' => ∃ v L, o = .returned v ∧ PQ (.int 1) h0 n0 v U'.heap L ∧ FrameEnd U o U' L room_1.cells room_1.slots) := by
  refine MetFree.of_bodySF (plainFor_of_name pn_1) hisR ?_
  intro p e s m args below meth c s₁ Bd hml0 hP hK
  obtain ⟨rfl, hZ, hh⟩ := hP
  have hx := Bd.exec
  have hby := Bd.bytes
  have hlk := Bd.notSynchronized
  have hml : c.maxLocals = 6 := hml0
  have hown : s.vm.findClass "com/example/deft_refine/deftrefine/prover/sequent/ValueNotPinLaw" = some m.cls := findClass_of_methodNamed Bd.named
  have X0 : Stand p l e room_1 s m #[(.int p1)] below meth c s₁ [] 0 0 := Stand.of_body Bd
  have e0 : s₁.heap = h0 := by rw [← hh, Bd.state]; rfl
  have N0 := Fr.nil n0
  have SS' := SS
  obtain ⟨S_TRUE, S_FALSE, S_UNKNOWN⟩ := SS'
  obtain ⟨E_TRUE, E_FALSE, E_UNKNOWN⟩ := EE
  obtain ⟨F_FALSE_ordinal, F_TRUE_ordinal, F_UNKNOWN_ordinal⟩ := OO
  have nFT : w_FALSE ≠ w_TRUE := (own_ne F_FALSE_ordinal F_TRUE_ordinal (by decide))
  have nUT : w_UNKNOWN ≠ w_TRUE := (own_ne F_UNKNOWN_ordinal F_TRUE_ordinal (by decide))
  have nUF : w_UNKNOWN ≠ w_FALSE := (own_ne F_UNKNOWN_ordinal F_FALSE_ordinal (by decide))
  show Go p.tables e below (Fin s below (PQ (.int 1) h0 n0) room_1.cells room_1.slots) (s₁.setTop (entryFrame m #[(.int p1)] maxLocals))
  refine own_go (fun t k => castTop (ef_rm_law_0 m p1) k) ?_
  show Go p.tables e below _ (s₁.setTop (mkF m 0 #[.val (.int p1), .unset, .unset, .unset, .unset, .unset] []))
  refine own_go (fun t k => XS.iloadN X0.here hx rfl (hb hby at_0) rfl k) ?_
  show Go p.tables e below _ (s₁.setTop (mkF m 1 #[.val (.int p1), .unset, .unset, .unset, .unset, .unset] [(.int p1)]))
  refine own_go (fun t k => Jvm.Stand.ldcI X0 hx hown (mvT hZ (hw _ (List.mem_of_getElem? (i := 0) rfl))) rfl (hb hby at_1) k) ?_
  show Go p.tables e below _ (s₁.setTop (mkF m 3 #[.val (.int p1), .unset, .unset, .unset, .unset, .unset] [(.int (2147483647 : Int32)), (.int p1)]))
  refine own_go (fun t k => XS.iand X0.here hx rfl (hb hby at_3) rfl k) ?_
  show Go p.tables e below _ (s₁.setTop (mkF m 4 #[.val (.int p1), .unset, .unset, .unset, .unset, .unset] [(.int (p1 &&& (2147483647 : Int32)))]))
  refine own_go (fun t k => XS.iconst X0.here hx rfl (hb hby at_4) k) ?_
  show Go p.tables e below _ (s₁.setTop (mkF m 5 #[.val (.int p1), .unset, .unset, .unset, .unset, .unset] [(.int (3 : Int32)), (.int (p1 &&& (2147483647 : Int32)))]))
  refine own_go (fun t k => iremM (g := (mkF m 5 #[.val (.int p1), .unset, .unset, .unset, .unset, .unset] [(.int (3 : Int32)), (.int (p1 &&& (2147483647 : Int32)))])) X0 hx rfl (hb hby at_5) rfl (by decide) k) ?_
  show Go p.tables e below _ (s₁.setTop (mkF m 6 #[.val (.int p1), .unset, .unset, .unset, .unset, .unset] [(.int ((p1 &&& (2147483647 : Int32)) % (3 : Int32)))]))
  rw [q1]
  show Go p.tables e below _ (s₁.setTop (mkF m 6 #[.val (.int p1), .unset, .unset, .unset, .unset, .unset] [(.int (0 : Int32))]))
  refine own_go (fun t k => XS.istoreN X0.here hx rfl (hb hby at_6) rfl (l' := #[.val (.int p1), .val (.int (0 : Int32)), .unset, .unset, .unset, .unset]) rfl k) ?_
  show Go p.tables e below _ (s₁.setTop (mkF m 7 #[.val (.int p1), .val (.int (0 : Int32)), .unset, .unset, .unset, .unset] []))
  refine own_go (fun t k => XS.iloadN X0.here hx rfl (hb hby at_7) rfl k) ?_
  show Go p.tables e below _ (s₁.setTop (mkF m 8 #[.val (.int p1), .val (.int (0 : Int32)), .unset, .unset, .unset, .unset] [(.int (0 : Int32))]))
  refine own_go (fun t k => XS.ifNo X0.here hx rfl (hb hby at_8) rfl (XT.i0_ne_f (by decide)) k) ?_
  show Go p.tables e below _ (s₁.setTop (mkF m 11 #[.val (.int p1), .val (.int (0 : Int32)), .unset, .unset, .unset, .unset] []))
  refine own_go (fun t k => XS.iconst X0.here hx rfl (hb hby at_11) k) ?_
  show Go p.tables e below _ (s₁.setTop (mkF m 12 #[.val (.int p1), .val (.int (0 : Int32)), .unset, .unset, .unset, .unset] [(.int (1 : Int32))]))
  refine own_go (fun t k => XS.goto X0.here hx rfl (pc0 := 12) (pc' := 16) rfl (hb hby at_12) (by decide) (by decide) k) ?_
  show Go p.tables e below _ (s₁.setTop (mkF m 16 #[.val (.int p1), .val (.int (0 : Int32)), .unset, .unset, .unset, .unset] [(.int (1 : Int32))]))
  refine own_go (fun t k => XS.istoreN X0.here hx rfl (hb hby at_16) rfl (l' := #[.val (.int p1), .val (.int (0 : Int32)), .val (.int (1 : Int32)), .unset, .unset, .unset]) rfl k) ?_
  show Go p.tables e below _ (s₁.setTop (mkF m 17 #[.val (.int p1), .val (.int (0 : Int32)), .val (.int (1 : Int32)), .unset, .unset, .unset] []))
  refine own_go (fun t k => XS.iloadN X0.here hx rfl (hb hby at_17) rfl k) ?_
  show Go p.tables e below _ (s₁.setTop (mkF m 18 #[.val (.int p1), .val (.int (0 : Int32)), .val (.int (1 : Int32)), .unset, .unset, .unset] [(.int (0 : Int32))]))
  refine own_go (fun t k => XS.iconst X0.here hx rfl (hb hby at_18) k) ?_
  show Go p.tables e below _ (s₁.setTop (mkF m 19 #[.val (.int p1), .val (.int (0 : Int32)), .val (.int (1 : Int32)), .unset, .unset, .unset] [(.int (2 : Int32)), (.int (0 : Int32))]))
  refine own_go (fun t k => XS.icmpYes X0.here hx rfl (pc0 := 19) (pc' := 28) rfl (hb hby at_19) rfl (XT.ii_ne_t (by decide)) (by decide) (by decide) k) ?_
  show Go p.tables e below _ (s₁.setTop (mkF m 28 #[.val (.int p1), .val (.int (0 : Int32)), .val (.int (1 : Int32)), .unset, .unset, .unset] []))
  refine own_go (fun t k => XS.iloadN X0.here hx rfl (hb hby at_28) rfl k) ?_
  show Go p.tables e below _ (s₁.setTop (mkF m 29 #[.val (.int p1), .val (.int (0 : Int32)), .val (.int (1 : Int32)), .unset, .unset, .unset] [(.int (1 : Int32))]))
  obtain ⟨v1, _, ⟨T1, L1, k1, n1⟩, -, X1, ⟨Lc1, hQ1, l1, y1, z1⟩, st1⟩ := Jvm.LawKit.callS X0 hx (y := (⟨"com/example/deft_refine/deftrefine/prover/sequent/Evaluation$Value", "of", "(Z)Lcom/example/deft_refine/deftrefine/prover/sequent/Evaluation$Value;"⟩ : MethodName)) hown (mvT hZ (hw _ (List.mem_of_getElem? (i := 1) rfl))) (mvT hZ (hw _ (List.mem_of_getElem? (i := 2) rfl))) (mvT hZ (hw _ (List.mem_of_getElem? (i := 3) rfl))) (mvT hZ (hw _ (List.mem_of_getElem? (i := 4) rfl))) (by decide) (backOf (W := 0) (rm_of l Z a0 hw [] (1 : Int32) w_TRUE w_FALSE w_UNKNOWN h0 n0 SS) hZ (hw _ (List.mem_of_getElem? (i := 4) rfl)) (hw _ (List.mem_of_getElem? (i := 3) rfl)) (by decide) (by decide)) (g := (mkF m 29 #[.val (.int p1), .val (.int (0 : Int32)), .val (.int (1 : Int32)), .unset, .unset, .unset] [(.int (1 : Int32))])) rfl (by rw [hml]; rfl) (argsL := [(.int (1 : Int32))]) (rest := []) (lenOf pd_0 rfl) rfl (by show 2 * 0 + _ ≤ _; exact Nat.le_of_eq rfl) (hb hby at_29) (fun _ _ => ⟨rfl, e0, (by decide : 0 + 0 ≤ _), (by decide : 0 + 0 ≤ _)⟩)
  dsimp only [Pt.U, Pt.locs, Pt.cells, Pt.slots] at X1 l1 y1 z1 st1 hQ1
  subst l1 y1 z1
  obtain ⟨hv1, N1q, e1⟩ := hQ1
  rw [show ((.ref (own_of w_TRUE w_FALSE (1 : Int32))) : Value) = (.ref w_TRUE) from by simp [own_of]] at hv1
  subst hv1
  have N1 := Fr.app N0 N1q
  refine own_go (fun t k => st1 t k) ?_
  show Go p.tables e below _ (T1.setTop (mkF m 32 #[.val (.int p1), .val (.int (0 : Int32)), .val (.int (1 : Int32)), .unset, .unset, .unset] [(.ref w_TRUE)]))
  refine own_go (fun t k => XS.astoreN X1.here hx rfl (hb hby at_32) rfl rfl (l' := #[.val (.int p1), .val (.int (0 : Int32)), .val (.int (1 : Int32)), .val (.ref w_TRUE), .unset, .unset]) rfl k) ?_
  show Go p.tables e below _ (T1.setTop (mkF m 33 #[.val (.int p1), .val (.int (0 : Int32)), .val (.int (1 : Int32)), .val (.ref w_TRUE), .unset, .unset] []))
  refine own_go (fun t k => XS.aloadN X1.here hx rfl (hb hby at_33) rfl rfl k) ?_
  show Go p.tables e below _ (T1.setTop (mkF m 34 #[.val (.int p1), .val (.int (0 : Int32)), .val (.int (1 : Int32)), .val (.ref w_TRUE), .unset, .unset] [(.ref w_TRUE)]))
  obtain ⟨cq2, kq2, q2a, q2b, q2c⟩ := isOf hZ e1 E_TRUE
  obtain ⟨v2, _, ⟨T2, L2, k2, n2⟩, -, X2, ⟨Lc2, hQ2, l2, y2, z2⟩, st2⟩ := X1.virtualBack hx (y := (⟨"com/example/deft_refine/deftrefine/prover/sequent/Evaluation$Value", "not", "()Lcom/example/deft_refine/deftrefine/prover/sequent/Evaluation$Value;"⟩ : MethodName)) (z := (⟨"com/example/deft_refine/deftrefine/prover/sequent/Evaluation$Value", "not", "()Lcom/example/deft_refine/deftrefine/prover/sequent/Evaluation$Value;"⟩ : MethodName)) hown (mvT hZ (hw _ (List.mem_of_getElem? (i := 7) rfl))) (mvT hZ (hw _ (List.mem_of_getElem? (i := 8) rfl))) (notFace_of_selects (args := #[]) (mvT hZ (hw _ (List.mem_of_getElem? (i := 10) rfl)))) (mvT hZ (hw _ (List.mem_of_getElem? (i := 10) rfl))) (mvT hZ (hw _ (List.mem_of_getElem? (i := 9) rfl))) (by decide) (backOf (W := 0) (rm_not l Z a0 hw [] w_TRUE w_TRUE w_FALSE w_UNKNOWN h0 n0 SS) hZ (hw _ (List.mem_of_getElem? (i := 11) rfl)) (hw _ (List.mem_of_getElem? (i := 3) rfl)) (by decide) (by decide)) q2a q2c (g := (mkF m 34 #[.val (.int p1), .val (.int (0 : Int32)), .val (.int (1 : Int32)), .val (.ref w_TRUE), .unset, .unset] [(.ref w_TRUE)])) rfl (by rw [hml]; rfl) (Steps.refl _) (argsL := []) (rest := []) (lenOf pd_1 rfl) rfl (by show 2 * 0 + _ ≤ _; exact Nat.le_of_eq rfl) (hb hby at_34) (fun _ _ => ⟨rfl, e1, (by decide : 0 + 0 ≤ _), (by decide : 0 + 0 ≤ _)⟩)
  dsimp only [Pt.U, Pt.locs, Pt.cells, Pt.slots] at X2 l2 y2 z2 st2 hQ2
  subst l2 y2 z2
  obtain ⟨hv2, N2q, e2⟩ := hQ2
  rw [show ((.ref (own_not w_TRUE w_FALSE w_UNKNOWN w_TRUE)) : Value) = (.ref w_FALSE) from by simp [own_not, nFT, nUT, nUF]] at hv2
  subst hv2
  have N2 := Fr.app N1 N2q
  refine own_go (fun t k => st2.trans k) ?_
  show Go p.tables e below _ (T2.setTop (mkF m 37 #[.val (.int p1), .val (.int (0 : Int32)), .val (.int (1 : Int32)), .val (.ref w_TRUE), .unset, .unset] [(.ref w_FALSE)]))
  refine own_go (fun t k => XS.astore X2.here hx rfl (hb hby at_37) rfl rfl (l' := #[.val (.int p1), .val (.int (0 : Int32)), .val (.int (1 : Int32)), .val (.ref w_TRUE), .val (.ref w_FALSE), .unset]) rfl k) ?_
  show Go p.tables e below _ (T2.setTop (mkF m 39 #[.val (.int p1), .val (.int (0 : Int32)), .val (.int (1 : Int32)), .val (.ref w_TRUE), .val (.ref w_FALSE), .unset] []))
  refine own_go (fun t k => XS.iloadN X2.here hx rfl (hb hby at_39) rfl k) ?_
  show Go p.tables e below _ (T2.setTop (mkF m 40 #[.val (.int p1), .val (.int (0 : Int32)), .val (.int (1 : Int32)), .val (.ref w_TRUE), .val (.ref w_FALSE), .unset] [(.int (0 : Int32))]))
  refine own_go (fun t k => XS.iconst X2.here hx rfl (hb hby at_40) k) ?_
  show Go p.tables e below _ (T2.setTop (mkF m 41 #[.val (.int p1), .val (.int (0 : Int32)), .val (.int (1 : Int32)), .val (.ref w_TRUE), .val (.ref w_FALSE), .unset] [(.int (2 : Int32)), (.int (0 : Int32))]))
  refine own_go (fun t k => XS.icmpYes X2.here hx rfl (pc0 := 41) (pc' := 50) rfl (hb hby at_41) rfl (XT.ii_ne_t (by decide)) (by decide) (by decide) k) ?_
  show Go p.tables e below _ (T2.setTop (mkF m 50 #[.val (.int p1), .val (.int (0 : Int32)), .val (.int (1 : Int32)), .val (.ref w_TRUE), .val (.ref w_FALSE), .unset] []))
  refine own_go (fun t k => XS.iloadN X2.here hx rfl (hb hby at_50) rfl k) ?_
  show Go p.tables e below _ (T2.setTop (mkF m 51 #[.val (.int p1), .val (.int (0 : Int32)), .val (.int (1 : Int32)), .val (.ref w_TRUE), .val (.ref w_FALSE), .unset] [(.int (1 : Int32))]))
  refine own_go (fun t k => XS.ifYes X2.here hx rfl (pc0 := 51) (pc' := 58) rfl (hb hby at_51) rfl (XT.i0_ne_t (by decide)) (by decide) (by decide) k) ?_
  show Go p.tables e below _ (T2.setTop (mkF m 58 #[.val (.int p1), .val (.int (0 : Int32)), .val (.int (1 : Int32)), .val (.ref w_TRUE), .val (.ref w_FALSE), .unset] []))
  refine own_go (fun t k => XS.iconst X2.here hx rfl (hb hby at_58) k) ?_
  show Go p.tables e below _ (T2.setTop (mkF m 59 #[.val (.int p1), .val (.int (0 : Int32)), .val (.int (1 : Int32)), .val (.ref w_TRUE), .val (.ref w_FALSE), .unset] [(.int (0 : Int32))]))
  obtain ⟨v3, _, ⟨T3, L3, k3, n3⟩, -, X3, ⟨Lc3, hQ3, l3, y3, z3⟩, st3⟩ := Jvm.LawKit.callS X2 hx (y := (⟨"com/example/deft_refine/deftrefine/prover/sequent/Evaluation$Value", "of", "(Z)Lcom/example/deft_refine/deftrefine/prover/sequent/Evaluation$Value;"⟩ : MethodName)) hown (mvT hZ (hw _ (List.mem_of_getElem? (i := 1) rfl))) (mvT hZ (hw _ (List.mem_of_getElem? (i := 2) rfl))) (mvT hZ (hw _ (List.mem_of_getElem? (i := 3) rfl))) (mvT hZ (hw _ (List.mem_of_getElem? (i := 4) rfl))) (by decide) (backOf (W := 0) (rm_of l Z a0 hw [] (0 : Int32) w_TRUE w_FALSE w_UNKNOWN h0 n0 SS) hZ (hw _ (List.mem_of_getElem? (i := 4) rfl)) (hw _ (List.mem_of_getElem? (i := 3) rfl)) (by decide) (by decide)) (g := (mkF m 59 #[.val (.int p1), .val (.int (0 : Int32)), .val (.int (1 : Int32)), .val (.ref w_TRUE), .val (.ref w_FALSE), .unset] [(.int (0 : Int32))])) rfl (by rw [hml]; rfl) (argsL := [(.int (0 : Int32))]) (rest := []) (lenOf pd_0 rfl) rfl (by show 2 * 0 + _ ≤ _; exact Nat.le_of_eq rfl) (hb hby at_59) (fun _ _ => ⟨rfl, e2, (by decide : 0 + 0 ≤ _), (by decide : 0 + 0 ≤ _)⟩)
  dsimp only [Pt.U, Pt.locs, Pt.cells, Pt.slots] at X3 l3 y3 z3 st3 hQ3
  subst l3 y3 z3
  obtain ⟨hv3, N3q, e3⟩ := hQ3
  rw [show ((.ref (own_of w_TRUE w_FALSE (0 : Int32))) : Value) = (.ref w_FALSE) from by simp [own_of]] at hv3
  subst hv3
  have N3 := Fr.app N2 N3q
  refine own_go (fun t k => st3 t k) ?_
  show Go p.tables e below _ (T3.setTop (mkF m 62 #[.val (.int p1), .val (.int (0 : Int32)), .val (.int (1 : Int32)), .val (.ref w_TRUE), .val (.ref w_FALSE), .unset] [(.ref w_FALSE)]))
  refine own_go (fun t k => XS.astore X3.here hx rfl (hb hby at_62) rfl rfl (l' := #[.val (.int p1), .val (.int (0 : Int32)), .val (.int (1 : Int32)), .val (.ref w_TRUE), .val (.ref w_FALSE), .val (.ref w_FALSE)]) rfl k) ?_
  show Go p.tables e below _ (T3.setTop (mkF m 64 #[.val (.int p1), .val (.int (0 : Int32)), .val (.int (1 : Int32)), .val (.ref w_TRUE), .val (.ref w_FALSE), .val (.ref w_FALSE)] []))
  refine own_go (fun t k => XS.aload X3.here hx rfl (hb hby at_64) rfl rfl k) ?_
  show Go p.tables e below _ (T3.setTop (mkF m 66 #[.val (.int p1), .val (.int (0 : Int32)), .val (.int (1 : Int32)), .val (.ref w_TRUE), .val (.ref w_FALSE), .val (.ref w_FALSE)] [(.ref w_FALSE)]))
  refine own_go (fun t k => XS.aload X3.here hx rfl (hb hby at_66) rfl rfl k) ?_
  show Go p.tables e below _ (T3.setTop (mkF m 68 #[.val (.int p1), .val (.int (0 : Int32)), .val (.int (1 : Int32)), .val (.ref w_TRUE), .val (.ref w_FALSE), .val (.ref w_FALSE)] [(.ref w_FALSE), (.ref w_FALSE)]))
  refine own_go (fun t k => XT.acmpYes X3.here hx rfl (pc0 := 68) (pc' := 73) rfl (hb hby at_68) rfl rfl rfl (XT.aa_eq_t (congrArg Value.ref rfl)) (by decide) (by decide) k) ?_
  show Go p.tables e below _ (T3.setTop (mkF m 73 #[.val (.int p1), .val (.int (0 : Int32)), .val (.int (1 : Int32)), .val (.ref w_TRUE), .val (.ref w_FALSE), .val (.ref w_FALSE)] []))
  refine own_go (fun t k => XS.aload X3.here hx rfl (hb hby at_73) rfl rfl k) ?_
  show Go p.tables e below _ (T3.setTop (mkF m 75 #[.val (.int p1), .val (.int (0 : Int32)), .val (.int (1 : Int32)), .val (.ref w_TRUE), .val (.ref w_FALSE), .val (.ref w_FALSE)] [(.ref w_FALSE)]))
  obtain ⟨cq4, kq4, q4a, q4b, q4c⟩ := isOf hZ e3 E_FALSE
  obtain ⟨v4, _, ⟨T4, L4, k4, n4⟩, -, X4, ⟨Lc4, hQ4, l4, y4, z4⟩, st4⟩ := X3.virtualBack hx (y := (⟨"com/example/deft_refine/deftrefine/prover/sequent/Evaluation$Value", "not", "()Lcom/example/deft_refine/deftrefine/prover/sequent/Evaluation$Value;"⟩ : MethodName)) (z := (⟨"com/example/deft_refine/deftrefine/prover/sequent/Evaluation$Value", "not", "()Lcom/example/deft_refine/deftrefine/prover/sequent/Evaluation$Value;"⟩ : MethodName)) hown (mvT hZ (hw _ (List.mem_of_getElem? (i := 7) rfl))) (mvT hZ (hw _ (List.mem_of_getElem? (i := 8) rfl))) (notFace_of_selects (args := #[]) (mvT hZ (hw _ (List.mem_of_getElem? (i := 10) rfl)))) (mvT hZ (hw _ (List.mem_of_getElem? (i := 10) rfl))) (mvT hZ (hw _ (List.mem_of_getElem? (i := 9) rfl))) (by decide) (backOf (W := 0) (rm_not l Z a0 hw [] w_FALSE w_TRUE w_FALSE w_UNKNOWN h0 n0 SS) hZ (hw _ (List.mem_of_getElem? (i := 11) rfl)) (hw _ (List.mem_of_getElem? (i := 3) rfl)) (by decide) (by decide)) q4a q4c (g := (mkF m 75 #[.val (.int p1), .val (.int (0 : Int32)), .val (.int (1 : Int32)), .val (.ref w_TRUE), .val (.ref w_FALSE), .val (.ref w_FALSE)] [(.ref w_FALSE)])) rfl (by rw [hml]; rfl) (Steps.refl _) (argsL := []) (rest := []) (lenOf pd_1 rfl) rfl (by show 2 * 0 + _ ≤ _; exact Nat.le_of_eq rfl) (hb hby at_75) (fun _ _ => ⟨rfl, e3, (by decide : 0 + 0 ≤ _), (by decide : 0 + 0 ≤ _)⟩)
  dsimp only [Pt.U, Pt.locs, Pt.cells, Pt.slots] at X4 l4 y4 z4 st4 hQ4
  subst l4 y4 z4
  obtain ⟨hv4, N4q, e4⟩ := hQ4
  rw [show ((.ref (own_not w_TRUE w_FALSE w_UNKNOWN w_FALSE)) : Value) = (.ref w_TRUE) from by simp [own_not, nFT, nUT, nUF]] at hv4
  subst hv4
  have N4 := Fr.app N3 N4q
  refine own_go (fun t k => st4.trans k) ?_
  show Go p.tables e below _ (T4.setTop (mkF m 78 #[.val (.int p1), .val (.int (0 : Int32)), .val (.int (1 : Int32)), .val (.ref w_TRUE), .val (.ref w_FALSE), .val (.ref w_FALSE)] [(.ref w_TRUE)]))
  refine own_go (fun t k => XS.aloadN X4.here hx rfl (hb hby at_78) rfl rfl k) ?_
  show Go p.tables e below _ (T4.setTop (mkF m 79 #[.val (.int p1), .val (.int (0 : Int32)), .val (.int (1 : Int32)), .val (.ref w_TRUE), .val (.ref w_FALSE), .val (.ref w_FALSE)] [(.ref w_TRUE), (.ref w_TRUE)]))
  refine own_go (fun t k => XT.acmpNo X4.here hx rfl (hb hby at_79) rfl rfl rfl (XT.aa_ne_f (congrArg Value.ref rfl)) k) ?_
  show Go p.tables e below _ (T4.setTop (mkF m 82 #[.val (.int p1), .val (.int (0 : Int32)), .val (.int (1 : Int32)), .val (.ref w_TRUE), .val (.ref w_FALSE), .val (.ref w_FALSE)] []))
  refine own_go (fun t k => XS.iconst X4.here hx rfl (hb hby at_82) k) ?_
  show Go p.tables e below _ (T4.setTop (mkF m 83 #[.val (.int p1), .val (.int (0 : Int32)), .val (.int (1 : Int32)), .val (.ref w_TRUE), .val (.ref w_FALSE), .val (.ref w_FALSE)] [(.int (1 : Int32))]))
  refine own_go (fun t k => XS.goto X4.here hx rfl (pc0 := 83) (pc' := 87) rfl (hb hby at_83) (by decide) (by decide) k) ?_
  show Go p.tables e below _ (T4.setTop (mkF m 87 #[.val (.int p1), .val (.int (0 : Int32)), .val (.int (1 : Int32)), .val (.ref w_TRUE), .val (.ref w_FALSE), .val (.ref w_FALSE)] [(.int (1 : Int32))]))
  exact own_ret X4 hx hlk Bd.returns rfl (Or.inl ⟨rfl, Or.inr (Or.inl rfl), _, rfl⟩) (hb hby at_87) ⟨rfl, N4, e4⟩ (by decide) (by decide)
theorem ef_rm_law_1 (m : MethodId) (x0 : Int32) : entryFrame m #[(.int x0)] maxLocals = mkF m 0 #[.val (.int x0), .unset, .unset, .unset, .unset, .unset] [] := by first | (simp [entryFrame, mkF, argsToLocals, Value.category, maxLocals]; done) | rfl
set_option maxRecDepth 65536 in
set_option maxHeartbeats 40000000 in
theorem rm_law_1 (l : Launch) (Z : State) (a0 : Array Value) (hw : ∀ d ∈ tables_1, d.before a0 Z = true) (ws : List Jvm.Cond) (p1 : Int32) (w_TRUE w_FALSE w_UNKNOWN : Addr) (h0 : Heap) (n0 : Nat) (SS : own_S Z h0 w_TRUE w_FALSE w_UNKNOWN) (EE : own_E Z h0 w_TRUE w_FALSE w_UNKNOWN) (OO : own_O Z h0 w_TRUE w_FALSE w_UNKNOWN) (q1 : (p1 &&& 2147483647) % 3 = 1) :
    MetFree l x (head1 (Jvm.Cond.code x code maxLocals ret :: ws) room_1) (fun aa U => aa = #[(.int p1)] ∧ Z.Warmed39 U.vm ∧ U.heap = h0) (fun _ _ _ _ _ => True) (fun _ U o U' => ∃ v L, o = .returned v ∧ PQ (.int 1) h0 n0 v U'.heap L ∧ FrameEnd U o U' L room_1.cells room_1.slots) := by
  refine MetFree.of_bodySF (plainFor_of_name pn_1) hisR ?_
  intro p e s m args below meth c s₁ Bd hml0 hP hK
  obtain ⟨rfl, hZ, hh⟩ := hP
  have hx := Bd.exec
  have hby := Bd.bytes
  have hlk := Bd.notSynchronized
  have hml : c.maxLocals = 6 := hml0
  have hown : s.vm.findClass "com/example/deft_refine/deftrefine/prover/sequent/ValueNotPinLaw" = some m.cls := findClass_of_methodNamed Bd.named
  have X0 : Stand p l e room_1 s m #[(.int p1)] below meth c s₁ [] 0 0 := Stand.of_body Bd
  have e0 : s₁.heap = h0 := by rw [← hh, Bd.state]; rfl
  have N0 := Fr.nil n0
  have SS' := SS
  obtain ⟨S_TRUE, S_FALSE, S_UNKNOWN⟩ := SS'
  obtain ⟨E_TRUE, E_FALSE, E_UNKNOWN⟩ := EE
  obtain ⟨F_FALSE_ordinal, F_TRUE_ordinal, F_UNKNOWN_ordinal⟩ := OO
  have nFT : w_FALSE ≠ w_TRUE := (own_ne F_FALSE_ordinal F_TRUE_ordinal (by decide))
  have nUT : w_UNKNOWN ≠ w_TRUE := (own_ne F_UNKNOWN_ordinal F_TRUE_ordinal (by decide))
  have nUF : w_UNKNOWN ≠ w_FALSE := (own_ne F_UNKNOWN_ordinal F_FALSE_ordinal (by decide))
  show Go p.tables e below (Fin s below (PQ (.int 1) h0 n0) room_1.cells room_1.slots) (s₁.setTop (entryFrame m #[(.int p1)] maxLocals))
  refine own_go (fun t k => castTop (ef_rm_law_1 m p1) k) ?_
  show Go p.tables e below _ (s₁.setTop (mkF m 0 #[.val (.int p1), .unset, .unset, .unset, .unset, .unset] []))
  refine own_go (fun t k => XS.iloadN X0.here hx rfl (hb hby at_0) rfl k) ?_
  show Go p.tables e below _ (s₁.setTop (mkF m 1 #[.val (.int p1), .unset, .unset, .unset, .unset, .unset] [(.int p1)]))
  refine own_go (fun t k => Jvm.Stand.ldcI X0 hx hown (mvT hZ (hw _ (List.mem_of_getElem? (i := 0) rfl))) rfl (hb hby at_1) k) ?_
  show Go p.tables e below _ (s₁.setTop (mkF m 3 #[.val (.int p1), .unset, .unset, .unset, .unset, .unset] [(.int (2147483647 : Int32)), (.int p1)]))
  refine own_go (fun t k => XS.iand X0.here hx rfl (hb hby at_3) rfl k) ?_
  show Go p.tables e below _ (s₁.setTop (mkF m 4 #[.val (.int p1), .unset, .unset, .unset, .unset, .unset] [(.int (p1 &&& (2147483647 : Int32)))]))
  refine own_go (fun t k => XS.iconst X0.here hx rfl (hb hby at_4) k) ?_
  show Go p.tables e below _ (s₁.setTop (mkF m 5 #[.val (.int p1), .unset, .unset, .unset, .unset, .unset] [(.int (3 : Int32)), (.int (p1 &&& (2147483647 : Int32)))]))
  refine own_go (fun t k => iremM (g := (mkF m 5 #[.val (.int p1), .unset, .unset, .unset, .unset, .unset] [(.int (3 : Int32)), (.int (p1 &&& (2147483647 : Int32)))])) X0 hx rfl (hb hby at_5) rfl (by decide) k) ?_
  show Go p.tables e below _ (s₁.setTop (mkF m 6 #[.val (.int p1), .unset, .unset, .unset, .unset, .unset] [(.int ((p1 &&& (2147483647 : Int32)) % (3 : Int32)))]))
  rw [q1]
  show Go p.tables e below _ (s₁.setTop (mkF m 6 #[.val (.int p1), .unset, .unset, .unset, .unset, .unset] [(.int (1 : Int32))]))
  refine own_go (fun t k => XS.istoreN X0.here hx rfl (hb hby at_6) rfl (l' := #[.val (.int p1), .val (.int (1 : Int32)), .unset, .unset, .unset, .unset]) rfl k) ?_
  show Go p.tables e below _ (s₁.setTop (mkF m 7 #[.val (.int p1), .val (.int (1 : Int32)), .unset, .unset, .unset, .unset] []))
  refine own_go (fun t k => XS.iloadN X0.here hx rfl (hb hby at_7) rfl k) ?_
  show Go p.tables e below _ (s₁.setTop (mkF m 8 #[.val (.int p1), .val (.int (1 : Int32)), .unset, .unset, .unset, .unset] [(.int (1 : Int32))]))
  refine own_go (fun t k => XS.ifYes X0.here hx rfl (pc0 := 8) (pc' := 15) rfl (hb hby at_8) rfl (XT.i0_ne_t (by decide)) (by decide) (by decide) k) ?_
  show Go p.tables e below _ (s₁.setTop (mkF m 15 #[.val (.int p1), .val (.int (1 : Int32)), .unset, .unset, .unset, .unset] []))
  refine own_go (fun t k => XS.iconst X0.here hx rfl (hb hby at_15) k) ?_
  show Go p.tables e below _ (s₁.setTop (mkF m 16 #[.val (.int p1), .val (.int (1 : Int32)), .unset, .unset, .unset, .unset] [(.int (0 : Int32))]))
  refine own_go (fun t k => XS.istoreN X0.here hx rfl (hb hby at_16) rfl (l' := #[.val (.int p1), .val (.int (1 : Int32)), .val (.int (0 : Int32)), .unset, .unset, .unset]) rfl k) ?_
  show Go p.tables e below _ (s₁.setTop (mkF m 17 #[.val (.int p1), .val (.int (1 : Int32)), .val (.int (0 : Int32)), .unset, .unset, .unset] []))
  refine own_go (fun t k => XS.iloadN X0.here hx rfl (hb hby at_17) rfl k) ?_
  show Go p.tables e below _ (s₁.setTop (mkF m 18 #[.val (.int p1), .val (.int (1 : Int32)), .val (.int (0 : Int32)), .unset, .unset, .unset] [(.int (1 : Int32))]))
  refine own_go (fun t k => XS.iconst X0.here hx rfl (hb hby at_18) k) ?_
  show Go p.tables e below _ (s₁.setTop (mkF m 19 #[.val (.int p1), .val (.int (1 : Int32)), .val (.int (0 : Int32)), .unset, .unset, .unset] [(.int (2 : Int32)), (.int (1 : Int32))]))
  refine own_go (fun t k => XS.icmpYes X0.here hx rfl (pc0 := 19) (pc' := 28) rfl (hb hby at_19) rfl (XT.ii_ne_t (by decide)) (by decide) (by decide) k) ?_
  show Go p.tables e below _ (s₁.setTop (mkF m 28 #[.val (.int p1), .val (.int (1 : Int32)), .val (.int (0 : Int32)), .unset, .unset, .unset] []))
  refine own_go (fun t k => XS.iloadN X0.here hx rfl (hb hby at_28) rfl k) ?_
  show Go p.tables e below _ (s₁.setTop (mkF m 29 #[.val (.int p1), .val (.int (1 : Int32)), .val (.int (0 : Int32)), .unset, .unset, .unset] [(.int (0 : Int32))]))
  obtain ⟨v1, _, ⟨T1, L1, k1, n1⟩, -, X1, ⟨Lc1, hQ1, l1, y1, z1⟩, st1⟩ := Jvm.LawKit.callS X0 hx (y := (⟨"com/example/deft_refine/deftrefine/prover/sequent/Evaluation$Value", "of", "(Z)Lcom/example/deft_refine/deftrefine/prover/sequent/Evaluation$Value;"⟩ : MethodName)) hown (mvT hZ (hw _ (List.mem_of_getElem? (i := 1) rfl))) (mvT hZ (hw _ (List.mem_of_getElem? (i := 2) rfl))) (mvT hZ (hw _ (List.mem_of_getElem? (i := 3) rfl))) (mvT hZ (hw _ (List.mem_of_getElem? (i := 4) rfl))) (by decide) (backOf (W := 0) (rm_of l Z a0 hw [] (0 : Int32) w_TRUE w_FALSE w_UNKNOWN h0 n0 SS) hZ (hw _ (List.mem_of_getElem? (i := 4) rfl)) (hw _ (List.mem_of_getElem? (i := 3) rfl)) (by decide) (by decide)) (g := (mkF m 29 #[.val (.int p1), .val (.int (1 : Int32)), .val (.int (0 : Int32)), .unset, .unset, .unset] [(.int (0 : Int32))])) rfl (by rw [hml]; rfl) (argsL := [(.int (0 : Int32))]) (rest := []) (lenOf pd_0 rfl) rfl (by show 2 * 0 + _ ≤ _; exact Nat.le_of_eq rfl) (hb hby at_29) (fun _ _ => ⟨rfl, e0, (by decide : 0 + 0 ≤ _), (by decide : 0 + 0 ≤ _)⟩)
  dsimp only [Pt.U, Pt.locs, Pt.cells, Pt.slots] at X1 l1 y1 z1 st1 hQ1
  subst l1 y1 z1
  obtain ⟨hv1, N1q, e1⟩ := hQ1
  rw [show ((.ref (own_of w_TRUE w_FALSE (0 : Int32))) : Value) = (.ref w_FALSE) from by simp [own_of]] at hv1
  subst hv1
  have N1 := Fr.app N0 N1q
  refine own_go (fun t k => st1 t k) ?_
  show Go p.tables e below _ (T1.setTop (mkF m 32 #[.val (.int p1), .val (.int (1 : Int32)), .val (.int (0 : Int32)), .unset, .unset, .unset] [(.ref w_FALSE)]))
  refine own_go (fun t k => XS.astoreN X1.here hx rfl (hb hby at_32) rfl rfl (l' := #[.val (.int p1), .val (.int (1 : Int32)), .val (.int (0 : Int32)), .val (.ref w_FALSE), .unset, .unset]) rfl k) ?_
  show Go p.tables e below _ (T1.setTop (mkF m 33 #[.val (.int p1), .val (.int (1 : Int32)), .val (.int (0 : Int32)), .val (.ref w_FALSE), .unset, .unset] []))
  refine own_go (fun t k => XS.aloadN X1.here hx rfl (hb hby at_33) rfl rfl k) ?_
  show Go p.tables e below _ (T1.setTop (mkF m 34 #[.val (.int p1), .val (.int (1 : Int32)), .val (.int (0 : Int32)), .val (.ref w_FALSE), .unset, .unset] [(.ref w_FALSE)]))
  obtain ⟨cq2, kq2, q2a, q2b, q2c⟩ := isOf hZ e1 E_FALSE
  obtain ⟨v2, _, ⟨T2, L2, k2, n2⟩, -, X2, ⟨Lc2, hQ2, l2, y2, z2⟩, st2⟩ := X1.virtualBack hx (y := (⟨"com/example/deft_refine/deftrefine/prover/sequent/Evaluation$Value", "not", "()Lcom/example/deft_refine/deftrefine/prover/sequent/Evaluation$Value;"⟩ : MethodName)) (z := (⟨"com/example/deft_refine/deftrefine/prover/sequent/Evaluation$Value", "not", "()Lcom/example/deft_refine/deftrefine/prover/sequent/Evaluation$Value;"⟩ : MethodName)) hown (mvT hZ (hw _ (List.mem_of_getElem? (i := 7) rfl))) (mvT hZ (hw _ (List.mem_of_getElem? (i := 8) rfl))) (notFace_of_selects (args := #[]) (mvT hZ (hw _ (List.mem_of_getElem? (i := 10) rfl)))) (mvT hZ (hw _ (List.mem_of_getElem? (i := 10) rfl))) (mvT hZ (hw _ (List.mem_of_getElem? (i := 9) rfl))) (by decide) (backOf (W := 0) (rm_not l Z a0 hw [] w_FALSE w_TRUE w_FALSE w_UNKNOWN h0 n0 SS) hZ (hw _ (List.mem_of_getElem? (i := 11) rfl)) (hw _ (List.mem_of_getElem? (i := 3) rfl)) (by decide) (by decide)) q2a q2c (g := (mkF m 34 #[.val (.int p1), .val (.int (1 : Int32)), .val (.int (0 : Int32)), .val (.ref w_FALSE), .unset, .unset] [(.ref w_FALSE)])) rfl (by rw [hml]; rfl) (Steps.refl _) (argsL := []) (rest := []) (lenOf pd_1 rfl) rfl (by show 2 * 0 + _ ≤ _; exact Nat.le_of_eq rfl) (hb hby at_34) (fun _ _ => ⟨rfl, e1, (by decide : 0 + 0 ≤ _), (by decide : 0 + 0 ≤ _)⟩)
  dsimp only [Pt.U, Pt.locs, Pt.cells, Pt.slots] at X2 l2 y2 z2 st2 hQ2
  subst l2 y2 z2
  obtain ⟨hv2, N2q, e2⟩ := hQ2
  rw [show ((.ref (own_not w_TRUE w_FALSE w_UNKNOWN w_FALSE)) : Value) = (.ref w_TRUE) from by simp [own_not, nFT, nUT, nUF]] at hv2
  subst hv2
  have N2 := Fr.app N1 N2q
  refine own_go (fun t k => st2.trans k) ?_
  show Go p.tables e below _ (T2.setTop (mkF m 37 #[.val (.int p1), .val (.int (1 : Int32)), .val (.int (0 : Int32)), .val (.ref w_FALSE), .unset, .unset] [(.ref w_TRUE)]))
  refine own_go (fun t k => XS.astore X2.here hx rfl (hb hby at_37) rfl rfl (l' := #[.val (.int p1), .val (.int (1 : Int32)), .val (.int (0 : Int32)), .val (.ref w_FALSE), .val (.ref w_TRUE), .unset]) rfl k) ?_
  show Go p.tables e below _ (T2.setTop (mkF m 39 #[.val (.int p1), .val (.int (1 : Int32)), .val (.int (0 : Int32)), .val (.ref w_FALSE), .val (.ref w_TRUE), .unset] []))
  refine own_go (fun t k => XS.iloadN X2.here hx rfl (hb hby at_39) rfl k) ?_
  show Go p.tables e below _ (T2.setTop (mkF m 40 #[.val (.int p1), .val (.int (1 : Int32)), .val (.int (0 : Int32)), .val (.ref w_FALSE), .val (.ref w_TRUE), .unset] [(.int (1 : Int32))]))
  refine own_go (fun t k => XS.iconst X2.here hx rfl (hb hby at_40) k) ?_
  show Go p.tables e below _ (T2.setTop (mkF m 41 #[.val (.int p1), .val (.int (1 : Int32)), .val (.int (0 : Int32)), .val (.ref w_FALSE), .val (.ref w_TRUE), .unset] [(.int (2 : Int32)), (.int (1 : Int32))]))
  refine own_go (fun t k => XS.icmpYes X2.here hx rfl (pc0 := 41) (pc' := 50) rfl (hb hby at_41) rfl (XT.ii_ne_t (by decide)) (by decide) (by decide) k) ?_
  show Go p.tables e below _ (T2.setTop (mkF m 50 #[.val (.int p1), .val (.int (1 : Int32)), .val (.int (0 : Int32)), .val (.ref w_FALSE), .val (.ref w_TRUE), .unset] []))
  refine own_go (fun t k => XS.iloadN X2.here hx rfl (hb hby at_50) rfl k) ?_
  show Go p.tables e below _ (T2.setTop (mkF m 51 #[.val (.int p1), .val (.int (1 : Int32)), .val (.int (0 : Int32)), .val (.ref w_FALSE), .val (.ref w_TRUE), .unset] [(.int (0 : Int32))]))
  refine own_go (fun t k => XS.ifNo X2.here hx rfl (hb hby at_51) rfl (XT.i0_ne_f (by decide)) k) ?_
  show Go p.tables e below _ (T2.setTop (mkF m 54 #[.val (.int p1), .val (.int (1 : Int32)), .val (.int (0 : Int32)), .val (.ref w_FALSE), .val (.ref w_TRUE), .unset] []))
  refine own_go (fun t k => XS.iconst X2.here hx rfl (hb hby at_54) k) ?_
  show Go p.tables e below _ (T2.setTop (mkF m 55 #[.val (.int p1), .val (.int (1 : Int32)), .val (.int (0 : Int32)), .val (.ref w_FALSE), .val (.ref w_TRUE), .unset] [(.int (1 : Int32))]))
  refine own_go (fun t k => XS.goto X2.here hx rfl (pc0 := 55) (pc' := 59) rfl (hb hby at_55) (by decide) (by decide) k) ?_
  show Go p.tables e below _ (T2.setTop (mkF m 59 #[.val (.int p1), .val (.int (1 : Int32)), .val (.int (0 : Int32)), .val (.ref w_FALSE), .val (.ref w_TRUE), .unset] [(.int (1 : Int32))]))
  obtain ⟨v3, _, ⟨T3, L3, k3, n3⟩, -, X3, ⟨Lc3, hQ3, l3, y3, z3⟩, st3⟩ := Jvm.LawKit.callS X2 hx (y := (⟨"com/example/deft_refine/deftrefine/prover/sequent/Evaluation$Value", "of", "(Z)Lcom/example/deft_refine/deftrefine/prover/sequent/Evaluation$Value;"⟩ : MethodName)) hown (mvT hZ (hw _ (List.mem_of_getElem? (i := 1) rfl))) (mvT hZ (hw _ (List.mem_of_getElem? (i := 2) rfl))) (mvT hZ (hw _ (List.mem_of_getElem? (i := 3) rfl))) (mvT hZ (hw _ (List.mem_of_getElem? (i := 4) rfl))) (by decide) (backOf (W := 0) (rm_of l Z a0 hw [] (1 : Int32) w_TRUE w_FALSE w_UNKNOWN h0 n0 SS) hZ (hw _ (List.mem_of_getElem? (i := 4) rfl)) (hw _ (List.mem_of_getElem? (i := 3) rfl)) (by decide) (by decide)) (g := (mkF m 59 #[.val (.int p1), .val (.int (1 : Int32)), .val (.int (0 : Int32)), .val (.ref w_FALSE), .val (.ref w_TRUE), .unset] [(.int (1 : Int32))])) rfl (by rw [hml]; rfl) (argsL := [(.int (1 : Int32))]) (rest := []) (lenOf pd_0 rfl) rfl (by show 2 * 0 + _ ≤ _; exact Nat.le_of_eq rfl) (hb hby at_59) (fun _ _ => ⟨rfl, e2, (by decide : 0 + 0 ≤ _), (by decide : 0 + 0 ≤ _)⟩)
  dsimp only [Pt.U, Pt.locs, Pt.cells, Pt.slots] at X3 l3 y3 z3 st3 hQ3
  subst l3 y3 z3
  obtain ⟨hv3, N3q, e3⟩ := hQ3
  rw [show ((.ref (own_of w_TRUE w_FALSE (1 : Int32))) : Value) = (.ref w_TRUE) from by simp [own_of]] at hv3
  subst hv3
  have N3 := Fr.app N2 N3q
  refine own_go (fun t k => st3 t k) ?_
  show Go p.tables e below _ (T3.setTop (mkF m 62 #[.val (.int p1), .val (.int (1 : Int32)), .val (.int (0 : Int32)), .val (.ref w_FALSE), .val (.ref w_TRUE), .unset] [(.ref w_TRUE)]))
  refine own_go (fun t k => XS.astore X3.here hx rfl (hb hby at_62) rfl rfl (l' := #[.val (.int p1), .val (.int (1 : Int32)), .val (.int (0 : Int32)), .val (.ref w_FALSE), .val (.ref w_TRUE), .val (.ref w_TRUE)]) rfl k) ?_
  show Go p.tables e below _ (T3.setTop (mkF m 64 #[.val (.int p1), .val (.int (1 : Int32)), .val (.int (0 : Int32)), .val (.ref w_FALSE), .val (.ref w_TRUE), .val (.ref w_TRUE)] []))
  refine own_go (fun t k => XS.aload X3.here hx rfl (hb hby at_64) rfl rfl k) ?_
  show Go p.tables e below _ (T3.setTop (mkF m 66 #[.val (.int p1), .val (.int (1 : Int32)), .val (.int (0 : Int32)), .val (.ref w_FALSE), .val (.ref w_TRUE), .val (.ref w_TRUE)] [(.ref w_TRUE)]))
  refine own_go (fun t k => XS.aload X3.here hx rfl (hb hby at_66) rfl rfl k) ?_
  show Go p.tables e below _ (T3.setTop (mkF m 68 #[.val (.int p1), .val (.int (1 : Int32)), .val (.int (0 : Int32)), .val (.ref w_FALSE), .val (.ref w_TRUE), .val (.ref w_TRUE)] [(.ref w_TRUE), (.ref w_TRUE)]))
  refine own_go (fun t k => XT.acmpYes X3.here hx rfl (pc0 := 68) (pc' := 73) rfl (hb hby at_68) rfl rfl rfl (XT.aa_eq_t (congrArg Value.ref rfl)) (by decide) (by decide) k) ?_
  show Go p.tables e below _ (T3.setTop (mkF m 73 #[.val (.int p1), .val (.int (1 : Int32)), .val (.int (0 : Int32)), .val (.ref w_FALSE), .val (.ref w_TRUE), .val (.ref w_TRUE)] []))
  refine own_go (fun t k => XS.aload X3.here hx rfl (hb hby at_73) rfl rfl k) ?_
  show Go p.tables e below _ (T3.setTop (mkF m 75 #[.val (.int p1), .val (.int (1 : Int32)), .val (.int (0 : Int32)), .val (.ref w_FALSE), .val (.ref w_TRUE), .val (.ref w_TRUE)] [(.ref w_TRUE)]))
  obtain ⟨cq4, kq4, q4a, q4b, q4c⟩ := isOf hZ e3 E_TRUE
  obtain ⟨v4, _, ⟨T4, L4, k4, n4⟩, -, X4, ⟨Lc4, hQ4, l4, y4, z4⟩, st4⟩ := X3.virtualBack hx (y := (⟨"com/example/deft_refine/deftrefine/prover/sequent/Evaluation$Value", "not", "()Lcom/example/deft_refine/deftrefine/prover/sequent/Evaluation$Value;"⟩ : MethodName)) (z := (⟨"com/example/deft_refine/deftrefine/prover/sequent/Evaluation$Value", "not", "()Lcom/example/deft_refine/deftrefine/prover/sequent/Evaluation$Value;"⟩ : MethodName)) hown (mvT hZ (hw _ (List.mem_of_getElem? (i := 7) rfl))) (mvT hZ (hw _ (List.mem_of_getElem? (i := 8) rfl))) (notFace_of_selects (args := #[]) (mvT hZ (hw _ (List.mem_of_getElem? (i := 10) rfl)))) (mvT hZ (hw _ (List.mem_of_getElem? (i := 10) rfl))) (mvT hZ (hw _ (List.mem_of_getElem? (i := 9) rfl))) (by decide) (backOf (W := 0) (rm_not l Z a0 hw [] w_TRUE w_TRUE w_FALSE w_UNKNOWN h0 n0 SS) hZ (hw _ (List.mem_of_getElem? (i := 11) rfl)) (hw _ (List.mem_of_getElem? (i := 3) rfl)) (by decide) (by decide)) q4a q4c (g := (mkF m 75 #[.val (.int p1), .val (.int (1 : Int32)), .val (.int (0 : Int32)), .val (.ref w_FALSE), .val (.ref w_TRUE), .val (.ref w_TRUE)] [(.ref w_TRUE)])) rfl (by rw [hml]; rfl) (Steps.refl _) (argsL := []) (rest := []) (lenOf pd_1 rfl) rfl (by show 2 * 0 + _ ≤ _; exact Nat.le_of_eq rfl) (hb hby at_75) (fun _ _ => ⟨rfl, e3, (by decide : 0 + 0 ≤ _), (by decide : 0 + 0 ≤ _)⟩)
  dsimp only [Pt.U, Pt.locs, Pt.cells, Pt.slots] at X4 l4 y4 z4 st4 hQ4
  subst l4 y4 z4
  obtain ⟨hv4, N4q, e4⟩ := hQ4
  rw [show ((.ref (own_not w_TRUE w_FALSE w_UNKNOWN w_TRUE)) : Value) = (.ref w_FALSE) from by simp [own_not, nFT, nUT, nUF]] at hv4
  subst hv4
  have N4 := Fr.app N3 N4q
  refine own_go (fun t k => st4.trans k) ?_
  show Go p.tables e below _ (T4.setTop (mkF m 78 #[.val (.int p1), .val (.int (1 : Int32)), .val (.int (0 : Int32)), .val (.ref w_FALSE), .val (.ref w_TRUE), .val (.ref w_TRUE)] [(.ref w_FALSE)]))
  refine own_go (fun t k => XS.aloadN X4.here hx rfl (hb hby at_78) rfl rfl k) ?_
  show Go p.tables e below _ (T4.setTop (mkF m 79 #[.val (.int p1), .val (.int (1 : Int32)), .val (.int (0 : Int32)), .val (.ref w_FALSE), .val (.ref w_TRUE), .val (.ref w_TRUE)] [(.ref w_FALSE), (.ref w_FALSE)]))
  refine own_go (fun t k => XT.acmpNo X4.here hx rfl (hb hby at_79) rfl rfl rfl (XT.aa_ne_f (congrArg Value.ref rfl)) k) ?_
  show Go p.tables e below _ (T4.setTop (mkF m 82 #[.val (.int p1), .val (.int (1 : Int32)), .val (.int (0 : Int32)), .val (.ref w_FALSE), .val (.ref w_TRUE), .val (.ref w_TRUE)] []))
  refine own_go (fun t k => XS.iconst X4.here hx rfl (hb hby at_82) k) ?_
  show Go p.tables e below _ (T4.setTop (mkF m 83 #[.val (.int p1), .val (.int (1 : Int32)), .val (.int (0 : Int32)), .val (.ref w_FALSE), .val (.ref w_TRUE), .val (.ref w_TRUE)] [(.int (1 : Int32))]))
  refine own_go (fun t k => XS.goto X4.here hx rfl (pc0 := 83) (pc' := 87) rfl (hb hby at_83) (by decide) (by decide) k) ?_
  show Go p.tables e below _ (T4.setTop (mkF m 87 #[.val (.int p1), .val (.int (1 : Int32)), .val (.int (0 : Int32)), .val (.ref w_FALSE), .val (.ref w_TRUE), .val (.ref w_TRUE)] [(.int (1 : Int32))]))
  exact own_ret X4 hx hlk Bd.returns rfl (Or.inl ⟨rfl, Or.inr (Or.inl rfl), _, rfl⟩) (hb hby at_87) ⟨rfl, N4, e4⟩ (by decide) (by decide)
theorem ef_rm_law_2 (m : MethodId) (x0 : Int32) : entryFrame m #[(.int x0)] maxLocals = mkF m 0 #[.val (.int x0), .unset, .unset, .unset, .unset, .unset] [] := by first | (simp [entryFrame, mkF, argsToLocals, Value.category, maxLocals]; done) | rfl
set_option maxRecDepth 65536 in
set_option maxHeartbeats 40000000 in
theorem rm_law_2 (l : Launch) (Z : State) (a0 : Array Value) (hw : ∀ d ∈ tables_1, d.before a0 Z = true) (ws : List Jvm.Cond) (p1 : Int32) (w_TRUE w_FALSE w_UNKNOWN : Addr) (h0 : Heap) (n0 : Nat) (SS : own_S Z h0 w_TRUE w_FALSE w_UNKNOWN) (EE : own_E Z h0 w_TRUE w_FALSE w_UNKNOWN) (OO : own_O Z h0 w_TRUE w_FALSE w_UNKNOWN) (q1 : (p1 &&& 2147483647) % 3 = 2) :
    MetFree l x (head1 (Jvm.Cond.code x code maxLocals ret :: ws) room_1) (fun aa U => aa = #[(.int p1)] ∧ Z.Warmed39 U.vm ∧ U.heap = h0) (fun _ _ _ _ _ => True) (fun _ U o U' => ∃ v L, o = .returned v ∧ PQ (.int 1) h0 n0 v U'.heap L ∧ FrameEnd U o U' L room_1.cells room_1.slots) := by
  refine MetFree.of_bodySF (plainFor_of_name pn_1) hisR ?_
  intro p e s m args below meth c s₁ Bd hml0 hP hK
  obtain ⟨rfl, hZ, hh⟩ := hP
  have hx := Bd.exec
  have hby := Bd.bytes
  have hlk := Bd.notSynchronized
  have hml : c.maxLocals = 6 := hml0
  have hown : s.vm.findClass "com/example/deft_refine/deftrefine/prover/sequent/ValueNotPinLaw" = some m.cls := findClass_of_methodNamed Bd.named
  have X0 : Stand p l e room_1 s m #[(.int p1)] below meth c s₁ [] 0 0 := Stand.of_body Bd
  have e0 : s₁.heap = h0 := by rw [← hh, Bd.state]; rfl
  have N0 := Fr.nil n0
  have SS' := SS
  obtain ⟨S_TRUE, S_FALSE, S_UNKNOWN⟩ := SS'
  obtain ⟨E_TRUE, E_FALSE, E_UNKNOWN⟩ := EE
  obtain ⟨F_FALSE_ordinal, F_TRUE_ordinal, F_UNKNOWN_ordinal⟩ := OO
  have nFT : w_FALSE ≠ w_TRUE := (own_ne F_FALSE_ordinal F_TRUE_ordinal (by decide))
  have nUT : w_UNKNOWN ≠ w_TRUE := (own_ne F_UNKNOWN_ordinal F_TRUE_ordinal (by decide))
  have nUF : w_UNKNOWN ≠ w_FALSE := (own_ne F_UNKNOWN_ordinal F_FALSE_ordinal (by decide))
  show Go p.tables e below (Fin s below (PQ (.int 1) h0 n0) room_1.cells room_1.slots) (s₁.setTop (entryFrame m #[(.int p1)] maxLocals))
  refine own_go (fun t k => castTop (ef_rm_law_2 m p1) k) ?_
  show Go p.tables e below _ (s₁.setTop (mkF m 0 #[.val (.int p1), .unset, .unset, .unset, .unset, .unset] []))
  refine own_go (fun t k => XS.iloadN X0.here hx rfl (hb hby at_0) rfl k) ?_
  show Go p.tables e below _ (s₁.setTop (mkF m 1 #[.val (.int p1), .unset, .unset, .unset, .unset, .unset] [(.int p1)]))
  refine own_go (fun t k => Jvm.Stand.ldcI X0 hx hown (mvT hZ (hw _ (List.mem_of_getElem? (i := 0) rfl))) rfl (hb hby at_1) k) ?_
  show Go p.tables e below _ (s₁.setTop (mkF m 3 #[.val (.int p1), .unset, .unset, .unset, .unset, .unset] [(.int (2147483647 : Int32)), (.int p1)]))
  refine own_go (fun t k => XS.iand X0.here hx rfl (hb hby at_3) rfl k) ?_
  show Go p.tables e below _ (s₁.setTop (mkF m 4 #[.val (.int p1), .unset, .unset, .unset, .unset, .unset] [(.int (p1 &&& (2147483647 : Int32)))]))
  refine own_go (fun t k => XS.iconst X0.here hx rfl (hb hby at_4) k) ?_
  show Go p.tables e below _ (s₁.setTop (mkF m 5 #[.val (.int p1), .unset, .unset, .unset, .unset, .unset] [(.int (3 : Int32)), (.int (p1 &&& (2147483647 : Int32)))]))
  refine own_go (fun t k => iremM (g := (mkF m 5 #[.val (.int p1), .unset, .unset, .unset, .unset, .unset] [(.int (3 : Int32)), (.int (p1 &&& (2147483647 : Int32)))])) X0 hx rfl (hb hby at_5) rfl (by decide) k) ?_
  show Go p.tables e below _ (s₁.setTop (mkF m 6 #[.val (.int p1), .unset, .unset, .unset, .unset, .unset] [(.int ((p1 &&& (2147483647 : Int32)) % (3 : Int32)))]))
  rw [q1]
  show Go p.tables e below _ (s₁.setTop (mkF m 6 #[.val (.int p1), .unset, .unset, .unset, .unset, .unset] [(.int (2 : Int32))]))
  refine own_go (fun t k => XS.istoreN X0.here hx rfl (hb hby at_6) rfl (l' := #[.val (.int p1), .val (.int (2 : Int32)), .unset, .unset, .unset, .unset]) rfl k) ?_
  show Go p.tables e below _ (s₁.setTop (mkF m 7 #[.val (.int p1), .val (.int (2 : Int32)), .unset, .unset, .unset, .unset] []))
  refine own_go (fun t k => XS.iloadN X0.here hx rfl (hb hby at_7) rfl k) ?_
  show Go p.tables e below _ (s₁.setTop (mkF m 8 #[.val (.int p1), .val (.int (2 : Int32)), .unset, .unset, .unset, .unset] [(.int (2 : Int32))]))
  refine own_go (fun t k => XS.ifYes X0.here hx rfl (pc0 := 8) (pc' := 15) rfl (hb hby at_8) rfl (XT.i0_ne_t (by decide)) (by decide) (by decide) k) ?_
  show Go p.tables e below _ (s₁.setTop (mkF m 15 #[.val (.int p1), .val (.int (2 : Int32)), .unset, .unset, .unset, .unset] []))
  refine own_go (fun t k => XS.iconst X0.here hx rfl (hb hby at_15) k) ?_
  show Go p.tables e below _ (s₁.setTop (mkF m 16 #[.val (.int p1), .val (.int (2 : Int32)), .unset, .unset, .unset, .unset] [(.int (0 : Int32))]))
  refine own_go (fun t k => XS.istoreN X0.here hx rfl (hb hby at_16) rfl (l' := #[.val (.int p1), .val (.int (2 : Int32)), .val (.int (0 : Int32)), .unset, .unset, .unset]) rfl k) ?_
  show Go p.tables e below _ (s₁.setTop (mkF m 17 #[.val (.int p1), .val (.int (2 : Int32)), .val (.int (0 : Int32)), .unset, .unset, .unset] []))
  refine own_go (fun t k => XS.iloadN X0.here hx rfl (hb hby at_17) rfl k) ?_
  show Go p.tables e below _ (s₁.setTop (mkF m 18 #[.val (.int p1), .val (.int (2 : Int32)), .val (.int (0 : Int32)), .unset, .unset, .unset] [(.int (2 : Int32))]))
  refine own_go (fun t k => XS.iconst X0.here hx rfl (hb hby at_18) k) ?_
  show Go p.tables e below _ (s₁.setTop (mkF m 19 #[.val (.int p1), .val (.int (2 : Int32)), .val (.int (0 : Int32)), .unset, .unset, .unset] [(.int (2 : Int32)), (.int (2 : Int32))]))
  refine own_go (fun t k => XS.icmpNo X0.here hx rfl (hb hby at_19) rfl (XT.ii_ne_f (by decide)) k) ?_
  show Go p.tables e below _ (s₁.setTop (mkF m 22 #[.val (.int p1), .val (.int (2 : Int32)), .val (.int (0 : Int32)), .unset, .unset, .unset] []))
  obtain ⟨T1, X1, e1, st1⟩ := getS2 X0 hx hZ hown (host := "") (Or.inl (hw _ (List.mem_of_getElem? (i := 14) rfl))) Via.refl e0 S_UNKNOWN (g := (mkF m 22 #[.val (.int p1), .val (.int (2 : Int32)), .val (.int (0 : Int32)), .unset, .unset, .unset] [])) rfl (hb hby at_22)
  refine own_go (fun t k => st1 t k) ?_
  show Go p.tables e below _ (T1.setTop (mkF m 25 #[.val (.int p1), .val (.int (2 : Int32)), .val (.int (0 : Int32)), .unset, .unset, .unset] [(.ref w_UNKNOWN)]))
  refine own_go (fun t k => XS.goto X1.here hx rfl (pc0 := 25) (pc' := 32) rfl (hb hby at_25) (by decide) (by decide) k) ?_
  show Go p.tables e below _ (T1.setTop (mkF m 32 #[.val (.int p1), .val (.int (2 : Int32)), .val (.int (0 : Int32)), .unset, .unset, .unset] [(.ref w_UNKNOWN)]))
  refine own_go (fun t k => XS.astoreN X1.here hx rfl (hb hby at_32) rfl rfl (l' := #[.val (.int p1), .val (.int (2 : Int32)), .val (.int (0 : Int32)), .val (.ref w_UNKNOWN), .unset, .unset]) rfl k) ?_
  show Go p.tables e below _ (T1.setTop (mkF m 33 #[.val (.int p1), .val (.int (2 : Int32)), .val (.int (0 : Int32)), .val (.ref w_UNKNOWN), .unset, .unset] []))
  refine own_go (fun t k => XS.aloadN X1.here hx rfl (hb hby at_33) rfl rfl k) ?_
  show Go p.tables e below _ (T1.setTop (mkF m 34 #[.val (.int p1), .val (.int (2 : Int32)), .val (.int (0 : Int32)), .val (.ref w_UNKNOWN), .unset, .unset] [(.ref w_UNKNOWN)]))
  obtain ⟨cq2, kq2, q2a, q2b, q2c⟩ := isOf hZ e1 E_UNKNOWN
  obtain ⟨v2, _, ⟨T2, L2, k2, n2⟩, -, X2, ⟨Lc2, hQ2, l2, y2, z2⟩, st2⟩ := X1.virtualBack hx (y := (⟨"com/example/deft_refine/deftrefine/prover/sequent/Evaluation$Value", "not", "()Lcom/example/deft_refine/deftrefine/prover/sequent/Evaluation$Value;"⟩ : MethodName)) (z := (⟨"com/example/deft_refine/deftrefine/prover/sequent/Evaluation$Value", "not", "()Lcom/example/deft_refine/deftrefine/prover/sequent/Evaluation$Value;"⟩ : MethodName)) hown (mvT hZ (hw _ (List.mem_of_getElem? (i := 7) rfl))) (mvT hZ (hw _ (List.mem_of_getElem? (i := 8) rfl))) (notFace_of_selects (args := #[]) (mvT hZ (hw _ (List.mem_of_getElem? (i := 10) rfl)))) (mvT hZ (hw _ (List.mem_of_getElem? (i := 10) rfl))) (mvT hZ (hw _ (List.mem_of_getElem? (i := 9) rfl))) (by decide) (backOf (W := 0) (rm_not l Z a0 hw [] w_UNKNOWN w_TRUE w_FALSE w_UNKNOWN h0 n0 SS) hZ (hw _ (List.mem_of_getElem? (i := 11) rfl)) (hw _ (List.mem_of_getElem? (i := 3) rfl)) (by decide) (by decide)) q2a q2c (g := (mkF m 34 #[.val (.int p1), .val (.int (2 : Int32)), .val (.int (0 : Int32)), .val (.ref w_UNKNOWN), .unset, .unset] [(.ref w_UNKNOWN)])) rfl (by rw [hml]; rfl) (Steps.refl _) (argsL := []) (rest := []) (lenOf pd_1 rfl) rfl (by show 2 * 0 + _ ≤ _; exact Nat.le_of_eq rfl) (hb hby at_34) (fun _ _ => ⟨rfl, e1, (by decide : 0 + 0 ≤ _), (by decide : 0 + 0 ≤ _)⟩)
  dsimp only [Pt.U, Pt.locs, Pt.cells, Pt.slots] at X2 l2 y2 z2 st2 hQ2
  subst l2 y2 z2
  obtain ⟨hv2, N2q, e2⟩ := hQ2
  rw [show ((.ref (own_not w_TRUE w_FALSE w_UNKNOWN w_UNKNOWN)) : Value) = (.ref w_UNKNOWN) from by simp [own_not, nFT, nUT, nUF]] at hv2
  subst hv2
  have N2 := Fr.app N0 N2q
  refine own_go (fun t k => st2.trans k) ?_
  show Go p.tables e below _ (T2.setTop (mkF m 37 #[.val (.int p1), .val (.int (2 : Int32)), .val (.int (0 : Int32)), .val (.ref w_UNKNOWN), .unset, .unset] [(.ref w_UNKNOWN)]))
  refine own_go (fun t k => XS.astore X2.here hx rfl (hb hby at_37) rfl rfl (l' := #[.val (.int p1), .val (.int (2 : Int32)), .val (.int (0 : Int32)), .val (.ref w_UNKNOWN), .val (.ref w_UNKNOWN), .unset]) rfl k) ?_
  show Go p.tables e below _ (T2.setTop (mkF m 39 #[.val (.int p1), .val (.int (2 : Int32)), .val (.int (0 : Int32)), .val (.ref w_UNKNOWN), .val (.ref w_UNKNOWN), .unset] []))
  refine own_go (fun t k => XS.iloadN X2.here hx rfl (hb hby at_39) rfl k) ?_
  show Go p.tables e below _ (T2.setTop (mkF m 40 #[.val (.int p1), .val (.int (2 : Int32)), .val (.int (0 : Int32)), .val (.ref w_UNKNOWN), .val (.ref w_UNKNOWN), .unset] [(.int (2 : Int32))]))
  refine own_go (fun t k => XS.iconst X2.here hx rfl (hb hby at_40) k) ?_
  show Go p.tables e below _ (T2.setTop (mkF m 41 #[.val (.int p1), .val (.int (2 : Int32)), .val (.int (0 : Int32)), .val (.ref w_UNKNOWN), .val (.ref w_UNKNOWN), .unset] [(.int (2 : Int32)), (.int (2 : Int32))]))
  refine own_go (fun t k => XS.icmpNo X2.here hx rfl (hb hby at_41) rfl (XT.ii_ne_f (by decide)) k) ?_
  show Go p.tables e below _ (T2.setTop (mkF m 44 #[.val (.int p1), .val (.int (2 : Int32)), .val (.int (0 : Int32)), .val (.ref w_UNKNOWN), .val (.ref w_UNKNOWN), .unset] []))
  obtain ⟨T3, X3, e3, st3⟩ := getS2 X2 hx hZ hown (host := "") (Or.inl (hw _ (List.mem_of_getElem? (i := 14) rfl))) Via.refl e2 S_UNKNOWN (g := (mkF m 44 #[.val (.int p1), .val (.int (2 : Int32)), .val (.int (0 : Int32)), .val (.ref w_UNKNOWN), .val (.ref w_UNKNOWN), .unset] [])) rfl (hb hby at_44)
  refine own_go (fun t k => st3 t k) ?_
  show Go p.tables e below _ (T3.setTop (mkF m 47 #[.val (.int p1), .val (.int (2 : Int32)), .val (.int (0 : Int32)), .val (.ref w_UNKNOWN), .val (.ref w_UNKNOWN), .unset] [(.ref w_UNKNOWN)]))
  refine own_go (fun t k => XS.goto X3.here hx rfl (pc0 := 47) (pc' := 62) rfl (hb hby at_47) (by decide) (by decide) k) ?_
  show Go p.tables e below _ (T3.setTop (mkF m 62 #[.val (.int p1), .val (.int (2 : Int32)), .val (.int (0 : Int32)), .val (.ref w_UNKNOWN), .val (.ref w_UNKNOWN), .unset] [(.ref w_UNKNOWN)]))
  refine own_go (fun t k => XS.astore X3.here hx rfl (hb hby at_62) rfl rfl (l' := #[.val (.int p1), .val (.int (2 : Int32)), .val (.int (0 : Int32)), .val (.ref w_UNKNOWN), .val (.ref w_UNKNOWN), .val (.ref w_UNKNOWN)]) rfl k) ?_
  show Go p.tables e below _ (T3.setTop (mkF m 64 #[.val (.int p1), .val (.int (2 : Int32)), .val (.int (0 : Int32)), .val (.ref w_UNKNOWN), .val (.ref w_UNKNOWN), .val (.ref w_UNKNOWN)] []))
  refine own_go (fun t k => XS.aload X3.here hx rfl (hb hby at_64) rfl rfl k) ?_
  show Go p.tables e below _ (T3.setTop (mkF m 66 #[.val (.int p1), .val (.int (2 : Int32)), .val (.int (0 : Int32)), .val (.ref w_UNKNOWN), .val (.ref w_UNKNOWN), .val (.ref w_UNKNOWN)] [(.ref w_UNKNOWN)]))
  refine own_go (fun t k => XS.aload X3.here hx rfl (hb hby at_66) rfl rfl k) ?_
  show Go p.tables e below _ (T3.setTop (mkF m 68 #[.val (.int p1), .val (.int (2 : Int32)), .val (.int (0 : Int32)), .val (.ref w_UNKNOWN), .val (.ref w_UNKNOWN), .val (.ref w_UNKNOWN)] [(.ref w_UNKNOWN), (.ref w_UNKNOWN)]))
  refine own_go (fun t k => XT.acmpYes X3.here hx rfl (pc0 := 68) (pc' := 73) rfl (hb hby at_68) rfl rfl rfl (XT.aa_eq_t (congrArg Value.ref rfl)) (by decide) (by decide) k) ?_
  show Go p.tables e below _ (T3.setTop (mkF m 73 #[.val (.int p1), .val (.int (2 : Int32)), .val (.int (0 : Int32)), .val (.ref w_UNKNOWN), .val (.ref w_UNKNOWN), .val (.ref w_UNKNOWN)] []))
  refine own_go (fun t k => XS.aload X3.here hx rfl (hb hby at_73) rfl rfl k) ?_
  show Go p.tables e below _ (T3.setTop (mkF m 75 #[.val (.int p1), .val (.int (2 : Int32)), .val (.int (0 : Int32)), .val (.ref w_UNKNOWN), .val (.ref w_UNKNOWN), .val (.ref w_UNKNOWN)] [(.ref w_UNKNOWN)]))
  obtain ⟨cq4, kq4, q4a, q4b, q4c⟩ := isOf hZ e3 E_UNKNOWN
  obtain ⟨v4, _, ⟨T4, L4, k4, n4⟩, -, X4, ⟨Lc4, hQ4, l4, y4, z4⟩, st4⟩ := X3.virtualBack hx (y := (⟨"com/example/deft_refine/deftrefine/prover/sequent/Evaluation$Value", "not", "()Lcom/example/deft_refine/deftrefine/prover/sequent/Evaluation$Value;"⟩ : MethodName)) (z := (⟨"com/example/deft_refine/deftrefine/prover/sequent/Evaluation$Value", "not", "()Lcom/example/deft_refine/deftrefine/prover/sequent/Evaluation$Value;"⟩ : MethodName)) hown (mvT hZ (hw _ (List.mem_of_getElem? (i := 7) rfl))) (mvT hZ (hw _ (List.mem_of_getElem? (i := 8) rfl))) (notFace_of_selects (args := #[]) (mvT hZ (hw _ (List.mem_of_getElem? (i := 10) rfl)))) (mvT hZ (hw _ (List.mem_of_getElem? (i := 10) rfl))) (mvT hZ (hw _ (List.mem_of_getElem? (i := 9) rfl))) (by decide) (backOf (W := 0) (rm_not l Z a0 hw [] w_UNKNOWN w_TRUE w_FALSE w_UNKNOWN h0 n0 SS) hZ (hw _ (List.mem_of_getElem? (i := 11) rfl)) (hw _ (List.mem_of_getElem? (i := 3) rfl)) (by decide) (by decide)) q4a q4c (g := (mkF m 75 #[.val (.int p1), .val (.int (2 : Int32)), .val (.int (0 : Int32)), .val (.ref w_UNKNOWN), .val (.ref w_UNKNOWN), .val (.ref w_UNKNOWN)] [(.ref w_UNKNOWN)])) rfl (by rw [hml]; rfl) (Steps.refl _) (argsL := []) (rest := []) (lenOf pd_1 rfl) rfl (by show 2 * 0 + _ ≤ _; exact Nat.le_of_eq rfl) (hb hby at_75) (fun _ _ => ⟨rfl, e3, (by decide : 0 + 0 ≤ _), (by decide : 0 + 0 ≤ _)⟩)
  dsimp only [Pt.U, Pt.locs, Pt.cells, Pt.slots] at X4 l4 y4 z4 st4 hQ4
  subst l4 y4 z4
  obtain ⟨hv4, N4q, e4⟩ := hQ4
  rw [show ((.ref (own_not w_TRUE w_FALSE w_UNKNOWN w_UNKNOWN)) : Value) = (.ref w_UNKNOWN) from by simp [own_not, nFT, nUT, nUF]] at hv4
  subst hv4
  have N4 := Fr.app N2 N4q
  refine own_go (fun t k => st4.trans k) ?_
  show Go p.tables e below _ (T4.setTop (mkF m 78 #[.val (.int p1), .val (.int (2 : Int32)), .val (.int (0 : Int32)), .val (.ref w_UNKNOWN), .val (.ref w_UNKNOWN), .val (.ref w_UNKNOWN)] [(.ref w_UNKNOWN)]))
  refine own_go (fun t k => XS.aloadN X4.here hx rfl (hb hby at_78) rfl rfl k) ?_
  show Go p.tables e below _ (T4.setTop (mkF m 79 #[.val (.int p1), .val (.int (2 : Int32)), .val (.int (0 : Int32)), .val (.ref w_UNKNOWN), .val (.ref w_UNKNOWN), .val (.ref w_UNKNOWN)] [(.ref w_UNKNOWN), (.ref w_UNKNOWN)]))
  refine own_go (fun t k => XT.acmpNo X4.here hx rfl (hb hby at_79) rfl rfl rfl (XT.aa_ne_f (congrArg Value.ref rfl)) k) ?_
  show Go p.tables e below _ (T4.setTop (mkF m 82 #[.val (.int p1), .val (.int (2 : Int32)), .val (.int (0 : Int32)), .val (.ref w_UNKNOWN), .val (.ref w_UNKNOWN), .val (.ref w_UNKNOWN)] []))
  refine own_go (fun t k => XS.iconst X4.here hx rfl (hb hby at_82) k) ?_
  show Go p.tables e below _ (T4.setTop (mkF m 83 #[.val (.int p1), .val (.int (2 : Int32)), .val (.int (0 : Int32)), .val (.ref w_UNKNOWN), .val (.ref w_UNKNOWN), .val (.ref w_UNKNOWN)] [(.int (1 : Int32))]))
  refine own_go (fun t k => XS.goto X4.here hx rfl (pc0 := 83) (pc' := 87) rfl (hb hby at_83) (by decide) (by decide) k) ?_
  show Go p.tables e below _ (T4.setTop (mkF m 87 #[.val (.int p1), .val (.int (2 : Int32)), .val (.int (0 : Int32)), .val (.ref w_UNKNOWN), .val (.ref w_UNKNOWN), .val (.ref w_UNKNOWN)] [(.int (1 : Int32))]))
  exact own_ret X4 hx hlk Bd.returns rfl (Or.inl ⟨rfl, Or.inr (Or.inl rfl), _, rfl⟩) (hb hby at_87) ⟨rfl, N4, e4⟩ (by decide) (by decide)
theorem own_cases (x : Int32) : (x &&& 2147483647) % 3 = 0 ∨ (x &&& 2147483647) % 3 = 1 ∨ (x &&& 2147483647) % 3 = 2 := by
  have h := own_mod x 3 (by decide)
  have h3 : (3 : Int32).toInt = 3 := rfl
  have c : ((x &&& 2147483647) % 3).toInt = 0 ∨ ((x &&& 2147483647) % 3).toInt = 1 ∨ ((x &&& 2147483647) % 3).toInt = 2 := by omega
  rcases c with c | c | c
  · exact Or.inl (Int32.toInt_inj.mp c)
  · exact Or.inr (Or.inl (Int32.toInt_inj.mp c))
  · exact Or.inr (Or.inr (Int32.toInt_inj.mp c))
set_option maxRecDepth 65536 in
theorem rm_law (l : Launch) (Z : State) (a0 : Array Value) (hw : ∀ d ∈ tables_1, d.before a0 Z = true) (ws : List Jvm.Cond) (p1 : Int32) (w_TRUE w_FALSE w_UNKNOWN : Addr) (h0 : Heap) (n0 : Nat) (SS : own_S Z h0 w_TRUE w_FALSE w_UNKNOWN) (EE : own_E Z h0 w_TRUE w_FALSE w_UNKNOWN) (OO : own_O Z h0 w_TRUE w_FALSE w_UNKNOWN) :
    MetFree l x (head1 (Jvm.Cond.code x code maxLocals ret :: ws) room_1) (fun aa U => aa = #[(.int p1)] ∧ Z.Warmed39 U.vm ∧ U.heap = h0) (fun _ _ _ _ _ => True) (fun _ U o U' => ∃ v L, o = .returned v ∧ PQ (.int 1) h0 n0 v U'.heap L ∧ FrameEnd U o U' L room_1.cells room_1.slots) := by
  rcases own_cases p1 with q1 | q1 | q1
  · exact rm_law_0 l Z a0 hw ws p1 w_TRUE w_FALSE w_UNKNOWN h0 n0 SS EE OO q1
  · exact rm_law_1 l Z a0 hw ws p1 w_TRUE w_FALSE w_UNKNOWN h0 n0 SS EE OO q1
  · exact rm_law_2 l Z a0 hw ws p1 w_TRUE w_FALSE w_UNKNOWN h0 n0 SS EE OO q1
set_option maxRecDepth 65536 in
set_option maxHeartbeats 40000000 in
theorem comes_1 {Post : Tables → Env → Array Value → State → Outcome → State → Prop} (hpost : ∀ tb e args s v u, (limb_1_1.after args s (.returned v) u = true ∧ limb_1_2.after args s (.returned v) u = true ∧ True) → FrameEnd s (.returned v) u (Jvm.fieldLocs frame_1_writes args s ++ Jvm.arrayLocs frame_1_arrays args s ++ Jvm.staticLocs frame_1_statics s) 0 0 → Post tb e args s (.returned v) u) :
    ArmFor flags0 classFile x code maxLocals ret World_1 tables_1 room_1 Calls_1 rest_1 Pre_1 Post := by
  intro l hfl _ _ p e ha hc hk s m args below hf hA hF happ hP
  obtain ⟨hcalls, hrest, hpre⟩ := hP
  obtain ⟨-, -, -, hnamed, -, -, -, hat⟩ := (Spec.applies_iff hf).mp happ
  obtain ⟨hg, hn⟩ := and_e (Cond.before_iff.mp (show (Jvm.Cond.and given_1 narrow_1).before args s = true from hpre))
  obtain ⟨gc, ga0⟩ := and_e hg
  have gi0 := ga0
  obtain ⟨w0, rfl⟩ : ∃ w0 : Value, args = #[w0] := by
    have hs : args.size = 1 := by simpa [Cond.value, given_1] using gc
    obtain ⟨L⟩ := args
    match L, hs with
    | [w0], _ => exact ⟨w0, rfl⟩
  have hw := fun d (hd : d ∈ tables_1) => atoms_spec (ws := Jvm.Cond.code x code maxLocals ret :: tables_1) hat d (List.mem_cons_of_mem _ hd)
  obtain ⟨i0, ei0⟩ := is_v gi0
  obtain rfl : w0 = (.int i0) := Option.some.inj ei0
  obtain ⟨c0, r0⟩ := and_e hn
  obtain ⟨c1, r1⟩ := and_e r0
  obtain ⟨c2, r2⟩ := and_e r1
  obtain ⟨c3, r3⟩ := and_e r2
  obtain ⟨c4, r4⟩ := and_e r3
  have c5 := r4
  obtain ⟨w_TRUE, ev_TRUE⟩ := exa_v c0
  have E_TRUE := Exa.start ev_TRUE c0
  have S_TRUE := Sta.start ev_TRUE (Or.inr ⟨(hw _ (List.mem_of_getElem? (i := 3) rfl)), (hw _ (List.mem_of_getElem? (i := 6) rfl))⟩)
  obtain ⟨w_FALSE, ev_FALSE⟩ := exa_v c1
  have E_FALSE := Exa.start ev_FALSE c1
  have S_FALSE := Sta.start ev_FALSE (Or.inr ⟨(hw _ (List.mem_of_getElem? (i := 3) rfl)), (hw _ (List.mem_of_getElem? (i := 13) rfl))⟩)
  obtain ⟨w_UNKNOWN, ev_UNKNOWN⟩ := exa_v c4
  have E_UNKNOWN := Exa.start ev_UNKNOWN c4
  have S_UNKNOWN := Sta.start ev_UNKNOWN (Or.inr ⟨(hw _ (List.mem_of_getElem? (i := 3) rfl)), (hw _ (List.mem_of_getElem? (i := 15) rfl))⟩)
  have F_FALSE_ordinal := own_fld ev_FALSE c2
  have F_TRUE_ordinal := own_fld ev_TRUE c3
  have F_UNKNOWN_ordinal := own_fld ev_UNKNOWN c5
  obtain ⟨n, o, h1, h2, h3, _, L, rfl, ⟨rfl, N, -⟩, hq⟩ := rm_law l s _ hw tables_1 i0 w_TRUE w_FALSE w_UNKNOWN s.heap s.heap.size ⟨S_TRUE, S_FALSE, S_UNKNOWN⟩ ⟨E_TRUE, E_FALSE, E_UNKNOWN⟩ ⟨F_FALSE_ordinal, F_TRUE_ordinal, F_UNKNOWN_ordinal⟩ p e ha hc hk s m _ below hf ((Spec.applies_iff_loose hf).mp happ).1 ⟨rfl, State.Warmed39.refl s, rfl⟩ trivial
  refine ⟨n, _, h1, h2, h3, hpost _ _ _ _ _ _ ⟨Cond.after_iff.mpr rfl, Cond.after_iff.mpr (eq_i res_at (Term.int_eval (1)) rfl), trivial⟩ ⟨hq.1, hq.2.1, (hq.2.2.sift fun y hy => Or.inr (N y hy)).mono (by decide) (by decide)⟩⟩
theorem main_1_1 : Claimed_1_1 := comes_1 fun _ _ _ _ _ _ h hF => ⟨h.1, hF⟩
theorem main_1_2 : Claimed_1_2 := comes_1 fun _ _ _ _ _ _ h hF => ⟨h.2.1, hF⟩
end Jvm.Pilot.@@N@@
namespace Jvm.Pilot.@@N@@
open Jvm Jvm.ClassFile Sem Op Lib Jvm.Free Jvm.Stand Jvm.Pilot.@@N@@.Jvm.D
/-! MADE BY PROGRAM (witnessworld.py) out of the Statement's table words and the real class files: 12 classes; the members and pool entries that the words name. The judged class is class 1, her method 1. -/
namespace start1
open Jvm.ClassFile
def u (s : String) : CpInfo := .utf8 (stringToUtf16 s)
/-- a pool by its gaps: so many unusable entries, then the entry; so many at the end -/
def gap : Nat → List CpInfo → List CpInfo
  | 0, r => r
  | n + 1, r => .unusable :: gap n r
def poolList (es : List (Nat × CpInfo)) (last : Nat) : List CpInfo := es.foldr (fun e r => gap e.1 (e.2 :: r)) (gap last [])
def pool (es : List (Nat × CpInfo)) (last : Nat) : Array CpInfo := ⟨poolList es last⟩
def fileOf (pool : Array CpInfo) (this : Nat) (attrs : Array Attribute := #[]) (ms : Array MethodInfo := #[]) (fl : Nat := 33) (sup : Nat := 0) (ifs : Array Nat := #[]) (fds : Array FieldInfo := #[]) : ClassFile where
  minorVersion := 0
  majorVersion := 65
  constantPool := pool
  accessFlags := fl
  thisClass := this
  superClass := sup
  interfaces := ifs
  fields := fds
  methods := ms
  attributes := attrs
def plain (name : String) (sup : Option ClassId) : Class where
  name := name
  kind := .ordinary
  loader := none
  accessFlags := 33
  super := sup
  interfaces := #[]
  cf := none
  fields := #[]
  methods := #[]
  instanceTypes := #[]
  staticTypes := #[]
  resolved := #[]
  callSites := []
  init := .initialized
  statics := none
  mirror := none

def pool0 : Array CpInfo := pool [(5, u "<init>"), (0, u "()V"), (1, .class_ 10), (1, u "java/lang/Object")] 113

def k0m0 : Method := { name := "<init>", desc := "()V", sig := { parameters := [], returnType := none }, accessFlags := 1, code := none }
/-- java/lang/Object -/
def k0 : Class := { plain "java/lang/Object" none with
  accessFlags := 33
  interfaces := #[]
  cf := some (fileOf pool0 8 #[] #[{ accessFlags := 1, nameIndex := 5, descriptorIndex := 6, attributes := #[] }] 33 0 #[] #[])
  fields := #[]
  methods := #[k0m0]
  instanceTypes := #[]
  staticTypes := #[]
  resolved := Array.replicate 124 none
  statics := none }

def pool1 : Array CpInfo := pool [(2, .class_ 4), (1, u "java/lang/Object"), (0, u "<init>"), (0, u "()V"), (0, .integer 2147483647), (0, .fieldref 9 10), (0, .class_ 11), (0, .nameAndType 12 13), (0, u "com/example/deft_refine/deftrefine/prover/sequent/Evaluation$Value"), (0, u "UNKNOWN"), (0, u "Lcom/example/deft_refine/deftrefine/prover/sequent/Evaluation$Value;"), (0, .methodref 9 15), (0, .nameAndType 16 17), (0, u "of"), (0, u "(Z)Lcom/example/deft_refine/deftrefine/prover/sequent/Evaluation$Value;"), (0, .methodref 9 19), (0, .nameAndType 20 21), (0, u "not"), (0, u "()Lcom/example/deft_refine/deftrefine/prover/sequent/Evaluation$Value;"), (0, .class_ 23), (0, u "com/example/deft_refine/deftrefine/prover/sequent/ValueNotPinLaw"), (2, u "law"), (0, u "(I)Z")] 7

def k1m0 : Method := { name := "<init>", desc := "()V", sig := { parameters := [], returnType := none }, accessFlags := 2, code := none }
def k1c1 : Code := { maxStack := 2, maxLocals := 6, code := code, exceptionTable := #[], attributes := #[] }
def k1m1 : Method := { name := "law", desc := "(I)Z", sig := { parameters := [.int], returnType := some .boolean }, accessFlags := 9, code := some k1c1 }
/-- com/example/deft_refine/deftrefine/prover/sequent/ValueNotPinLaw -/
def k1 : Class := { plain "com/example/deft_refine/deftrefine/prover/sequent/ValueNotPinLaw" (some 0) with
  accessFlags := 49
  interfaces := #[]
  cf := some (fileOf pool1 22 #[] #[{ accessFlags := 2, nameIndex := 5, descriptorIndex := 6, attributes := #[] }, { accessFlags := 9, nameIndex := 26, descriptorIndex := 27, attributes := #[] }] 49 2 #[] #[])
  fields := #[]
  methods := #[k1m0, k1m1]
  instanceTypes := #[]
  staticTypes := #[]
  resolved := Array.replicate 35 none
  statics := none }

def pool2 : Array CpInfo := pool [(1, .class_ 2), (0, u "java/lang/constant/Constable"), (0, .class_ 4), (0, u "java/lang/Object")] 6

/-- java/lang/constant/Constable -/
def k2 : Class := { plain "java/lang/constant/Constable" (some 0) with
  accessFlags := 1537
  interfaces := #[]
  cf := some (fileOf pool2 1 #[] #[] 1537 3 #[] #[])
  fields := #[]
  methods := #[]
  instanceTypes := #[]
  staticTypes := #[]
  resolved := Array.replicate 11 none
  statics := none }

def pool3 : Array CpInfo := pool [(1, .class_ 2), (0, u "java/lang/Comparable"), (0, .class_ 4), (0, u "java/lang/Object")] 7

/-- java/lang/Comparable -/
def k3 : Class := { plain "java/lang/Comparable" (some 0) with
  accessFlags := 1537
  interfaces := #[]
  cf := some (fileOf pool3 1 #[] #[] 1537 3 #[] #[])
  fields := #[]
  methods := #[]
  instanceTypes := #[]
  staticTypes := #[]
  resolved := Array.replicate 12 none
  statics := none }

def pool4 : Array CpInfo := pool [(1, .class_ 2), (0, u "java/io/Serializable"), (0, .class_ 4), (0, u "java/lang/Object")] 2

/-- java/io/Serializable -/
def k4 : Class := { plain "java/io/Serializable" (some 0) with
  accessFlags := 1537
  interfaces := #[]
  cf := some (fileOf pool4 1 #[] #[] 1537 3 #[] #[])
  fields := #[]
  methods := #[]
  instanceTypes := #[]
  staticTypes := #[]
  resolved := Array.replicate 7 none
  statics := none }

def pool5 : Array CpInfo := pool [(2, .class_ 4), (1, u "java/lang/Enum"), (0, u "name"), (0, u "Ljava/lang/String;"), (2, u "ordinal"), (0, u "I"), (1, .class_ 14), (1, u "java/lang/Object"), (4, u "hash"), (86, .class_ 108), (1, u "java/lang/Enum$EnumDesc"), (2, .class_ 112), (0, u "java/lang/constant/Constable"), (0, .class_ 114), (0, u "java/lang/Comparable"), (0, .class_ 116), (0, u "java/io/Serializable")] 87

/-- java/lang/Enum -/
def k5 : Class := { plain "java/lang/Enum" (some 0) with
  accessFlags := 1057
  interfaces := #[2, 3, 4]
  cf := some (fileOf pool5 2 #[.nestMembers #[106]] #[] 1057 12 #[111, 113, 115] #[{ accessFlags := 18, nameIndex := 5, descriptorIndex := 6, attributes := #[] }, { accessFlags := 18, nameIndex := 9, descriptorIndex := 10, attributes := #[] }, { accessFlags := 2, nameIndex := 19, descriptorIndex := 10, attributes := #[] }])
  fields := #[{ name := "name", type := (.object "java/lang/String"), accessFlags := 18, slot := 0, constantValue := 0 }, { name := "ordinal", type := .int, accessFlags := 18, slot := 1, constantValue := 0 }, { name := "hash", type := .int, accessFlags := 2, slot := 2, constantValue := 0 }]
  methods := #[]
  instanceTypes := #[(.object "java/lang/String"), .int, .int]
  staticTypes := #[]
  resolved := Array.replicate 204 none
  statics := none }

def pool6 : Array CpInfo := pool [(1, .class_ 2), (0, u "com/example/deft_refine/deftrefine/prover/sequent/Evaluation$Value"), (0, .fieldref 1 4), (0, .nameAndType 5 6), (0, u "TRUE"), (0, u "Lcom/example/deft_refine/deftrefine/prover/sequent/Evaluation$Value;"), (0, .fieldref 1 8), (0, .nameAndType 9 6), (0, u "FALSE"), (0, .fieldref 1 11), (0, .nameAndType 12 6), (0, u "UNKNOWN"), (2, u "$VALUES"), (0, u "[Lcom/example/deft_refine/deftrefine/prover/sequent/Evaluation$Value;"), (6, .class_ 25), (1, u "java/lang/Enum"), (21, u "not"), (0, u "()Lcom/example/deft_refine/deftrefine/prover/sequent/Evaluation$Value;"), (1, u "of"), (0, u "(Z)Lcom/example/deft_refine/deftrefine/prover/sequent/Evaluation$Value;"), (5, .class_ 58), (0, u "com/example/deft_refine/deftrefine/prover/sequent/Evaluation")] 2

def k6c0 : Code := { maxStack := 2, maxLocals := 2, code := prog_94_method_4_code, exceptionTable := #[], attributes := #[] }
def k6m0 : Method := { name := "not", desc := "()Lcom/example/deft_refine/deftrefine/prover/sequent/Evaluation$Value;", sig := { parameters := [], returnType := some (.object "com/example/deft_refine/deftrefine/prover/sequent/Evaluation$Value") }, accessFlags := 0, code := some k6c0 }
def k6c1 : Code := { maxStack := 1, maxLocals := 1, code := prog_94_method_5_code, exceptionTable := #[], attributes := #[] }
def k6m1 : Method := { name := "of", desc := "(Z)Lcom/example/deft_refine/deftrefine/prover/sequent/Evaluation$Value;", sig := { parameters := [.boolean], returnType := some (.object "com/example/deft_refine/deftrefine/prover/sequent/Evaluation$Value") }, accessFlags := 8, code := some k6c1 }
/-- com/example/deft_refine/deftrefine/prover/sequent/Evaluation$Value -/
def k6 : Class := { plain "com/example/deft_refine/deftrefine/prover/sequent/Evaluation$Value" (some 5) with
  accessFlags := 16432
  interfaces := #[]
  cf := some (fileOf pool6 1 #[.nestHost 57] #[{ accessFlags := 0, nameIndex := 47, descriptorIndex := 48, attributes := #[] }, { accessFlags := 8, nameIndex := 50, descriptorIndex := 51, attributes := #[] }] 16432 23 #[] #[{ accessFlags := 16409, nameIndex := 5, descriptorIndex := 6, attributes := #[] }, { accessFlags := 16409, nameIndex := 9, descriptorIndex := 6, attributes := #[] }, { accessFlags := 16409, nameIndex := 12, descriptorIndex := 6, attributes := #[] }, { accessFlags := 4122, nameIndex := 15, descriptorIndex := 16, attributes := #[] }])
  fields := #[{ name := "TRUE", type := (.object "com/example/deft_refine/deftrefine/prover/sequent/Evaluation$Value"), accessFlags := 16409, slot := 0, constantValue := 0 }, { name := "FALSE", type := (.object "com/example/deft_refine/deftrefine/prover/sequent/Evaluation$Value"), accessFlags := 16409, slot := 1, constantValue := 0 }, { name := "UNKNOWN", type := (.object "com/example/deft_refine/deftrefine/prover/sequent/Evaluation$Value"), accessFlags := 16409, slot := 2, constantValue := 0 }, { name := "$VALUES", type := (.array (.object "com/example/deft_refine/deftrefine/prover/sequent/Evaluation$Value")), accessFlags := 4122, slot := 3, constantValue := 0 }]
  methods := #[k6m0, k6m1]
  instanceTypes := #[(.object "java/lang/String"), .int, .int]
  staticTypes := #[(.object "com/example/deft_refine/deftrefine/prover/sequent/Evaluation$Value"), (.object "com/example/deft_refine/deftrefine/prover/sequent/Evaluation$Value"), (.object "com/example/deft_refine/deftrefine/prover/sequent/Evaluation$Value"), (.array (.object "com/example/deft_refine/deftrefine/prover/sequent/Evaluation$Value"))]
  resolved := Array.replicate 61 none
  statics := some 0 }

def pool7 : Array CpInfo := pool [(1, u "java/lang/Cloneable"), (0, .class_ 1), (0, u "java/lang/Object"), (0, .class_ 3)] 3

/-- java/lang/Cloneable -/
def k7 : Class := { plain "java/lang/Cloneable" (some 0) with
  accessFlags := 1537
  interfaces := #[]
  cf := some (fileOf pool7 2 #[] #[] 1537 4 #[] #[])
  fields := #[]
  methods := #[]
  instanceTypes := #[]
  staticTypes := #[]
  resolved := Array.replicate 8 none
  statics := none }

/-- the primitive byte -/
def k8 : Class := { plain "byte" none with kind := .primitive 'B', accessFlags := 0x411 }
/-- [B -/
def k9 : Class := { plain "[B" (some 0) with kind := .array 8 .byte, interfaces := #[7, 4], accessFlags := 1041 }

/-- the primitive int -/
def k10 : Class := { plain "int" none with kind := .primitive 'I', accessFlags := 0x411 }
/-- [I -/
def k11 : Class := { plain "[I" (some 0) with kind := .array 10 .int, interfaces := #[7, 4], accessFlags := 1041 }

def heap : Heap := #[{ cls := 6, slots := #[.ref 1, .ref 2, .ref 3, .null], vm := .statics 6 },
  { cls := 6, slots := #[.null, .int 0, .int 0], vm := .none },
  { cls := 6, slots := #[.null, .int 1, .int 0], vm := .none },
  { cls := 6, slots := #[.null, .int 2, .int 0], vm := .none }]
def classes : Array Class := #[k0, k1, k2, k3, k4, k5, k6, k7, k8, k9, k10, k11]
def interned : List (Array UInt16 × Addr) := []
def slotsUsed : Nat := 13
def theMethod : MethodId := ⟨1, 1⟩
def args0 : Array Value := #[.int 5]
def aboutOver (below : List Frame) : State where
  vm := { classes := classes, interned := interned.toArray }
  heap := heap
  slotsUsed := slotsUsed
  threads := #[{ frames := .invoking theMethod args0 :: below }]
def below0 : List Frame := [.native { method := ⟨0, 0⟩, args := #[] }]
def about1 : State := aboutOver below0
def p0 : Program := .bare "" "" ""
def e0 : Env := launch0.env 0 0 0
theorem w_frames : about1.frames = Frame.invoking theMethod args0 :: below0 := rfl
set_option maxRecDepth 65536 in
theorem w_args : argsFit about1.vm theMethod args0 = true := by decide +kernel
set_option maxRecDepth 65536 in
theorem w_heap : heapFits about1 = true := by decide +kernel
set_option maxRecDepth 65536 in
theorem w_runnable : about1.curStatus? = some .runnable := by decide +kernel
set_option maxRecDepth 65536 in
theorem w_alone : about1.alone = true := by decide +kernel
set_option maxRecDepth 65536 in
theorem w_named : about1.methodNamed? x = some theMethod := by decide +kernel
set_option maxRecDepth 65536 in
theorem w_hears : about1.hears theMethod below0 = true := by decide +kernel
set_option maxRecDepth 65536 in
theorem w_ripe : about1.ripe theMethod args0 below0 = true := by decide +kernel
theorem w_running : about1.status = .running := rfl
set_option maxRecDepth 65536 in
theorem w_room : about1.hasRoom e0.platform room_1 = true :=
  launch0.hasRoom_least _ room_1 (by decide +kernel) (by decide +kernel) (by decide +kernel) (by decide +kernel) (by decide +kernel) (by decide +kernel)
theorem allAtoms_all (ts : List Jvm.Cond) (a : Array Jvm.Value) (st : Jvm.State) : (allAtoms ts).before a st = ts.all (fun c => c.before a st) := by
  induction ts with
  | nil => rfl
  | cons c t ih =>
    show (Jvm.Cond.and c (allAtoms t)).before a st = _
    rw [Jvm.Cond.before_and, ih, List.all_cons]
def words1 : List Jvm.Cond := Jvm.Cond.code x code maxLocals ret :: tables_1
/-- a 'code' word, met by the world's own term for the bytes: nothing is compared byte by byte -/
theorem code_word {y : MethodName} {bytes : ByteArray} {mx : Nat} {rt : Option FieldType} {a : Array Value} {s : State} {m : MethodId} {meth : Method} {c : Code} (h1 : s.methodNamed? y = some m) (h2 : s.vm.method? m = some meth) (h3 : meth.code = some c) (h4 : c.code = bytes)
    (h5 : (c.maxLocals == mx && c.exceptionTable.isEmpty && decide (c.maxStack ≤ mostOperands) && decide (meth.sig.returnType = rt) && !meth.locks && decide (parseMethodDescriptor y.desc = some meth.sig)) = true) : (Jvm.Cond.code y bytes mx rt).before a s = true := by
  simp only [Bool.and_eq_true, beq_iff_eq, Bool.not_eq_true', decide_eq_true_eq] at h5
  obtain ⟨⟨⟨⟨⟨g1, g2⟩, g3⟩, g4⟩, g5⟩, g6⟩ := h5
  simp [Cond.before, Cond.holds, Cond.value, h1, h2, h3, h4, g1, g2, g3, g4, g5, g6]
def isCode : Jvm.Cond → Bool
  | .code _ _ _ _ => true
  | _ => false
theorem all_split {L : List Jvm.Cond} {P : Jvm.Cond → Bool} (h1 : L.all (fun c => isCode c || P c) = true) (h2 : ∀ c ∈ L.filter isCode, P c = true) : L.all P = true := by
  refine List.all_eq_true.mpr fun c hc => ?_
  have h := List.all_eq_true.mp h1 c hc
  rcases Bool.eq_false_or_eq_true (isCode c) with hi | hi
  · exact h2 c (List.mem_filter.mpr ⟨hc, hi⟩)
  · simpa [hi] using h
set_option maxRecDepth 65536 in
theorem w_c0 : (Jvm.Cond.code x code maxLocals ret).before args0 about1 = true := code_word (m := ⟨1, 1⟩) (meth := k1m1) (c := k1c1) (by decide +kernel) rfl rfl rfl (by decide +kernel)
set_option maxRecDepth 65536 in
theorem w_c1 : (Jvm.Cond.code ({ cls := "com/example/deft_refine/deftrefine/prover/sequent/Evaluation$Value", name := "of", desc := "(Z)Lcom/example/deft_refine/deftrefine/prover/sequent/Evaluation$Value;" } : Jvm.MethodName) prog_94_method_5_code (1 : Nat) (Option.some (Jvm.ClassFile.FieldType.object "com/example/deft_refine/deftrefine/prover/sequent/Evaluation$Value"))).before args0 about1 = true := code_word (m := ⟨6, 1⟩) (meth := k6m1) (c := k6c1) (by decide +kernel) rfl rfl rfl (by decide +kernel)
set_option maxRecDepth 65536 in
theorem w_c2 : (Jvm.Cond.code ({ cls := "com/example/deft_refine/deftrefine/prover/sequent/Evaluation$Value", name := "not", desc := "()Lcom/example/deft_refine/deftrefine/prover/sequent/Evaluation$Value;" } : Jvm.MethodName) prog_94_method_4_code (2 : Nat) (Option.some (Jvm.ClassFile.FieldType.object "com/example/deft_refine/deftrefine/prover/sequent/Evaluation$Value"))).before args0 about1 = true := code_word (m := ⟨6, 0⟩) (meth := k6m0) (c := k6c0) (by decide +kernel) rfl rfl rfl (by decide +kernel)
def codes1 : List Jvm.Cond := [Jvm.Cond.code x code maxLocals ret, Jvm.Cond.code ({ cls := "com/example/deft_refine/deftrefine/prover/sequent/Evaluation$Value", name := "of", desc := "(Z)Lcom/example/deft_refine/deftrefine/prover/sequent/Evaluation$Value;" } : Jvm.MethodName) prog_94_method_5_code (1 : Nat) (Option.some (Jvm.ClassFile.FieldType.object "com/example/deft_refine/deftrefine/prover/sequent/Evaluation$Value")), Jvm.Cond.code ({ cls := "com/example/deft_refine/deftrefine/prover/sequent/Evaluation$Value", name := "not", desc := "()Lcom/example/deft_refine/deftrefine/prover/sequent/Evaluation$Value;" } : Jvm.MethodName) prog_94_method_4_code (2 : Nat) (Option.some (Jvm.ClassFile.FieldType.object "com/example/deft_refine/deftrefine/prover/sequent/Evaluation$Value"))]
set_option maxRecDepth 65536 in
theorem codes_eq : words1.filter isCode = codes1 := rfl
theorem w_codes : ∀ c ∈ words1.filter isCode, c.before args0 about1 = true := by
  rw [codes_eq]
  intro c hc
  simp only [codes1, List.mem_cons, List.not_mem_nil, or_false] at hc
  rcases hc with rfl | rfl | rfl
  · exact w_c0
  · exact w_c1
  · exact w_c2
set_option maxRecDepth 65536 in
theorem w_t1 : words1.all (fun c => isCode c || c.before args0 about1) = true := by decide +kernel
theorem w_tables : (allAtoms (Jvm.Cond.code x code maxLocals ret :: tables_1)).before args0 about1 = true := by
  rw [allAtoms_all]
  show words1.all (fun c => c.before args0 about1) = true
  refine all_split ?_ w_codes
  rw [w_t1]
set_option maxRecDepth 65536 in
theorem w_case : (Jvm.Cond.and given_1 narrow_1).before args0 about1 = true := by decide +kernel
theorem w_applies : (headSpec (Jvm.Cond.code x code maxLocals ret :: tables_1) room_1).applies x e0.platform about1 = true :=
  (Spec.applies_iff w_frames).mpr ⟨w_running, w_runnable, w_alone, w_named, w_hears, w_ripe, w_room, w_tables⟩
theorem atStart : AtStart classFile x code maxLocals ret World_1 tables_1 room_1 Calls_1 rest_1 Pre_1 launch0 p0 e0 about1 theMethod args0 below0 :=
  ⟨lists_1, trivial, launch0.admits_env _ _ _, launch0.least_env, fairChoices_fair.cas, fairChoices_fair.clock, w_frames, w_args, w_heap, w_applies, trivial, trivial, w_case⟩
end start1
theorem witness_1 : WitnessClaimed_1 := ⟨start1.p0, start1.e0, start1.about1, start1.theMethod, start1.args0, start1.below0, start1.atStart⟩
end Jvm.Pilot.@@N@@
