import JvmDerived
import JvmDerived.Pilot.@@N@@Statement
import JvmDerived.Pilot.@@N@@Code
set_option linter.unusedVariables false
set_option linter.unusedSimpArgs false
namespace Jvm.Pilot.@@N@@
open Jvm Jvm.ClassFile Sem Op Lib Jvm.Free Jvm.Stand Jvm.LawKit Jvm.RoadKit Bundle Jvm.Pilot.@@N@@.Jvm.D
def Go (tb : Tables) (e : Env) (below : List Frame) (P : State → Outcome → Prop) (T : State) : Prop := ∃ s₂ o, Steps tb e below T s₂ ∧ P s₂ o
theorem own_go {tb : Tables} {e : Env} {below : List Frame} {P : State → Outcome → Prop} {T T' : State} (h : ∀ t, Steps tb e below T' t → Steps tb e below T t) (k : Go tb e below P T') : Go tb e below P T := by
  obtain ⟨a, b, c, d⟩ := k
  exact ⟨a, b, h a c, d⟩
def Fin (s : State) (below : List Frame) (Q : Option Value → Heap → List Loc → Prop) (cc ss : Nat) (s₂ : State) (o : Outcome) : Prop := s₂.status = .running ∧ Ended s₂ below o ∧ ∃ v L, o = .returned v ∧ Q v s₂.heap L ∧ FrameEnd s o s₂ L cc ss
def PQ (w : Value) (h0 : Heap) (n0 : Nat) (v : Option Value) (h : Heap) (L : List Loc) : Prop := v = some w ∧ Fr n0 L ∧ h = h0
theorem own_ret {p : Program} {l : Launch} {e : Env} {R : Room} {s : State} {m : MethodId} {args : Array Value} {below : List Frame} {meth : Method} {c : Code} {T : State} {locs : List Loc} {cells slots : Nat} (X : Stand p l e R s m args below meth c T locs cells slots) (hx : p.tables.exec = Jvm.exec) (hlk : meth.locks = false)
    {pc : Nat} {Ls : Array Slot} {w : Value} {t : FieldType} {i : Instr} {rest : List Value} (hret : meth.sig.returnType = some t) (hn : narrow t w = w)
    (hi : (i = .ireturn ∧ (t = .int ∨ t = .boolean ∨ t = .byte ∨ t = .char ∨ t = .short) ∧ ∃ z, w = .int z) ∨ (i = .lreturn ∧ t = .long ∧ ∃ z, w = .long z) ∨ (i = .dreturn ∧ t = .double ∧ ∃ z, w = .double z) ∨ (i = .freturn ∧ t = .float ∧ ∃ z, w = .float z) ∨ (i = .areturn ∧ t.isReference = true ∧ w.isRef = true))
    (hd : decode c.code pc = .ok (i, 1)) {Q : Option Value → Heap → List Loc → Prop} (hQ : Q (some w) T.heap locs) {cc ss : Nat} (hc : cells ≤ cc) (hs : slots ≤ ss) :
    Go p.tables e below (Fin s below Q cc ss) (T.setTop (mkF m pc Ls (w :: rest))) := by
  obtain ⟨fs, hr, hrun, hended, hW, hsame⟩ := X.leave (v := some w) (fun h => by rw [hret] at h; cases h) hlk
  exact ⟨_, _, retOut X hx hret hn hi hd hr, hrun, hended, _, _, rfl, hQ, ⟨_, rfl⟩, hW, hsame.mono hc hs⟩
theorem own_fld {Z : State} {args : Array Value} {t : Term} {a : Addr} {C n d : String} {k : Int32} (ev : t.eval args Z none [] Z = some (.ref a)) (h : (Jvm.Cond.eq (.field t C n d) (.int k)).value args Z none Z [] = some true) : Fld Z Z.heap a C n d (.int k) := by
  have e1 : (Term.field t C n d).eval args Z none [] Z = Z.fieldOf? a C n d := fld_at ev
  obtain ⟨x, y, h1, h2, h3, h4⟩ := cmp_v (Or.inl h)
  have e2 : (Term.int k).eval args Z none [] Z = some (.int k) := Term.int_eval k
  cases e2.symm.trans h2
  obtain ⟨z, rfl⟩ := h4
  have q := gotT (u := (Jvm.Cond.eq (.field t C n d) (.int k)).value args Z none Z []) (P := z = k) (by simp [Cond.value, h1, e2]) h
  subst q
  exact Fld.start (e1 ▸ h1)
theorem own_ne {Z : State} {h : Heap} {a b : Addr} {C n d : String} {v w : Value} (F : Fld Z h a C n d v) (G : Fld Z h b C n d w) (hn : v ≠ w) : a ≠ b := by
  rintro rfl
  obtain ⟨c1, cf1, k1, i1, f1, a1, a2, a3, a4, a5, a6, a7⟩ := F
  obtain ⟨c2, cf2, k2, i2, f2, b1, b2, b3, b4, b5, b6, b7⟩ := G
  cases a1.symm.trans b1
  cases a2.symm.trans b2
  exact hn (Option.some.inj (a7.symm.trans b7))
def own_S (Z : State) (h0 : Heap) (w_FALSE w_TRUE w_UNKNOWN : Addr) : Prop := Sta Z h0 "com/example/deft_refine/deftrefine/prover/sequent/Evaluation$Value" "FALSE" "Lcom/example/deft_refine/deftrefine/prover/sequent/Evaluation$Value;" (.ref w_FALSE) ∧ Sta Z h0 "com/example/deft_refine/deftrefine/prover/sequent/Evaluation$Value" "TRUE" "Lcom/example/deft_refine/deftrefine/prover/sequent/Evaluation$Value;" (.ref w_TRUE) ∧ Sta Z h0 "com/example/deft_refine/deftrefine/prover/sequent/Evaluation$Value" "UNKNOWN" "Lcom/example/deft_refine/deftrefine/prover/sequent/Evaluation$Value;" (.ref w_UNKNOWN)
def own_E (Z : State) (h0 : Heap) (w_FALSE w_TRUE w_UNKNOWN : Addr) : Prop := Exa Z h0 w_FALSE "com/example/deft_refine/deftrefine/prover/sequent/Evaluation$Value" ∧ Exa Z h0 w_TRUE "com/example/deft_refine/deftrefine/prover/sequent/Evaluation$Value" ∧ Exa Z h0 w_UNKNOWN "com/example/deft_refine/deftrefine/prover/sequent/Evaluation$Value"
def own_O (Z : State) (h0 : Heap) (w_FALSE w_TRUE w_UNKNOWN : Addr) : Prop := Fld Z h0 w_FALSE "java/lang/Enum" "ordinal" "I" (.int 1) ∧ Fld Z h0 w_TRUE "java/lang/Enum" "ordinal" "I" (.int 0) ∧ Fld Z h0 w_UNKNOWN "java/lang/Enum" "ordinal" "I" (.int 2)
def own_of (wT wF : Addr) (b : Int32) : Addr := if b = 0 then wF else wT
theorem d1_0 : decode prog_94_method_5_code 0 = .ok (.iload_n 0, 1) := by decide +kernel
theorem d1_1 : decode prog_94_method_5_code 1 = .ok (.ifCond .eq 9, 3) := by decide +kernel
theorem d1_4 : decode prog_94_method_5_code 4 = .ok (.getstatic 3, 3) := by decide +kernel
theorem d1_7 : decode prog_94_method_5_code 7 = .ok (.goto 6, 3) := by decide +kernel
theorem d1_10 : decode prog_94_method_5_code 10 = .ok (.getstatic 7, 3) := by decide +kernel
theorem d1_13 : decode prog_94_method_5_code 13 = .ok (.areturn, 1) := by decide +kernel
theorem pn_0 : plainName "com/example/deft_refine/deftrefine/prover/sequent/Evaluation$Value" = true := by first | (simp [plainName, overriddenIn]; done) | decide +kernel
theorem ef_rm_of (m : MethodId) (x0 : Int32) : entryFrame m #[(.int x0)] 1 = mkF m 0 #[.val (.int x0)] [] := by first | (simp [entryFrame, mkF, argsToLocals, Value.category]; done) | rfl
set_option maxRecDepth 65536 in
set_option maxHeartbeats 40000000 in
theorem rm_of (l : Launch) (Z : State) (a0 : Array Value) (hw : ∀ d ∈ tables_1, d.before a0 Z = true) (ws : List Jvm.Cond) (b : Int32) (w_FALSE w_TRUE w_UNKNOWN : Addr) (h0 : Heap) (n0 : Nat) (SS : own_S Z h0 w_FALSE w_TRUE w_UNKNOWN) :
    MetFree l (⟨"com/example/deft_refine/deftrefine/prover/sequent/Evaluation$Value", "of", "(Z)Lcom/example/deft_refine/deftrefine/prover/sequent/Evaluation$Value;"⟩ : MethodName) (head1 (Jvm.Cond.code (⟨"com/example/deft_refine/deftrefine/prover/sequent/Evaluation$Value", "of", "(Z)Lcom/example/deft_refine/deftrefine/prover/sequent/Evaluation$Value;"⟩ : MethodName) prog_94_method_5_code 1 (some (.object "com/example/deft_refine/deftrefine/prover/sequent/Evaluation$Value")) :: ws) ({ frames := 0, cells := 0, slots := 0, locals := 0 } : Room)) (fun aa U => aa = #[(.int b)] ∧ Z.Warmed39 U.vm ∧ U.heap = h0) (fun _ _ _ _ _ => True) (fun _ U o U' => ∃ v L, o = .returned v ∧ PQ (.ref (own_of w_TRUE w_FALSE b)) h0 n0 v U'.heap L ∧ FrameEnd U o U' L ({ frames := 0, cells := 0, slots := 0, locals := 0 } : Room).cells ({ frames := 0, cells := 0, slots := 0, locals := 0 } : Room).slots) := by
  refine MetFree.of_bodySF (plainFor_of_name pn_0) hisR ?_
  intro p e s m args below meth c s₁ Bd hml0 hP hK
  obtain ⟨rfl, hZ, hh⟩ := hP
  have hx := Bd.exec
  have hby := Bd.bytes
  have hlk := Bd.notSynchronized
  have hml : c.maxLocals = 1 := hml0
  have hown : s.vm.findClass "com/example/deft_refine/deftrefine/prover/sequent/Evaluation$Value" = some m.cls := findClass_of_methodNamed Bd.named
  have X0 : Stand p l e ({ frames := 0, cells := 0, slots := 0, locals := 0 } : Room) s m #[(.int b)] below meth c s₁ [] 0 0 := Stand.of_body Bd
  have e0 : s₁.heap = h0 := by rw [← hh, Bd.state]; rfl
  have N0 := Fr.nil n0
  obtain ⟨S_FALSE, S_TRUE, S_UNKNOWN⟩ := SS
  show Go p.tables e below (Fin s below (PQ (.ref (own_of w_TRUE w_FALSE b)) h0 n0) ({ frames := 0, cells := 0, slots := 0, locals := 0 } : Room).cells ({ frames := 0, cells := 0, slots := 0, locals := 0 } : Room).slots) (s₁.setTop (entryFrame m #[(.int b)] 1))
  refine own_go (fun t k => castTop (ef_rm_of m b) k) ?_
  show Go p.tables e below _ (s₁.setTop (mkF m 0 #[.val (.int b)] []))
  refine own_go (fun t k => XS.iloadN X0.here hx rfl (hb hby d1_0) rfl k) ?_
  show Go p.tables e below _ (s₁.setTop (mkF m 1 #[.val (.int b)] [(.int b)]))
  by_cases hc1 : b = 0
  · refine own_go (fun t k => XS.ifYes X0.here hx rfl (pc0 := 1) (pc' := 10) rfl (hb hby d1_1) rfl (XT.i0_eq_t hc1) (by decide) (by decide) k) ?_
    show Go p.tables e below _ (s₁.setTop (mkF m 10 #[.val (.int b)] []))
    obtain ⟨T2, X2, e2, st2⟩ := getS2 X0 hx hZ hown (host := "") (Or.inl (hw _ (List.mem_of_getElem? (i := 4) rfl))) Via.refl e0 S_FALSE (g := (mkF m 10 #[.val (.int b)] [])) rfl (hb hby d1_10)
    refine own_go (fun t k => st2 t k) ?_
    show Go p.tables e below _ (T2.setTop (mkF m 13 #[.val (.int b)] [(.ref w_FALSE)]))
    exact own_ret X2 hx hlk Bd.returns rfl (Or.inr (Or.inr (Or.inr (Or.inr ⟨rfl, rfl, rfl⟩)))) (hb hby d1_13) ⟨by simp [own_of, hc1], N0, e2⟩ (by decide) (by decide)
  · refine own_go (fun t k => XS.ifNo X0.here hx rfl (hb hby d1_1) rfl (XT.i0_eq_f hc1) k) ?_
    show Go p.tables e below _ (s₁.setTop (mkF m 4 #[.val (.int b)] []))
    obtain ⟨T3, X3, e3, st3⟩ := getS2 X0 hx hZ hown (host := "") (Or.inl (hw _ (List.mem_of_getElem? (i := 11) rfl))) Via.refl e0 S_TRUE (g := (mkF m 4 #[.val (.int b)] [])) rfl (hb hby d1_4)
    refine own_go (fun t k => st3 t k) ?_
    show Go p.tables e below _ (T3.setTop (mkF m 7 #[.val (.int b)] [(.ref w_TRUE)]))
    refine own_go (fun t k => XS.goto X3.here hx rfl (pc0 := 7) (pc' := 13) rfl (hb hby d1_7) (by decide) (by decide) k) ?_
    show Go p.tables e below _ (T3.setTop (mkF m 13 #[.val (.int b)] [(.ref w_TRUE)]))
    exact own_ret X3 hx hlk Bd.returns rfl (Or.inr (Or.inr (Or.inr (Or.inr ⟨rfl, rfl, rfl⟩)))) (hb hby d1_13) ⟨by simp [own_of, hc1], N0, e3⟩ (by decide) (by decide)
theorem pd_0 : parseMethodDescriptor "(Z)Lcom/example/deft_refine/deftrefine/prover/sequent/Evaluation$Value;" = some ⟨[.boolean], some (.object "com/example/deft_refine/deftrefine/prover/sequent/Evaluation$Value")⟩ := by decide +kernel
theorem pn_1 : plainName "com/example/deft_refine/deftrefine/prover/sequent/ValueOfPinLaw" = true := by first | (simp [plainName, overriddenIn]; done) | decide +kernel
theorem ef_rm_law (m : MethodId) (x0 : Int32) : entryFrame m #[(.int x0)] maxLocals = mkF m 0 #[.val (.int x0), .unset, .unset, .unset, .unset, .unset] [] := by first | (simp [entryFrame, mkF, argsToLocals, Value.category, maxLocals]; done) | rfl
set_option maxRecDepth 65536 in
set_option maxHeartbeats 40000000 in
theorem rm_law (l : Launch) (Z : State) (a0 : Array Value) (hw : ∀ d ∈ tables_1, d.before a0 Z = true) (ws : List Jvm.Cond) (p1 : Int32) (w_FALSE w_TRUE w_UNKNOWN : Addr) (h0 : Heap) (n0 : Nat) (SS : own_S Z h0 w_FALSE w_TRUE w_UNKNOWN) (EE : own_E Z h0 w_FALSE w_TRUE w_UNKNOWN) (OO : own_O Z h0 w_FALSE w_TRUE w_UNKNOWN) :
    MetFree l x (head1 (Jvm.Cond.code x code maxLocals ret :: ws) room_1) (fun aa U => aa = #[(.int p1)] ∧ Z.Warmed39 U.vm ∧ U.heap = h0) (fun _ _ _ _ _ => True) (fun _ U o U' => ∃ v L, o = .returned v ∧ PQ (.int 1) h0 n0 v U'.heap L ∧ FrameEnd U o U' L room_1.cells room_1.slots) := by
  refine MetFree.of_bodySF (plainFor_of_name pn_1) hisR ?_
  intro p e s m args below meth c s₁ Bd hml0 hP hK
  obtain ⟨rfl, hZ, hh⟩ := hP
  have hx := Bd.exec
  have hby := Bd.bytes
  have hlk := Bd.notSynchronized
  have hml : c.maxLocals = 6 := hml0
  have hown : s.vm.findClass "com/example/deft_refine/deftrefine/prover/sequent/ValueOfPinLaw" = some m.cls := findClass_of_methodNamed Bd.named
  have X0 : Stand p l e room_1 s m #[(.int p1)] below meth c s₁ [] 0 0 := Stand.of_body Bd
  have e0 : s₁.heap = h0 := by rw [← hh, Bd.state]; rfl
  have N0 := Fr.nil n0
  have SS' := SS
  obtain ⟨S_FALSE, S_TRUE, S_UNKNOWN⟩ := SS'
  obtain ⟨E_FALSE, E_TRUE, E_UNKNOWN⟩ := EE
  obtain ⟨F_FALSE_ordinal, F_TRUE_ordinal, F_UNKNOWN_ordinal⟩ := OO
  show Go p.tables e below (Fin s below (PQ (.int 1) h0 n0) room_1.cells room_1.slots) (s₁.setTop (entryFrame m #[(.int p1)] maxLocals))
  refine own_go (fun t k => castTop (ef_rm_law m p1) k) ?_
  show Go p.tables e below _ (s₁.setTop (mkF m 0 #[.val (.int p1), .unset, .unset, .unset, .unset, .unset] []))
  refine own_go (fun t k => XS.iloadN X0.here hx rfl (hb hby at_0) rfl k) ?_
  show Go p.tables e below _ (s₁.setTop (mkF m 1 #[.val (.int p1), .unset, .unset, .unset, .unset, .unset] [(.int p1)]))
  refine own_go (fun t k => XS.iconst X0.here hx rfl (hb hby at_1) k) ?_
  show Go p.tables e below _ (s₁.setTop (mkF m 2 #[.val (.int p1), .unset, .unset, .unset, .unset, .unset] [(.int (1 : Int32)), (.int p1)]))
  refine own_go (fun t k => XS.iand X0.here hx rfl (hb hby at_2) rfl k) ?_
  show Go p.tables e below _ (s₁.setTop (mkF m 3 #[.val (.int p1), .unset, .unset, .unset, .unset, .unset] [(.int (p1 &&& (1 : Int32)))]))
  by_cases hc1 : (p1 &&& (1 : Int32)) = 0
  · refine own_go (fun t k => XS.ifYes X0.here hx rfl (pc0 := 3) (pc' := 10) rfl (hb hby at_3) rfl (XT.i0_eq_t hc1) (by decide) (by decide) k) ?_
    show Go p.tables e below _ (s₁.setTop (mkF m 10 #[.val (.int p1), .unset, .unset, .unset, .unset, .unset] []))
    refine own_go (fun t k => XS.iconst X0.here hx rfl (hb hby at_10) k) ?_
    show Go p.tables e below _ (s₁.setTop (mkF m 11 #[.val (.int p1), .unset, .unset, .unset, .unset, .unset] [(.int (0 : Int32))]))
    refine own_go (fun t k => XS.istoreN X0.here hx rfl (hb hby at_11) rfl (l' := #[.val (.int p1), .val (.int (0 : Int32)), .unset, .unset, .unset, .unset]) rfl k) ?_
    show Go p.tables e below _ (s₁.setTop (mkF m 12 #[.val (.int p1), .val (.int (0 : Int32)), .unset, .unset, .unset, .unset] []))
    refine own_go (fun t k => XS.iloadN X0.here hx rfl (hb hby at_12) rfl k) ?_
    show Go p.tables e below _ (s₁.setTop (mkF m 13 #[.val (.int p1), .val (.int (0 : Int32)), .unset, .unset, .unset, .unset] [(.int (0 : Int32))]))
    obtain ⟨v2, _, ⟨T2, L2, k2, n2⟩, -, X2, ⟨Lc2, hQ2, l2, y2, z2⟩, st2⟩ := Jvm.LawKit.callS X0 hx (y := (⟨"com/example/deft_refine/deftrefine/prover/sequent/Evaluation$Value", "of", "(Z)Lcom/example/deft_refine/deftrefine/prover/sequent/Evaluation$Value;"⟩ : MethodName)) hown (mvT hZ (hw _ (List.mem_of_getElem? (i := 0) rfl))) (mvT hZ (hw _ (List.mem_of_getElem? (i := 1) rfl))) (mvT hZ (hw _ (List.mem_of_getElem? (i := 2) rfl))) (mvT hZ (hw _ (List.mem_of_getElem? (i := 3) rfl))) (by decide) (backOf (W := 0) (rm_of l Z a0 hw [] (0 : Int32) w_FALSE w_TRUE w_UNKNOWN h0 n0 SS) hZ (hw _ (List.mem_of_getElem? (i := 3) rfl)) (hw _ (List.mem_of_getElem? (i := 2) rfl)) (by decide) (by decide)) (g := (mkF m 13 #[.val (.int p1), .val (.int (0 : Int32)), .unset, .unset, .unset, .unset] [(.int (0 : Int32))])) rfl (by rw [hml]; rfl) (argsL := [(.int (0 : Int32))]) (rest := []) (lenOf pd_0 rfl) rfl (by show 2 * 0 + _ ≤ _; exact Nat.le_of_eq rfl) (hb hby at_13) (fun _ _ => ⟨rfl, e0, (by decide : 0 + 0 ≤ _), (by decide : 0 + 0 ≤ _)⟩)
    dsimp only [Pt.U, Pt.locs, Pt.cells, Pt.slots] at X2 l2 y2 z2 st2 hQ2
    subst l2 y2 z2
    obtain ⟨hv2, N2q, e2⟩ := hQ2
    rw [show ((.ref (own_of w_TRUE w_FALSE (0 : Int32))) : Value) = (.ref w_FALSE) from by simp [own_of]] at hv2
    subst hv2
    have N2 := Fr.app N0 N2q
    refine own_go (fun t k => st2 t k) ?_
    show Go p.tables e below _ (T2.setTop (mkF m 16 #[.val (.int p1), .val (.int (0 : Int32)), .unset, .unset, .unset, .unset] [(.ref w_FALSE)]))
    refine own_go (fun t k => XS.astoreN X2.here hx rfl (hb hby at_16) rfl rfl (l' := #[.val (.int p1), .val (.int (0 : Int32)), .val (.ref w_FALSE), .unset, .unset, .unset]) rfl k) ?_
    show Go p.tables e below _ (T2.setTop (mkF m 17 #[.val (.int p1), .val (.int (0 : Int32)), .val (.ref w_FALSE), .unset, .unset, .unset] []))
    refine own_go (fun t k => XS.aloadN X2.here hx rfl (hb hby at_17) rfl rfl k) ?_
    show Go p.tables e below _ (T2.setTop (mkF m 18 #[.val (.int p1), .val (.int (0 : Int32)), .val (.ref w_FALSE), .unset, .unset, .unset] [(.ref w_FALSE)]))
    obtain ⟨T3, X3, e3, st3⟩ := getS2 X2 hx hZ hown (host := "") (Or.inl (hw _ (List.mem_of_getElem? (i := 6) rfl))) Via.refl e2 S_TRUE (g := (mkF m 18 #[.val (.int p1), .val (.int (0 : Int32)), .val (.ref w_FALSE), .unset, .unset, .unset] [(.ref w_FALSE)])) rfl (hb hby at_18)
    refine own_go (fun t k => st3 t k) ?_
    show Go p.tables e below _ (T3.setTop (mkF m 21 #[.val (.int p1), .val (.int (0 : Int32)), .val (.ref w_FALSE), .unset, .unset, .unset] [(.ref w_TRUE), (.ref w_FALSE)]))
    refine own_go (fun t k => XT.acmpYes X3.here hx rfl (pc0 := 21) (pc' := 28) rfl (hb hby at_21) rfl rfl rfl (XT.aa_ne_t (fun q => (own_ne F_FALSE_ordinal F_TRUE_ordinal (by decide)) (Value.ref.inj q))) (by decide) (by decide) k) ?_
    show Go p.tables e below _ (T3.setTop (mkF m 28 #[.val (.int p1), .val (.int (0 : Int32)), .val (.ref w_FALSE), .unset, .unset, .unset] []))
    refine own_go (fun t k => XS.iconst X3.here hx rfl (hb hby at_28) k) ?_
    show Go p.tables e below _ (T3.setTop (mkF m 29 #[.val (.int p1), .val (.int (0 : Int32)), .val (.ref w_FALSE), .unset, .unset, .unset] [(.int (0 : Int32))]))
    refine own_go (fun t k => XS.iloadN X3.here hx rfl (hb hby at_29) rfl k) ?_
    show Go p.tables e below _ (T3.setTop (mkF m 30 #[.val (.int p1), .val (.int (0 : Int32)), .val (.ref w_FALSE), .unset, .unset, .unset] [(.int (0 : Int32)), (.int (0 : Int32))]))
    refine own_go (fun t k => XS.icmpNo X3.here hx rfl (hb hby at_30) rfl (XT.ii_ne_f (by decide)) k) ?_
    show Go p.tables e below _ (T3.setTop (mkF m 33 #[.val (.int p1), .val (.int (0 : Int32)), .val (.ref w_FALSE), .unset, .unset, .unset] []))
    refine own_go (fun t k => XS.iconst X3.here hx rfl (hb hby at_33) k) ?_
    show Go p.tables e below _ (T3.setTop (mkF m 34 #[.val (.int p1), .val (.int (0 : Int32)), .val (.ref w_FALSE), .unset, .unset, .unset] [(.int (1 : Int32))]))
    refine own_go (fun t k => XS.goto X3.here hx rfl (pc0 := 34) (pc' := 38) rfl (hb hby at_34) (by decide) (by decide) k) ?_
    show Go p.tables e below _ (T3.setTop (mkF m 38 #[.val (.int p1), .val (.int (0 : Int32)), .val (.ref w_FALSE), .unset, .unset, .unset] [(.int (1 : Int32))]))
    refine own_go (fun t k => XS.istoreN X3.here hx rfl (hb hby at_38) rfl (l' := #[.val (.int p1), .val (.int (0 : Int32)), .val (.ref w_FALSE), .val (.int (1 : Int32)), .unset, .unset]) rfl k) ?_
    show Go p.tables e below _ (T3.setTop (mkF m 39 #[.val (.int p1), .val (.int (0 : Int32)), .val (.ref w_FALSE), .val (.int (1 : Int32)), .unset, .unset] []))
    refine own_go (fun t k => XS.aloadN X3.here hx rfl (hb hby at_39) rfl rfl k) ?_
    show Go p.tables e below _ (T3.setTop (mkF m 40 #[.val (.int p1), .val (.int (0 : Int32)), .val (.ref w_FALSE), .val (.int (1 : Int32)), .unset, .unset] [(.ref w_FALSE)]))
    obtain ⟨T4, X4, e4, st4⟩ := getS2 X3 hx hZ hown (host := "") (Or.inl (hw _ (List.mem_of_getElem? (i := 8) rfl))) Via.refl e3 S_FALSE (g := (mkF m 40 #[.val (.int p1), .val (.int (0 : Int32)), .val (.ref w_FALSE), .val (.int (1 : Int32)), .unset, .unset] [(.ref w_FALSE)])) rfl (hb hby at_40)
    refine own_go (fun t k => st4 t k) ?_
    show Go p.tables e below _ (T4.setTop (mkF m 43 #[.val (.int p1), .val (.int (0 : Int32)), .val (.ref w_FALSE), .val (.int (1 : Int32)), .unset, .unset] [(.ref w_FALSE), (.ref w_FALSE)]))
    refine own_go (fun t k => XT.acmpNo X4.here hx rfl (hb hby at_43) rfl rfl rfl (XT.aa_ne_f (congrArg Value.ref rfl)) k) ?_
    show Go p.tables e below _ (T4.setTop (mkF m 46 #[.val (.int p1), .val (.int (0 : Int32)), .val (.ref w_FALSE), .val (.int (1 : Int32)), .unset, .unset] []))
    refine own_go (fun t k => XS.iconst X4.here hx rfl (hb hby at_46) k) ?_
    show Go p.tables e below _ (T4.setTop (mkF m 47 #[.val (.int p1), .val (.int (0 : Int32)), .val (.ref w_FALSE), .val (.int (1 : Int32)), .unset, .unset] [(.int (1 : Int32))]))
    refine own_go (fun t k => XS.goto X4.here hx rfl (pc0 := 47) (pc' := 51) rfl (hb hby at_47) (by decide) (by decide) k) ?_
    show Go p.tables e below _ (T4.setTop (mkF m 51 #[.val (.int p1), .val (.int (0 : Int32)), .val (.ref w_FALSE), .val (.int (1 : Int32)), .unset, .unset] [(.int (1 : Int32))]))
    refine own_go (fun t k => XS.iloadN X4.here hx rfl (hb hby at_51) rfl k) ?_
    show Go p.tables e below _ (T4.setTop (mkF m 52 #[.val (.int p1), .val (.int (0 : Int32)), .val (.ref w_FALSE), .val (.int (1 : Int32)), .unset, .unset] [(.int (0 : Int32)), (.int (1 : Int32))]))
    refine own_go (fun t k => XS.ifNo X4.here hx rfl (hb hby at_52) rfl (XT.i0_ne_f (by decide)) k) ?_
    show Go p.tables e below _ (T4.setTop (mkF m 55 #[.val (.int p1), .val (.int (0 : Int32)), .val (.ref w_FALSE), .val (.int (1 : Int32)), .unset, .unset] [(.int (1 : Int32))]))
    refine own_go (fun t k => XS.iconst X4.here hx rfl (hb hby at_55) k) ?_
    show Go p.tables e below _ (T4.setTop (mkF m 56 #[.val (.int p1), .val (.int (0 : Int32)), .val (.ref w_FALSE), .val (.int (1 : Int32)), .unset, .unset] [(.int (1 : Int32)), (.int (1 : Int32))]))
    refine own_go (fun t k => XS.goto X4.here hx rfl (pc0 := 56) (pc' := 60) rfl (hb hby at_56) (by decide) (by decide) k) ?_
    show Go p.tables e below _ (T4.setTop (mkF m 60 #[.val (.int p1), .val (.int (0 : Int32)), .val (.ref w_FALSE), .val (.int (1 : Int32)), .unset, .unset] [(.int (1 : Int32)), (.int (1 : Int32))]))
    refine own_go (fun t k => XS.icmpNo X4.here hx rfl (hb hby at_60) rfl (XT.ii_ne_f (by decide)) k) ?_
    show Go p.tables e below _ (T4.setTop (mkF m 63 #[.val (.int p1), .val (.int (0 : Int32)), .val (.ref w_FALSE), .val (.int (1 : Int32)), .unset, .unset] []))
    refine own_go (fun t k => XS.iconst X4.here hx rfl (hb hby at_63) k) ?_
    show Go p.tables e below _ (T4.setTop (mkF m 64 #[.val (.int p1), .val (.int (0 : Int32)), .val (.ref w_FALSE), .val (.int (1 : Int32)), .unset, .unset] [(.int (1 : Int32))]))
    refine own_go (fun t k => XS.goto X4.here hx rfl (pc0 := 64) (pc' := 68) rfl (hb hby at_64) (by decide) (by decide) k) ?_
    show Go p.tables e below _ (T4.setTop (mkF m 68 #[.val (.int p1), .val (.int (0 : Int32)), .val (.ref w_FALSE), .val (.int (1 : Int32)), .unset, .unset] [(.int (1 : Int32))]))
    refine own_go (fun t k => XS.istore X4.here hx rfl (hb hby at_68) rfl (l' := #[.val (.int p1), .val (.int (0 : Int32)), .val (.ref w_FALSE), .val (.int (1 : Int32)), .val (.int (1 : Int32)), .unset]) rfl k) ?_
    show Go p.tables e below _ (T4.setTop (mkF m 70 #[.val (.int p1), .val (.int (0 : Int32)), .val (.ref w_FALSE), .val (.int (1 : Int32)), .val (.int (1 : Int32)), .unset] []))
    refine own_go (fun t k => XS.aloadN X4.here hx rfl (hb hby at_70) rfl rfl k) ?_
    show Go p.tables e below _ (T4.setTop (mkF m 71 #[.val (.int p1), .val (.int (0 : Int32)), .val (.ref w_FALSE), .val (.int (1 : Int32)), .val (.int (1 : Int32)), .unset] [(.ref w_FALSE)]))
    obtain ⟨T5, X5, e5, st5⟩ := getS2 X4 hx hZ hown (host := "") (Or.inl (hw _ (List.mem_of_getElem? (i := 9) rfl))) Via.refl e4 S_UNKNOWN (g := (mkF m 71 #[.val (.int p1), .val (.int (0 : Int32)), .val (.ref w_FALSE), .val (.int (1 : Int32)), .val (.int (1 : Int32)), .unset] [(.ref w_FALSE)])) rfl (hb hby at_71)
    refine own_go (fun t k => st5 t k) ?_
    show Go p.tables e below _ (T5.setTop (mkF m 74 #[.val (.int p1), .val (.int (0 : Int32)), .val (.ref w_FALSE), .val (.int (1 : Int32)), .val (.int (1 : Int32)), .unset] [(.ref w_UNKNOWN), (.ref w_FALSE)]))
    refine own_go (fun t k => XT.acmpNo X5.here hx rfl (hb hby at_74) rfl rfl rfl (XT.aa_eq_f (fun q => (own_ne F_FALSE_ordinal F_UNKNOWN_ordinal (by decide)) (Value.ref.inj q))) k) ?_
    show Go p.tables e below _ (T5.setTop (mkF m 77 #[.val (.int p1), .val (.int (0 : Int32)), .val (.ref w_FALSE), .val (.int (1 : Int32)), .val (.int (1 : Int32)), .unset] []))
    refine own_go (fun t k => XS.aloadN X5.here hx rfl (hb hby at_77) rfl rfl k) ?_
    show Go p.tables e below _ (T5.setTop (mkF m 78 #[.val (.int p1), .val (.int (0 : Int32)), .val (.ref w_FALSE), .val (.int (1 : Int32)), .val (.int (1 : Int32)), .unset] [(.ref w_FALSE)]))
    refine own_go (fun t k => XS.ifnullNo X5.here hx rfl (hb hby at_78) rfl k) ?_
    show Go p.tables e below _ (T5.setTop (mkF m 81 #[.val (.int p1), .val (.int (0 : Int32)), .val (.ref w_FALSE), .val (.int (1 : Int32)), .val (.int (1 : Int32)), .unset] []))
    refine own_go (fun t k => XS.iconst X5.here hx rfl (hb hby at_81) k) ?_
    show Go p.tables e below _ (T5.setTop (mkF m 82 #[.val (.int p1), .val (.int (0 : Int32)), .val (.ref w_FALSE), .val (.int (1 : Int32)), .val (.int (1 : Int32)), .unset] [(.int (1 : Int32))]))
    refine own_go (fun t k => XS.goto X5.here hx rfl (pc0 := 82) (pc' := 86) rfl (hb hby at_82) (by decide) (by decide) k) ?_
    show Go p.tables e below _ (T5.setTop (mkF m 86 #[.val (.int p1), .val (.int (0 : Int32)), .val (.ref w_FALSE), .val (.int (1 : Int32)), .val (.int (1 : Int32)), .unset] [(.int (1 : Int32))]))
    refine own_go (fun t k => XS.istore X5.here hx rfl (hb hby at_86) rfl (l' := #[.val (.int p1), .val (.int (0 : Int32)), .val (.ref w_FALSE), .val (.int (1 : Int32)), .val (.int (1 : Int32)), .val (.int (1 : Int32))]) rfl k) ?_
    show Go p.tables e below _ (T5.setTop (mkF m 88 #[.val (.int p1), .val (.int (0 : Int32)), .val (.ref w_FALSE), .val (.int (1 : Int32)), .val (.int (1 : Int32)), .val (.int (1 : Int32))] []))
    refine own_go (fun t k => XS.iloadN X5.here hx rfl (hb hby at_88) rfl k) ?_
    show Go p.tables e below _ (T5.setTop (mkF m 89 #[.val (.int p1), .val (.int (0 : Int32)), .val (.ref w_FALSE), .val (.int (1 : Int32)), .val (.int (1 : Int32)), .val (.int (1 : Int32))] [(.int (1 : Int32))]))
    refine own_go (fun t k => XS.ifNo X5.here hx rfl (hb hby at_89) rfl (XT.i0_eq_f (by decide)) k) ?_
    show Go p.tables e below _ (T5.setTop (mkF m 92 #[.val (.int p1), .val (.int (0 : Int32)), .val (.ref w_FALSE), .val (.int (1 : Int32)), .val (.int (1 : Int32)), .val (.int (1 : Int32))] []))
    refine own_go (fun t k => XS.iload X5.here hx rfl (hb hby at_92) rfl k) ?_
    show Go p.tables e below _ (T5.setTop (mkF m 94 #[.val (.int p1), .val (.int (0 : Int32)), .val (.ref w_FALSE), .val (.int (1 : Int32)), .val (.int (1 : Int32)), .val (.int (1 : Int32))] [(.int (1 : Int32))]))
    refine own_go (fun t k => XS.ifNo X5.here hx rfl (hb hby at_94) rfl (XT.i0_eq_f (by decide)) k) ?_
    show Go p.tables e below _ (T5.setTop (mkF m 97 #[.val (.int p1), .val (.int (0 : Int32)), .val (.ref w_FALSE), .val (.int (1 : Int32)), .val (.int (1 : Int32)), .val (.int (1 : Int32))] []))
    refine own_go (fun t k => XS.iload X5.here hx rfl (hb hby at_97) rfl k) ?_
    show Go p.tables e below _ (T5.setTop (mkF m 99 #[.val (.int p1), .val (.int (0 : Int32)), .val (.ref w_FALSE), .val (.int (1 : Int32)), .val (.int (1 : Int32)), .val (.int (1 : Int32))] [(.int (1 : Int32))]))
    refine own_go (fun t k => XS.ifNo X5.here hx rfl (hb hby at_99) rfl (XT.i0_eq_f (by decide)) k) ?_
    show Go p.tables e below _ (T5.setTop (mkF m 102 #[.val (.int p1), .val (.int (0 : Int32)), .val (.ref w_FALSE), .val (.int (1 : Int32)), .val (.int (1 : Int32)), .val (.int (1 : Int32))] []))
    refine own_go (fun t k => XS.iconst X5.here hx rfl (hb hby at_102) k) ?_
    show Go p.tables e below _ (T5.setTop (mkF m 103 #[.val (.int p1), .val (.int (0 : Int32)), .val (.ref w_FALSE), .val (.int (1 : Int32)), .val (.int (1 : Int32)), .val (.int (1 : Int32))] [(.int (1 : Int32))]))
    refine own_go (fun t k => XS.goto X5.here hx rfl (pc0 := 103) (pc' := 107) rfl (hb hby at_103) (by decide) (by decide) k) ?_
    show Go p.tables e below _ (T5.setTop (mkF m 107 #[.val (.int p1), .val (.int (0 : Int32)), .val (.ref w_FALSE), .val (.int (1 : Int32)), .val (.int (1 : Int32)), .val (.int (1 : Int32))] [(.int (1 : Int32))]))
    exact own_ret X5 hx hlk Bd.returns rfl (Or.inl ⟨rfl, Or.inr (Or.inl rfl), _, rfl⟩) (hb hby at_107) ⟨rfl, N2, e5⟩ (by decide) (by decide)
  · refine own_go (fun t k => XS.ifNo X0.here hx rfl (hb hby at_3) rfl (XT.i0_eq_f hc1) k) ?_
    show Go p.tables e below _ (s₁.setTop (mkF m 6 #[.val (.int p1), .unset, .unset, .unset, .unset, .unset] []))
    refine own_go (fun t k => XS.iconst X0.here hx rfl (hb hby at_6) k) ?_
    show Go p.tables e below _ (s₁.setTop (mkF m 7 #[.val (.int p1), .unset, .unset, .unset, .unset, .unset] [(.int (1 : Int32))]))
    refine own_go (fun t k => XS.goto X0.here hx rfl (pc0 := 7) (pc' := 11) rfl (hb hby at_7) (by decide) (by decide) k) ?_
    show Go p.tables e below _ (s₁.setTop (mkF m 11 #[.val (.int p1), .unset, .unset, .unset, .unset, .unset] [(.int (1 : Int32))]))
    refine own_go (fun t k => XS.istoreN X0.here hx rfl (hb hby at_11) rfl (l' := #[.val (.int p1), .val (.int (1 : Int32)), .unset, .unset, .unset, .unset]) rfl k) ?_
    show Go p.tables e below _ (s₁.setTop (mkF m 12 #[.val (.int p1), .val (.int (1 : Int32)), .unset, .unset, .unset, .unset] []))
    refine own_go (fun t k => XS.iloadN X0.here hx rfl (hb hby at_12) rfl k) ?_
    show Go p.tables e below _ (s₁.setTop (mkF m 13 #[.val (.int p1), .val (.int (1 : Int32)), .unset, .unset, .unset, .unset] [(.int (1 : Int32))]))
    obtain ⟨v6, _, ⟨T6, L6, k6, n6⟩, -, X6, ⟨Lc6, hQ6, l6, y6, z6⟩, st6⟩ := Jvm.LawKit.callS X0 hx (y := (⟨"com/example/deft_refine/deftrefine/prover/sequent/Evaluation$Value", "of", "(Z)Lcom/example/deft_refine/deftrefine/prover/sequent/Evaluation$Value;"⟩ : MethodName)) hown (mvT hZ (hw _ (List.mem_of_getElem? (i := 0) rfl))) (mvT hZ (hw _ (List.mem_of_getElem? (i := 1) rfl))) (mvT hZ (hw _ (List.mem_of_getElem? (i := 2) rfl))) (mvT hZ (hw _ (List.mem_of_getElem? (i := 3) rfl))) (by decide) (backOf (W := 0) (rm_of l Z a0 hw [] (1 : Int32) w_FALSE w_TRUE w_UNKNOWN h0 n0 SS) hZ (hw _ (List.mem_of_getElem? (i := 3) rfl)) (hw _ (List.mem_of_getElem? (i := 2) rfl)) (by decide) (by decide)) (g := (mkF m 13 #[.val (.int p1), .val (.int (1 : Int32)), .unset, .unset, .unset, .unset] [(.int (1 : Int32))])) rfl (by rw [hml]; rfl) (argsL := [(.int (1 : Int32))]) (rest := []) (lenOf pd_0 rfl) rfl (by show 2 * 0 + _ ≤ _; exact Nat.le_of_eq rfl) (hb hby at_13) (fun _ _ => ⟨rfl, e0, (by decide : 0 + 0 ≤ _), (by decide : 0 + 0 ≤ _)⟩)
    dsimp only [Pt.U, Pt.locs, Pt.cells, Pt.slots] at X6 l6 y6 z6 st6 hQ6
    subst l6 y6 z6
    obtain ⟨hv6, N6q, e6⟩ := hQ6
    rw [show ((.ref (own_of w_TRUE w_FALSE (1 : Int32))) : Value) = (.ref w_TRUE) from by simp [own_of]] at hv6
    subst hv6
    have N6 := Fr.app N0 N6q
    refine own_go (fun t k => st6 t k) ?_
    show Go p.tables e below _ (T6.setTop (mkF m 16 #[.val (.int p1), .val (.int (1 : Int32)), .unset, .unset, .unset, .unset] [(.ref w_TRUE)]))
    refine own_go (fun t k => XS.astoreN X6.here hx rfl (hb hby at_16) rfl rfl (l' := #[.val (.int p1), .val (.int (1 : Int32)), .val (.ref w_TRUE), .unset, .unset, .unset]) rfl k) ?_
    show Go p.tables e below _ (T6.setTop (mkF m 17 #[.val (.int p1), .val (.int (1 : Int32)), .val (.ref w_TRUE), .unset, .unset, .unset] []))
    refine own_go (fun t k => XS.aloadN X6.here hx rfl (hb hby at_17) rfl rfl k) ?_
    show Go p.tables e below _ (T6.setTop (mkF m 18 #[.val (.int p1), .val (.int (1 : Int32)), .val (.ref w_TRUE), .unset, .unset, .unset] [(.ref w_TRUE)]))
    obtain ⟨T7, X7, e7, st7⟩ := getS2 X6 hx hZ hown (host := "") (Or.inl (hw _ (List.mem_of_getElem? (i := 6) rfl))) Via.refl e6 S_TRUE (g := (mkF m 18 #[.val (.int p1), .val (.int (1 : Int32)), .val (.ref w_TRUE), .unset, .unset, .unset] [(.ref w_TRUE)])) rfl (hb hby at_18)
    refine own_go (fun t k => st7 t k) ?_
    show Go p.tables e below _ (T7.setTop (mkF m 21 #[.val (.int p1), .val (.int (1 : Int32)), .val (.ref w_TRUE), .unset, .unset, .unset] [(.ref w_TRUE), (.ref w_TRUE)]))
    refine own_go (fun t k => XT.acmpNo X7.here hx rfl (hb hby at_21) rfl rfl rfl (XT.aa_ne_f (congrArg Value.ref rfl)) k) ?_
    show Go p.tables e below _ (T7.setTop (mkF m 24 #[.val (.int p1), .val (.int (1 : Int32)), .val (.ref w_TRUE), .unset, .unset, .unset] []))
    refine own_go (fun t k => XS.iconst X7.here hx rfl (hb hby at_24) k) ?_
    show Go p.tables e below _ (T7.setTop (mkF m 25 #[.val (.int p1), .val (.int (1 : Int32)), .val (.ref w_TRUE), .unset, .unset, .unset] [(.int (1 : Int32))]))
    refine own_go (fun t k => XS.goto X7.here hx rfl (pc0 := 25) (pc' := 29) rfl (hb hby at_25) (by decide) (by decide) k) ?_
    show Go p.tables e below _ (T7.setTop (mkF m 29 #[.val (.int p1), .val (.int (1 : Int32)), .val (.ref w_TRUE), .unset, .unset, .unset] [(.int (1 : Int32))]))
    refine own_go (fun t k => XS.iloadN X7.here hx rfl (hb hby at_29) rfl k) ?_
    show Go p.tables e below _ (T7.setTop (mkF m 30 #[.val (.int p1), .val (.int (1 : Int32)), .val (.ref w_TRUE), .unset, .unset, .unset] [(.int (1 : Int32)), (.int (1 : Int32))]))
    refine own_go (fun t k => XS.icmpNo X7.here hx rfl (hb hby at_30) rfl (XT.ii_ne_f (by decide)) k) ?_
    show Go p.tables e below _ (T7.setTop (mkF m 33 #[.val (.int p1), .val (.int (1 : Int32)), .val (.ref w_TRUE), .unset, .unset, .unset] []))
    refine own_go (fun t k => XS.iconst X7.here hx rfl (hb hby at_33) k) ?_
    show Go p.tables e below _ (T7.setTop (mkF m 34 #[.val (.int p1), .val (.int (1 : Int32)), .val (.ref w_TRUE), .unset, .unset, .unset] [(.int (1 : Int32))]))
    refine own_go (fun t k => XS.goto X7.here hx rfl (pc0 := 34) (pc' := 38) rfl (hb hby at_34) (by decide) (by decide) k) ?_
    show Go p.tables e below _ (T7.setTop (mkF m 38 #[.val (.int p1), .val (.int (1 : Int32)), .val (.ref w_TRUE), .unset, .unset, .unset] [(.int (1 : Int32))]))
    refine own_go (fun t k => XS.istoreN X7.here hx rfl (hb hby at_38) rfl (l' := #[.val (.int p1), .val (.int (1 : Int32)), .val (.ref w_TRUE), .val (.int (1 : Int32)), .unset, .unset]) rfl k) ?_
    show Go p.tables e below _ (T7.setTop (mkF m 39 #[.val (.int p1), .val (.int (1 : Int32)), .val (.ref w_TRUE), .val (.int (1 : Int32)), .unset, .unset] []))
    refine own_go (fun t k => XS.aloadN X7.here hx rfl (hb hby at_39) rfl rfl k) ?_
    show Go p.tables e below _ (T7.setTop (mkF m 40 #[.val (.int p1), .val (.int (1 : Int32)), .val (.ref w_TRUE), .val (.int (1 : Int32)), .unset, .unset] [(.ref w_TRUE)]))
    obtain ⟨T8, X8, e8, st8⟩ := getS2 X7 hx hZ hown (host := "") (Or.inl (hw _ (List.mem_of_getElem? (i := 8) rfl))) Via.refl e7 S_FALSE (g := (mkF m 40 #[.val (.int p1), .val (.int (1 : Int32)), .val (.ref w_TRUE), .val (.int (1 : Int32)), .unset, .unset] [(.ref w_TRUE)])) rfl (hb hby at_40)
    refine own_go (fun t k => st8 t k) ?_
    show Go p.tables e below _ (T8.setTop (mkF m 43 #[.val (.int p1), .val (.int (1 : Int32)), .val (.ref w_TRUE), .val (.int (1 : Int32)), .unset, .unset] [(.ref w_FALSE), (.ref w_TRUE)]))
    refine own_go (fun t k => XT.acmpYes X8.here hx rfl (pc0 := 43) (pc' := 50) rfl (hb hby at_43) rfl rfl rfl (XT.aa_ne_t (fun q => (own_ne F_TRUE_ordinal F_FALSE_ordinal (by decide)) (Value.ref.inj q))) (by decide) (by decide) k) ?_
    show Go p.tables e below _ (T8.setTop (mkF m 50 #[.val (.int p1), .val (.int (1 : Int32)), .val (.ref w_TRUE), .val (.int (1 : Int32)), .unset, .unset] []))
    refine own_go (fun t k => XS.iconst X8.here hx rfl (hb hby at_50) k) ?_
    show Go p.tables e below _ (T8.setTop (mkF m 51 #[.val (.int p1), .val (.int (1 : Int32)), .val (.ref w_TRUE), .val (.int (1 : Int32)), .unset, .unset] [(.int (0 : Int32))]))
    refine own_go (fun t k => XS.iloadN X8.here hx rfl (hb hby at_51) rfl k) ?_
    show Go p.tables e below _ (T8.setTop (mkF m 52 #[.val (.int p1), .val (.int (1 : Int32)), .val (.ref w_TRUE), .val (.int (1 : Int32)), .unset, .unset] [(.int (1 : Int32)), (.int (0 : Int32))]))
    refine own_go (fun t k => XS.ifYes X8.here hx rfl (pc0 := 52) (pc' := 59) rfl (hb hby at_52) rfl (XT.i0_ne_t (by decide)) (by decide) (by decide) k) ?_
    show Go p.tables e below _ (T8.setTop (mkF m 59 #[.val (.int p1), .val (.int (1 : Int32)), .val (.ref w_TRUE), .val (.int (1 : Int32)), .unset, .unset] [(.int (0 : Int32))]))
    refine own_go (fun t k => XS.iconst X8.here hx rfl (hb hby at_59) k) ?_
    show Go p.tables e below _ (T8.setTop (mkF m 60 #[.val (.int p1), .val (.int (1 : Int32)), .val (.ref w_TRUE), .val (.int (1 : Int32)), .unset, .unset] [(.int (0 : Int32)), (.int (0 : Int32))]))
    refine own_go (fun t k => XS.icmpNo X8.here hx rfl (hb hby at_60) rfl (XT.ii_ne_f (by decide)) k) ?_
    show Go p.tables e below _ (T8.setTop (mkF m 63 #[.val (.int p1), .val (.int (1 : Int32)), .val (.ref w_TRUE), .val (.int (1 : Int32)), .unset, .unset] []))
    refine own_go (fun t k => XS.iconst X8.here hx rfl (hb hby at_63) k) ?_
    show Go p.tables e below _ (T8.setTop (mkF m 64 #[.val (.int p1), .val (.int (1 : Int32)), .val (.ref w_TRUE), .val (.int (1 : Int32)), .unset, .unset] [(.int (1 : Int32))]))
    refine own_go (fun t k => XS.goto X8.here hx rfl (pc0 := 64) (pc' := 68) rfl (hb hby at_64) (by decide) (by decide) k) ?_
    show Go p.tables e below _ (T8.setTop (mkF m 68 #[.val (.int p1), .val (.int (1 : Int32)), .val (.ref w_TRUE), .val (.int (1 : Int32)), .unset, .unset] [(.int (1 : Int32))]))
    refine own_go (fun t k => XS.istore X8.here hx rfl (hb hby at_68) rfl (l' := #[.val (.int p1), .val (.int (1 : Int32)), .val (.ref w_TRUE), .val (.int (1 : Int32)), .val (.int (1 : Int32)), .unset]) rfl k) ?_
    show Go p.tables e below _ (T8.setTop (mkF m 70 #[.val (.int p1), .val (.int (1 : Int32)), .val (.ref w_TRUE), .val (.int (1 : Int32)), .val (.int (1 : Int32)), .unset] []))
    refine own_go (fun t k => XS.aloadN X8.here hx rfl (hb hby at_70) rfl rfl k) ?_
    show Go p.tables e below _ (T8.setTop (mkF m 71 #[.val (.int p1), .val (.int (1 : Int32)), .val (.ref w_TRUE), .val (.int (1 : Int32)), .val (.int (1 : Int32)), .unset] [(.ref w_TRUE)]))
    obtain ⟨T9, X9, e9, st9⟩ := getS2 X8 hx hZ hown (host := "") (Or.inl (hw _ (List.mem_of_getElem? (i := 9) rfl))) Via.refl e8 S_UNKNOWN (g := (mkF m 71 #[.val (.int p1), .val (.int (1 : Int32)), .val (.ref w_TRUE), .val (.int (1 : Int32)), .val (.int (1 : Int32)), .unset] [(.ref w_TRUE)])) rfl (hb hby at_71)
    refine own_go (fun t k => st9 t k) ?_
    show Go p.tables e below _ (T9.setTop (mkF m 74 #[.val (.int p1), .val (.int (1 : Int32)), .val (.ref w_TRUE), .val (.int (1 : Int32)), .val (.int (1 : Int32)), .unset] [(.ref w_UNKNOWN), (.ref w_TRUE)]))
    refine own_go (fun t k => XT.acmpNo X9.here hx rfl (hb hby at_74) rfl rfl rfl (XT.aa_eq_f (fun q => (own_ne F_TRUE_ordinal F_UNKNOWN_ordinal (by decide)) (Value.ref.inj q))) k) ?_
    show Go p.tables e below _ (T9.setTop (mkF m 77 #[.val (.int p1), .val (.int (1 : Int32)), .val (.ref w_TRUE), .val (.int (1 : Int32)), .val (.int (1 : Int32)), .unset] []))
    refine own_go (fun t k => XS.aloadN X9.here hx rfl (hb hby at_77) rfl rfl k) ?_
    show Go p.tables e below _ (T9.setTop (mkF m 78 #[.val (.int p1), .val (.int (1 : Int32)), .val (.ref w_TRUE), .val (.int (1 : Int32)), .val (.int (1 : Int32)), .unset] [(.ref w_TRUE)]))
    refine own_go (fun t k => XS.ifnullNo X9.here hx rfl (hb hby at_78) rfl k) ?_
    show Go p.tables e below _ (T9.setTop (mkF m 81 #[.val (.int p1), .val (.int (1 : Int32)), .val (.ref w_TRUE), .val (.int (1 : Int32)), .val (.int (1 : Int32)), .unset] []))
    refine own_go (fun t k => XS.iconst X9.here hx rfl (hb hby at_81) k) ?_
    show Go p.tables e below _ (T9.setTop (mkF m 82 #[.val (.int p1), .val (.int (1 : Int32)), .val (.ref w_TRUE), .val (.int (1 : Int32)), .val (.int (1 : Int32)), .unset] [(.int (1 : Int32))]))
    refine own_go (fun t k => XS.goto X9.here hx rfl (pc0 := 82) (pc' := 86) rfl (hb hby at_82) (by decide) (by decide) k) ?_
    show Go p.tables e below _ (T9.setTop (mkF m 86 #[.val (.int p1), .val (.int (1 : Int32)), .val (.ref w_TRUE), .val (.int (1 : Int32)), .val (.int (1 : Int32)), .unset] [(.int (1 : Int32))]))
    refine own_go (fun t k => XS.istore X9.here hx rfl (hb hby at_86) rfl (l' := #[.val (.int p1), .val (.int (1 : Int32)), .val (.ref w_TRUE), .val (.int (1 : Int32)), .val (.int (1 : Int32)), .val (.int (1 : Int32))]) rfl k) ?_
    show Go p.tables e below _ (T9.setTop (mkF m 88 #[.val (.int p1), .val (.int (1 : Int32)), .val (.ref w_TRUE), .val (.int (1 : Int32)), .val (.int (1 : Int32)), .val (.int (1 : Int32))] []))
    refine own_go (fun t k => XS.iloadN X9.here hx rfl (hb hby at_88) rfl k) ?_
    show Go p.tables e below _ (T9.setTop (mkF m 89 #[.val (.int p1), .val (.int (1 : Int32)), .val (.ref w_TRUE), .val (.int (1 : Int32)), .val (.int (1 : Int32)), .val (.int (1 : Int32))] [(.int (1 : Int32))]))
    refine own_go (fun t k => XS.ifNo X9.here hx rfl (hb hby at_89) rfl (XT.i0_eq_f (by decide)) k) ?_
    show Go p.tables e below _ (T9.setTop (mkF m 92 #[.val (.int p1), .val (.int (1 : Int32)), .val (.ref w_TRUE), .val (.int (1 : Int32)), .val (.int (1 : Int32)), .val (.int (1 : Int32))] []))
    refine own_go (fun t k => XS.iload X9.here hx rfl (hb hby at_92) rfl k) ?_
    show Go p.tables e below _ (T9.setTop (mkF m 94 #[.val (.int p1), .val (.int (1 : Int32)), .val (.ref w_TRUE), .val (.int (1 : Int32)), .val (.int (1 : Int32)), .val (.int (1 : Int32))] [(.int (1 : Int32))]))
    refine own_go (fun t k => XS.ifNo X9.here hx rfl (hb hby at_94) rfl (XT.i0_eq_f (by decide)) k) ?_
    show Go p.tables e below _ (T9.setTop (mkF m 97 #[.val (.int p1), .val (.int (1 : Int32)), .val (.ref w_TRUE), .val (.int (1 : Int32)), .val (.int (1 : Int32)), .val (.int (1 : Int32))] []))
    refine own_go (fun t k => XS.iload X9.here hx rfl (hb hby at_97) rfl k) ?_
    show Go p.tables e below _ (T9.setTop (mkF m 99 #[.val (.int p1), .val (.int (1 : Int32)), .val (.ref w_TRUE), .val (.int (1 : Int32)), .val (.int (1 : Int32)), .val (.int (1 : Int32))] [(.int (1 : Int32))]))
    refine own_go (fun t k => XS.ifNo X9.here hx rfl (hb hby at_99) rfl (XT.i0_eq_f (by decide)) k) ?_
    show Go p.tables e below _ (T9.setTop (mkF m 102 #[.val (.int p1), .val (.int (1 : Int32)), .val (.ref w_TRUE), .val (.int (1 : Int32)), .val (.int (1 : Int32)), .val (.int (1 : Int32))] []))
    refine own_go (fun t k => XS.iconst X9.here hx rfl (hb hby at_102) k) ?_
    show Go p.tables e below _ (T9.setTop (mkF m 103 #[.val (.int p1), .val (.int (1 : Int32)), .val (.ref w_TRUE), .val (.int (1 : Int32)), .val (.int (1 : Int32)), .val (.int (1 : Int32))] [(.int (1 : Int32))]))
    refine own_go (fun t k => XS.goto X9.here hx rfl (pc0 := 103) (pc' := 107) rfl (hb hby at_103) (by decide) (by decide) k) ?_
    show Go p.tables e below _ (T9.setTop (mkF m 107 #[.val (.int p1), .val (.int (1 : Int32)), .val (.ref w_TRUE), .val (.int (1 : Int32)), .val (.int (1 : Int32)), .val (.int (1 : Int32))] [(.int (1 : Int32))]))
    exact own_ret X9 hx hlk Bd.returns rfl (Or.inl ⟨rfl, Or.inr (Or.inl rfl), _, rfl⟩) (hb hby at_107) ⟨rfl, N6, e9⟩ (by decide) (by decide)
set_option maxRecDepth 65536 in
set_option maxHeartbeats 40000000 in
theorem comes_1 {Post : Tables → Env → Array Value → State → Outcome → State → Prop} (hpost : ∀ tb e args s v u, (limb_1_1.after args s (.returned v) u = true ∧ limb_1_2.after args s (.returned v) u = true ∧ True) → FrameEnd s (.returned v) u (Jvm.fieldLocs frame_1_writes args s ++ Jvm.arrayLocs frame_1_arrays args s ++ Jvm.staticLocs frame_1_statics s) 0 0 → Post tb e args s (.returned v) u) :
    ArmFor flags0 classFile x code maxLocals ret World_1 tables_1 room_1 Calls_1 rest_1 Pre_1 Post := by
  intro l hfl _ _ p e ha hc hk s m args below hf hA hF happ hP
  obtain ⟨hcalls, hrest, hpre⟩ := hP
  obtain ⟨-, -, -, hnamed, -, -, -, hat⟩ := (Spec.applies_iff hf).mp happ
  obtain ⟨hg, hn⟩ := and_e (Cond.before_iff.mp (show (Jvm.Cond.and given_1 narrow_1).before args s = true from hpre))
  obtain ⟨gc, ga0⟩ := and_e hg
  have gi0 := ga0
  obtain ⟨w0, rfl⟩ : ∃ w0 : Value, args = #[w0] := by
    have hs : args.size = 1 := by simpa [Cond.value, given_1] using gc
    obtain ⟨L⟩ := args
    match L, hs with
    | [w0], _ => exact ⟨w0, rfl⟩
  have hw := fun d (hd : d ∈ tables_1) => atoms_spec (ws := Jvm.Cond.code x code maxLocals ret :: tables_1) hat d (List.mem_cons_of_mem _ hd)
  obtain ⟨i0, ei0⟩ := is_v gi0
  obtain rfl : w0 = (.int i0) := Option.some.inj ei0
  obtain ⟨c0, r0⟩ := and_e hn
  obtain ⟨c1, r1⟩ := and_e r0
  obtain ⟨c2, r2⟩ := and_e r1
  obtain ⟨c3, r3⟩ := and_e r2
  obtain ⟨c4, r4⟩ := and_e r3
  have c5 := r4
  obtain ⟨w_FALSE, ev_FALSE⟩ := exa_v c0
  have E_FALSE := Exa.start ev_FALSE c0
  have S_FALSE := Sta.start ev_FALSE (Or.inr ⟨(hw _ (List.mem_of_getElem? (i := 2) rfl)), (hw _ (List.mem_of_getElem? (i := 5) rfl))⟩)
  obtain ⟨w_TRUE, ev_TRUE⟩ := exa_v c1
  have E_TRUE := Exa.start ev_TRUE c1
  have S_TRUE := Sta.start ev_TRUE (Or.inr ⟨(hw _ (List.mem_of_getElem? (i := 2) rfl)), (hw _ (List.mem_of_getElem? (i := 7) rfl))⟩)
  obtain ⟨w_UNKNOWN, ev_UNKNOWN⟩ := exa_v c4
  have E_UNKNOWN := Exa.start ev_UNKNOWN c4
  have S_UNKNOWN := Sta.start ev_UNKNOWN (Or.inr ⟨(hw _ (List.mem_of_getElem? (i := 2) rfl)), (hw _ (List.mem_of_getElem? (i := 10) rfl))⟩)
  have F_FALSE_ordinal := own_fld ev_FALSE c2
  have F_TRUE_ordinal := own_fld ev_TRUE c3
  have F_UNKNOWN_ordinal := own_fld ev_UNKNOWN c5
  obtain ⟨n, o, h1, h2, h3, _, L, rfl, ⟨rfl, N, -⟩, hq⟩ := rm_law l s _ hw tables_1 i0 w_FALSE w_TRUE w_UNKNOWN s.heap s.heap.size ⟨S_FALSE, S_TRUE, S_UNKNOWN⟩ ⟨E_FALSE, E_TRUE, E_UNKNOWN⟩ ⟨F_FALSE_ordinal, F_TRUE_ordinal, F_UNKNOWN_ordinal⟩ p e ha hc hk s m _ below hf ((Spec.applies_iff_loose hf).mp happ).1 ⟨rfl, State.Warmed39.refl s, rfl⟩ trivial
  refine ⟨n, _, h1, h2, h3, hpost _ _ _ _ _ _ ⟨Cond.after_iff.mpr rfl, Cond.after_iff.mpr (eq_i res_at (Term.int_eval (1)) rfl), trivial⟩ ⟨hq.1, hq.2.1, (hq.2.2.sift fun y hy => Or.inr (N y hy)).mono (by decide) (by decide)⟩⟩
theorem main_1_1 : Claimed_1_1 := comes_1 fun _ _ _ _ _ _ h hF => ⟨h.1, hF⟩
theorem main_1_2 : Claimed_1_2 := comes_1 fun _ _ _ _ _ _ h hF => ⟨h.2.1, hF⟩
end Jvm.Pilot.@@N@@
namespace Jvm.Pilot.@@N@@
open Jvm Jvm.ClassFile Sem Op Lib Jvm.Free Jvm.Stand Jvm.Pilot.@@N@@.Jvm.D
/-! MADE BY PROGRAM (witnessworld.py) out of the Statement's table words and the real class files: 12 classes; the members and pool entries that the words name. The judged class is class 1, her method 1. -/
namespace start1
open Jvm.ClassFile
def u (s : String) : CpInfo := .utf8 (stringToUtf16 s)
/-- a pool by its gaps: so many unusable entries, then the entry; so many at the end -/
def gap : Nat → List CpInfo → List CpInfo
  | 0, r => r
  | n + 1, r => .unusable :: gap n r
def poolList (es : List (Nat × CpInfo)) (last : Nat) : List CpInfo := es.foldr (fun e r => gap e.1 (e.2 :: r)) (gap last [])
def pool (es : List (Nat × CpInfo)) (last : Nat) : Array CpInfo := ⟨poolList es last⟩
def fileOf (pool : Array CpInfo) (this : Nat) (attrs : Array Attribute := #[]) (ms : Array MethodInfo := #[]) (fl : Nat := 33) (sup : Nat := 0) (ifs : Array Nat := #[]) (fds : Array FieldInfo := #[]) : ClassFile where
  minorVersion := 0
  majorVersion := 65
  constantPool := pool
  accessFlags := fl
  thisClass := this
  superClass := sup
  interfaces := ifs
  fields := fds
  methods := ms
  attributes := attrs
def plain (name : String) (sup : Option ClassId) : Class where
  name := name
  kind := .ordinary
  loader := none
  accessFlags := 33
  super := sup
  interfaces := #[]
  cf := none
  fields := #[]
  methods := #[]
  instanceTypes := #[]
  staticTypes := #[]
  resolved := #[]
  callSites := []
  init := .initialized
  statics := none
  mirror := none

def pool0 : Array CpInfo := pool [(5, u "<init>"), (0, u "()V"), (1, .class_ 10), (1, u "java/lang/Object")] 113

def k0m0 : Method := { name := "<init>", desc := "()V", sig := { parameters := [], returnType := none }, accessFlags := 1, code := none }
/-- java/lang/Object -/
def k0 : Class := { plain "java/lang/Object" none with
  accessFlags := 33
  interfaces := #[]
  cf := some (fileOf pool0 8 #[] #[{ accessFlags := 1, nameIndex := 5, descriptorIndex := 6, attributes := #[] }] 33 0 #[] #[])
  fields := #[]
  methods := #[k0m0]
  instanceTypes := #[]
  staticTypes := #[]
  resolved := Array.replicate 124 none
  statics := none }

def pool1 : Array CpInfo := pool [(2, .class_ 4), (1, u "java/lang/Object"), (0, u "<init>"), (0, u "()V"), (0, .methodref 8 9), (0, .class_ 10), (0, .nameAndType 11 12), (0, u "com/example/deft_refine/deftrefine/prover/sequent/Evaluation$Value"), (0, u "of"), (0, u "(Z)Lcom/example/deft_refine/deftrefine/prover/sequent/Evaluation$Value;"), (0, .fieldref 8 14), (0, .nameAndType 15 16), (0, u "TRUE"), (0, u "Lcom/example/deft_refine/deftrefine/prover/sequent/Evaluation$Value;"), (0, .fieldref 8 18), (0, .nameAndType 19 16), (0, u "FALSE"), (0, .fieldref 8 21), (0, .nameAndType 22 16), (0, u "UNKNOWN"), (0, .class_ 24), (0, u "com/example/deft_refine/deftrefine/prover/sequent/ValueOfPinLaw"), (2, u "law"), (0, u "(I)Z")] 7

def k1m0 : Method := { name := "<init>", desc := "()V", sig := { parameters := [], returnType := none }, accessFlags := 2, code := none }
def k1c1 : Code := { maxStack := 2, maxLocals := 6, code := code, exceptionTable := #[], attributes := #[] }
def k1m1 : Method := { name := "law", desc := "(I)Z", sig := { parameters := [.int], returnType := some .boolean }, accessFlags := 9, code := some k1c1 }
/-- com/example/deft_refine/deftrefine/prover/sequent/ValueOfPinLaw -/
def k1 : Class := { plain "com/example/deft_refine/deftrefine/prover/sequent/ValueOfPinLaw" (some 0) with
  accessFlags := 49
  interfaces := #[]
  cf := some (fileOf pool1 23 #[] #[{ accessFlags := 2, nameIndex := 5, descriptorIndex := 6, attributes := #[] }, { accessFlags := 9, nameIndex := 27, descriptorIndex := 28, attributes := #[] }] 49 2 #[] #[])
  fields := #[]
  methods := #[k1m0, k1m1]
  instanceTypes := #[]
  staticTypes := #[]
  resolved := Array.replicate 36 none
  statics := none }

def pool2 : Array CpInfo := pool [(1, .class_ 2), (0, u "java/lang/constant/Constable"), (0, .class_ 4), (0, u "java/lang/Object")] 6

/-- java/lang/constant/Constable -/
def k2 : Class := { plain "java/lang/constant/Constable" (some 0) with
  accessFlags := 1537
  interfaces := #[]
  cf := some (fileOf pool2 1 #[] #[] 1537 3 #[] #[])
  fields := #[]
  methods := #[]
  instanceTypes := #[]
  staticTypes := #[]
  resolved := Array.replicate 11 none
  statics := none }

def pool3 : Array CpInfo := pool [(1, .class_ 2), (0, u "java/lang/Comparable"), (0, .class_ 4), (0, u "java/lang/Object")] 7

/-- java/lang/Comparable -/
def k3 : Class := { plain "java/lang/Comparable" (some 0) with
  accessFlags := 1537
  interfaces := #[]
  cf := some (fileOf pool3 1 #[] #[] 1537 3 #[] #[])
  fields := #[]
  methods := #[]
  instanceTypes := #[]
  staticTypes := #[]
  resolved := Array.replicate 12 none
  statics := none }

def pool4 : Array CpInfo := pool [(1, .class_ 2), (0, u "java/io/Serializable"), (0, .class_ 4), (0, u "java/lang/Object")] 2

/-- java/io/Serializable -/
def k4 : Class := { plain "java/io/Serializable" (some 0) with
  accessFlags := 1537
  interfaces := #[]
  cf := some (fileOf pool4 1 #[] #[] 1537 3 #[] #[])
  fields := #[]
  methods := #[]
  instanceTypes := #[]
  staticTypes := #[]
  resolved := Array.replicate 7 none
  statics := none }

def pool5 : Array CpInfo := pool [(2, .class_ 4), (1, u "java/lang/Enum"), (0, u "name"), (0, u "Ljava/lang/String;"), (2, u "ordinal"), (0, u "I"), (1, .class_ 14), (1, u "java/lang/Object"), (4, u "hash"), (86, .class_ 108), (1, u "java/lang/Enum$EnumDesc"), (2, .class_ 112), (0, u "java/lang/constant/Constable"), (0, .class_ 114), (0, u "java/lang/Comparable"), (0, .class_ 116), (0, u "java/io/Serializable")] 87

/-- java/lang/Enum -/
def k5 : Class := { plain "java/lang/Enum" (some 0) with
  accessFlags := 1057
  interfaces := #[2, 3, 4]
  cf := some (fileOf pool5 2 #[.nestMembers #[106]] #[] 1057 12 #[111, 113, 115] #[{ accessFlags := 18, nameIndex := 5, descriptorIndex := 6, attributes := #[] }, { accessFlags := 18, nameIndex := 9, descriptorIndex := 10, attributes := #[] }, { accessFlags := 2, nameIndex := 19, descriptorIndex := 10, attributes := #[] }])
  fields := #[{ name := "name", type := (.object "java/lang/String"), accessFlags := 18, slot := 0, constantValue := 0 }, { name := "ordinal", type := .int, accessFlags := 18, slot := 1, constantValue := 0 }, { name := "hash", type := .int, accessFlags := 2, slot := 2, constantValue := 0 }]
  methods := #[]
  instanceTypes := #[(.object "java/lang/String"), .int, .int]
  staticTypes := #[]
  resolved := Array.replicate 204 none
  statics := none }

def pool6 : Array CpInfo := pool [(1, .class_ 2), (0, u "com/example/deft_refine/deftrefine/prover/sequent/Evaluation$Value"), (0, .fieldref 1 4), (0, .nameAndType 5 6), (0, u "TRUE"), (0, u "Lcom/example/deft_refine/deftrefine/prover/sequent/Evaluation$Value;"), (0, .fieldref 1 8), (0, .nameAndType 9 6), (0, u "FALSE"), (2, u "UNKNOWN"), (2, u "$VALUES"), (0, u "[Lcom/example/deft_refine/deftrefine/prover/sequent/Evaluation$Value;"), (6, .class_ 25), (1, u "java/lang/Enum"), (24, u "of"), (0, u "(Z)Lcom/example/deft_refine/deftrefine/prover/sequent/Evaluation$Value;"), (5, .class_ 58), (0, u "com/example/deft_refine/deftrefine/prover/sequent/Evaluation")] 2

def k6c0 : Code := { maxStack := 1, maxLocals := 1, code := prog_94_method_5_code, exceptionTable := #[], attributes := #[] }
def k6m0 : Method := { name := "of", desc := "(Z)Lcom/example/deft_refine/deftrefine/prover/sequent/Evaluation$Value;", sig := { parameters := [.boolean], returnType := some (.object "com/example/deft_refine/deftrefine/prover/sequent/Evaluation$Value") }, accessFlags := 8, code := some k6c0 }
/-- com/example/deft_refine/deftrefine/prover/sequent/Evaluation$Value -/
def k6 : Class := { plain "com/example/deft_refine/deftrefine/prover/sequent/Evaluation$Value" (some 5) with
  accessFlags := 16432
  interfaces := #[]
  cf := some (fileOf pool6 1 #[.nestHost 57] #[{ accessFlags := 8, nameIndex := 50, descriptorIndex := 51, attributes := #[] }] 16432 23 #[] #[{ accessFlags := 16409, nameIndex := 5, descriptorIndex := 6, attributes := #[] }, { accessFlags := 16409, nameIndex := 9, descriptorIndex := 6, attributes := #[] }, { accessFlags := 16409, nameIndex := 12, descriptorIndex := 6, attributes := #[] }, { accessFlags := 4122, nameIndex := 15, descriptorIndex := 16, attributes := #[] }])
  fields := #[{ name := "TRUE", type := (.object "com/example/deft_refine/deftrefine/prover/sequent/Evaluation$Value"), accessFlags := 16409, slot := 0, constantValue := 0 }, { name := "FALSE", type := (.object "com/example/deft_refine/deftrefine/prover/sequent/Evaluation$Value"), accessFlags := 16409, slot := 1, constantValue := 0 }, { name := "UNKNOWN", type := (.object "com/example/deft_refine/deftrefine/prover/sequent/Evaluation$Value"), accessFlags := 16409, slot := 2, constantValue := 0 }, { name := "$VALUES", type := (.array (.object "com/example/deft_refine/deftrefine/prover/sequent/Evaluation$Value")), accessFlags := 4122, slot := 3, constantValue := 0 }]
  methods := #[k6m0]
  instanceTypes := #[(.object "java/lang/String"), .int, .int]
  staticTypes := #[(.object "com/example/deft_refine/deftrefine/prover/sequent/Evaluation$Value"), (.object "com/example/deft_refine/deftrefine/prover/sequent/Evaluation$Value"), (.object "com/example/deft_refine/deftrefine/prover/sequent/Evaluation$Value"), (.array (.object "com/example/deft_refine/deftrefine/prover/sequent/Evaluation$Value"))]
  resolved := Array.replicate 61 none
  statics := some 0 }

def pool7 : Array CpInfo := pool [(1, u "java/lang/Cloneable"), (0, .class_ 1), (0, u "java/lang/Object"), (0, .class_ 3)] 3

/-- java/lang/Cloneable -/
def k7 : Class := { plain "java/lang/Cloneable" (some 0) with
  accessFlags := 1537
  interfaces := #[]
  cf := some (fileOf pool7 2 #[] #[] 1537 4 #[] #[])
  fields := #[]
  methods := #[]
  instanceTypes := #[]
  staticTypes := #[]
  resolved := Array.replicate 8 none
  statics := none }

/-- the primitive byte -/
def k8 : Class := { plain "byte" none with kind := .primitive 'B', accessFlags := 0x411 }
/-- [B -/
def k9 : Class := { plain "[B" (some 0) with kind := .array 8 .byte, interfaces := #[7, 4], accessFlags := 1041 }

/-- the primitive int -/
def k10 : Class := { plain "int" none with kind := .primitive 'I', accessFlags := 0x411 }
/-- [I -/
def k11 : Class := { plain "[I" (some 0) with kind := .array 10 .int, interfaces := #[7, 4], accessFlags := 1041 }

def heap : Heap := #[{ cls := 6, slots := #[.ref 2, .ref 1, .ref 3, .null], vm := .statics 6 },
  { cls := 6, slots := #[.null, .int 1, .int 0], vm := .none },
  { cls := 6, slots := #[.null, .int 0, .int 0], vm := .none },
  { cls := 6, slots := #[.null, .int 2, .int 0], vm := .none }]
def classes : Array Class := #[k0, k1, k2, k3, k4, k5, k6, k7, k8, k9, k10, k11]
def interned : List (Array UInt16 × Addr) := []
def slotsUsed : Nat := 13
def theMethod : MethodId := ⟨1, 1⟩
def args0 : Array Value := #[.int 5]
def aboutOver (below : List Frame) : State where
  vm := { classes := classes, interned := interned.toArray }
  heap := heap
  slotsUsed := slotsUsed
  threads := #[{ frames := .invoking theMethod args0 :: below }]
def below0 : List Frame := [.native { method := ⟨0, 0⟩, args := #[] }]
def about1 : State := aboutOver below0
def p0 : Program := .bare "" "" ""
def e0 : Env := launch0.env 0 0 0
theorem w_frames : about1.frames = Frame.invoking theMethod args0 :: below0 := rfl
set_option maxRecDepth 65536 in
theorem w_args : argsFit about1.vm theMethod args0 = true := by decide +kernel
set_option maxRecDepth 65536 in
theorem w_heap : heapFits about1 = true := by decide +kernel
set_option maxRecDepth 65536 in
theorem w_runnable : about1.curStatus? = some .runnable := by decide +kernel
set_option maxRecDepth 65536 in
theorem w_alone : about1.alone = true := by decide +kernel
set_option maxRecDepth 65536 in
theorem w_named : about1.methodNamed? x = some theMethod := by decide +kernel
set_option maxRecDepth 65536 in
theorem w_hears : about1.hears theMethod below0 = true := by decide +kernel
set_option maxRecDepth 65536 in
theorem w_ripe : about1.ripe theMethod args0 below0 = true := by decide +kernel
theorem w_running : about1.status = .running := rfl
set_option maxRecDepth 65536 in
theorem w_room : about1.hasRoom e0.platform room_1 = true :=
  launch0.hasRoom_least _ room_1 (by decide +kernel) (by decide +kernel) (by decide +kernel) (by decide +kernel) (by decide +kernel) (by decide +kernel)
theorem allAtoms_all (ts : List Jvm.Cond) (a : Array Jvm.Value) (st : Jvm.State) : (allAtoms ts).before a st = ts.all (fun c => c.before a st) := by
  induction ts with
  | nil => rfl
  | cons c t ih =>
    show (Jvm.Cond.and c (allAtoms t)).before a st = _
    rw [Jvm.Cond.before_and, ih, List.all_cons]
def words1 : List Jvm.Cond := Jvm.Cond.code x code maxLocals ret :: tables_1
/-- a 'code' word, met by the world's own term for the bytes: nothing is compared byte by byte -/
theorem code_word {y : MethodName} {bytes : ByteArray} {mx : Nat} {rt : Option FieldType} {a : Array Value} {s : State} {m : MethodId} {meth : Method} {c : Code} (h1 : s.methodNamed? y = some m) (h2 : s.vm.method? m = some meth) (h3 : meth.code = some c) (h4 : c.code = bytes)
    (h5 : (c.maxLocals == mx && c.exceptionTable.isEmpty && decide (c.maxStack ≤ mostOperands) && decide (meth.sig.returnType = rt) && !meth.locks && decide (parseMethodDescriptor y.desc = some meth.sig)) = true) : (Jvm.Cond.code y bytes mx rt).before a s = true := by
  simp only [Bool.and_eq_true, beq_iff_eq, Bool.not_eq_true', decide_eq_true_eq] at h5
  obtain ⟨⟨⟨⟨⟨g1, g2⟩, g3⟩, g4⟩, g5⟩, g6⟩ := h5
  simp [Cond.before, Cond.holds, Cond.value, h1, h2, h3, h4, g1, g2, g3, g4, g5, g6]
def isCode : Jvm.Cond → Bool
  | .code _ _ _ _ => true
  | _ => false
theorem all_split {L : List Jvm.Cond} {P : Jvm.Cond → Bool} (h1 : L.all (fun c => isCode c || P c) = true) (h2 : ∀ c ∈ L.filter isCode, P c = true) : L.all P = true := by
  refine List.all_eq_true.mpr fun c hc => ?_
  have h := List.all_eq_true.mp h1 c hc
  rcases Bool.eq_false_or_eq_true (isCode c) with hi | hi
  · exact h2 c (List.mem_filter.mpr ⟨hc, hi⟩)
  · simpa [hi] using h
set_option maxRecDepth 65536 in
theorem w_c0 : (Jvm.Cond.code x code maxLocals ret).before args0 about1 = true := code_word (m := ⟨1, 1⟩) (meth := k1m1) (c := k1c1) (by decide +kernel) rfl rfl rfl (by decide +kernel)
set_option maxRecDepth 65536 in
theorem w_c1 : (Jvm.Cond.code ({ cls := "com/example/deft_refine/deftrefine/prover/sequent/Evaluation$Value", name := "of", desc := "(Z)Lcom/example/deft_refine/deftrefine/prover/sequent/Evaluation$Value;" } : Jvm.MethodName) prog_94_method_5_code (1 : Nat) (Option.some (Jvm.ClassFile.FieldType.object "com/example/deft_refine/deftrefine/prover/sequent/Evaluation$Value"))).before args0 about1 = true := code_word (m := ⟨6, 0⟩) (meth := k6m0) (c := k6c0) (by decide +kernel) rfl rfl rfl (by decide +kernel)
def codes1 : List Jvm.Cond := [Jvm.Cond.code x code maxLocals ret, Jvm.Cond.code ({ cls := "com/example/deft_refine/deftrefine/prover/sequent/Evaluation$Value", name := "of", desc := "(Z)Lcom/example/deft_refine/deftrefine/prover/sequent/Evaluation$Value;" } : Jvm.MethodName) prog_94_method_5_code (1 : Nat) (Option.some (Jvm.ClassFile.FieldType.object "com/example/deft_refine/deftrefine/prover/sequent/Evaluation$Value"))]
set_option maxRecDepth 65536 in
theorem codes_eq : words1.filter isCode = codes1 := rfl
theorem w_codes : ∀ c ∈ words1.filter isCode, c.before args0 about1 = true := by
  rw [codes_eq]
  intro c hc
  simp only [codes1, List.mem_cons, List.not_mem_nil, or_false] at hc
  rcases hc with rfl | rfl
  · exact w_c0
  · exact w_c1
set_option maxRecDepth 65536 in
theorem w_t1 : words1.all (fun c => isCode c || c.before args0 about1) = true := by decide +kernel
theorem w_tables : (allAtoms (Jvm.Cond.code x code maxLocals ret :: tables_1)).before args0 about1 = true := by
  rw [allAtoms_all]
  show words1.all (fun c => c.before args0 about1) = true
  refine all_split ?_ w_codes
  rw [w_t1]
set_option maxRecDepth 65536 in
theorem w_case : (Jvm.Cond.and given_1 narrow_1).before args0 about1 = true := by decide +kernel
theorem w_applies : (headSpec (Jvm.Cond.code x code maxLocals ret :: tables_1) room_1).applies x e0.platform about1 = true :=
  (Spec.applies_iff w_frames).mpr ⟨w_running, w_runnable, w_alone, w_named, w_hears, w_ripe, w_room, w_tables⟩
theorem atStart : AtStart classFile x code maxLocals ret World_1 tables_1 room_1 Calls_1 rest_1 Pre_1 launch0 p0 e0 about1 theMethod args0 below0 :=
  ⟨lists_1, trivial, launch0.admits_env _ _ _, launch0.least_env, fairChoices_fair.cas, fairChoices_fair.clock, w_frames, w_args, w_heap, w_applies, trivial, trivial, w_case⟩
end start1
theorem witness_1 : WitnessClaimed_1 := ⟨start1.p0, start1.e0, start1.about1, start1.theMethod, start1.args0, start1.below0, start1.atStart⟩
end Jvm.Pilot.@@N@@
