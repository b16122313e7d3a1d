import JvmDerived
import JvmDerived.Pilot.@@N@@Statement
import JvmDerived.Pilot.@@N@@Code
set_option linter.unusedVariables false
set_option linter.unusedSimpArgs false
namespace Jvm.Pilot.@@N@@
open Jvm Jvm.ClassFile Sem Op Lib Jvm.Free Jvm.Stand Jvm.LawKit Jvm.RoadKit Bundle Jvm.Pilot.@@N@@.Jvm.D
def Go (tb : Tables) (e : Env) (below : List Frame) (P : State → Outcome → Prop) (T : State) : Prop := ∃ s₂ o, Steps tb e below T s₂ ∧ P s₂ o
theorem own_go {tb : Tables} {e : Env} {below : List Frame} {P : State → Outcome → Prop} {T T' : State} (h : ∀ t, Steps tb e below T' t → Steps tb e below T t) (k : Go tb e below P T') : Go tb e below P T := by
  obtain ⟨a, b, c, d⟩ := k
  exact ⟨a, b, h a c, d⟩
def Fin (s : State) (below : List Frame) (Q : Option Value → Heap → List Loc → Prop) (cc ss : Nat) (s₂ : State) (o : Outcome) : Prop := s₂.status = .running ∧ Ended s₂ below o ∧ ∃ v L, o = .returned v ∧ Q v s₂.heap L ∧ FrameEnd s o s₂ L cc ss
def PQ (w : Value) (h0 : Heap) (n0 : Nat) (v : Option Value) (h : Heap) (L : List Loc) : Prop := v = some w ∧ Fr n0 L ∧ h = h0
theorem own_ret {p : Program} {l : Launch} {e : Env} {R : Room} {s : State} {m : MethodId} {args : Array Value} {below : List Frame} {meth : Method} {c : Code} {T : State} {locs : List Loc} {cells slots : Nat} (X : Stand p l e R s m args below meth c T locs cells slots) (hx : p.tables.exec = Jvm.exec) (hlk : meth.locks = false)
    {pc : Nat} {Ls : Array Slot} {w : Value} {t : FieldType} {i : Instr} {rest : List Value} (hret : meth.sig.returnType = some t) (hn : narrow t w = w)
    (hi : (i = .ireturn ∧ (t = .int ∨ t = .boolean ∨ t = .byte ∨ t = .char ∨ t = .short) ∧ ∃ z, w = .int z) ∨ (i = .lreturn ∧ t = .long ∧ ∃ z, w = .long z) ∨ (i = .dreturn ∧ t = .double ∧ ∃ z, w = .double z) ∨ (i = .freturn ∧ t = .float ∧ ∃ z, w = .float z) ∨ (i = .areturn ∧ t.isReference = true ∧ w.isRef = true))
    (hd : decode c.code pc = .ok (i, 1)) {Q : Option Value → Heap → List Loc → Prop} (hQ : Q (some w) T.heap locs) {cc ss : Nat} (hc : cells ≤ cc) (hs : slots ≤ ss) :
    Go p.tables e below (Fin s below Q cc ss) (T.setTop (mkF m pc Ls (w :: rest))) := by
  obtain ⟨fs, hr, hrun, hended, hW, hsame⟩ := X.leave (v := some w) (fun h => by rw [hret] at h; cases h) hlk
  exact ⟨_, _, retOut X hx hret hn hi hd hr, hrun, hended, _, _, rfl, hQ, ⟨_, rfl⟩, hW, hsame.mono hc hs⟩
theorem own_fld {Z : State} {args : Array Value} {t : Term} {a : Addr} {C n d : String} {k : Int32} (ev : t.eval args Z none [] Z = some (.ref a)) (h : (Jvm.Cond.eq (.field t C n d) (.int k)).value args Z none Z [] = some true) : Fld Z Z.heap a C n d (.int k) := by
  have e1 : (Term.field t C n d).eval args Z none [] Z = Z.fieldOf? a C n d := fld_at ev
  obtain ⟨x, y, h1, h2, h3, h4⟩ := cmp_v (Or.inl h)
  have e2 : (Term.int k).eval args Z none [] Z = some (.int k) := Term.int_eval k
  cases e2.symm.trans h2
  obtain ⟨z, rfl⟩ := h4
  have q := gotT (u := (Jvm.Cond.eq (.field t C n d) (.int k)).value args Z none Z []) (P := z = k) (by simp [Cond.value, h1, e2]) h
  subst q
  exact Fld.start (e1 ▸ h1)
theorem own_ne {Z : State} {h : Heap} {a b : Addr} {C n d : String} {v w : Value} (F : Fld Z h a C n d v) (G : Fld Z h b C n d w) (hn : v ≠ w) : a ≠ b := by
  rintro rfl
  obtain ⟨c1, cf1, k1, i1, f1, a1, a2, a3, a4, a5, a6, a7⟩ := F
  obtain ⟨c2, cf2, k2, i2, f2, b1, b2, b3, b4, b5, b6, b7⟩ := G
  cases a1.symm.trans b1
  cases a2.symm.trans b2
  exact hn (Option.some.inj (a7.symm.trans b7))
theorem own_mask (x : Int32) : 0 ≤ (x &&& 2147483647).toInt ∧ (x &&& 2147483647).toInt < 2147483648 := by
  have h1 : (x &&& 2147483647).toBitVec.toNat < 2 ^ 31 := by
    rw [Int32.toBitVec_and, BitVec.toNat_and]
    exact Nat.lt_of_le_of_lt Nat.and_le_right (by decide)
  have h2 : (x &&& 2147483647).toInt = ((x &&& 2147483647).toBitVec.toNat : Int) := by
    show (x &&& 2147483647).toBitVec.toInt = _
    rw [BitVec.toInt_eq_toNat_of_lt (by omega)]
  omega
theorem own_mod (x : Int32) (k : Int32) (hk : 0 < k.toInt) : 0 ≤ ((x &&& 2147483647) % k).toInt ∧ ((x &&& 2147483647) % k).toInt < k.toInt := by
  have h := own_mask x
  rw [Int32.toInt_mod]
  rw [Int.tmod_eq_emod_of_nonneg h.1]
  exact ⟨Int.emod_nonneg _ (by omega), Int.emod_lt_of_pos _ hk⟩
theorem own_cases (x : Int32) : (x &&& 2147483647) % 5 = 0 ∨ (x &&& 2147483647) % 5 = 1 ∨ (x &&& 2147483647) % 5 = 2 ∨ (x &&& 2147483647) % 5 = 3 ∨ (x &&& 2147483647) % 5 = 4 := by
  have h := own_mod x 5 (by decide)
  have h3 : (5 : Int32).toInt = 5 := rfl
  have c : ((x &&& 2147483647) % 5).toInt = 0 ∨ ((x &&& 2147483647) % 5).toInt = 1 ∨ ((x &&& 2147483647) % 5).toInt = 2 ∨ ((x &&& 2147483647) % 5).toInt = 3 ∨ ((x &&& 2147483647) % 5).toInt = 4 := by omega
  rcases c with c | c | c | c | c
  · exact Or.inl (Int32.toInt_inj.mp c)
  · exact Or.inr (Or.inl (Int32.toInt_inj.mp c))
  · exact Or.inr (Or.inr (Or.inl (Int32.toInt_inj.mp c)))
  · exact Or.inr (Or.inr (Or.inr (Or.inl (Int32.toInt_inj.mp c))))
  · exact Or.inr (Or.inr (Or.inr (Or.inr (Int32.toInt_inj.mp c))))
def own_S (Z : State) (h0 : Heap) (w_IMPLIES w_OR w_AND w_SINCE_IN_SESSION w_SINCE_ACROSS_SESSIONS : Addr) : Prop := Sta Z h0 "com/example/meerkat/meerkat/formula/Formula$BinaryOperator" "IMPLIES" "Lcom/example/meerkat/meerkat/formula/Formula$BinaryOperator;" (.ref w_IMPLIES) ∧ Sta Z h0 "com/example/meerkat/meerkat/formula/Formula$BinaryOperator" "OR" "Lcom/example/meerkat/meerkat/formula/Formula$BinaryOperator;" (.ref w_OR) ∧ Sta Z h0 "com/example/meerkat/meerkat/formula/Formula$BinaryOperator" "AND" "Lcom/example/meerkat/meerkat/formula/Formula$BinaryOperator;" (.ref w_AND) ∧ Sta Z h0 "com/example/meerkat/meerkat/formula/Formula$BinaryOperator" "SINCE_IN_SESSION" "Lcom/example/meerkat/meerkat/formula/Formula$BinaryOperator;" (.ref w_SINCE_IN_SESSION) ∧ Sta Z h0 "com/example/meerkat/meerkat/formula/Formula$BinaryOperator" "SINCE_ACROSS_SESSIONS" "Lcom/example/meerkat/meerkat/formula/Formula$BinaryOperator;" (.ref w_SINCE_ACROSS_SESSIONS)
def own_E (Z : State) (h0 : Heap) (w_IMPLIES w_OR w_AND w_SINCE_IN_SESSION w_SINCE_ACROSS_SESSIONS : Addr) : Prop := Exa Z h0 w_IMPLIES "com/example/meerkat/meerkat/formula/Formula$BinaryOperator" ∧ Exa Z h0 w_OR "com/example/meerkat/meerkat/formula/Formula$BinaryOperator" ∧ Exa Z h0 w_AND "com/example/meerkat/meerkat/formula/Formula$BinaryOperator" ∧ Exa Z h0 w_SINCE_IN_SESSION "com/example/meerkat/meerkat/formula/Formula$BinaryOperator" ∧ Exa Z h0 w_SINCE_ACROSS_SESSIONS "com/example/meerkat/meerkat/formula/Formula$BinaryOperator"
def own_O (Z : State) (h0 : Heap) (w_IMPLIES w_OR w_AND w_SINCE_IN_SESSION w_SINCE_ACROSS_SESSIONS : Addr) : Prop := Fld Z h0 w_OR "java/lang/Enum" "ordinal" "I" (.int 3) ∧ Fld Z h0 w_IMPLIES "java/lang/Enum" "ordinal" "I" (.int 0) ∧ Fld Z h0 w_IMPLIES "com/example/meerkat/meerkat/formula/Formula$BinaryOperator" "precedence" "I" (.int 1) ∧ Fld Z h0 w_OR "com/example/meerkat/meerkat/formula/Formula$BinaryOperator" "precedence" "I" (.int 3) ∧ Fld Z h0 w_AND "java/lang/Enum" "ordinal" "I" (.int 4) ∧ Fld Z h0 w_SINCE_IN_SESSION "java/lang/Enum" "ordinal" "I" (.int 1) ∧ Fld Z h0 w_AND "com/example/meerkat/meerkat/formula/Formula$BinaryOperator" "precedence" "I" (.int 4) ∧ Fld Z h0 w_SINCE_IN_SESSION "com/example/meerkat/meerkat/formula/Formula$BinaryOperator" "precedence" "I" (.int 2) ∧ Fld Z h0 w_SINCE_ACROSS_SESSIONS "java/lang/Enum" "ordinal" "I" (.int 2) ∧ Fld Z h0 w_SINCE_ACROSS_SESSIONS "com/example/meerkat/meerkat/formula/Formula$BinaryOperator" "precedence" "I" (.int 2)
def own_pick (a b c d f : Addr) (i : Int32) : Addr := if i = 0 then a else if i = 1 then b else if i = 2 then c else if i = 3 then d else f
def own_grp (wI a : Addr) : Int32 := if a = wI then 1 else 0
theorem d1_0 : decode method_2_code 0 = .ok (.iload_n 0, 1) := by decide +kernel
theorem d1_1 : decode method_2_code 1 = .ok (.ifCond .ne 7, 3) := by decide +kernel
theorem d1_4 : decode method_2_code 4 = .ok (.getstatic 7, 3) := by decide +kernel
theorem d1_7 : decode method_2_code 7 = .ok (.areturn, 1) := by decide +kernel
theorem d1_8 : decode method_2_code 8 = .ok (.iload_n 0, 1) := by decide +kernel
theorem d1_9 : decode method_2_code 9 = .ok (.iconst 1, 1) := by decide +kernel
theorem d1_10 : decode method_2_code 10 = .ok (.if_icmp .ne 7, 3) := by decide +kernel
theorem d1_13 : decode method_2_code 13 = .ok (.getstatic 13, 3) := by decide +kernel
theorem d1_16 : decode method_2_code 16 = .ok (.areturn, 1) := by decide +kernel
theorem d1_17 : decode method_2_code 17 = .ok (.iload_n 0, 1) := by decide +kernel
theorem d1_18 : decode method_2_code 18 = .ok (.iconst 2, 1) := by decide +kernel
theorem d1_19 : decode method_2_code 19 = .ok (.if_icmp .ne 7, 3) := by decide +kernel
theorem d1_22 : decode method_2_code 22 = .ok (.getstatic 16, 3) := by decide +kernel
theorem d1_25 : decode method_2_code 25 = .ok (.areturn, 1) := by decide +kernel
theorem d1_26 : decode method_2_code 26 = .ok (.iload_n 0, 1) := by decide +kernel
theorem d1_27 : decode method_2_code 27 = .ok (.iconst 3, 1) := by decide +kernel
theorem d1_28 : decode method_2_code 28 = .ok (.if_icmp .ne 7, 3) := by decide +kernel
theorem d1_31 : decode method_2_code 31 = .ok (.getstatic 19, 3) := by decide +kernel
theorem d1_34 : decode method_2_code 34 = .ok (.areturn, 1) := by decide +kernel
theorem d1_35 : decode method_2_code 35 = .ok (.getstatic 22, 3) := by decide +kernel
theorem d1_38 : decode method_2_code 38 = .ok (.areturn, 1) := by decide +kernel
theorem pn_0 : plainName "com/example/meerkat/meerkat/formula/BinaryOperatorGroupsRightPinLaw" = true := by first | (simp [plainName, overriddenIn]; done) | decide +kernel
theorem ef_rm_pick (m : MethodId) (x0 : Int32) : entryFrame m #[(.int x0)] 1 = mkF m 0 #[.val (.int x0)] [] := by first | (simp [entryFrame, mkF, argsToLocals, Value.category]; done) | rfl
set_option maxRecDepth 65536 in
set_option maxHeartbeats 40000000 in
theorem rm_pick (l : Launch) (Z : State) (a0 : Array Value) (hw : ∀ d ∈ tables_1, d.before a0 Z = true) (ws : List Jvm.Cond) (i : Int32) (w_IMPLIES w_OR w_AND w_SINCE_IN_SESSION w_SINCE_ACROSS_SESSIONS : Addr) (h0 : Heap) (n0 : Nat) (SS : own_S Z h0 w_IMPLIES w_OR w_AND w_SINCE_IN_SESSION w_SINCE_ACROSS_SESSIONS) :
    MetFree l (⟨"com/example/meerkat/meerkat/formula/BinaryOperatorGroupsRightPinLaw", "pick", "(I)Lcom/example/meerkat/meerkat/formula/Formula$BinaryOperator;"⟩ : MethodName) (head1 (Jvm.Cond.code (⟨"com/example/meerkat/meerkat/formula/BinaryOperatorGroupsRightPinLaw", "pick", "(I)Lcom/example/meerkat/meerkat/formula/Formula$BinaryOperator;"⟩ : MethodName) method_2_code 1 (some (.object "com/example/meerkat/meerkat/formula/Formula$BinaryOperator")) :: ws) ({ frames := 0, cells := 0, slots := 0, locals := 0 } : Room)) (fun aa U => aa = #[(.int i)] ∧ Z.Warmed39 U.vm ∧ U.heap = h0) (fun _ _ _ _ _ => True) (fun _ U o U' => ∃ v L, o = .returned v ∧ PQ (.ref (own_pick w_IMPLIES w_SINCE_IN_SESSION w_SINCE_ACROSS_SESSIONS w_OR w_AND i)) h0 n0 v U'.heap L ∧ FrameEnd U o U' L ({ frames := 0, cells := 0, slots := 0, locals := 0 } : Room).cells ({ frames := 0, cells := 0, slots := 0, locals := 0 } : Room).slots) := by
  refine MetFree.of_bodySF (plainFor_of_name pn_0) hisR ?_
  intro p e s m args below meth c s₁ Bd hml0 hP hK
  obtain ⟨rfl, hZ, hh⟩ := hP
  have hx := Bd.exec
  have hby := Bd.bytes
  have hlk := Bd.notSynchronized
  have hml : c.maxLocals = 1 := hml0
  have hown : s.vm.findClass "com/example/meerkat/meerkat/formula/BinaryOperatorGroupsRightPinLaw" = some m.cls := findClass_of_methodNamed Bd.named
  have X0 : Stand p l e ({ frames := 0, cells := 0, slots := 0, locals := 0 } : Room) s m #[(.int i)] below meth c s₁ [] 0 0 := Stand.of_body Bd
  have e0 : s₁.heap = h0 := by rw [← hh, Bd.state]; rfl
  have N0 := Fr.nil n0
  obtain ⟨S_IMPLIES, S_OR, S_AND, S_SINCE_IN_SESSION, S_SINCE_ACROSS_SESSIONS⟩ := SS
  show Go p.tables e below (Fin s below (PQ (.ref (own_pick w_IMPLIES w_SINCE_IN_SESSION w_SINCE_ACROSS_SESSIONS w_OR w_AND i)) h0 n0) ({ frames := 0, cells := 0, slots := 0, locals := 0 } : Room).cells ({ frames := 0, cells := 0, slots := 0, locals := 0 } : Room).slots) (s₁.setTop (entryFrame m #[(.int i)] 1))
  refine own_go (fun t k => castTop (ef_rm_pick m i) k) ?_
  show Go p.tables e below _ (s₁.setTop (mkF m 0 #[.val (.int i)] []))
  refine own_go (fun t k => XS.iloadN X0.here hx rfl (hb hby d1_0) rfl k) ?_
  show Go p.tables e below _ (s₁.setTop (mkF m 1 #[.val (.int i)] [(.int i)]))
  by_cases hc1 : i = 0
  · refine own_go (fun t k => XS.ifNo X0.here hx rfl (hb hby d1_1) rfl (XT.i0_ne_f hc1) k) ?_
    show Go p.tables e below _ (s₁.setTop (mkF m 4 #[.val (.int i)] []))
    obtain ⟨T2, X2, e2, st2⟩ := getS2 X0 hx hZ hown (host := "") (Or.inl (hw _ (List.mem_of_getElem? (i := 5) rfl))) Via.refl e0 S_IMPLIES (g := (mkF m 4 #[.val (.int i)] [])) rfl (hb hby d1_4)
    refine own_go (fun t k => st2 t k) ?_
    show Go p.tables e below _ (T2.setTop (mkF m 7 #[.val (.int i)] [(.ref w_IMPLIES)]))
    exact own_ret X2 hx hlk Bd.returns rfl (Or.inr (Or.inr (Or.inr (Or.inr ⟨rfl, rfl, rfl⟩)))) (hb hby d1_7) ⟨by simp [own_pick, hc1], N0, e2⟩ (by decide) (by decide)
  · refine own_go (fun t k => XS.ifYes X0.here hx rfl (pc0 := 1) (pc' := 8) rfl (hb hby d1_1) rfl (XT.i0_ne_t hc1) (by decide) (by decide) k) ?_
    show Go p.tables e below _ (s₁.setTop (mkF m 8 #[.val (.int i)] []))
    refine own_go (fun t k => XS.iloadN X0.here hx rfl (hb hby d1_8) rfl k) ?_
    show Go p.tables e below _ (s₁.setTop (mkF m 9 #[.val (.int i)] [(.int i)]))
    refine own_go (fun t k => XS.iconst X0.here hx rfl (hb hby d1_9) k) ?_
    show Go p.tables e below _ (s₁.setTop (mkF m 10 #[.val (.int i)] [(.int (1 : Int32)), (.int i)]))
    by_cases hc3 : i = (1 : Int32)
    · refine own_go (fun t k => XS.icmpNo X0.here hx rfl (hb hby d1_10) rfl (XT.ii_ne_f hc3) k) ?_
      show Go p.tables e below _ (s₁.setTop (mkF m 13 #[.val (.int i)] []))
      obtain ⟨T4, X4, e4, st4⟩ := getS2 X0 hx hZ hown (host := "") (Or.inl (hw _ (List.mem_of_getElem? (i := 25) rfl))) Via.refl e0 S_SINCE_IN_SESSION (g := (mkF m 13 #[.val (.int i)] [])) rfl (hb hby d1_13)
      refine own_go (fun t k => st4 t k) ?_
      show Go p.tables e below _ (T4.setTop (mkF m 16 #[.val (.int i)] [(.ref w_SINCE_IN_SESSION)]))
      exact own_ret X4 hx hlk Bd.returns rfl (Or.inr (Or.inr (Or.inr (Or.inr ⟨rfl, rfl, rfl⟩)))) (hb hby d1_16) ⟨by simp [own_pick, hc1, hc3], N0, e4⟩ (by decide) (by decide)
    · refine own_go (fun t k => XS.icmpYes X0.here hx rfl (pc0 := 10) (pc' := 17) rfl (hb hby d1_10) rfl (XT.ii_ne_t hc3) (by decide) (by decide) k) ?_
      show Go p.tables e below _ (s₁.setTop (mkF m 17 #[.val (.int i)] []))
      refine own_go (fun t k => XS.iloadN X0.here hx rfl (hb hby d1_17) rfl k) ?_
      show Go p.tables e below _ (s₁.setTop (mkF m 18 #[.val (.int i)] [(.int i)]))
      refine own_go (fun t k => XS.iconst X0.here hx rfl (hb hby d1_18) k) ?_
      show Go p.tables e below _ (s₁.setTop (mkF m 19 #[.val (.int i)] [(.int (2 : Int32)), (.int i)]))
      by_cases hc5 : i = (2 : Int32)
      · refine own_go (fun t k => XS.icmpNo X0.here hx rfl (hb hby d1_19) rfl (XT.ii_ne_f hc5) k) ?_
        show Go p.tables e below _ (s₁.setTop (mkF m 22 #[.val (.int i)] []))
        obtain ⟨T6, X6, e6, st6⟩ := getS2 X0 hx hZ hown (host := "") (Or.inl (hw _ (List.mem_of_getElem? (i := 27) rfl))) Via.refl e0 S_SINCE_ACROSS_SESSIONS (g := (mkF m 22 #[.val (.int i)] [])) rfl (hb hby d1_22)
        refine own_go (fun t k => st6 t k) ?_
        show Go p.tables e below _ (T6.setTop (mkF m 25 #[.val (.int i)] [(.ref w_SINCE_ACROSS_SESSIONS)]))
        exact own_ret X6 hx hlk Bd.returns rfl (Or.inr (Or.inr (Or.inr (Or.inr ⟨rfl, rfl, rfl⟩)))) (hb hby d1_25) ⟨by simp [own_pick, hc1, hc3, hc5], N0, e6⟩ (by decide) (by decide)
      · refine own_go (fun t k => XS.icmpYes X0.here hx rfl (pc0 := 19) (pc' := 26) rfl (hb hby d1_19) rfl (XT.ii_ne_t hc5) (by decide) (by decide) k) ?_
        show Go p.tables e below _ (s₁.setTop (mkF m 26 #[.val (.int i)] []))
        refine own_go (fun t k => XS.iloadN X0.here hx rfl (hb hby d1_26) rfl k) ?_
        show Go p.tables e below _ (s₁.setTop (mkF m 27 #[.val (.int i)] [(.int i)]))
        refine own_go (fun t k => XS.iconst X0.here hx rfl (hb hby d1_27) k) ?_
        show Go p.tables e below _ (s₁.setTop (mkF m 28 #[.val (.int i)] [(.int (3 : Int32)), (.int i)]))
        by_cases hc7 : i = (3 : Int32)
        · refine own_go (fun t k => XS.icmpNo X0.here hx rfl (hb hby d1_28) rfl (XT.ii_ne_f hc7) k) ?_
          show Go p.tables e below _ (s₁.setTop (mkF m 31 #[.val (.int i)] []))
          obtain ⟨T8, X8, e8, st8⟩ := getS2 X0 hx hZ hown (host := "") (Or.inl (hw _ (List.mem_of_getElem? (i := 8) rfl))) Via.refl e0 S_OR (g := (mkF m 31 #[.val (.int i)] [])) rfl (hb hby d1_31)
          refine own_go (fun t k => st8 t k) ?_
          show Go p.tables e below _ (T8.setTop (mkF m 34 #[.val (.int i)] [(.ref w_OR)]))
          exact own_ret X8 hx hlk Bd.returns rfl (Or.inr (Or.inr (Or.inr (Or.inr ⟨rfl, rfl, rfl⟩)))) (hb hby d1_34) ⟨by simp [own_pick, hc1, hc3, hc5, hc7], N0, e8⟩ (by decide) (by decide)
        · refine own_go (fun t k => XS.icmpYes X0.here hx rfl (pc0 := 28) (pc' := 35) rfl (hb hby d1_28) rfl (XT.ii_ne_t hc7) (by decide) (by decide) k) ?_
          show Go p.tables e below _ (s₁.setTop (mkF m 35 #[.val (.int i)] []))
          obtain ⟨T9, X9, e9, st9⟩ := getS2 X0 hx hZ hown (host := "") (Or.inl (hw _ (List.mem_of_getElem? (i := 23) rfl))) Via.refl e0 S_AND (g := (mkF m 35 #[.val (.int i)] [])) rfl (hb hby d1_35)
          refine own_go (fun t k => st9 t k) ?_
          show Go p.tables e below _ (T9.setTop (mkF m 38 #[.val (.int i)] [(.ref w_AND)]))
          exact own_ret X9 hx hlk Bd.returns rfl (Or.inr (Or.inr (Or.inr (Or.inr ⟨rfl, rfl, rfl⟩)))) (hb hby d1_38) ⟨by simp [own_pick, hc1, hc3, hc5, hc7], N0, e9⟩ (by decide) (by decide)
theorem d2_0 : decode prog_58_method_5_code 0 = .ok (.aload_n 0, 1) := by decide +kernel
theorem d2_1 : decode prog_58_method_5_code 1 = .ok (.getstatic 3, 3) := by decide +kernel
theorem d2_4 : decode prog_58_method_5_code 4 = .ok (.if_acmp .ne 7, 3) := by decide +kernel
theorem d2_7 : decode prog_58_method_5_code 7 = .ok (.iconst 1, 1) := by decide +kernel
theorem d2_8 : decode prog_58_method_5_code 8 = .ok (.goto 4, 3) := by decide +kernel
theorem d2_11 : decode prog_58_method_5_code 11 = .ok (.iconst 0, 1) := by decide +kernel
theorem d2_12 : decode prog_58_method_5_code 12 = .ok (.ireturn, 1) := by decide +kernel
theorem pn_1 : plainName "com/example/meerkat/meerkat/formula/Formula$BinaryOperator" = true := by first | (simp [plainName, overriddenIn]; done) | decide +kernel
theorem ef_rm_grp (m : MethodId) (x0 : Addr) : entryFrame m #[(.ref x0)] 1 = mkF m 0 #[.val (.ref x0)] [] := by first | (simp [entryFrame, mkF, argsToLocals, Value.category]; done) | rfl
set_option maxRecDepth 65536 in
set_option maxHeartbeats 40000000 in
theorem rm_grp (l : Launch) (Z : State) (a0 : Array Value) (hw : ∀ d ∈ tables_1, d.before a0 Z = true) (ws : List Jvm.Cond) (a : Addr) (w_IMPLIES w_OR w_AND w_SINCE_IN_SESSION w_SINCE_ACROSS_SESSIONS : Addr) (h0 : Heap) (n0 : Nat) (SS : own_S Z h0 w_IMPLIES w_OR w_AND w_SINCE_IN_SESSION w_SINCE_ACROSS_SESSIONS) :
    MetFree l (⟨"com/example/meerkat/meerkat/formula/Formula$BinaryOperator", "groupsRight", "()Z"⟩ : MethodName) (head1 (Jvm.Cond.code (⟨"com/example/meerkat/meerkat/formula/Formula$BinaryOperator", "groupsRight", "()Z"⟩ : MethodName) prog_58_method_5_code 1 (some .boolean) :: ws) ({ frames := 0, cells := 0, slots := 0, locals := 0 } : Room)) (fun aa U => aa = #[(.ref a)] ∧ Z.Warmed39 U.vm ∧ U.heap = h0) (fun _ _ _ _ _ => True) (fun _ U o U' => ∃ v L, o = .returned v ∧ PQ (.int (own_grp w_IMPLIES a)) h0 n0 v U'.heap L ∧ FrameEnd U o U' L ({ frames := 0, cells := 0, slots := 0, locals := 0 } : Room).cells ({ frames := 0, cells := 0, slots := 0, locals := 0 } : Room).slots) := by
  refine MetFree.of_bodySF (plainFor_of_name pn_1) hisR ?_
  intro p e s m args below meth c s₁ Bd hml0 hP hK
  obtain ⟨rfl, hZ, hh⟩ := hP
  have hx := Bd.exec
  have hby := Bd.bytes
  have hlk := Bd.notSynchronized
  have hml : c.maxLocals = 1 := hml0
  have hown : s.vm.findClass "com/example/meerkat/meerkat/formula/Formula$BinaryOperator" = some m.cls := findClass_of_methodNamed Bd.named
  have X0 : Stand p l e ({ frames := 0, cells := 0, slots := 0, locals := 0 } : Room) s m #[(.ref a)] below meth c s₁ [] 0 0 := Stand.of_body Bd
  have e0 : s₁.heap = h0 := by rw [← hh, Bd.state]; rfl
  have N0 := Fr.nil n0
  obtain ⟨S_IMPLIES, S_OR, S_AND, S_SINCE_IN_SESSION, S_SINCE_ACROSS_SESSIONS⟩ := SS
  show Go p.tables e below (Fin s below (PQ (.int (own_grp w_IMPLIES a)) h0 n0) ({ frames := 0, cells := 0, slots := 0, locals := 0 } : Room).cells ({ frames := 0, cells := 0, slots := 0, locals := 0 } : Room).slots) (s₁.setTop (entryFrame m #[(.ref a)] 1))
  refine own_go (fun t k => castTop (ef_rm_grp m a) k) ?_
  show Go p.tables e below _ (s₁.setTop (mkF m 0 #[.val (.ref a)] []))
  refine own_go (fun t k => XS.aloadN X0.here hx rfl (hb hby d2_0) rfl rfl k) ?_
  show Go p.tables e below _ (s₁.setTop (mkF m 1 #[.val (.ref a)] [(.ref a)]))
  obtain ⟨T1, X1, e1, st1⟩ := getS2 X0 hx hZ hown (host := "") (Or.inl (hw _ (List.mem_of_getElem? (i := 15) rfl))) Via.refl e0 S_IMPLIES (g := (mkF m 1 #[.val (.ref a)] [(.ref a)])) rfl (hb hby d2_1)
  refine own_go (fun t k => st1 t k) ?_
  show Go p.tables e below _ (T1.setTop (mkF m 4 #[.val (.ref a)] [(.ref w_IMPLIES), (.ref a)]))
  by_cases hc2 : a = w_IMPLIES
  · refine own_go (fun t k => XT.acmpNo X1.here hx rfl (hb hby d2_4) rfl rfl rfl (XT.aa_ne_f (congrArg Value.ref hc2)) k) ?_
    show Go p.tables e below _ (T1.setTop (mkF m 7 #[.val (.ref a)] []))
    refine own_go (fun t k => XS.iconst X1.here hx rfl (hb hby d2_7) k) ?_
    show Go p.tables e below _ (T1.setTop (mkF m 8 #[.val (.ref a)] [(.int (1 : Int32))]))
    refine own_go (fun t k => XS.goto X1.here hx rfl (pc0 := 8) (pc' := 12) rfl (hb hby d2_8) (by decide) (by decide) k) ?_
    show Go p.tables e below _ (T1.setTop (mkF m 12 #[.val (.ref a)] [(.int (1 : Int32))]))
    exact own_ret X1 hx hlk Bd.returns rfl (Or.inl ⟨rfl, Or.inr (Or.inl rfl), _, rfl⟩) (hb hby d2_12) ⟨by simp [own_grp, hc2], N0, e1⟩ (by decide) (by decide)
  · refine own_go (fun t k => XT.acmpYes X1.here hx rfl (pc0 := 4) (pc' := 11) rfl (hb hby d2_4) rfl rfl rfl (XT.aa_ne_t (fun q => hc2 (Value.ref.inj q))) (by decide) (by decide) k) ?_
    show Go p.tables e below _ (T1.setTop (mkF m 11 #[.val (.ref a)] []))
    refine own_go (fun t k => XS.iconst X1.here hx rfl (hb hby d2_11) k) ?_
    show Go p.tables e below _ (T1.setTop (mkF m 12 #[.val (.ref a)] [(.int (0 : Int32))]))
    exact own_ret X1 hx hlk Bd.returns rfl (Or.inl ⟨rfl, Or.inr (Or.inl rfl), _, rfl⟩) (hb hby d2_12) ⟨by simp [own_grp, hc2], N0, e1⟩ (by decide) (by decide)
theorem d3_0 : decode prog_58_method_4_code 0 = .ok (.aload_n 0, 1) := by decide +kernel
theorem d3_1 : decode prog_58_method_4_code 1 = .ok (.getfield 42, 3) := by decide +kernel
theorem d3_4 : decode prog_58_method_4_code 4 = .ok (.ireturn, 1) := by decide +kernel
theorem ef_rm_prec (m : MethodId) (x0 : Addr) : entryFrame m #[(.ref x0)] 1 = mkF m 0 #[.val (.ref x0)] [] := by first | (simp [entryFrame, mkF, argsToLocals, Value.category]; done) | rfl
set_option maxRecDepth 65536 in
set_option maxHeartbeats 40000000 in
theorem rm_prec (l : Launch) (Z : State) (a0 : Array Value) (hw : ∀ d ∈ tables_1, d.before a0 Z = true) (ws : List Jvm.Cond) (a : Addr) (z : Int32) (h0 : Heap) (n0 : Nat) (F : Fld Z h0 a "com/example/meerkat/meerkat/formula/Formula$BinaryOperator" "precedence" "I" (.int z)) :
    MetFree l (⟨"com/example/meerkat/meerkat/formula/Formula$BinaryOperator", "precedence", "()I"⟩ : MethodName) (head1 (Jvm.Cond.code (⟨"com/example/meerkat/meerkat/formula/Formula$BinaryOperator", "precedence", "()I"⟩ : MethodName) prog_58_method_4_code 1 (some .int) :: ws) ({ frames := 0, cells := 0, slots := 0, locals := 0 } : Room)) (fun aa U => aa = #[(.ref a)] ∧ Z.Warmed39 U.vm ∧ U.heap = h0) (fun _ _ _ _ _ => True) (fun _ U o U' => ∃ v L, o = .returned v ∧ PQ (.int z) h0 n0 v U'.heap L ∧ FrameEnd U o U' L ({ frames := 0, cells := 0, slots := 0, locals := 0 } : Room).cells ({ frames := 0, cells := 0, slots := 0, locals := 0 } : Room).slots) := by
  refine MetFree.of_bodySF (plainFor_of_name pn_1) hisR ?_
  intro p e s m args below meth c s₁ Bd hml0 hP hK
  obtain ⟨rfl, hZ, hh⟩ := hP
  have hx := Bd.exec
  have hby := Bd.bytes
  have hlk := Bd.notSynchronized
  have hml : c.maxLocals = 1 := hml0
  have hown : s.vm.findClass "com/example/meerkat/meerkat/formula/Formula$BinaryOperator" = some m.cls := findClass_of_methodNamed Bd.named
  have X0 : Stand p l e ({ frames := 0, cells := 0, slots := 0, locals := 0 } : Room) s m #[(.ref a)] below meth c s₁ [] 0 0 := Stand.of_body Bd
  have e0 : s₁.heap = h0 := by rw [← hh, Bd.state]; rfl
  have N0 := Fr.nil n0
  show Go p.tables e below (Fin s below (PQ (.int z) h0 n0) ({ frames := 0, cells := 0, slots := 0, locals := 0 } : Room).cells ({ frames := 0, cells := 0, slots := 0, locals := 0 } : Room).slots) (s₁.setTop (entryFrame m #[(.ref a)] 1))
  refine own_go (fun t k => castTop (ef_rm_prec m a) k) ?_
  show Go p.tables e below _ (s₁.setTop (mkF m 0 #[.val (.ref a)] []))
  refine own_go (fun t k => XS.aloadN X0.here hx rfl (hb hby d3_0) rfl rfl k) ?_
  show Go p.tables e below _ (s₁.setTop (mkF m 1 #[.val (.ref a)] [(.ref a)]))
  obtain ⟨T1, X1, e1, st1⟩ := getF X0 hx hZ hown (host := "") (Or.inl (hw _ (List.mem_of_getElem? (i := 21) rfl))) Via.refl e0 F (g := (mkF m 1 #[.val (.ref a)] [(.ref a)])) rfl rfl (hb hby d3_1)
  refine own_go (fun t k => st1 t k) ?_
  show Go p.tables e below _ (T1.setTop (mkF m 4 #[.val (.ref a)] [(.int z)]))
  exact own_ret X1 hx hlk Bd.returns rfl (Or.inl ⟨rfl, Or.inl rfl, _, rfl⟩) (hb hby d3_4) ⟨rfl, N0, e1⟩ (by decide) (by decide)
theorem pd_0 : parseMethodDescriptor "(I)Lcom/example/meerkat/meerkat/formula/Formula$BinaryOperator;" = some ⟨[.int], some (.object "com/example/meerkat/meerkat/formula/Formula$BinaryOperator")⟩ := by decide +kernel
theorem pd_1 : parseMethodDescriptor "()Z" = some ⟨[], some .boolean⟩ := by decide +kernel
theorem pd_2 : parseMethodDescriptor "()I" = some ⟨[], some .int⟩ := by decide +kernel
theorem ef_rm_law_0 (m : MethodId) (x0 : Int32) (x1 : Int32) : entryFrame m #[(.int x0), (.int x1)] maxLocals = mkF m 0 #[.val (.int x0), .val (.int x1), .unset, .unset, .unset, .unset, .unset, .unset, .unset, .unset, .unset] [] := by first | (simp [entryFrame, mkF, argsToLocals, Value.category, maxLocals]; done) | rfl
set_option maxRecDepth 65536 in
set_option maxHeartbeats 40000000 in
theorem rm_law_0 (l : Launch) (Z : State) (a0 : Array Value) (hw : ∀ d ∈ tables_1, d.before a0 Z = true) (ws : List Jvm.Cond) (p1 p2 : Int32) (w_IMPLIES w_OR w_AND w_SINCE_IN_SESSION w_SINCE_ACROSS_SESSIONS : Addr) (w_y : Addr) (z_y g_y : Int32) (h0 : Heap) (n0 : Nat) (SS : own_S Z h0 w_IMPLIES w_OR w_AND w_SINCE_IN_SESSION w_SINCE_ACROSS_SESSIONS) (EE : own_E Z h0 w_IMPLIES w_OR w_AND w_SINCE_IN_SESSION w_SINCE_ACROSS_SESSIONS) (OO : own_O Z h0 w_IMPLIES w_OR w_AND w_SINCE_IN_SESSION w_SINCE_ACROSS_SESSIONS) (q1 : (p1 &&& 2147483647) % 5 = 0) (q2 : own_pick w_IMPLIES w_SINCE_IN_SESSION w_SINCE_ACROSS_SESSIONS w_OR w_AND ((p2 &&& 2147483647) % 5) = w_y) (E_y : Exa Z h0 w_y "com/example/meerkat/meerkat/formula/Formula$BinaryOperator") (F_y_precedence : Fld Z h0 w_y "com/example/meerkat/meerkat/formula/Formula$BinaryOperator" "precedence" "I" (.int z_y)) (hg : own_grp w_IMPLIES w_y = g_y) (hpq : (1 : Int32) = z_y → (1 : Int32) = g_y) :
    MetFree l x (head1 (Jvm.Cond.code x code maxLocals ret :: ws) room_1) (fun aa U => aa = #[(.int p1), (.int p2)] ∧ Z.Warmed39 U.vm ∧ U.heap = h0) (fun _ _ _ _ _ => True) (fun _ U o U' => ∃ v L, o = .returned v ∧ PQ (.int 1) h0 n0 v U'.heap L ∧ FrameEnd U o U' L room_1.cells room_1.slots) := by
  refine MetFree.of_bodySF (plainFor_of_name pn_0) hisR ?_
  intro p e s m args below meth c s₁ Bd hml0 hP hK
  obtain ⟨rfl, hZ, hh⟩ := hP
  have hx := Bd.exec
  have hby := Bd.bytes
  have hlk := Bd.notSynchronized
  have hml : c.maxLocals = 11 := hml0
  have hown : s.vm.findClass "com/example/meerkat/meerkat/formula/BinaryOperatorGroupsRightPinLaw" = some m.cls := findClass_of_methodNamed Bd.named
  have X0 : Stand p l e room_1 s m #[(.int p1), (.int p2)] below meth c s₁ [] 0 0 := Stand.of_body Bd
  have e0 : s₁.heap = h0 := by rw [← hh, Bd.state]; rfl
  have N0 := Fr.nil n0
  have SS' := SS
  obtain ⟨S_IMPLIES, S_OR, S_AND, S_SINCE_IN_SESSION, S_SINCE_ACROSS_SESSIONS⟩ := SS'
  obtain ⟨E_IMPLIES, E_OR, E_AND, E_SINCE_IN_SESSION, E_SINCE_ACROSS_SESSIONS⟩ := EE
  obtain ⟨F_OR_ordinal, F_IMPLIES_ordinal, F_IMPLIES_precedence, F_OR_precedence, F_AND_ordinal, F_SINCE_IN_SESSION_ordinal, F_AND_precedence, F_SINCE_IN_SESSION_precedence, F_SINCE_ACROSS_SESSIONS_ordinal, F_SINCE_ACROSS_SESSIONS_precedence⟩ := OO
  have nSINCE_IN_SESSION : w_SINCE_IN_SESSION ≠ w_IMPLIES := (own_ne F_SINCE_IN_SESSION_ordinal F_IMPLIES_ordinal (by decide))
  have nSINCE_ACROSS_SESSIONS : w_SINCE_ACROSS_SESSIONS ≠ w_IMPLIES := (own_ne F_SINCE_ACROSS_SESSIONS_ordinal F_IMPLIES_ordinal (by decide))
  have nOR : w_OR ≠ w_IMPLIES := (own_ne F_OR_ordinal F_IMPLIES_ordinal (by decide))
  have nAND : w_AND ≠ w_IMPLIES := (own_ne F_AND_ordinal F_IMPLIES_ordinal (by decide))
  show Go p.tables e below (Fin s below (PQ (.int 1) h0 n0) room_1.cells room_1.slots) (s₁.setTop (entryFrame m #[(.int p1), (.int p2)] maxLocals))
  refine own_go (fun t k => castTop (ef_rm_law_0 m p1 p2) k) ?_
  show Go p.tables e below _ (s₁.setTop (mkF m 0 #[.val (.int p1), .val (.int p2), .unset, .unset, .unset, .unset, .unset, .unset, .unset, .unset, .unset] []))
  refine own_go (fun t k => XS.iloadN X0.here hx rfl (hb hby at_0) rfl k) ?_
  show Go p.tables e below _ (s₁.setTop (mkF m 1 #[.val (.int p1), .val (.int p2), .unset, .unset, .unset, .unset, .unset, .unset, .unset, .unset, .unset] [(.int p1)]))
  refine own_go (fun t k => Jvm.Stand.ldcI X0 hx hown (mvT hZ (hw _ (List.mem_of_getElem? (i := 0) rfl))) rfl (hb hby at_1) k) ?_
  show Go p.tables e below _ (s₁.setTop (mkF m 3 #[.val (.int p1), .val (.int p2), .unset, .unset, .unset, .unset, .unset, .unset, .unset, .unset, .unset] [(.int (2147483647 : Int32)), (.int p1)]))
  refine own_go (fun t k => XS.iand X0.here hx rfl (hb hby at_3) rfl k) ?_
  show Go p.tables e below _ (s₁.setTop (mkF m 4 #[.val (.int p1), .val (.int p2), .unset, .unset, .unset, .unset, .unset, .unset, .unset, .unset, .unset] [(.int (p1 &&& (2147483647 : Int32)))]))
  refine own_go (fun t k => XS.iconst X0.here hx rfl (hb hby at_4) k) ?_
  show Go p.tables e below _ (s₁.setTop (mkF m 5 #[.val (.int p1), .val (.int p2), .unset, .unset, .unset, .unset, .unset, .unset, .unset, .unset, .unset] [(.int (5 : Int32)), (.int (p1 &&& (2147483647 : Int32)))]))
  refine own_go (fun t k => iremM (g := (mkF m 5 #[.val (.int p1), .val (.int p2), .unset, .unset, .unset, .unset, .unset, .unset, .unset, .unset, .unset] [(.int (5 : Int32)), (.int (p1 &&& (2147483647 : Int32)))])) X0 hx rfl (hb hby at_5) rfl (by decide) k) ?_
  show Go p.tables e below _ (s₁.setTop (mkF m 6 #[.val (.int p1), .val (.int p2), .unset, .unset, .unset, .unset, .unset, .unset, .unset, .unset, .unset] [(.int ((p1 &&& (2147483647 : Int32)) % (5 : Int32)))]))
  rw [q1]
  show Go p.tables e below _ (s₁.setTop (mkF m 6 #[.val (.int p1), .val (.int p2), .unset, .unset, .unset, .unset, .unset, .unset, .unset, .unset, .unset] [(.int (0 : Int32))]))
  refine own_go (fun t k => XS.istoreN X0.here hx rfl (hb hby at_6) rfl (l' := #[.val (.int p1), .val (.int p2), .val (.int (0 : Int32)), .unset, .unset, .unset, .unset, .unset, .unset, .unset, .unset]) rfl k) ?_
  show Go p.tables e below _ (s₁.setTop (mkF m 7 #[.val (.int p1), .val (.int p2), .val (.int (0 : Int32)), .unset, .unset, .unset, .unset, .unset, .unset, .unset, .unset] []))
  refine own_go (fun t k => XS.iloadN X0.here hx rfl (hb hby at_7) rfl k) ?_
  show Go p.tables e below _ (s₁.setTop (mkF m 8 #[.val (.int p1), .val (.int p2), .val (.int (0 : Int32)), .unset, .unset, .unset, .unset, .unset, .unset, .unset, .unset] [(.int p2)]))
  refine own_go (fun t k => Jvm.Stand.ldcI X0 hx hown (mvT hZ (hw _ (List.mem_of_getElem? (i := 0) rfl))) rfl (hb hby at_8) k) ?_
  show Go p.tables e below _ (s₁.setTop (mkF m 10 #[.val (.int p1), .val (.int p2), .val (.int (0 : Int32)), .unset, .unset, .unset, .unset, .unset, .unset, .unset, .unset] [(.int (2147483647 : Int32)), (.int p2)]))
  refine own_go (fun t k => XS.iand X0.here hx rfl (hb hby at_10) rfl k) ?_
  show Go p.tables e below _ (s₁.setTop (mkF m 11 #[.val (.int p1), .val (.int p2), .val (.int (0 : Int32)), .unset, .unset, .unset, .unset, .unset, .unset, .unset, .unset] [(.int (p2 &&& (2147483647 : Int32)))]))
  refine own_go (fun t k => XS.iconst X0.here hx rfl (hb hby at_11) k) ?_
  show Go p.tables e below _ (s₁.setTop (mkF m 12 #[.val (.int p1), .val (.int p2), .val (.int (0 : Int32)), .unset, .unset, .unset, .unset, .unset, .unset, .unset, .unset] [(.int (5 : Int32)), (.int (p2 &&& (2147483647 : Int32)))]))
  refine own_go (fun t k => iremM (g := (mkF m 12 #[.val (.int p1), .val (.int p2), .val (.int (0 : Int32)), .unset, .unset, .unset, .unset, .unset, .unset, .unset, .unset] [(.int (5 : Int32)), (.int (p2 &&& (2147483647 : Int32)))])) X0 hx rfl (hb hby at_12) rfl (by decide) k) ?_
  show Go p.tables e below _ (s₁.setTop (mkF m 13 #[.val (.int p1), .val (.int p2), .val (.int (0 : Int32)), .unset, .unset, .unset, .unset, .unset, .unset, .unset, .unset] [(.int ((p2 &&& (2147483647 : Int32)) % (5 : Int32)))]))
  refine own_go (fun t k => XS.istoreN X0.here hx rfl (hb hby at_13) rfl (l' := #[.val (.int p1), .val (.int p2), .val (.int (0 : Int32)), .val (.int ((p2 &&& (2147483647 : Int32)) % (5 : Int32))), .unset, .unset, .unset, .unset, .unset, .unset, .unset]) rfl k) ?_
  show Go p.tables e below _ (s₁.setTop (mkF m 14 #[.val (.int p1), .val (.int p2), .val (.int (0 : Int32)), .val (.int ((p2 &&& (2147483647 : Int32)) % (5 : Int32))), .unset, .unset, .unset, .unset, .unset, .unset, .unset] []))
  refine own_go (fun t k => XS.iloadN X0.here hx rfl (hb hby at_14) rfl k) ?_
  show Go p.tables e below _ (s₁.setTop (mkF m 15 #[.val (.int p1), .val (.int p2), .val (.int (0 : Int32)), .val (.int ((p2 &&& (2147483647 : Int32)) % (5 : Int32))), .unset, .unset, .unset, .unset, .unset, .unset, .unset] [(.int (0 : Int32))]))
  obtain ⟨v1, _, ⟨T1, L1, k1, n1⟩, -, X1, ⟨Lc1, hQ1, l1, y1, z1⟩, st1⟩ := Jvm.LawKit.callS X0 hx (y := (⟨"com/example/meerkat/meerkat/formula/BinaryOperatorGroupsRightPinLaw", "pick", "(I)Lcom/example/meerkat/meerkat/formula/Formula$BinaryOperator;"⟩ : MethodName)) hown (mvT hZ (hw _ (List.mem_of_getElem? (i := 1) rfl))) (mvT hZ (hw _ (List.mem_of_getElem? (i := 2) rfl))) (mvT hZ (hw _ (List.mem_of_getElem? (i := 3) rfl))) (mvT hZ (hw _ (List.mem_of_getElem? (i := 4) rfl))) (by decide) (backOf (W := 0) (rm_pick l Z a0 hw [] (0 : Int32) w_IMPLIES w_OR w_AND w_SINCE_IN_SESSION w_SINCE_ACROSS_SESSIONS h0 n0 SS) hZ (hw _ (List.mem_of_getElem? (i := 4) rfl)) (hw _ (List.mem_of_getElem? (i := 3) rfl)) (by decide) (by decide)) (g := (mkF m 15 #[.val (.int p1), .val (.int p2), .val (.int (0 : Int32)), .val (.int ((p2 &&& (2147483647 : Int32)) % (5 : Int32))), .unset, .unset, .unset, .unset, .unset, .unset, .unset] [(.int (0 : Int32))])) rfl (by rw [hml]; rfl) (argsL := [(.int (0 : Int32))]) (rest := []) (lenOf pd_0 rfl) rfl (by show 2 * 0 + _ ≤ _; exact Nat.le_of_eq rfl) (hb hby at_15) (fun _ _ => ⟨rfl, e0, (by decide : 0 + 0 ≤ _), (by decide : 0 + 0 ≤ _)⟩)
  dsimp only [Pt.U, Pt.locs, Pt.cells, Pt.slots] at X1 l1 y1 z1 st1 hQ1
  subst l1 y1 z1
  obtain ⟨hv1, N1q, e1⟩ := hQ1
  rw [show ((.ref (own_pick w_IMPLIES w_SINCE_IN_SESSION w_SINCE_ACROSS_SESSIONS w_OR w_AND (0 : Int32))) : Value) = (.ref w_IMPLIES) from rfl] at hv1
  subst hv1
  have N1 := Fr.app N0 N1q
  refine own_go (fun t k => st1 t k) ?_
  show Go p.tables e below _ (T1.setTop (mkF m 18 #[.val (.int p1), .val (.int p2), .val (.int (0 : Int32)), .val (.int ((p2 &&& (2147483647 : Int32)) % (5 : Int32))), .unset, .unset, .unset, .unset, .unset, .unset, .unset] [(.ref w_IMPLIES)]))
  refine own_go (fun t k => XS.astore X1.here hx rfl (hb hby at_18) rfl rfl (l' := #[.val (.int p1), .val (.int p2), .val (.int (0 : Int32)), .val (.int ((p2 &&& (2147483647 : Int32)) % (5 : Int32))), .val (.ref w_IMPLIES), .unset, .unset, .unset, .unset, .unset, .unset]) rfl k) ?_
  show Go p.tables e below _ (T1.setTop (mkF m 20 #[.val (.int p1), .val (.int p2), .val (.int (0 : Int32)), .val (.int ((p2 &&& (2147483647 : Int32)) % (5 : Int32))), .val (.ref w_IMPLIES), .unset, .unset, .unset, .unset, .unset, .unset] []))
  refine own_go (fun t k => XS.iloadN X1.here hx rfl (hb hby at_20) rfl k) ?_
  show Go p.tables e below _ (T1.setTop (mkF m 21 #[.val (.int p1), .val (.int p2), .val (.int (0 : Int32)), .val (.int ((p2 &&& (2147483647 : Int32)) % (5 : Int32))), .val (.ref w_IMPLIES), .unset, .unset, .unset, .unset, .unset, .unset] [(.int ((p2 &&& (2147483647 : Int32)) % (5 : Int32)))]))
  obtain ⟨v2, _, ⟨T2, L2, k2, n2⟩, -, X2, ⟨Lc2, hQ2, l2, y2, z2⟩, st2⟩ := Jvm.LawKit.callS X1 hx (y := (⟨"com/example/meerkat/meerkat/formula/BinaryOperatorGroupsRightPinLaw", "pick", "(I)Lcom/example/meerkat/meerkat/formula/Formula$BinaryOperator;"⟩ : MethodName)) hown (mvT hZ (hw _ (List.mem_of_getElem? (i := 1) rfl))) (mvT hZ (hw _ (List.mem_of_getElem? (i := 2) rfl))) (mvT hZ (hw _ (List.mem_of_getElem? (i := 3) rfl))) (mvT hZ (hw _ (List.mem_of_getElem? (i := 4) rfl))) (by decide) (backOf (W := 0) (rm_pick l Z a0 hw [] ((p2 &&& (2147483647 : Int32)) % (5 : Int32)) w_IMPLIES w_OR w_AND w_SINCE_IN_SESSION w_SINCE_ACROSS_SESSIONS h0 n0 SS) hZ (hw _ (List.mem_of_getElem? (i := 4) rfl)) (hw _ (List.mem_of_getElem? (i := 3) rfl)) (by decide) (by decide)) (g := (mkF m 21 #[.val (.int p1), .val (.int p2), .val (.int (0 : Int32)), .val (.int ((p2 &&& (2147483647 : Int32)) % (5 : Int32))), .val (.ref w_IMPLIES), .unset, .unset, .unset, .unset, .unset, .unset] [(.int ((p2 &&& (2147483647 : Int32)) % (5 : Int32)))])) rfl (by rw [hml]; rfl) (argsL := [(.int ((p2 &&& (2147483647 : Int32)) % (5 : Int32)))]) (rest := []) (lenOf pd_0 rfl) rfl (by show 2 * 0 + _ ≤ _; exact Nat.le_of_eq rfl) (hb hby at_21) (fun _ _ => ⟨rfl, e1, (by decide : 0 + 0 ≤ _), (by decide : 0 + 0 ≤ _)⟩)
  dsimp only [Pt.U, Pt.locs, Pt.cells, Pt.slots] at X2 l2 y2 z2 st2 hQ2
  subst l2 y2 z2
  obtain ⟨hv2, N2q, e2⟩ := hQ2
  rw [show ((.ref (own_pick w_IMPLIES w_SINCE_IN_SESSION w_SINCE_ACROSS_SESSIONS w_OR w_AND ((p2 &&& (2147483647 : Int32)) % (5 : Int32)))) : Value) = (.ref w_y) from congrArg Value.ref q2] at hv2
  subst hv2
  have N2 := Fr.app N1 N2q
  refine own_go (fun t k => st2 t k) ?_
  show Go p.tables e below _ (T2.setTop (mkF m 24 #[.val (.int p1), .val (.int p2), .val (.int (0 : Int32)), .val (.int ((p2 &&& (2147483647 : Int32)) % (5 : Int32))), .val (.ref w_IMPLIES), .unset, .unset, .unset, .unset, .unset, .unset] [(.ref w_y)]))
  refine own_go (fun t k => XS.astore X2.here hx rfl (hb hby at_24) rfl rfl (l' := #[.val (.int p1), .val (.int p2), .val (.int (0 : Int32)), .val (.int ((p2 &&& (2147483647 : Int32)) % (5 : Int32))), .val (.ref w_IMPLIES), .val (.ref w_y), .unset, .unset, .unset, .unset, .unset]) rfl k) ?_
  show Go p.tables e below _ (T2.setTop (mkF m 26 #[.val (.int p1), .val (.int p2), .val (.int (0 : Int32)), .val (.int ((p2 &&& (2147483647 : Int32)) % (5 : Int32))), .val (.ref w_IMPLIES), .val (.ref w_y), .unset, .unset, .unset, .unset, .unset] []))
  refine own_go (fun t k => XS.aload X2.here hx rfl (hb hby at_26) rfl rfl k) ?_
  show Go p.tables e below _ (T2.setTop (mkF m 28 #[.val (.int p1), .val (.int p2), .val (.int (0 : Int32)), .val (.int ((p2 &&& (2147483647 : Int32)) % (5 : Int32))), .val (.ref w_IMPLIES), .val (.ref w_y), .unset, .unset, .unset, .unset, .unset] [(.ref w_IMPLIES)]))
  obtain ⟨cq3, kq3, q3a, q3b, q3c⟩ := isOf hZ e2 E_IMPLIES
  obtain ⟨v3, _, ⟨T3, L3, k3, n3⟩, -, X3, ⟨Lc3, hQ3, l3, y3, z3⟩, st3⟩ := X2.virtualBack hx (y := (⟨"com/example/meerkat/meerkat/formula/Formula$BinaryOperator", "groupsRight", "()Z"⟩ : MethodName)) (z := (⟨"com/example/meerkat/meerkat/formula/Formula$BinaryOperator", "groupsRight", "()Z"⟩ : MethodName)) hown (mvT hZ (hw _ (List.mem_of_getElem? (i := 10) rfl))) (mvT hZ (hw _ (List.mem_of_getElem? (i := 11) rfl))) (notFace_of_selects (args := #[]) (mvT hZ (hw _ (List.mem_of_getElem? (i := 13) rfl)))) (mvT hZ (hw _ (List.mem_of_getElem? (i := 13) rfl))) (mvT hZ (hw _ (List.mem_of_getElem? (i := 12) rfl))) (by decide) (backOf (W := 0) (rm_grp l Z a0 hw [] w_IMPLIES w_IMPLIES w_OR w_AND w_SINCE_IN_SESSION w_SINCE_ACROSS_SESSIONS h0 n0 SS) hZ (hw _ (List.mem_of_getElem? (i := 14) rfl)) (hw _ (List.mem_of_getElem? (i := 6) rfl)) (by decide) (by decide)) q3a q3c (g := (mkF m 28 #[.val (.int p1), .val (.int p2), .val (.int (0 : Int32)), .val (.int ((p2 &&& (2147483647 : Int32)) % (5 : Int32))), .val (.ref w_IMPLIES), .val (.ref w_y), .unset, .unset, .unset, .unset, .unset] [(.ref w_IMPLIES)])) rfl (by rw [hml]; rfl) (Steps.refl _) (argsL := []) (rest := []) (lenOf pd_1 rfl) rfl (by show 2 * 0 + _ ≤ _; exact Nat.le_of_eq rfl) (hb hby at_28) (fun _ _ => ⟨rfl, e2, (by decide : 0 + 0 ≤ _), (by decide : 0 + 0 ≤ _)⟩)
  dsimp only [Pt.U, Pt.locs, Pt.cells, Pt.slots] at X3 l3 y3 z3 st3 hQ3
  subst l3 y3 z3
  obtain ⟨hv3, N3q, e3⟩ := hQ3
  rw [show ((.int (own_grp w_IMPLIES w_IMPLIES)) : Value) = (.int (1 : Int32)) from by simp [own_grp, nSINCE_IN_SESSION, nSINCE_ACROSS_SESSIONS, nOR, nAND]] at hv3
  subst hv3
  have N3 := Fr.app N2 N3q
  refine own_go (fun t k => st3.trans k) ?_
  show Go p.tables e below _ (T3.setTop (mkF m 31 #[.val (.int p1), .val (.int p2), .val (.int (0 : Int32)), .val (.int ((p2 &&& (2147483647 : Int32)) % (5 : Int32))), .val (.ref w_IMPLIES), .val (.ref w_y), .unset, .unset, .unset, .unset, .unset] [(.int (1 : Int32))]))
  refine own_go (fun t k => XS.istore X3.here hx rfl (hb hby at_31) rfl (l' := #[.val (.int p1), .val (.int p2), .val (.int (0 : Int32)), .val (.int ((p2 &&& (2147483647 : Int32)) % (5 : Int32))), .val (.ref w_IMPLIES), .val (.ref w_y), .val (.int (1 : Int32)), .unset, .unset, .unset, .unset]) rfl k) ?_
  show Go p.tables e below _ (T3.setTop (mkF m 33 #[.val (.int p1), .val (.int p2), .val (.int (0 : Int32)), .val (.int ((p2 &&& (2147483647 : Int32)) % (5 : Int32))), .val (.ref w_IMPLIES), .val (.ref w_y), .val (.int (1 : Int32)), .unset, .unset, .unset, .unset] []))
  refine own_go (fun t k => XS.aload X3.here hx rfl (hb hby at_33) rfl rfl k) ?_
  show Go p.tables e below _ (T3.setTop (mkF m 35 #[.val (.int p1), .val (.int p2), .val (.int (0 : Int32)), .val (.int ((p2 &&& (2147483647 : Int32)) % (5 : Int32))), .val (.ref w_IMPLIES), .val (.ref w_y), .val (.int (1 : Int32)), .unset, .unset, .unset, .unset] [(.ref w_y)]))
  obtain ⟨cq4, kq4, q4a, q4b, q4c⟩ := isOf hZ e3 E_y
  obtain ⟨v4, _, ⟨T4, L4, k4, n4⟩, -, X4, ⟨Lc4, hQ4, l4, y4, z4⟩, st4⟩ := X3.virtualBack hx (y := (⟨"com/example/meerkat/meerkat/formula/Formula$BinaryOperator", "groupsRight", "()Z"⟩ : MethodName)) (z := (⟨"com/example/meerkat/meerkat/formula/Formula$BinaryOperator", "groupsRight", "()Z"⟩ : MethodName)) hown (mvT hZ (hw _ (List.mem_of_getElem? (i := 10) rfl))) (mvT hZ (hw _ (List.mem_of_getElem? (i := 11) rfl))) (notFace_of_selects (args := #[]) (mvT hZ (hw _ (List.mem_of_getElem? (i := 13) rfl)))) (mvT hZ (hw _ (List.mem_of_getElem? (i := 13) rfl))) (mvT hZ (hw _ (List.mem_of_getElem? (i := 12) rfl))) (by decide) (backOf (W := 0) (rm_grp l Z a0 hw [] w_y w_IMPLIES w_OR w_AND w_SINCE_IN_SESSION w_SINCE_ACROSS_SESSIONS h0 n0 SS) hZ (hw _ (List.mem_of_getElem? (i := 14) rfl)) (hw _ (List.mem_of_getElem? (i := 6) rfl)) (by decide) (by decide)) q4a q4c (g := (mkF m 35 #[.val (.int p1), .val (.int p2), .val (.int (0 : Int32)), .val (.int ((p2 &&& (2147483647 : Int32)) % (5 : Int32))), .val (.ref w_IMPLIES), .val (.ref w_y), .val (.int (1 : Int32)), .unset, .unset, .unset, .unset] [(.ref w_y)])) rfl (by rw [hml]; rfl) (Steps.refl _) (argsL := []) (rest := []) (lenOf pd_1 rfl) rfl (by show 2 * 0 + _ ≤ _; exact Nat.le_of_eq rfl) (hb hby at_35) (fun _ _ => ⟨rfl, e3, (by decide : 0 + 0 ≤ _), (by decide : 0 + 0 ≤ _)⟩)
  dsimp only [Pt.U, Pt.locs, Pt.cells, Pt.slots] at X4 l4 y4 z4 st4 hQ4
  subst l4 y4 z4
  obtain ⟨hv4, N4q, e4⟩ := hQ4
  rw [show ((.int (own_grp w_IMPLIES w_y)) : Value) = (.int g_y) from congrArg Value.int hg] at hv4
  subst hv4
  have N4 := Fr.app N3 N4q
  refine own_go (fun t k => st4.trans k) ?_
  show Go p.tables e below _ (T4.setTop (mkF m 38 #[.val (.int p1), .val (.int p2), .val (.int (0 : Int32)), .val (.int ((p2 &&& (2147483647 : Int32)) % (5 : Int32))), .val (.ref w_IMPLIES), .val (.ref w_y), .val (.int (1 : Int32)), .unset, .unset, .unset, .unset] [(.int g_y)]))
  refine own_go (fun t k => XS.istore X4.here hx rfl (hb hby at_38) rfl (l' := #[.val (.int p1), .val (.int p2), .val (.int (0 : Int32)), .val (.int ((p2 &&& (2147483647 : Int32)) % (5 : Int32))), .val (.ref w_IMPLIES), .val (.ref w_y), .val (.int (1 : Int32)), .val (.int g_y), .unset, .unset, .unset]) rfl k) ?_
  show Go p.tables e below _ (T4.setTop (mkF m 40 #[.val (.int p1), .val (.int p2), .val (.int (0 : Int32)), .val (.int ((p2 &&& (2147483647 : Int32)) % (5 : Int32))), .val (.ref w_IMPLIES), .val (.ref w_y), .val (.int (1 : Int32)), .val (.int g_y), .unset, .unset, .unset] []))
  refine own_go (fun t k => XS.iloadN X4.here hx rfl (hb hby at_40) rfl k) ?_
  show Go p.tables e below _ (T4.setTop (mkF m 41 #[.val (.int p1), .val (.int p2), .val (.int (0 : Int32)), .val (.int ((p2 &&& (2147483647 : Int32)) % (5 : Int32))), .val (.ref w_IMPLIES), .val (.ref w_y), .val (.int (1 : Int32)), .val (.int g_y), .unset, .unset, .unset] [(.int (0 : Int32))]))
  refine own_go (fun t k => XS.ifNo X4.here hx rfl (hb hby at_41) rfl (XT.i0_ne_f (by decide)) k) ?_
  show Go p.tables e below _ (T4.setTop (mkF m 44 #[.val (.int p1), .val (.int p2), .val (.int (0 : Int32)), .val (.int ((p2 &&& (2147483647 : Int32)) % (5 : Int32))), .val (.ref w_IMPLIES), .val (.ref w_y), .val (.int (1 : Int32)), .val (.int g_y), .unset, .unset, .unset] []))
  refine own_go (fun t k => XS.iconst X4.here hx rfl (hb hby at_44) k) ?_
  show Go p.tables e below _ (T4.setTop (mkF m 45 #[.val (.int p1), .val (.int p2), .val (.int (0 : Int32)), .val (.int ((p2 &&& (2147483647 : Int32)) % (5 : Int32))), .val (.ref w_IMPLIES), .val (.ref w_y), .val (.int (1 : Int32)), .val (.int g_y), .unset, .unset, .unset] [(.int (1 : Int32))]))
  refine own_go (fun t k => XS.goto X4.here hx rfl (pc0 := 45) (pc' := 49) rfl (hb hby at_45) (by decide) (by decide) k) ?_
  show Go p.tables e below _ (T4.setTop (mkF m 49 #[.val (.int p1), .val (.int p2), .val (.int (0 : Int32)), .val (.int ((p2 &&& (2147483647 : Int32)) % (5 : Int32))), .val (.ref w_IMPLIES), .val (.ref w_y), .val (.int (1 : Int32)), .val (.int g_y), .unset, .unset, .unset] [(.int (1 : Int32))]))
  refine own_go (fun t k => XS.istore X4.here hx rfl (hb hby at_49) rfl (l' := #[.val (.int p1), .val (.int p2), .val (.int (0 : Int32)), .val (.int ((p2 &&& (2147483647 : Int32)) % (5 : Int32))), .val (.ref w_IMPLIES), .val (.ref w_y), .val (.int (1 : Int32)), .val (.int g_y), .val (.int (1 : Int32)), .unset, .unset]) rfl k) ?_
  show Go p.tables e below _ (T4.setTop (mkF m 51 #[.val (.int p1), .val (.int p2), .val (.int (0 : Int32)), .val (.int ((p2 &&& (2147483647 : Int32)) % (5 : Int32))), .val (.ref w_IMPLIES), .val (.ref w_y), .val (.int (1 : Int32)), .val (.int g_y), .val (.int (1 : Int32)), .unset, .unset] []))
  refine own_go (fun t k => XS.iload X4.here hx rfl (hb hby at_51) rfl k) ?_
  show Go p.tables e below _ (T4.setTop (mkF m 53 #[.val (.int p1), .val (.int p2), .val (.int (0 : Int32)), .val (.int ((p2 &&& (2147483647 : Int32)) % (5 : Int32))), .val (.ref w_IMPLIES), .val (.ref w_y), .val (.int (1 : Int32)), .val (.int g_y), .val (.int (1 : Int32)), .unset, .unset] [(.int (1 : Int32))]))
  refine own_go (fun t k => XS.iload X4.here hx rfl (hb hby at_53) rfl k) ?_
  show Go p.tables e below _ (T4.setTop (mkF m 55 #[.val (.int p1), .val (.int p2), .val (.int (0 : Int32)), .val (.int ((p2 &&& (2147483647 : Int32)) % (5 : Int32))), .val (.ref w_IMPLIES), .val (.ref w_y), .val (.int (1 : Int32)), .val (.int g_y), .val (.int (1 : Int32)), .unset, .unset] [(.int (1 : Int32)), (.int (1 : Int32))]))
  refine own_go (fun t k => XS.icmpNo X4.here hx rfl (hb hby at_55) rfl (XT.ii_ne_f (by decide)) k) ?_
  show Go p.tables e below _ (T4.setTop (mkF m 58 #[.val (.int p1), .val (.int p2), .val (.int (0 : Int32)), .val (.int ((p2 &&& (2147483647 : Int32)) % (5 : Int32))), .val (.ref w_IMPLIES), .val (.ref w_y), .val (.int (1 : Int32)), .val (.int g_y), .val (.int (1 : Int32)), .unset, .unset] []))
  refine own_go (fun t k => XS.iconst X4.here hx rfl (hb hby at_58) k) ?_
  show Go p.tables e below _ (T4.setTop (mkF m 59 #[.val (.int p1), .val (.int p2), .val (.int (0 : Int32)), .val (.int ((p2 &&& (2147483647 : Int32)) % (5 : Int32))), .val (.ref w_IMPLIES), .val (.ref w_y), .val (.int (1 : Int32)), .val (.int g_y), .val (.int (1 : Int32)), .unset, .unset] [(.int (1 : Int32))]))
  refine own_go (fun t k => XS.goto X4.here hx rfl (pc0 := 59) (pc' := 63) rfl (hb hby at_59) (by decide) (by decide) k) ?_
  show Go p.tables e below _ (T4.setTop (mkF m 63 #[.val (.int p1), .val (.int p2), .val (.int (0 : Int32)), .val (.int ((p2 &&& (2147483647 : Int32)) % (5 : Int32))), .val (.ref w_IMPLIES), .val (.ref w_y), .val (.int (1 : Int32)), .val (.int g_y), .val (.int (1 : Int32)), .unset, .unset] [(.int (1 : Int32))]))
  refine own_go (fun t k => XS.istore X4.here hx rfl (hb hby at_63) rfl (l' := #[.val (.int p1), .val (.int p2), .val (.int (0 : Int32)), .val (.int ((p2 &&& (2147483647 : Int32)) % (5 : Int32))), .val (.ref w_IMPLIES), .val (.ref w_y), .val (.int (1 : Int32)), .val (.int g_y), .val (.int (1 : Int32)), .val (.int (1 : Int32)), .unset]) rfl k) ?_
  show Go p.tables e below _ (T4.setTop (mkF m 65 #[.val (.int p1), .val (.int p2), .val (.int (0 : Int32)), .val (.int ((p2 &&& (2147483647 : Int32)) % (5 : Int32))), .val (.ref w_IMPLIES), .val (.ref w_y), .val (.int (1 : Int32)), .val (.int g_y), .val (.int (1 : Int32)), .val (.int (1 : Int32)), .unset] []))
  refine own_go (fun t k => XS.aload X4.here hx rfl (hb hby at_65) rfl rfl k) ?_
  show Go p.tables e below _ (T4.setTop (mkF m 67 #[.val (.int p1), .val (.int p2), .val (.int (0 : Int32)), .val (.int ((p2 &&& (2147483647 : Int32)) % (5 : Int32))), .val (.ref w_IMPLIES), .val (.ref w_y), .val (.int (1 : Int32)), .val (.int g_y), .val (.int (1 : Int32)), .val (.int (1 : Int32)), .unset] [(.ref w_IMPLIES)]))
  obtain ⟨cq5, kq5, q5a, q5b, q5c⟩ := isOf hZ e4 E_IMPLIES
  obtain ⟨v5, _, ⟨T5, L5, k5, n5⟩, -, X5, ⟨Lc5, hQ5, l5, y5, z5⟩, st5⟩ := X4.virtualBack hx (y := (⟨"com/example/meerkat/meerkat/formula/Formula$BinaryOperator", "precedence", "()I"⟩ : MethodName)) (z := (⟨"com/example/meerkat/meerkat/formula/Formula$BinaryOperator", "precedence", "()I"⟩ : MethodName)) hown (mvT hZ (hw _ (List.mem_of_getElem? (i := 16) rfl))) (mvT hZ (hw _ (List.mem_of_getElem? (i := 17) rfl))) (notFace_of_selects (args := #[]) (mvT hZ (hw _ (List.mem_of_getElem? (i := 19) rfl)))) (mvT hZ (hw _ (List.mem_of_getElem? (i := 19) rfl))) (mvT hZ (hw _ (List.mem_of_getElem? (i := 18) rfl))) (by decide) (backOf (W := 0) (rm_prec l Z a0 hw [] w_IMPLIES (1 : Int32) h0 n0 F_IMPLIES_precedence) hZ (hw _ (List.mem_of_getElem? (i := 20) rfl)) (hw _ (List.mem_of_getElem? (i := 6) rfl)) (by decide) (by decide)) q5a q5c (g := (mkF m 67 #[.val (.int p1), .val (.int p2), .val (.int (0 : Int32)), .val (.int ((p2 &&& (2147483647 : Int32)) % (5 : Int32))), .val (.ref w_IMPLIES), .val (.ref w_y), .val (.int (1 : Int32)), .val (.int g_y), .val (.int (1 : Int32)), .val (.int (1 : Int32)), .unset] [(.ref w_IMPLIES)])) rfl (by rw [hml]; rfl) (Steps.refl _) (argsL := []) (rest := []) (lenOf pd_2 rfl) rfl (by show 2 * 0 + _ ≤ _; exact Nat.le_of_eq rfl) (hb hby at_67) (fun _ _ => ⟨rfl, e4, (by decide : 0 + 0 ≤ _), (by decide : 0 + 0 ≤ _)⟩)
  dsimp only [Pt.U, Pt.locs, Pt.cells, Pt.slots] at X5 l5 y5 z5 st5 hQ5
  subst l5 y5 z5
  obtain ⟨hv5, N5q, e5⟩ := hQ5
  subst hv5
  have N5 := Fr.app N4 N5q
  refine own_go (fun t k => st5.trans k) ?_
  show Go p.tables e below _ (T5.setTop (mkF m 70 #[.val (.int p1), .val (.int p2), .val (.int (0 : Int32)), .val (.int ((p2 &&& (2147483647 : Int32)) % (5 : Int32))), .val (.ref w_IMPLIES), .val (.ref w_y), .val (.int (1 : Int32)), .val (.int g_y), .val (.int (1 : Int32)), .val (.int (1 : Int32)), .unset] [(.int (1 : Int32))]))
  refine own_go (fun t k => XS.aload X5.here hx rfl (hb hby at_70) rfl rfl k) ?_
  show Go p.tables e below _ (T5.setTop (mkF m 72 #[.val (.int p1), .val (.int p2), .val (.int (0 : Int32)), .val (.int ((p2 &&& (2147483647 : Int32)) % (5 : Int32))), .val (.ref w_IMPLIES), .val (.ref w_y), .val (.int (1 : Int32)), .val (.int g_y), .val (.int (1 : Int32)), .val (.int (1 : Int32)), .unset] [(.ref w_y), (.int (1 : Int32))]))
  obtain ⟨cq6, kq6, q6a, q6b, q6c⟩ := isOf hZ e5 E_y
  obtain ⟨v6, _, ⟨T6, L6, k6, n6⟩, -, X6, ⟨Lc6, hQ6, l6, y6, z6⟩, st6⟩ := X5.virtualBack hx (y := (⟨"com/example/meerkat/meerkat/formula/Formula$BinaryOperator", "precedence", "()I"⟩ : MethodName)) (z := (⟨"com/example/meerkat/meerkat/formula/Formula$BinaryOperator", "precedence", "()I"⟩ : MethodName)) hown (mvT hZ (hw _ (List.mem_of_getElem? (i := 16) rfl))) (mvT hZ (hw _ (List.mem_of_getElem? (i := 17) rfl))) (notFace_of_selects (args := #[]) (mvT hZ (hw _ (List.mem_of_getElem? (i := 19) rfl)))) (mvT hZ (hw _ (List.mem_of_getElem? (i := 19) rfl))) (mvT hZ (hw _ (List.mem_of_getElem? (i := 18) rfl))) (by decide) (backOf (W := 1) (rm_prec l Z a0 hw [] w_y z_y h0 n0 F_y_precedence) hZ (hw _ (List.mem_of_getElem? (i := 20) rfl)) (hw _ (List.mem_of_getElem? (i := 6) rfl)) (by decide) (by decide)) q6a q6c (g := (mkF m 72 #[.val (.int p1), .val (.int p2), .val (.int (0 : Int32)), .val (.int ((p2 &&& (2147483647 : Int32)) % (5 : Int32))), .val (.ref w_IMPLIES), .val (.ref w_y), .val (.int (1 : Int32)), .val (.int g_y), .val (.int (1 : Int32)), .val (.int (1 : Int32)), .unset] [(.ref w_y), (.int (1 : Int32))])) rfl (by rw [hml]; rfl) (Steps.refl _) (argsL := []) (rest := [(.int (1 : Int32))]) (lenOf pd_2 rfl) rfl (by show 2 * 0 + _ ≤ _; exact Nat.le_of_eq rfl) (hb hby at_72) (fun _ _ => ⟨rfl, e5, (by decide : 0 + 0 ≤ _), (by decide : 0 + 0 ≤ _)⟩)
  dsimp only [Pt.U, Pt.locs, Pt.cells, Pt.slots] at X6 l6 y6 z6 st6 hQ6
  subst l6 y6 z6
  obtain ⟨hv6, N6q, e6⟩ := hQ6
  subst hv6
  have N6 := Fr.app N5 N6q
  refine own_go (fun t k => st6.trans k) ?_
  show Go p.tables e below _ (T6.setTop (mkF m 75 #[.val (.int p1), .val (.int p2), .val (.int (0 : Int32)), .val (.int ((p2 &&& (2147483647 : Int32)) % (5 : Int32))), .val (.ref w_IMPLIES), .val (.ref w_y), .val (.int (1 : Int32)), .val (.int g_y), .val (.int (1 : Int32)), .val (.int (1 : Int32)), .unset] [(.int z_y), (.int (1 : Int32))]))
  by_cases hc7 : (1 : Int32) = z_y
  · refine own_go (fun t k => XS.icmpNo X6.here hx rfl (hb hby at_75) rfl (XT.ii_ne_f hc7) k) ?_
    show Go p.tables e below _ (T6.setTop (mkF m 78 #[.val (.int p1), .val (.int p2), .val (.int (0 : Int32)), .val (.int ((p2 &&& (2147483647 : Int32)) % (5 : Int32))), .val (.ref w_IMPLIES), .val (.ref w_y), .val (.int (1 : Int32)), .val (.int g_y), .val (.int (1 : Int32)), .val (.int (1 : Int32)), .unset] []))
    refine own_go (fun t k => XS.iload X6.here hx rfl (hb hby at_78) rfl k) ?_
    show Go p.tables e below _ (T6.setTop (mkF m 80 #[.val (.int p1), .val (.int p2), .val (.int (0 : Int32)), .val (.int ((p2 &&& (2147483647 : Int32)) % (5 : Int32))), .val (.ref w_IMPLIES), .val (.ref w_y), .val (.int (1 : Int32)), .val (.int g_y), .val (.int (1 : Int32)), .val (.int (1 : Int32)), .unset] [(.int (1 : Int32))]))
    refine own_go (fun t k => XS.iload X6.here hx rfl (hb hby at_80) rfl k) ?_
    show Go p.tables e below _ (T6.setTop (mkF m 82 #[.val (.int p1), .val (.int p2), .val (.int (0 : Int32)), .val (.int ((p2 &&& (2147483647 : Int32)) % (5 : Int32))), .val (.ref w_IMPLIES), .val (.ref w_y), .val (.int (1 : Int32)), .val (.int g_y), .val (.int (1 : Int32)), .val (.int (1 : Int32)), .unset] [(.int g_y), (.int (1 : Int32))]))
    refine own_go (fun t k => XS.icmpNo X6.here hx rfl (hb hby at_82) rfl (XT.ii_ne_f (hpq hc7)) k) ?_
    show Go p.tables e below _ (T6.setTop (mkF m 85 #[.val (.int p1), .val (.int p2), .val (.int (0 : Int32)), .val (.int ((p2 &&& (2147483647 : Int32)) % (5 : Int32))), .val (.ref w_IMPLIES), .val (.ref w_y), .val (.int (1 : Int32)), .val (.int g_y), .val (.int (1 : Int32)), .val (.int (1 : Int32)), .unset] []))
    refine own_go (fun t k => XS.iconst X6.here hx rfl (hb hby at_85) k) ?_
    show Go p.tables e below _ (T6.setTop (mkF m 86 #[.val (.int p1), .val (.int p2), .val (.int (0 : Int32)), .val (.int ((p2 &&& (2147483647 : Int32)) % (5 : Int32))), .val (.ref w_IMPLIES), .val (.ref w_y), .val (.int (1 : Int32)), .val (.int g_y), .val (.int (1 : Int32)), .val (.int (1 : Int32)), .unset] [(.int (1 : Int32))]))
    refine own_go (fun t k => XS.goto X6.here hx rfl (pc0 := 86) (pc' := 90) rfl (hb hby at_86) (by decide) (by decide) k) ?_
    show Go p.tables e below _ (T6.setTop (mkF m 90 #[.val (.int p1), .val (.int p2), .val (.int (0 : Int32)), .val (.int ((p2 &&& (2147483647 : Int32)) % (5 : Int32))), .val (.ref w_IMPLIES), .val (.ref w_y), .val (.int (1 : Int32)), .val (.int g_y), .val (.int (1 : Int32)), .val (.int (1 : Int32)), .unset] [(.int (1 : Int32))]))
    refine own_go (fun t k => XS.istore X6.here hx rfl (hb hby at_90) rfl (l' := #[.val (.int p1), .val (.int p2), .val (.int (0 : Int32)), .val (.int ((p2 &&& (2147483647 : Int32)) % (5 : Int32))), .val (.ref w_IMPLIES), .val (.ref w_y), .val (.int (1 : Int32)), .val (.int g_y), .val (.int (1 : Int32)), .val (.int (1 : Int32)), .val (.int (1 : Int32))]) rfl k) ?_
    show Go p.tables e below _ (T6.setTop (mkF m 92 #[.val (.int p1), .val (.int p2), .val (.int (0 : Int32)), .val (.int ((p2 &&& (2147483647 : Int32)) % (5 : Int32))), .val (.ref w_IMPLIES), .val (.ref w_y), .val (.int (1 : Int32)), .val (.int g_y), .val (.int (1 : Int32)), .val (.int (1 : Int32)), .val (.int (1 : Int32))] []))
    refine own_go (fun t k => XS.iload X6.here hx rfl (hb hby at_92) rfl k) ?_
    show Go p.tables e below _ (T6.setTop (mkF m 94 #[.val (.int p1), .val (.int p2), .val (.int (0 : Int32)), .val (.int ((p2 &&& (2147483647 : Int32)) % (5 : Int32))), .val (.ref w_IMPLIES), .val (.ref w_y), .val (.int (1 : Int32)), .val (.int g_y), .val (.int (1 : Int32)), .val (.int (1 : Int32)), .val (.int (1 : Int32))] [(.int (1 : Int32))]))
    refine own_go (fun t k => XS.ifNo X6.here hx rfl (hb hby at_94) rfl (XT.i0_eq_f (by decide)) k) ?_
    show Go p.tables e below _ (T6.setTop (mkF m 97 #[.val (.int p1), .val (.int p2), .val (.int (0 : Int32)), .val (.int ((p2 &&& (2147483647 : Int32)) % (5 : Int32))), .val (.ref w_IMPLIES), .val (.ref w_y), .val (.int (1 : Int32)), .val (.int g_y), .val (.int (1 : Int32)), .val (.int (1 : Int32)), .val (.int (1 : Int32))] []))
    refine own_go (fun t k => XS.iload X6.here hx rfl (hb hby at_97) rfl k) ?_
    show Go p.tables e below _ (T6.setTop (mkF m 99 #[.val (.int p1), .val (.int p2), .val (.int (0 : Int32)), .val (.int ((p2 &&& (2147483647 : Int32)) % (5 : Int32))), .val (.ref w_IMPLIES), .val (.ref w_y), .val (.int (1 : Int32)), .val (.int g_y), .val (.int (1 : Int32)), .val (.int (1 : Int32)), .val (.int (1 : Int32))] [(.int (1 : Int32))]))
    refine own_go (fun t k => XS.ifNo X6.here hx rfl (hb hby at_99) rfl (XT.i0_eq_f (by decide)) k) ?_
    show Go p.tables e below _ (T6.setTop (mkF m 102 #[.val (.int p1), .val (.int p2), .val (.int (0 : Int32)), .val (.int ((p2 &&& (2147483647 : Int32)) % (5 : Int32))), .val (.ref w_IMPLIES), .val (.ref w_y), .val (.int (1 : Int32)), .val (.int g_y), .val (.int (1 : Int32)), .val (.int (1 : Int32)), .val (.int (1 : Int32))] []))
    refine own_go (fun t k => XS.iconst X6.here hx rfl (hb hby at_102) k) ?_
    show Go p.tables e below _ (T6.setTop (mkF m 103 #[.val (.int p1), .val (.int p2), .val (.int (0 : Int32)), .val (.int ((p2 &&& (2147483647 : Int32)) % (5 : Int32))), .val (.ref w_IMPLIES), .val (.ref w_y), .val (.int (1 : Int32)), .val (.int g_y), .val (.int (1 : Int32)), .val (.int (1 : Int32)), .val (.int (1 : Int32))] [(.int (1 : Int32))]))
    refine own_go (fun t k => XS.goto X6.here hx rfl (pc0 := 103) (pc' := 107) rfl (hb hby at_103) (by decide) (by decide) k) ?_
    show Go p.tables e below _ (T6.setTop (mkF m 107 #[.val (.int p1), .val (.int p2), .val (.int (0 : Int32)), .val (.int ((p2 &&& (2147483647 : Int32)) % (5 : Int32))), .val (.ref w_IMPLIES), .val (.ref w_y), .val (.int (1 : Int32)), .val (.int g_y), .val (.int (1 : Int32)), .val (.int (1 : Int32)), .val (.int (1 : Int32))] [(.int (1 : Int32))]))
    exact own_ret X6 hx hlk Bd.returns rfl (Or.inl ⟨rfl, Or.inr (Or.inl rfl), _, rfl⟩) (hb hby at_107) ⟨rfl, N6, e6⟩ (by decide) (by decide)
  · refine own_go (fun t k => XS.icmpYes X6.here hx rfl (pc0 := 75) (pc' := 85) rfl (hb hby at_75) rfl (XT.ii_ne_t hc7) (by decide) (by decide) k) ?_
    show Go p.tables e below _ (T6.setTop (mkF m 85 #[.val (.int p1), .val (.int p2), .val (.int (0 : Int32)), .val (.int ((p2 &&& (2147483647 : Int32)) % (5 : Int32))), .val (.ref w_IMPLIES), .val (.ref w_y), .val (.int (1 : Int32)), .val (.int g_y), .val (.int (1 : Int32)), .val (.int (1 : Int32)), .unset] []))
    refine own_go (fun t k => XS.iconst X6.here hx rfl (hb hby at_85) k) ?_
    show Go p.tables e below _ (T6.setTop (mkF m 86 #[.val (.int p1), .val (.int p2), .val (.int (0 : Int32)), .val (.int ((p2 &&& (2147483647 : Int32)) % (5 : Int32))), .val (.ref w_IMPLIES), .val (.ref w_y), .val (.int (1 : Int32)), .val (.int g_y), .val (.int (1 : Int32)), .val (.int (1 : Int32)), .unset] [(.int (1 : Int32))]))
    refine own_go (fun t k => XS.goto X6.here hx rfl (pc0 := 86) (pc' := 90) rfl (hb hby at_86) (by decide) (by decide) k) ?_
    show Go p.tables e below _ (T6.setTop (mkF m 90 #[.val (.int p1), .val (.int p2), .val (.int (0 : Int32)), .val (.int ((p2 &&& (2147483647 : Int32)) % (5 : Int32))), .val (.ref w_IMPLIES), .val (.ref w_y), .val (.int (1 : Int32)), .val (.int g_y), .val (.int (1 : Int32)), .val (.int (1 : Int32)), .unset] [(.int (1 : Int32))]))
    refine own_go (fun t k => XS.istore X6.here hx rfl (hb hby at_90) rfl (l' := #[.val (.int p1), .val (.int p2), .val (.int (0 : Int32)), .val (.int ((p2 &&& (2147483647 : Int32)) % (5 : Int32))), .val (.ref w_IMPLIES), .val (.ref w_y), .val (.int (1 : Int32)), .val (.int g_y), .val (.int (1 : Int32)), .val (.int (1 : Int32)), .val (.int (1 : Int32))]) rfl k) ?_
    show Go p.tables e below _ (T6.setTop (mkF m 92 #[.val (.int p1), .val (.int p2), .val (.int (0 : Int32)), .val (.int ((p2 &&& (2147483647 : Int32)) % (5 : Int32))), .val (.ref w_IMPLIES), .val (.ref w_y), .val (.int (1 : Int32)), .val (.int g_y), .val (.int (1 : Int32)), .val (.int (1 : Int32)), .val (.int (1 : Int32))] []))
    refine own_go (fun t k => XS.iload X6.here hx rfl (hb hby at_92) rfl k) ?_
    show Go p.tables e below _ (T6.setTop (mkF m 94 #[.val (.int p1), .val (.int p2), .val (.int (0 : Int32)), .val (.int ((p2 &&& (2147483647 : Int32)) % (5 : Int32))), .val (.ref w_IMPLIES), .val (.ref w_y), .val (.int (1 : Int32)), .val (.int g_y), .val (.int (1 : Int32)), .val (.int (1 : Int32)), .val (.int (1 : Int32))] [(.int (1 : Int32))]))
    refine own_go (fun t k => XS.ifNo X6.here hx rfl (hb hby at_94) rfl (XT.i0_eq_f (by decide)) k) ?_
    show Go p.tables e below _ (T6.setTop (mkF m 97 #[.val (.int p1), .val (.int p2), .val (.int (0 : Int32)), .val (.int ((p2 &&& (2147483647 : Int32)) % (5 : Int32))), .val (.ref w_IMPLIES), .val (.ref w_y), .val (.int (1 : Int32)), .val (.int g_y), .val (.int (1 : Int32)), .val (.int (1 : Int32)), .val (.int (1 : Int32))] []))
    refine own_go (fun t k => XS.iload X6.here hx rfl (hb hby at_97) rfl k) ?_
    show Go p.tables e below _ (T6.setTop (mkF m 99 #[.val (.int p1), .val (.int p2), .val (.int (0 : Int32)), .val (.int ((p2 &&& (2147483647 : Int32)) % (5 : Int32))), .val (.ref w_IMPLIES), .val (.ref w_y), .val (.int (1 : Int32)), .val (.int g_y), .val (.int (1 : Int32)), .val (.int (1 : Int32)), .val (.int (1 : Int32))] [(.int (1 : Int32))]))
    refine own_go (fun t k => XS.ifNo X6.here hx rfl (hb hby at_99) rfl (XT.i0_eq_f (by decide)) k) ?_
    show Go p.tables e below _ (T6.setTop (mkF m 102 #[.val (.int p1), .val (.int p2), .val (.int (0 : Int32)), .val (.int ((p2 &&& (2147483647 : Int32)) % (5 : Int32))), .val (.ref w_IMPLIES), .val (.ref w_y), .val (.int (1 : Int32)), .val (.int g_y), .val (.int (1 : Int32)), .val (.int (1 : Int32)), .val (.int (1 : Int32))] []))
    refine own_go (fun t k => XS.iconst X6.here hx rfl (hb hby at_102) k) ?_
    show Go p.tables e below _ (T6.setTop (mkF m 103 #[.val (.int p1), .val (.int p2), .val (.int (0 : Int32)), .val (.int ((p2 &&& (2147483647 : Int32)) % (5 : Int32))), .val (.ref w_IMPLIES), .val (.ref w_y), .val (.int (1 : Int32)), .val (.int g_y), .val (.int (1 : Int32)), .val (.int (1 : Int32)), .val (.int (1 : Int32))] [(.int (1 : Int32))]))
    refine own_go (fun t k => XS.goto X6.here hx rfl (pc0 := 103) (pc' := 107) rfl (hb hby at_103) (by decide) (by decide) k) ?_
    show Go p.tables e below _ (T6.setTop (mkF m 107 #[.val (.int p1), .val (.int p2), .val (.int (0 : Int32)), .val (.int ((p2 &&& (2147483647 : Int32)) % (5 : Int32))), .val (.ref w_IMPLIES), .val (.ref w_y), .val (.int (1 : Int32)), .val (.int g_y), .val (.int (1 : Int32)), .val (.int (1 : Int32)), .val (.int (1 : Int32))] [(.int (1 : Int32))]))
    exact own_ret X6 hx hlk Bd.returns rfl (Or.inl ⟨rfl, Or.inr (Or.inl rfl), _, rfl⟩) (hb hby at_107) ⟨rfl, N6, e6⟩ (by decide) (by decide)
theorem ef_rm_law_1 (m : MethodId) (x0 : Int32) (x1 : Int32) : entryFrame m #[(.int x0), (.int x1)] maxLocals = mkF m 0 #[.val (.int x0), .val (.int x1), .unset, .unset, .unset, .unset, .unset, .unset, .unset, .unset, .unset] [] := by first | (simp [entryFrame, mkF, argsToLocals, Value.category, maxLocals]; done) | rfl
set_option maxRecDepth 65536 in
set_option maxHeartbeats 40000000 in
theorem rm_law_1 (l : Launch) (Z : State) (a0 : Array Value) (hw : ∀ d ∈ tables_1, d.before a0 Z = true) (ws : List Jvm.Cond) (p1 p2 : Int32) (w_IMPLIES w_OR w_AND w_SINCE_IN_SESSION w_SINCE_ACROSS_SESSIONS : Addr) (w_y : Addr) (z_y g_y : Int32) (h0 : Heap) (n0 : Nat) (SS : own_S Z h0 w_IMPLIES w_OR w_AND w_SINCE_IN_SESSION w_SINCE_ACROSS_SESSIONS) (EE : own_E Z h0 w_IMPLIES w_OR w_AND w_SINCE_IN_SESSION w_SINCE_ACROSS_SESSIONS) (OO : own_O Z h0 w_IMPLIES w_OR w_AND w_SINCE_IN_SESSION w_SINCE_ACROSS_SESSIONS) (q1 : (p1 &&& 2147483647) % 5 = 1) (q2 : own_pick w_IMPLIES w_SINCE_IN_SESSION w_SINCE_ACROSS_SESSIONS w_OR w_AND ((p2 &&& 2147483647) % 5) = w_y) (E_y : Exa Z h0 w_y "com/example/meerkat/meerkat/formula/Formula$BinaryOperator") (F_y_precedence : Fld Z h0 w_y "com/example/meerkat/meerkat/formula/Formula$BinaryOperator" "precedence" "I" (.int z_y)) (hg : own_grp w_IMPLIES w_y = g_y) (hpq : (2 : Int32) = z_y → (0 : Int32) = g_y) :
    MetFree l x (head1 (Jvm.Cond.code x code maxLocals ret :: ws) room_1) (fun aa U => aa = #[(.int p1), (.int p2)] ∧ Z.Warmed39 U.vm ∧ U.heap = h0) (fun _ _ _ _ _ => True) (fun _ U o U' => ∃ v L, o = .returned v ∧ PQ (.int 1) h0 n0 v U'.heap L ∧ FrameEnd U o U' L room_1.cells room_1.slots) := by
  refine MetFree.of_bodySF (plainFor_of_name pn_0) hisR ?_
  intro p e s m args below meth c s₁ Bd hml0 hP hK
  obtain ⟨rfl, hZ, hh⟩ := hP
  have hx := Bd.exec
  have hby := Bd.bytes
  have hlk := Bd.notSynchronized
  have hml : c.maxLocals = 11 := hml0
  have hown : s.vm.findClass "com/example/meerkat/meerkat/formula/BinaryOperatorGroupsRightPinLaw" = some m.cls := findClass_of_methodNamed Bd.named
  have X0 : Stand p l e room_1 s m #[(.int p1), (.int p2)] below meth c s₁ [] 0 0 := Stand.of_body Bd
  have e0 : s₁.heap = h0 := by rw [← hh, Bd.state]; rfl
  have N0 := Fr.nil n0
  have SS' := SS
  obtain ⟨S_IMPLIES, S_OR, S_AND, S_SINCE_IN_SESSION, S_SINCE_ACROSS_SESSIONS⟩ := SS'
  obtain ⟨E_IMPLIES, E_OR, E_AND, E_SINCE_IN_SESSION, E_SINCE_ACROSS_SESSIONS⟩ := EE
  obtain ⟨F_OR_ordinal, F_IMPLIES_ordinal, F_IMPLIES_precedence, F_OR_precedence, F_AND_ordinal, F_SINCE_IN_SESSION_ordinal, F_AND_precedence, F_SINCE_IN_SESSION_precedence, F_SINCE_ACROSS_SESSIONS_ordinal, F_SINCE_ACROSS_SESSIONS_precedence⟩ := OO
  have nSINCE_IN_SESSION : w_SINCE_IN_SESSION ≠ w_IMPLIES := (own_ne F_SINCE_IN_SESSION_ordinal F_IMPLIES_ordinal (by decide))
  have nSINCE_ACROSS_SESSIONS : w_SINCE_ACROSS_SESSIONS ≠ w_IMPLIES := (own_ne F_SINCE_ACROSS_SESSIONS_ordinal F_IMPLIES_ordinal (by decide))
  have nOR : w_OR ≠ w_IMPLIES := (own_ne F_OR_ordinal F_IMPLIES_ordinal (by decide))
  have nAND : w_AND ≠ w_IMPLIES := (own_ne F_AND_ordinal F_IMPLIES_ordinal (by decide))
  show Go p.tables e below (Fin s below (PQ (.int 1) h0 n0) room_1.cells room_1.slots) (s₁.setTop (entryFrame m #[(.int p1), (.int p2)] maxLocals))
  refine own_go (fun t k => castTop (ef_rm_law_1 m p1 p2) k) ?_
  show Go p.tables e below _ (s₁.setTop (mkF m 0 #[.val (.int p1), .val (.int p2), .unset, .unset, .unset, .unset, .unset, .unset, .unset, .unset, .unset] []))
  refine own_go (fun t k => XS.iloadN X0.here hx rfl (hb hby at_0) rfl k) ?_
  show Go p.tables e below _ (s₁.setTop (mkF m 1 #[.val (.int p1), .val (.int p2), .unset, .unset, .unset, .unset, .unset, .unset, .unset, .unset, .unset] [(.int p1)]))
  refine own_go (fun t k => Jvm.Stand.ldcI X0 hx hown (mvT hZ (hw _ (List.mem_of_getElem? (i := 0) rfl))) rfl (hb hby at_1) k) ?_
  show Go p.tables e below _ (s₁.setTop (mkF m 3 #[.val (.int p1), .val (.int p2), .unset, .unset, .unset, .unset, .unset, .unset, .unset, .unset, .unset] [(.int (2147483647 : Int32)), (.int p1)]))
  refine own_go (fun t k => XS.iand X0.here hx rfl (hb hby at_3) rfl k) ?_
  show Go p.tables e below _ (s₁.setTop (mkF m 4 #[.val (.int p1), .val (.int p2), .unset, .unset, .unset, .unset, .unset, .unset, .unset, .unset, .unset] [(.int (p1 &&& (2147483647 : Int32)))]))
  refine own_go (fun t k => XS.iconst X0.here hx rfl (hb hby at_4) k) ?_
  show Go p.tables e below _ (s₁.setTop (mkF m 5 #[.val (.int p1), .val (.int p2), .unset, .unset, .unset, .unset, .unset, .unset, .unset, .unset, .unset] [(.int (5 : Int32)), (.int (p1 &&& (2147483647 : Int32)))]))
  refine own_go (fun t k => iremM (g := (mkF m 5 #[.val (.int p1), .val (.int p2), .unset, .unset, .unset, .unset, .unset, .unset, .unset, .unset, .unset] [(.int (5 : Int32)), (.int (p1 &&& (2147483647 : Int32)))])) X0 hx rfl (hb hby at_5) rfl (by decide) k) ?_
  show Go p.tables e below _ (s₁.setTop (mkF m 6 #[.val (.int p1), .val (.int p2), .unset, .unset, .unset, .unset, .unset, .unset, .unset, .unset, .unset] [(.int ((p1 &&& (2147483647 : Int32)) % (5 : Int32)))]))
  rw [q1]
  show Go p.tables e below _ (s₁.setTop (mkF m 6 #[.val (.int p1), .val (.int p2), .unset, .unset, .unset, .unset, .unset, .unset, .unset, .unset, .unset] [(.int (1 : Int32))]))
  refine own_go (fun t k => XS.istoreN X0.here hx rfl (hb hby at_6) rfl (l' := #[.val (.int p1), .val (.int p2), .val (.int (1 : Int32)), .unset, .unset, .unset, .unset, .unset, .unset, .unset, .unset]) rfl k) ?_
  show Go p.tables e below _ (s₁.setTop (mkF m 7 #[.val (.int p1), .val (.int p2), .val (.int (1 : Int32)), .unset, .unset, .unset, .unset, .unset, .unset, .unset, .unset] []))
  refine own_go (fun t k => XS.iloadN X0.here hx rfl (hb hby at_7) rfl k) ?_
  show Go p.tables e below _ (s₁.setTop (mkF m 8 #[.val (.int p1), .val (.int p2), .val (.int (1 : Int32)), .unset, .unset, .unset, .unset, .unset, .unset, .unset, .unset] [(.int p2)]))
  refine own_go (fun t k => Jvm.Stand.ldcI X0 hx hown (mvT hZ (hw _ (List.mem_of_getElem? (i := 0) rfl))) rfl (hb hby at_8) k) ?_
  show Go p.tables e below _ (s₁.setTop (mkF m 10 #[.val (.int p1), .val (.int p2), .val (.int (1 : Int32)), .unset, .unset, .unset, .unset, .unset, .unset, .unset, .unset] [(.int (2147483647 : Int32)), (.int p2)]))
  refine own_go (fun t k => XS.iand X0.here hx rfl (hb hby at_10) rfl k) ?_
  show Go p.tables e below _ (s₁.setTop (mkF m 11 #[.val (.int p1), .val (.int p2), .val (.int (1 : Int32)), .unset, .unset, .unset, .unset, .unset, .unset, .unset, .unset] [(.int (p2 &&& (2147483647 : Int32)))]))
  refine own_go (fun t k => XS.iconst X0.here hx rfl (hb hby at_11) k) ?_
  show Go p.tables e below _ (s₁.setTop (mkF m 12 #[.val (.int p1), .val (.int p2), .val (.int (1 : Int32)), .unset, .unset, .unset, .unset, .unset, .unset, .unset, .unset] [(.int (5 : Int32)), (.int (p2 &&& (2147483647 : Int32)))]))
  refine own_go (fun t k => iremM (g := (mkF m 12 #[.val (.int p1), .val (.int p2), .val (.int (1 : Int32)), .unset, .unset, .unset, .unset, .unset, .unset, .unset, .unset] [(.int (5 : Int32)), (.int (p2 &&& (2147483647 : Int32)))])) X0 hx rfl (hb hby at_12) rfl (by decide) k) ?_
  show Go p.tables e below _ (s₁.setTop (mkF m 13 #[.val (.int p1), .val (.int p2), .val (.int (1 : Int32)), .unset, .unset, .unset, .unset, .unset, .unset, .unset, .unset] [(.int ((p2 &&& (2147483647 : Int32)) % (5 : Int32)))]))
  refine own_go (fun t k => XS.istoreN X0.here hx rfl (hb hby at_13) rfl (l' := #[.val (.int p1), .val (.int p2), .val (.int (1 : Int32)), .val (.int ((p2 &&& (2147483647 : Int32)) % (5 : Int32))), .unset, .unset, .unset, .unset, .unset, .unset, .unset]) rfl k) ?_
  show Go p.tables e below _ (s₁.setTop (mkF m 14 #[.val (.int p1), .val (.int p2), .val (.int (1 : Int32)), .val (.int ((p2 &&& (2147483647 : Int32)) % (5 : Int32))), .unset, .unset, .unset, .unset, .unset, .unset, .unset] []))
  refine own_go (fun t k => XS.iloadN X0.here hx rfl (hb hby at_14) rfl k) ?_
  show Go p.tables e below _ (s₁.setTop (mkF m 15 #[.val (.int p1), .val (.int p2), .val (.int (1 : Int32)), .val (.int ((p2 &&& (2147483647 : Int32)) % (5 : Int32))), .unset, .unset, .unset, .unset, .unset, .unset, .unset] [(.int (1 : Int32))]))
  obtain ⟨v1, _, ⟨T1, L1, k1, n1⟩, -, X1, ⟨Lc1, hQ1, l1, y1, z1⟩, st1⟩ := Jvm.LawKit.callS X0 hx (y := (⟨"com/example/meerkat/meerkat/formula/BinaryOperatorGroupsRightPinLaw", "pick", "(I)Lcom/example/meerkat/meerkat/formula/Formula$BinaryOperator;"⟩ : MethodName)) hown (mvT hZ (hw _ (List.mem_of_getElem? (i := 1) rfl))) (mvT hZ (hw _ (List.mem_of_getElem? (i := 2) rfl))) (mvT hZ (hw _ (List.mem_of_getElem? (i := 3) rfl))) (mvT hZ (hw _ (List.mem_of_getElem? (i := 4) rfl))) (by decide) (backOf (W := 0) (rm_pick l Z a0 hw [] (1 : Int32) w_IMPLIES w_OR w_AND w_SINCE_IN_SESSION w_SINCE_ACROSS_SESSIONS h0 n0 SS) hZ (hw _ (List.mem_of_getElem? (i := 4) rfl)) (hw _ (List.mem_of_getElem? (i := 3) rfl)) (by decide) (by decide)) (g := (mkF m 15 #[.val (.int p1), .val (.int p2), .val (.int (1 : Int32)), .val (.int ((p2 &&& (2147483647 : Int32)) % (5 : Int32))), .unset, .unset, .unset, .unset, .unset, .unset, .unset] [(.int (1 : Int32))])) rfl (by rw [hml]; rfl) (argsL := [(.int (1 : Int32))]) (rest := []) (lenOf pd_0 rfl) rfl (by show 2 * 0 + _ ≤ _; exact Nat.le_of_eq rfl) (hb hby at_15) (fun _ _ => ⟨rfl, e0, (by decide : 0 + 0 ≤ _), (by decide : 0 + 0 ≤ _)⟩)
  dsimp only [Pt.U, Pt.locs, Pt.cells, Pt.slots] at X1 l1 y1 z1 st1 hQ1
  subst l1 y1 z1
  obtain ⟨hv1, N1q, e1⟩ := hQ1
  rw [show ((.ref (own_pick w_IMPLIES w_SINCE_IN_SESSION w_SINCE_ACROSS_SESSIONS w_OR w_AND (1 : Int32))) : Value) = (.ref w_SINCE_IN_SESSION) from rfl] at hv1
  subst hv1
  have N1 := Fr.app N0 N1q
  refine own_go (fun t k => st1 t k) ?_
  show Go p.tables e below _ (T1.setTop (mkF m 18 #[.val (.int p1), .val (.int p2), .val (.int (1 : Int32)), .val (.int ((p2 &&& (2147483647 : Int32)) % (5 : Int32))), .unset, .unset, .unset, .unset, .unset, .unset, .unset] [(.ref w_SINCE_IN_SESSION)]))
  refine own_go (fun t k => XS.astore X1.here hx rfl (hb hby at_18) rfl rfl (l' := #[.val (.int p1), .val (.int p2), .val (.int (1 : Int32)), .val (.int ((p2 &&& (2147483647 : Int32)) % (5 : Int32))), .val (.ref w_SINCE_IN_SESSION), .unset, .unset, .unset, .unset, .unset, .unset]) rfl k) ?_
  show Go p.tables e below _ (T1.setTop (mkF m 20 #[.val (.int p1), .val (.int p2), .val (.int (1 : Int32)), .val (.int ((p2 &&& (2147483647 : Int32)) % (5 : Int32))), .val (.ref w_SINCE_IN_SESSION), .unset, .unset, .unset, .unset, .unset, .unset] []))
  refine own_go (fun t k => XS.iloadN X1.here hx rfl (hb hby at_20) rfl k) ?_
  show Go p.tables e below _ (T1.setTop (mkF m 21 #[.val (.int p1), .val (.int p2), .val (.int (1 : Int32)), .val (.int ((p2 &&& (2147483647 : Int32)) % (5 : Int32))), .val (.ref w_SINCE_IN_SESSION), .unset, .unset, .unset, .unset, .unset, .unset] [(.int ((p2 &&& (2147483647 : Int32)) % (5 : Int32)))]))
  obtain ⟨v2, _, ⟨T2, L2, k2, n2⟩, -, X2, ⟨Lc2, hQ2, l2, y2, z2⟩, st2⟩ := Jvm.LawKit.callS X1 hx (y := (⟨"com/example/meerkat/meerkat/formula/BinaryOperatorGroupsRightPinLaw", "pick", "(I)Lcom/example/meerkat/meerkat/formula/Formula$BinaryOperator;"⟩ : MethodName)) hown (mvT hZ (hw _ (List.mem_of_getElem? (i := 1) rfl))) (mvT hZ (hw _ (List.mem_of_getElem? (i := 2) rfl))) (mvT hZ (hw _ (List.mem_of_getElem? (i := 3) rfl))) (mvT hZ (hw _ (List.mem_of_getElem? (i := 4) rfl))) (by decide) (backOf (W := 0) (rm_pick l Z a0 hw [] ((p2 &&& (2147483647 : Int32)) % (5 : Int32)) w_IMPLIES w_OR w_AND w_SINCE_IN_SESSION w_SINCE_ACROSS_SESSIONS h0 n0 SS) hZ (hw _ (List.mem_of_getElem? (i := 4) rfl)) (hw _ (List.mem_of_getElem? (i := 3) rfl)) (by decide) (by decide)) (g := (mkF m 21 #[.val (.int p1), .val (.int p2), .val (.int (1 : Int32)), .val (.int ((p2 &&& (2147483647 : Int32)) % (5 : Int32))), .val (.ref w_SINCE_IN_SESSION), .unset, .unset, .unset, .unset, .unset, .unset] [(.int ((p2 &&& (2147483647 : Int32)) % (5 : Int32)))])) rfl (by rw [hml]; rfl) (argsL := [(.int ((p2 &&& (2147483647 : Int32)) % (5 : Int32)))]) (rest := []) (lenOf pd_0 rfl) rfl (by show 2 * 0 + _ ≤ _; exact Nat.le_of_eq rfl) (hb hby at_21) (fun _ _ => ⟨rfl, e1, (by decide : 0 + 0 ≤ _), (by decide : 0 + 0 ≤ _)⟩)
  dsimp only [Pt.U, Pt.locs, Pt.cells, Pt.slots] at X2 l2 y2 z2 st2 hQ2
  subst l2 y2 z2
  obtain ⟨hv2, N2q, e2⟩ := hQ2
  rw [show ((.ref (own_pick w_IMPLIES w_SINCE_IN_SESSION w_SINCE_ACROSS_SESSIONS w_OR w_AND ((p2 &&& (2147483647 : Int32)) % (5 : Int32)))) : Value) = (.ref w_y) from congrArg Value.ref q2] at hv2
  subst hv2
  have N2 := Fr.app N1 N2q
  refine own_go (fun t k => st2 t k) ?_
  show Go p.tables e below _ (T2.setTop (mkF m 24 #[.val (.int p1), .val (.int p2), .val (.int (1 : Int32)), .val (.int ((p2 &&& (2147483647 : Int32)) % (5 : Int32))), .val (.ref w_SINCE_IN_SESSION), .unset, .unset, .unset, .unset, .unset, .unset] [(.ref w_y)]))
  refine own_go (fun t k => XS.astore X2.here hx rfl (hb hby at_24) rfl rfl (l' := #[.val (.int p1), .val (.int p2), .val (.int (1 : Int32)), .val (.int ((p2 &&& (2147483647 : Int32)) % (5 : Int32))), .val (.ref w_SINCE_IN_SESSION), .val (.ref w_y), .unset, .unset, .unset, .unset, .unset]) rfl k) ?_
  show Go p.tables e below _ (T2.setTop (mkF m 26 #[.val (.int p1), .val (.int p2), .val (.int (1 : Int32)), .val (.int ((p2 &&& (2147483647 : Int32)) % (5 : Int32))), .val (.ref w_SINCE_IN_SESSION), .val (.ref w_y), .unset, .unset, .unset, .unset, .unset] []))
  refine own_go (fun t k => XS.aload X2.here hx rfl (hb hby at_26) rfl rfl k) ?_
  show Go p.tables e below _ (T2.setTop (mkF m 28 #[.val (.int p1), .val (.int p2), .val (.int (1 : Int32)), .val (.int ((p2 &&& (2147483647 : Int32)) % (5 : Int32))), .val (.ref w_SINCE_IN_SESSION), .val (.ref w_y), .unset, .unset, .unset, .unset, .unset] [(.ref w_SINCE_IN_SESSION)]))
  obtain ⟨cq3, kq3, q3a, q3b, q3c⟩ := isOf hZ e2 E_SINCE_IN_SESSION
  obtain ⟨v3, _, ⟨T3, L3, k3, n3⟩, -, X3, ⟨Lc3, hQ3, l3, y3, z3⟩, st3⟩ := X2.virtualBack hx (y := (⟨"com/example/meerkat/meerkat/formula/Formula$BinaryOperator", "groupsRight", "()Z"⟩ : MethodName)) (z := (⟨"com/example/meerkat/meerkat/formula/Formula$BinaryOperator", "groupsRight", "()Z"⟩ : MethodName)) hown (mvT hZ (hw _ (List.mem_of_getElem? (i := 10) rfl))) (mvT hZ (hw _ (List.mem_of_getElem? (i := 11) rfl))) (notFace_of_selects (args := #[]) (mvT hZ (hw _ (List.mem_of_getElem? (i := 13) rfl)))) (mvT hZ (hw _ (List.mem_of_getElem? (i := 13) rfl))) (mvT hZ (hw _ (List.mem_of_getElem? (i := 12) rfl))) (by decide) (backOf (W := 0) (rm_grp l Z a0 hw [] w_SINCE_IN_SESSION w_IMPLIES w_OR w_AND w_SINCE_IN_SESSION w_SINCE_ACROSS_SESSIONS h0 n0 SS) hZ (hw _ (List.mem_of_getElem? (i := 14) rfl)) (hw _ (List.mem_of_getElem? (i := 6) rfl)) (by decide) (by decide)) q3a q3c (g := (mkF m 28 #[.val (.int p1), .val (.int p2), .val (.int (1 : Int32)), .val (.int ((p2 &&& (2147483647 : Int32)) % (5 : Int32))), .val (.ref w_SINCE_IN_SESSION), .val (.ref w_y), .unset, .unset, .unset, .unset, .unset] [(.ref w_SINCE_IN_SESSION)])) rfl (by rw [hml]; rfl) (Steps.refl _) (argsL := []) (rest := []) (lenOf pd_1 rfl) rfl (by show 2 * 0 + _ ≤ _; exact Nat.le_of_eq rfl) (hb hby at_28) (fun _ _ => ⟨rfl, e2, (by decide : 0 + 0 ≤ _), (by decide : 0 + 0 ≤ _)⟩)
  dsimp only [Pt.U, Pt.locs, Pt.cells, Pt.slots] at X3 l3 y3 z3 st3 hQ3
  subst l3 y3 z3
  obtain ⟨hv3, N3q, e3⟩ := hQ3
  rw [show ((.int (own_grp w_IMPLIES w_SINCE_IN_SESSION)) : Value) = (.int (0 : Int32)) from by simp [own_grp, nSINCE_IN_SESSION, nSINCE_ACROSS_SESSIONS, nOR, nAND]] at hv3
  subst hv3
  have N3 := Fr.app N2 N3q
  refine own_go (fun t k => st3.trans k) ?_
  show Go p.tables e below _ (T3.setTop (mkF m 31 #[.val (.int p1), .val (.int p2), .val (.int (1 : Int32)), .val (.int ((p2 &&& (2147483647 : Int32)) % (5 : Int32))), .val (.ref w_SINCE_IN_SESSION), .val (.ref w_y), .unset, .unset, .unset, .unset, .unset] [(.int (0 : Int32))]))
  refine own_go (fun t k => XS.istore X3.here hx rfl (hb hby at_31) rfl (l' := #[.val (.int p1), .val (.int p2), .val (.int (1 : Int32)), .val (.int ((p2 &&& (2147483647 : Int32)) % (5 : Int32))), .val (.ref w_SINCE_IN_SESSION), .val (.ref w_y), .val (.int (0 : Int32)), .unset, .unset, .unset, .unset]) rfl k) ?_
  show Go p.tables e below _ (T3.setTop (mkF m 33 #[.val (.int p1), .val (.int p2), .val (.int (1 : Int32)), .val (.int ((p2 &&& (2147483647 : Int32)) % (5 : Int32))), .val (.ref w_SINCE_IN_SESSION), .val (.ref w_y), .val (.int (0 : Int32)), .unset, .unset, .unset, .unset] []))
  refine own_go (fun t k => XS.aload X3.here hx rfl (hb hby at_33) rfl rfl k) ?_
  show Go p.tables e below _ (T3.setTop (mkF m 35 #[.val (.int p1), .val (.int p2), .val (.int (1 : Int32)), .val (.int ((p2 &&& (2147483647 : Int32)) % (5 : Int32))), .val (.ref w_SINCE_IN_SESSION), .val (.ref w_y), .val (.int (0 : Int32)), .unset, .unset, .unset, .unset] [(.ref w_y)]))
  obtain ⟨cq4, kq4, q4a, q4b, q4c⟩ := isOf hZ e3 E_y
  obtain ⟨v4, _, ⟨T4, L4, k4, n4⟩, -, X4, ⟨Lc4, hQ4, l4, y4, z4⟩, st4⟩ := X3.virtualBack hx (y := (⟨"com/example/meerkat/meerkat/formula/Formula$BinaryOperator", "groupsRight", "()Z"⟩ : MethodName)) (z := (⟨"com/example/meerkat/meerkat/formula/Formula$BinaryOperator", "groupsRight", "()Z"⟩ : MethodName)) hown (mvT hZ (hw _ (List.mem_of_getElem? (i := 10) rfl))) (mvT hZ (hw _ (List.mem_of_getElem? (i := 11) rfl))) (notFace_of_selects (args := #[]) (mvT hZ (hw _ (List.mem_of_getElem? (i := 13) rfl)))) (mvT hZ (hw _ (List.mem_of_getElem? (i := 13) rfl))) (mvT hZ (hw _ (List.mem_of_getElem? (i := 12) rfl))) (by decide) (backOf (W := 0) (rm_grp l Z a0 hw [] w_y w_IMPLIES w_OR w_AND w_SINCE_IN_SESSION w_SINCE_ACROSS_SESSIONS h0 n0 SS) hZ (hw _ (List.mem_of_getElem? (i := 14) rfl)) (hw _ (List.mem_of_getElem? (i := 6) rfl)) (by decide) (by decide)) q4a q4c (g := (mkF m 35 #[.val (.int p1), .val (.int p2), .val (.int (1 : Int32)), .val (.int ((p2 &&& (2147483647 : Int32)) % (5 : Int32))), .val (.ref w_SINCE_IN_SESSION), .val (.ref w_y), .val (.int (0 : Int32)), .unset, .unset, .unset, .unset] [(.ref w_y)])) rfl (by rw [hml]; rfl) (Steps.refl _) (argsL := []) (rest := []) (lenOf pd_1 rfl) rfl (by show 2 * 0 + _ ≤ _; exact Nat.le_of_eq rfl) (hb hby at_35) (fun _ _ => ⟨rfl, e3, (by decide : 0 + 0 ≤ _), (by decide : 0 + 0 ≤ _)⟩)
  dsimp only [Pt.U, Pt.locs, Pt.cells, Pt.slots] at X4 l4 y4 z4 st4 hQ4
  subst l4 y4 z4
  obtain ⟨hv4, N4q, e4⟩ := hQ4
  rw [show ((.int (own_grp w_IMPLIES w_y)) : Value) = (.int g_y) from congrArg Value.int hg] at hv4
  subst hv4
  have N4 := Fr.app N3 N4q
  refine own_go (fun t k => st4.trans k) ?_
  show Go p.tables e below _ (T4.setTop (mkF m 38 #[.val (.int p1), .val (.int p2), .val (.int (1 : Int32)), .val (.int ((p2 &&& (2147483647 : Int32)) % (5 : Int32))), .val (.ref w_SINCE_IN_SESSION), .val (.ref w_y), .val (.int (0 : Int32)), .unset, .unset, .unset, .unset] [(.int g_y)]))
  refine own_go (fun t k => XS.istore X4.here hx rfl (hb hby at_38) rfl (l' := #[.val (.int p1), .val (.int p2), .val (.int (1 : Int32)), .val (.int ((p2 &&& (2147483647 : Int32)) % (5 : Int32))), .val (.ref w_SINCE_IN_SESSION), .val (.ref w_y), .val (.int (0 : Int32)), .val (.int g_y), .unset, .unset, .unset]) rfl k) ?_
  show Go p.tables e below _ (T4.setTop (mkF m 40 #[.val (.int p1), .val (.int p2), .val (.int (1 : Int32)), .val (.int ((p2 &&& (2147483647 : Int32)) % (5 : Int32))), .val (.ref w_SINCE_IN_SESSION), .val (.ref w_y), .val (.int (0 : Int32)), .val (.int g_y), .unset, .unset, .unset] []))
  refine own_go (fun t k => XS.iloadN X4.here hx rfl (hb hby at_40) rfl k) ?_
  show Go p.tables e below _ (T4.setTop (mkF m 41 #[.val (.int p1), .val (.int p2), .val (.int (1 : Int32)), .val (.int ((p2 &&& (2147483647 : Int32)) % (5 : Int32))), .val (.ref w_SINCE_IN_SESSION), .val (.ref w_y), .val (.int (0 : Int32)), .val (.int g_y), .unset, .unset, .unset] [(.int (1 : Int32))]))
  refine own_go (fun t k => XS.ifYes X4.here hx rfl (pc0 := 41) (pc' := 48) rfl (hb hby at_41) rfl (XT.i0_ne_t (by decide)) (by decide) (by decide) k) ?_
  show Go p.tables e below _ (T4.setTop (mkF m 48 #[.val (.int p1), .val (.int p2), .val (.int (1 : Int32)), .val (.int ((p2 &&& (2147483647 : Int32)) % (5 : Int32))), .val (.ref w_SINCE_IN_SESSION), .val (.ref w_y), .val (.int (0 : Int32)), .val (.int g_y), .unset, .unset, .unset] []))
  refine own_go (fun t k => XS.iconst X4.here hx rfl (hb hby at_48) k) ?_
  show Go p.tables e below _ (T4.setTop (mkF m 49 #[.val (.int p1), .val (.int p2), .val (.int (1 : Int32)), .val (.int ((p2 &&& (2147483647 : Int32)) % (5 : Int32))), .val (.ref w_SINCE_IN_SESSION), .val (.ref w_y), .val (.int (0 : Int32)), .val (.int g_y), .unset, .unset, .unset] [(.int (0 : Int32))]))
  refine own_go (fun t k => XS.istore X4.here hx rfl (hb hby at_49) rfl (l' := #[.val (.int p1), .val (.int p2), .val (.int (1 : Int32)), .val (.int ((p2 &&& (2147483647 : Int32)) % (5 : Int32))), .val (.ref w_SINCE_IN_SESSION), .val (.ref w_y), .val (.int (0 : Int32)), .val (.int g_y), .val (.int (0 : Int32)), .unset, .unset]) rfl k) ?_
  show Go p.tables e below _ (T4.setTop (mkF m 51 #[.val (.int p1), .val (.int p2), .val (.int (1 : Int32)), .val (.int ((p2 &&& (2147483647 : Int32)) % (5 : Int32))), .val (.ref w_SINCE_IN_SESSION), .val (.ref w_y), .val (.int (0 : Int32)), .val (.int g_y), .val (.int (0 : Int32)), .unset, .unset] []))
  refine own_go (fun t k => XS.iload X4.here hx rfl (hb hby at_51) rfl k) ?_
  show Go p.tables e below _ (T4.setTop (mkF m 53 #[.val (.int p1), .val (.int p2), .val (.int (1 : Int32)), .val (.int ((p2 &&& (2147483647 : Int32)) % (5 : Int32))), .val (.ref w_SINCE_IN_SESSION), .val (.ref w_y), .val (.int (0 : Int32)), .val (.int g_y), .val (.int (0 : Int32)), .unset, .unset] [(.int (0 : Int32))]))
  refine own_go (fun t k => XS.iload X4.here hx rfl (hb hby at_53) rfl k) ?_
  show Go p.tables e below _ (T4.setTop (mkF m 55 #[.val (.int p1), .val (.int p2), .val (.int (1 : Int32)), .val (.int ((p2 &&& (2147483647 : Int32)) % (5 : Int32))), .val (.ref w_SINCE_IN_SESSION), .val (.ref w_y), .val (.int (0 : Int32)), .val (.int g_y), .val (.int (0 : Int32)), .unset, .unset] [(.int (0 : Int32)), (.int (0 : Int32))]))
  refine own_go (fun t k => XS.icmpNo X4.here hx rfl (hb hby at_55) rfl (XT.ii_ne_f (by decide)) k) ?_
  show Go p.tables e below _ (T4.setTop (mkF m 58 #[.val (.int p1), .val (.int p2), .val (.int (1 : Int32)), .val (.int ((p2 &&& (2147483647 : Int32)) % (5 : Int32))), .val (.ref w_SINCE_IN_SESSION), .val (.ref w_y), .val (.int (0 : Int32)), .val (.int g_y), .val (.int (0 : Int32)), .unset, .unset] []))
  refine own_go (fun t k => XS.iconst X4.here hx rfl (hb hby at_58) k) ?_
  show Go p.tables e below _ (T4.setTop (mkF m 59 #[.val (.int p1), .val (.int p2), .val (.int (1 : Int32)), .val (.int ((p2 &&& (2147483647 : Int32)) % (5 : Int32))), .val (.ref w_SINCE_IN_SESSION), .val (.ref w_y), .val (.int (0 : Int32)), .val (.int g_y), .val (.int (0 : Int32)), .unset, .unset] [(.int (1 : Int32))]))
  refine own_go (fun t k => XS.goto X4.here hx rfl (pc0 := 59) (pc' := 63) rfl (hb hby at_59) (by decide) (by decide) k) ?_
  show Go p.tables e below _ (T4.setTop (mkF m 63 #[.val (.int p1), .val (.int p2), .val (.int (1 : Int32)), .val (.int ((p2 &&& (2147483647 : Int32)) % (5 : Int32))), .val (.ref w_SINCE_IN_SESSION), .val (.ref w_y), .val (.int (0 : Int32)), .val (.int g_y), .val (.int (0 : Int32)), .unset, .unset] [(.int (1 : Int32))]))
  refine own_go (fun t k => XS.istore X4.here hx rfl (hb hby at_63) rfl (l' := #[.val (.int p1), .val (.int p2), .val (.int (1 : Int32)), .val (.int ((p2 &&& (2147483647 : Int32)) % (5 : Int32))), .val (.ref w_SINCE_IN_SESSION), .val (.ref w_y), .val (.int (0 : Int32)), .val (.int g_y), .val (.int (0 : Int32)), .val (.int (1 : Int32)), .unset]) rfl k) ?_
  show Go p.tables e below _ (T4.setTop (mkF m 65 #[.val (.int p1), .val (.int p2), .val (.int (1 : Int32)), .val (.int ((p2 &&& (2147483647 : Int32)) % (5 : Int32))), .val (.ref w_SINCE_IN_SESSION), .val (.ref w_y), .val (.int (0 : Int32)), .val (.int g_y), .val (.int (0 : Int32)), .val (.int (1 : Int32)), .unset] []))
  refine own_go (fun t k => XS.aload X4.here hx rfl (hb hby at_65) rfl rfl k) ?_
  show Go p.tables e below _ (T4.setTop (mkF m 67 #[.val (.int p1), .val (.int p2), .val (.int (1 : Int32)), .val (.int ((p2 &&& (2147483647 : Int32)) % (5 : Int32))), .val (.ref w_SINCE_IN_SESSION), .val (.ref w_y), .val (.int (0 : Int32)), .val (.int g_y), .val (.int (0 : Int32)), .val (.int (1 : Int32)), .unset] [(.ref w_SINCE_IN_SESSION)]))
  obtain ⟨cq5, kq5, q5a, q5b, q5c⟩ := isOf hZ e4 E_SINCE_IN_SESSION
  obtain ⟨v5, _, ⟨T5, L5, k5, n5⟩, -, X5, ⟨Lc5, hQ5, l5, y5, z5⟩, st5⟩ := X4.virtualBack hx (y := (⟨"com/example/meerkat/meerkat/formula/Formula$BinaryOperator", "precedence", "()I"⟩ : MethodName)) (z := (⟨"com/example/meerkat/meerkat/formula/Formula$BinaryOperator", "precedence", "()I"⟩ : MethodName)) hown (mvT hZ (hw _ (List.mem_of_getElem? (i := 16) rfl))) (mvT hZ (hw _ (List.mem_of_getElem? (i := 17) rfl))) (notFace_of_selects (args := #[]) (mvT hZ (hw _ (List.mem_of_getElem? (i := 19) rfl)))) (mvT hZ (hw _ (List.mem_of_getElem? (i := 19) rfl))) (mvT hZ (hw _ (List.mem_of_getElem? (i := 18) rfl))) (by decide) (backOf (W := 0) (rm_prec l Z a0 hw [] w_SINCE_IN_SESSION (2 : Int32) h0 n0 F_SINCE_IN_SESSION_precedence) hZ (hw _ (List.mem_of_getElem? (i := 20) rfl)) (hw _ (List.mem_of_getElem? (i := 6) rfl)) (by decide) (by decide)) q5a q5c (g := (mkF m 67 #[.val (.int p1), .val (.int p2), .val (.int (1 : Int32)), .val (.int ((p2 &&& (2147483647 : Int32)) % (5 : Int32))), .val (.ref w_SINCE_IN_SESSION), .val (.ref w_y), .val (.int (0 : Int32)), .val (.int g_y), .val (.int (0 : Int32)), .val (.int (1 : Int32)), .unset] [(.ref w_SINCE_IN_SESSION)])) rfl (by rw [hml]; rfl) (Steps.refl _) (argsL := []) (rest := []) (lenOf pd_2 rfl) rfl (by show 2 * 0 + _ ≤ _; exact Nat.le_of_eq rfl) (hb hby at_67) (fun _ _ => ⟨rfl, e4, (by decide : 0 + 0 ≤ _), (by decide : 0 + 0 ≤ _)⟩)
  dsimp only [Pt.U, Pt.locs, Pt.cells, Pt.slots] at X5 l5 y5 z5 st5 hQ5
  subst l5 y5 z5
  obtain ⟨hv5, N5q, e5⟩ := hQ5
  subst hv5
  have N5 := Fr.app N4 N5q
  refine own_go (fun t k => st5.trans k) ?_
  show Go p.tables e below _ (T5.setTop (mkF m 70 #[.val (.int p1), .val (.int p2), .val (.int (1 : Int32)), .val (.int ((p2 &&& (2147483647 : Int32)) % (5 : Int32))), .val (.ref w_SINCE_IN_SESSION), .val (.ref w_y), .val (.int (0 : Int32)), .val (.int g_y), .val (.int (0 : Int32)), .val (.int (1 : Int32)), .unset] [(.int (2 : Int32))]))
  refine own_go (fun t k => XS.aload X5.here hx rfl (hb hby at_70) rfl rfl k) ?_
  show Go p.tables e below _ (T5.setTop (mkF m 72 #[.val (.int p1), .val (.int p2), .val (.int (1 : Int32)), .val (.int ((p2 &&& (2147483647 : Int32)) % (5 : Int32))), .val (.ref w_SINCE_IN_SESSION), .val (.ref w_y), .val (.int (0 : Int32)), .val (.int g_y), .val (.int (0 : Int32)), .val (.int (1 : Int32)), .unset] [(.ref w_y), (.int (2 : Int32))]))
  obtain ⟨cq6, kq6, q6a, q6b, q6c⟩ := isOf hZ e5 E_y
  obtain ⟨v6, _, ⟨T6, L6, k6, n6⟩, -, X6, ⟨Lc6, hQ6, l6, y6, z6⟩, st6⟩ := X5.virtualBack hx (y := (⟨"com/example/meerkat/meerkat/formula/Formula$BinaryOperator", "precedence", "()I"⟩ : MethodName)) (z := (⟨"com/example/meerkat/meerkat/formula/Formula$BinaryOperator", "precedence", "()I"⟩ : MethodName)) hown (mvT hZ (hw _ (List.mem_of_getElem? (i := 16) rfl))) (mvT hZ (hw _ (List.mem_of_getElem? (i := 17) rfl))) (notFace_of_selects (args := #[]) (mvT hZ (hw _ (List.mem_of_getElem? (i := 19) rfl)))) (mvT hZ (hw _ (List.mem_of_getElem? (i := 19) rfl))) (mvT hZ (hw _ (List.mem_of_getElem? (i := 18) rfl))) (by decide) (backOf (W := 1) (rm_prec l Z a0 hw [] w_y z_y h0 n0 F_y_precedence) hZ (hw _ (List.mem_of_getElem? (i := 20) rfl)) (hw _ (List.mem_of_getElem? (i := 6) rfl)) (by decide) (by decide)) q6a q6c (g := (mkF m 72 #[.val (.int p1), .val (.int p2), .val (.int (1 : Int32)), .val (.int ((p2 &&& (2147483647 : Int32)) % (5 : Int32))), .val (.ref w_SINCE_IN_SESSION), .val (.ref w_y), .val (.int (0 : Int32)), .val (.int g_y), .val (.int (0 : Int32)), .val (.int (1 : Int32)), .unset] [(.ref w_y), (.int (2 : Int32))])) rfl (by rw [hml]; rfl) (Steps.refl _) (argsL := []) (rest := [(.int (2 : Int32))]) (lenOf pd_2 rfl) rfl (by show 2 * 0 + _ ≤ _; exact Nat.le_of_eq rfl) (hb hby at_72) (fun _ _ => ⟨rfl, e5, (by decide : 0 + 0 ≤ _), (by decide : 0 + 0 ≤ _)⟩)
  dsimp only [Pt.U, Pt.locs, Pt.cells, Pt.slots] at X6 l6 y6 z6 st6 hQ6
  subst l6 y6 z6
  obtain ⟨hv6, N6q, e6⟩ := hQ6
  subst hv6
  have N6 := Fr.app N5 N6q
  refine own_go (fun t k => st6.trans k) ?_
  show Go p.tables e below _ (T6.setTop (mkF m 75 #[.val (.int p1), .val (.int p2), .val (.int (1 : Int32)), .val (.int ((p2 &&& (2147483647 : Int32)) % (5 : Int32))), .val (.ref w_SINCE_IN_SESSION), .val (.ref w_y), .val (.int (0 : Int32)), .val (.int g_y), .val (.int (0 : Int32)), .val (.int (1 : Int32)), .unset] [(.int z_y), (.int (2 : Int32))]))
  by_cases hc7 : (2 : Int32) = z_y
  · refine own_go (fun t k => XS.icmpNo X6.here hx rfl (hb hby at_75) rfl (XT.ii_ne_f hc7) k) ?_
    show Go p.tables e below _ (T6.setTop (mkF m 78 #[.val (.int p1), .val (.int p2), .val (.int (1 : Int32)), .val (.int ((p2 &&& (2147483647 : Int32)) % (5 : Int32))), .val (.ref w_SINCE_IN_SESSION), .val (.ref w_y), .val (.int (0 : Int32)), .val (.int g_y), .val (.int (0 : Int32)), .val (.int (1 : Int32)), .unset] []))
    refine own_go (fun t k => XS.iload X6.here hx rfl (hb hby at_78) rfl k) ?_
    show Go p.tables e below _ (T6.setTop (mkF m 80 #[.val (.int p1), .val (.int p2), .val (.int (1 : Int32)), .val (.int ((p2 &&& (2147483647 : Int32)) % (5 : Int32))), .val (.ref w_SINCE_IN_SESSION), .val (.ref w_y), .val (.int (0 : Int32)), .val (.int g_y), .val (.int (0 : Int32)), .val (.int (1 : Int32)), .unset] [(.int (0 : Int32))]))
    refine own_go (fun t k => XS.iload X6.here hx rfl (hb hby at_80) rfl k) ?_
    show Go p.tables e below _ (T6.setTop (mkF m 82 #[.val (.int p1), .val (.int p2), .val (.int (1 : Int32)), .val (.int ((p2 &&& (2147483647 : Int32)) % (5 : Int32))), .val (.ref w_SINCE_IN_SESSION), .val (.ref w_y), .val (.int (0 : Int32)), .val (.int g_y), .val (.int (0 : Int32)), .val (.int (1 : Int32)), .unset] [(.int g_y), (.int (0 : Int32))]))
    refine own_go (fun t k => XS.icmpNo X6.here hx rfl (hb hby at_82) rfl (XT.ii_ne_f (hpq hc7)) k) ?_
    show Go p.tables e below _ (T6.setTop (mkF m 85 #[.val (.int p1), .val (.int p2), .val (.int (1 : Int32)), .val (.int ((p2 &&& (2147483647 : Int32)) % (5 : Int32))), .val (.ref w_SINCE_IN_SESSION), .val (.ref w_y), .val (.int (0 : Int32)), .val (.int g_y), .val (.int (0 : Int32)), .val (.int (1 : Int32)), .unset] []))
    refine own_go (fun t k => XS.iconst X6.here hx rfl (hb hby at_85) k) ?_
    show Go p.tables e below _ (T6.setTop (mkF m 86 #[.val (.int p1), .val (.int p2), .val (.int (1 : Int32)), .val (.int ((p2 &&& (2147483647 : Int32)) % (5 : Int32))), .val (.ref w_SINCE_IN_SESSION), .val (.ref w_y), .val (.int (0 : Int32)), .val (.int g_y), .val (.int (0 : Int32)), .val (.int (1 : Int32)), .unset] [(.int (1 : Int32))]))
    refine own_go (fun t k => XS.goto X6.here hx rfl (pc0 := 86) (pc' := 90) rfl (hb hby at_86) (by decide) (by decide) k) ?_
    show Go p.tables e below _ (T6.setTop (mkF m 90 #[.val (.int p1), .val (.int p2), .val (.int (1 : Int32)), .val (.int ((p2 &&& (2147483647 : Int32)) % (5 : Int32))), .val (.ref w_SINCE_IN_SESSION), .val (.ref w_y), .val (.int (0 : Int32)), .val (.int g_y), .val (.int (0 : Int32)), .val (.int (1 : Int32)), .unset] [(.int (1 : Int32))]))
    refine own_go (fun t k => XS.istore X6.here hx rfl (hb hby at_90) rfl (l' := #[.val (.int p1), .val (.int p2), .val (.int (1 : Int32)), .val (.int ((p2 &&& (2147483647 : Int32)) % (5 : Int32))), .val (.ref w_SINCE_IN_SESSION), .val (.ref w_y), .val (.int (0 : Int32)), .val (.int g_y), .val (.int (0 : Int32)), .val (.int (1 : Int32)), .val (.int (1 : Int32))]) rfl k) ?_
    show Go p.tables e below _ (T6.setTop (mkF m 92 #[.val (.int p1), .val (.int p2), .val (.int (1 : Int32)), .val (.int ((p2 &&& (2147483647 : Int32)) % (5 : Int32))), .val (.ref w_SINCE_IN_SESSION), .val (.ref w_y), .val (.int (0 : Int32)), .val (.int g_y), .val (.int (0 : Int32)), .val (.int (1 : Int32)), .val (.int (1 : Int32))] []))
    refine own_go (fun t k => XS.iload X6.here hx rfl (hb hby at_92) rfl k) ?_
    show Go p.tables e below _ (T6.setTop (mkF m 94 #[.val (.int p1), .val (.int p2), .val (.int (1 : Int32)), .val (.int ((p2 &&& (2147483647 : Int32)) % (5 : Int32))), .val (.ref w_SINCE_IN_SESSION), .val (.ref w_y), .val (.int (0 : Int32)), .val (.int g_y), .val (.int (0 : Int32)), .val (.int (1 : Int32)), .val (.int (1 : Int32))] [(.int (1 : Int32))]))
    refine own_go (fun t k => XS.ifNo X6.here hx rfl (hb hby at_94) rfl (XT.i0_eq_f (by decide)) k) ?_
    show Go p.tables e below _ (T6.setTop (mkF m 97 #[.val (.int p1), .val (.int p2), .val (.int (1 : Int32)), .val (.int ((p2 &&& (2147483647 : Int32)) % (5 : Int32))), .val (.ref w_SINCE_IN_SESSION), .val (.ref w_y), .val (.int (0 : Int32)), .val (.int g_y), .val (.int (0 : Int32)), .val (.int (1 : Int32)), .val (.int (1 : Int32))] []))
    refine own_go (fun t k => XS.iload X6.here hx rfl (hb hby at_97) rfl k) ?_
    show Go p.tables e below _ (T6.setTop (mkF m 99 #[.val (.int p1), .val (.int p2), .val (.int (1 : Int32)), .val (.int ((p2 &&& (2147483647 : Int32)) % (5 : Int32))), .val (.ref w_SINCE_IN_SESSION), .val (.ref w_y), .val (.int (0 : Int32)), .val (.int g_y), .val (.int (0 : Int32)), .val (.int (1 : Int32)), .val (.int (1 : Int32))] [(.int (1 : Int32))]))
    refine own_go (fun t k => XS.ifNo X6.here hx rfl (hb hby at_99) rfl (XT.i0_eq_f (by decide)) k) ?_
    show Go p.tables e below _ (T6.setTop (mkF m 102 #[.val (.int p1), .val (.int p2), .val (.int (1 : Int32)), .val (.int ((p2 &&& (2147483647 : Int32)) % (5 : Int32))), .val (.ref w_SINCE_IN_SESSION), .val (.ref w_y), .val (.int (0 : Int32)), .val (.int g_y), .val (.int (0 : Int32)), .val (.int (1 : Int32)), .val (.int (1 : Int32))] []))
    refine own_go (fun t k => XS.iconst X6.here hx rfl (hb hby at_102) k) ?_
    show Go p.tables e below _ (T6.setTop (mkF m 103 #[.val (.int p1), .val (.int p2), .val (.int (1 : Int32)), .val (.int ((p2 &&& (2147483647 : Int32)) % (5 : Int32))), .val (.ref w_SINCE_IN_SESSION), .val (.ref w_y), .val (.int (0 : Int32)), .val (.int g_y), .val (.int (0 : Int32)), .val (.int (1 : Int32)), .val (.int (1 : Int32))] [(.int (1 : Int32))]))
    refine own_go (fun t k => XS.goto X6.here hx rfl (pc0 := 103) (pc' := 107) rfl (hb hby at_103) (by decide) (by decide) k) ?_
    show Go p.tables e below _ (T6.setTop (mkF m 107 #[.val (.int p1), .val (.int p2), .val (.int (1 : Int32)), .val (.int ((p2 &&& (2147483647 : Int32)) % (5 : Int32))), .val (.ref w_SINCE_IN_SESSION), .val (.ref w_y), .val (.int (0 : Int32)), .val (.int g_y), .val (.int (0 : Int32)), .val (.int (1 : Int32)), .val (.int (1 : Int32))] [(.int (1 : Int32))]))
    exact own_ret X6 hx hlk Bd.returns rfl (Or.inl ⟨rfl, Or.inr (Or.inl rfl), _, rfl⟩) (hb hby at_107) ⟨rfl, N6, e6⟩ (by decide) (by decide)
  · refine own_go (fun t k => XS.icmpYes X6.here hx rfl (pc0 := 75) (pc' := 85) rfl (hb hby at_75) rfl (XT.ii_ne_t hc7) (by decide) (by decide) k) ?_
    show Go p.tables e below _ (T6.setTop (mkF m 85 #[.val (.int p1), .val (.int p2), .val (.int (1 : Int32)), .val (.int ((p2 &&& (2147483647 : Int32)) % (5 : Int32))), .val (.ref w_SINCE_IN_SESSION), .val (.ref w_y), .val (.int (0 : Int32)), .val (.int g_y), .val (.int (0 : Int32)), .val (.int (1 : Int32)), .unset] []))
    refine own_go (fun t k => XS.iconst X6.here hx rfl (hb hby at_85) k) ?_
    show Go p.tables e below _ (T6.setTop (mkF m 86 #[.val (.int p1), .val (.int p2), .val (.int (1 : Int32)), .val (.int ((p2 &&& (2147483647 : Int32)) % (5 : Int32))), .val (.ref w_SINCE_IN_SESSION), .val (.ref w_y), .val (.int (0 : Int32)), .val (.int g_y), .val (.int (0 : Int32)), .val (.int (1 : Int32)), .unset] [(.int (1 : Int32))]))
    refine own_go (fun t k => XS.goto X6.here hx rfl (pc0 := 86) (pc' := 90) rfl (hb hby at_86) (by decide) (by decide) k) ?_
    show Go p.tables e below _ (T6.setTop (mkF m 90 #[.val (.int p1), .val (.int p2), .val (.int (1 : Int32)), .val (.int ((p2 &&& (2147483647 : Int32)) % (5 : Int32))), .val (.ref w_SINCE_IN_SESSION), .val (.ref w_y), .val (.int (0 : Int32)), .val (.int g_y), .val (.int (0 : Int32)), .val (.int (1 : Int32)), .unset] [(.int (1 : Int32))]))
    refine own_go (fun t k => XS.istore X6.here hx rfl (hb hby at_90) rfl (l' := #[.val (.int p1), .val (.int p2), .val (.int (1 : Int32)), .val (.int ((p2 &&& (2147483647 : Int32)) % (5 : Int32))), .val (.ref w_SINCE_IN_SESSION), .val (.ref w_y), .val (.int (0 : Int32)), .val (.int g_y), .val (.int (0 : Int32)), .val (.int (1 : Int32)), .val (.int (1 : Int32))]) rfl k) ?_
    show Go p.tables e below _ (T6.setTop (mkF m 92 #[.val (.int p1), .val (.int p2), .val (.int (1 : Int32)), .val (.int ((p2 &&& (2147483647 : Int32)) % (5 : Int32))), .val (.ref w_SINCE_IN_SESSION), .val (.ref w_y), .val (.int (0 : Int32)), .val (.int g_y), .val (.int (0 : Int32)), .val (.int (1 : Int32)), .val (.int (1 : Int32))] []))
    refine own_go (fun t k => XS.iload X6.here hx rfl (hb hby at_92) rfl k) ?_
    show Go p.tables e below _ (T6.setTop (mkF m 94 #[.val (.int p1), .val (.int p2), .val (.int (1 : Int32)), .val (.int ((p2 &&& (2147483647 : Int32)) % (5 : Int32))), .val (.ref w_SINCE_IN_SESSION), .val (.ref w_y), .val (.int (0 : Int32)), .val (.int g_y), .val (.int (0 : Int32)), .val (.int (1 : Int32)), .val (.int (1 : Int32))] [(.int (1 : Int32))]))
    refine own_go (fun t k => XS.ifNo X6.here hx rfl (hb hby at_94) rfl (XT.i0_eq_f (by decide)) k) ?_
    show Go p.tables e below _ (T6.setTop (mkF m 97 #[.val (.int p1), .val (.int p2), .val (.int (1 : Int32)), .val (.int ((p2 &&& (2147483647 : Int32)) % (5 : Int32))), .val (.ref w_SINCE_IN_SESSION), .val (.ref w_y), .val (.int (0 : Int32)), .val (.int g_y), .val (.int (0 : Int32)), .val (.int (1 : Int32)), .val (.int (1 : Int32))] []))
    refine own_go (fun t k => XS.iload X6.here hx rfl (hb hby at_97) rfl k) ?_
    show Go p.tables e below _ (T6.setTop (mkF m 99 #[.val (.int p1), .val (.int p2), .val (.int (1 : Int32)), .val (.int ((p2 &&& (2147483647 : Int32)) % (5 : Int32))), .val (.ref w_SINCE_IN_SESSION), .val (.ref w_y), .val (.int (0 : Int32)), .val (.int g_y), .val (.int (0 : Int32)), .val (.int (1 : Int32)), .val (.int (1 : Int32))] [(.int (1 : Int32))]))
    refine own_go (fun t k => XS.ifNo X6.here hx rfl (hb hby at_99) rfl (XT.i0_eq_f (by decide)) k) ?_
    show Go p.tables e below _ (T6.setTop (mkF m 102 #[.val (.int p1), .val (.int p2), .val (.int (1 : Int32)), .val (.int ((p2 &&& (2147483647 : Int32)) % (5 : Int32))), .val (.ref w_SINCE_IN_SESSION), .val (.ref w_y), .val (.int (0 : Int32)), .val (.int g_y), .val (.int (0 : Int32)), .val (.int (1 : Int32)), .val (.int (1 : Int32))] []))
    refine own_go (fun t k => XS.iconst X6.here hx rfl (hb hby at_102) k) ?_
    show Go p.tables e below _ (T6.setTop (mkF m 103 #[.val (.int p1), .val (.int p2), .val (.int (1 : Int32)), .val (.int ((p2 &&& (2147483647 : Int32)) % (5 : Int32))), .val (.ref w_SINCE_IN_SESSION), .val (.ref w_y), .val (.int (0 : Int32)), .val (.int g_y), .val (.int (0 : Int32)), .val (.int (1 : Int32)), .val (.int (1 : Int32))] [(.int (1 : Int32))]))
    refine own_go (fun t k => XS.goto X6.here hx rfl (pc0 := 103) (pc' := 107) rfl (hb hby at_103) (by decide) (by decide) k) ?_
    show Go p.tables e below _ (T6.setTop (mkF m 107 #[.val (.int p1), .val (.int p2), .val (.int (1 : Int32)), .val (.int ((p2 &&& (2147483647 : Int32)) % (5 : Int32))), .val (.ref w_SINCE_IN_SESSION), .val (.ref w_y), .val (.int (0 : Int32)), .val (.int g_y), .val (.int (0 : Int32)), .val (.int (1 : Int32)), .val (.int (1 : Int32))] [(.int (1 : Int32))]))
    exact own_ret X6 hx hlk Bd.returns rfl (Or.inl ⟨rfl, Or.inr (Or.inl rfl), _, rfl⟩) (hb hby at_107) ⟨rfl, N6, e6⟩ (by decide) (by decide)
theorem ef_rm_law_2 (m : MethodId) (x0 : Int32) (x1 : Int32) : entryFrame m #[(.int x0), (.int x1)] maxLocals = mkF m 0 #[.val (.int x0), .val (.int x1), .unset, .unset, .unset, .unset, .unset, .unset, .unset, .unset, .unset] [] := by first | (simp [entryFrame, mkF, argsToLocals, Value.category, maxLocals]; done) | rfl
set_option maxRecDepth 65536 in
set_option maxHeartbeats 40000000 in
theorem rm_law_2 (l : Launch) (Z : State) (a0 : Array Value) (hw : ∀ d ∈ tables_1, d.before a0 Z = true) (ws : List Jvm.Cond) (p1 p2 : Int32) (w_IMPLIES w_OR w_AND w_SINCE_IN_SESSION w_SINCE_ACROSS_SESSIONS : Addr) (w_y : Addr) (z_y g_y : Int32) (h0 : Heap) (n0 : Nat) (SS : own_S Z h0 w_IMPLIES w_OR w_AND w_SINCE_IN_SESSION w_SINCE_ACROSS_SESSIONS) (EE : own_E Z h0 w_IMPLIES w_OR w_AND w_SINCE_IN_SESSION w_SINCE_ACROSS_SESSIONS) (OO : own_O Z h0 w_IMPLIES w_OR w_AND w_SINCE_IN_SESSION w_SINCE_ACROSS_SESSIONS) (q1 : (p1 &&& 2147483647) % 5 = 2) (q2 : own_pick w_IMPLIES w_SINCE_IN_SESSION w_SINCE_ACROSS_SESSIONS w_OR w_AND ((p2 &&& 2147483647) % 5) = w_y) (E_y : Exa Z h0 w_y "com/example/meerkat/meerkat/formula/Formula$BinaryOperator") (F_y_precedence : Fld Z h0 w_y "com/example/meerkat/meerkat/formula/Formula$BinaryOperator" "precedence" "I" (.int z_y)) (hg : own_grp w_IMPLIES w_y = g_y) (hpq : (2 : Int32) = z_y → (0 : Int32) = g_y) :
    MetFree l x (head1 (Jvm.Cond.code x code maxLocals ret :: ws) room_1) (fun aa U => aa = #[(.int p1), (.int p2)] ∧ Z.Warmed39 U.vm ∧ U.heap = h0) (fun _ _ _ _ _ => True) (fun _ U o U' => ∃ v L, o = .returned v ∧ PQ (.int 1) h0 n0 v U'.heap L ∧ FrameEnd U o U' L room_1.cells room_1.slots) := by
  refine MetFree.of_bodySF (plainFor_of_name pn_0) hisR ?_
  intro p e s m args below meth c s₁ Bd hml0 hP hK
  obtain ⟨rfl, hZ, hh⟩ := hP
  have hx := Bd.exec
  have hby := Bd.bytes
  have hlk := Bd.notSynchronized
  have hml : c.maxLocals = 11 := hml0
  have hown : s.vm.findClass "com/example/meerkat/meerkat/formula/BinaryOperatorGroupsRightPinLaw" = some m.cls := findClass_of_methodNamed Bd.named
  have X0 : Stand p l e room_1 s m #[(.int p1), (.int p2)] below meth c s₁ [] 0 0 := Stand.of_body Bd
  have e0 : s₁.heap = h0 := by rw [← hh, Bd.state]; rfl
  have N0 := Fr.nil n0
  have SS' := SS
  obtain ⟨S_IMPLIES, S_OR, S_AND, S_SINCE_IN_SESSION, S_SINCE_ACROSS_SESSIONS⟩ := SS'
  obtain ⟨E_IMPLIES, E_OR, E_AND, E_SINCE_IN_SESSION, E_SINCE_ACROSS_SESSIONS⟩ := EE
  obtain ⟨F_OR_ordinal, F_IMPLIES_ordinal, F_IMPLIES_precedence, F_OR_precedence, F_AND_ordinal, F_SINCE_IN_SESSION_ordinal, F_AND_precedence, F_SINCE_IN_SESSION_precedence, F_SINCE_ACROSS_SESSIONS_ordinal, F_SINCE_ACROSS_SESSIONS_precedence⟩ := OO
  have nSINCE_IN_SESSION : w_SINCE_IN_SESSION ≠ w_IMPLIES := (own_ne F_SINCE_IN_SESSION_ordinal F_IMPLIES_ordinal (by decide))
  have nSINCE_ACROSS_SESSIONS : w_SINCE_ACROSS_SESSIONS ≠ w_IMPLIES := (own_ne F_SINCE_ACROSS_SESSIONS_ordinal F_IMPLIES_ordinal (by decide))
  have nOR : w_OR ≠ w_IMPLIES := (own_ne F_OR_ordinal F_IMPLIES_ordinal (by decide))
  have nAND : w_AND ≠ w_IMPLIES := (own_ne F_AND_ordinal F_IMPLIES_ordinal (by decide))
  show Go p.tables e below (Fin s below (PQ (.int 1) h0 n0) room_1.cells room_1.slots) (s₁.setTop (entryFrame m #[(.int p1), (.int p2)] maxLocals))
  refine own_go (fun t k => castTop (ef_rm_law_2 m p1 p2) k) ?_
  show Go p.tables e below _ (s₁.setTop (mkF m 0 #[.val (.int p1), .val (.int p2), .unset, .unset, .unset, .unset, .unset, .unset, .unset, .unset, .unset] []))
  refine own_go (fun t k => XS.iloadN X0.here hx rfl (hb hby at_0) rfl k) ?_
  show Go p.tables e below _ (s₁.setTop (mkF m 1 #[.val (.int p1), .val (.int p2), .unset, .unset, .unset, .unset, .unset, .unset, .unset, .unset, .unset] [(.int p1)]))
  refine own_go (fun t k => Jvm.Stand.ldcI X0 hx hown (mvT hZ (hw _ (List.mem_of_getElem? (i := 0) rfl))) rfl (hb hby at_1) k) ?_
  show Go p.tables e below _ (s₁.setTop (mkF m 3 #[.val (.int p1), .val (.int p2), .unset, .unset, .unset, .unset, .unset, .unset, .unset, .unset, .unset] [(.int (2147483647 : Int32)), (.int p1)]))
  refine own_go (fun t k => XS.iand X0.here hx rfl (hb hby at_3) rfl k) ?_
  show Go p.tables e below _ (s₁.setTop (mkF m 4 #[.val (.int p1), .val (.int p2), .unset, .unset, .unset, .unset, .unset, .unset, .unset, .unset, .unset] [(.int (p1 &&& (2147483647 : Int32)))]))
  refine own_go (fun t k => XS.iconst X0.here hx rfl (hb hby at_4) k) ?_
  show Go p.tables e below _ (s₁.setTop (mkF m 5 #[.val (.int p1), .val (.int p2), .unset, .unset, .unset, .unset, .unset, .unset, .unset, .unset, .unset] [(.int (5 : Int32)), (.int (p1 &&& (2147483647 : Int32)))]))
  refine own_go (fun t k => iremM (g := (mkF m 5 #[.val (.int p1), .val (.int p2), .unset, .unset, .unset, .unset, .unset, .unset, .unset, .unset, .unset] [(.int (5 : Int32)), (.int (p1 &&& (2147483647 : Int32)))])) X0 hx rfl (hb hby at_5) rfl (by decide) k) ?_
  show Go p.tables e below _ (s₁.setTop (mkF m 6 #[.val (.int p1), .val (.int p2), .unset, .unset, .unset, .unset, .unset, .unset, .unset, .unset, .unset] [(.int ((p1 &&& (2147483647 : Int32)) % (5 : Int32)))]))
  rw [q1]
  show Go p.tables e below _ (s₁.setTop (mkF m 6 #[.val (.int p1), .val (.int p2), .unset, .unset, .unset, .unset, .unset, .unset, .unset, .unset, .unset] [(.int (2 : Int32))]))
  refine own_go (fun t k => XS.istoreN X0.here hx rfl (hb hby at_6) rfl (l' := #[.val (.int p1), .val (.int p2), .val (.int (2 : Int32)), .unset, .unset, .unset, .unset, .unset, .unset, .unset, .unset]) rfl k) ?_
  show Go p.tables e below _ (s₁.setTop (mkF m 7 #[.val (.int p1), .val (.int p2), .val (.int (2 : Int32)), .unset, .unset, .unset, .unset, .unset, .unset, .unset, .unset] []))
  refine own_go (fun t k => XS.iloadN X0.here hx rfl (hb hby at_7) rfl k) ?_
  show Go p.tables e below _ (s₁.setTop (mkF m 8 #[.val (.int p1), .val (.int p2), .val (.int (2 : Int32)), .unset, .unset, .unset, .unset, .unset, .unset, .unset, .unset] [(.int p2)]))
  refine own_go (fun t k => Jvm.Stand.ldcI X0 hx hown (mvT hZ (hw _ (List.mem_of_getElem? (i := 0) rfl))) rfl (hb hby at_8) k) ?_
  show Go p.tables e below _ (s₁.setTop (mkF m 10 #[.val (.int p1), .val (.int p2), .val (.int (2 : Int32)), .unset, .unset, .unset, .unset, .unset, .unset, .unset, .unset] [(.int (2147483647 : Int32)), (.int p2)]))
  refine own_go (fun t k => XS.iand X0.here hx rfl (hb hby at_10) rfl k) ?_
  show Go p.tables e below _ (s₁.setTop (mkF m 11 #[.val (.int p1), .val (.int p2), .val (.int (2 : Int32)), .unset, .unset, .unset, .unset, .unset, .unset, .unset, .unset] [(.int (p2 &&& (2147483647 : Int32)))]))
  refine own_go (fun t k => XS.iconst X0.here hx rfl (hb hby at_11) k) ?_
  show Go p.tables e below _ (s₁.setTop (mkF m 12 #[.val (.int p1), .val (.int p2), .val (.int (2 : Int32)), .unset, .unset, .unset, .unset, .unset, .unset, .unset, .unset] [(.int (5 : Int32)), (.int (p2 &&& (2147483647 : Int32)))]))
  refine own_go (fun t k => iremM (g := (mkF m 12 #[.val (.int p1), .val (.int p2), .val (.int (2 : Int32)), .unset, .unset, .unset, .unset, .unset, .unset, .unset, .unset] [(.int (5 : Int32)), (.int (p2 &&& (2147483647 : Int32)))])) X0 hx rfl (hb hby at_12) rfl (by decide) k) ?_
  show Go p.tables e below _ (s₁.setTop (mkF m 13 #[.val (.int p1), .val (.int p2), .val (.int (2 : Int32)), .unset, .unset, .unset, .unset, .unset, .unset, .unset, .unset] [(.int ((p2 &&& (2147483647 : Int32)) % (5 : Int32)))]))
  refine own_go (fun t k => XS.istoreN X0.here hx rfl (hb hby at_13) rfl (l' := #[.val (.int p1), .val (.int p2), .val (.int (2 : Int32)), .val (.int ((p2 &&& (2147483647 : Int32)) % (5 : Int32))), .unset, .unset, .unset, .unset, .unset, .unset, .unset]) rfl k) ?_
  show Go p.tables e below _ (s₁.setTop (mkF m 14 #[.val (.int p1), .val (.int p2), .val (.int (2 : Int32)), .val (.int ((p2 &&& (2147483647 : Int32)) % (5 : Int32))), .unset, .unset, .unset, .unset, .unset, .unset, .unset] []))
  refine own_go (fun t k => XS.iloadN X0.here hx rfl (hb hby at_14) rfl k) ?_
  show Go p.tables e below _ (s₁.setTop (mkF m 15 #[.val (.int p1), .val (.int p2), .val (.int (2 : Int32)), .val (.int ((p2 &&& (2147483647 : Int32)) % (5 : Int32))), .unset, .unset, .unset, .unset, .unset, .unset, .unset] [(.int (2 : Int32))]))
  obtain ⟨v1, _, ⟨T1, L1, k1, n1⟩, -, X1, ⟨Lc1, hQ1, l1, y1, z1⟩, st1⟩ := Jvm.LawKit.callS X0 hx (y := (⟨"com/example/meerkat/meerkat/formula/BinaryOperatorGroupsRightPinLaw", "pick", "(I)Lcom/example/meerkat/meerkat/formula/Formula$BinaryOperator;"⟩ : MethodName)) hown (mvT hZ (hw _ (List.mem_of_getElem? (i := 1) rfl))) (mvT hZ (hw _ (List.mem_of_getElem? (i := 2) rfl))) (mvT hZ (hw _ (List.mem_of_getElem? (i := 3) rfl))) (mvT hZ (hw _ (List.mem_of_getElem? (i := 4) rfl))) (by decide) (backOf (W := 0) (rm_pick l Z a0 hw [] (2 : Int32) w_IMPLIES w_OR w_AND w_SINCE_IN_SESSION w_SINCE_ACROSS_SESSIONS h0 n0 SS) hZ (hw _ (List.mem_of_getElem? (i := 4) rfl)) (hw _ (List.mem_of_getElem? (i := 3) rfl)) (by decide) (by decide)) (g := (mkF m 15 #[.val (.int p1), .val (.int p2), .val (.int (2 : Int32)), .val (.int ((p2 &&& (2147483647 : Int32)) % (5 : Int32))), .unset, .unset, .unset, .unset, .unset, .unset, .unset] [(.int (2 : Int32))])) rfl (by rw [hml]; rfl) (argsL := [(.int (2 : Int32))]) (rest := []) (lenOf pd_0 rfl) rfl (by show 2 * 0 + _ ≤ _; exact Nat.le_of_eq rfl) (hb hby at_15) (fun _ _ => ⟨rfl, e0, (by decide : 0 + 0 ≤ _), (by decide : 0 + 0 ≤ _)⟩)
  dsimp only [Pt.U, Pt.locs, Pt.cells, Pt.slots] at X1 l1 y1 z1 st1 hQ1
  subst l1 y1 z1
  obtain ⟨hv1, N1q, e1⟩ := hQ1
  rw [show ((.ref (own_pick w_IMPLIES w_SINCE_IN_SESSION w_SINCE_ACROSS_SESSIONS w_OR w_AND (2 : Int32))) : Value) = (.ref w_SINCE_ACROSS_SESSIONS) from rfl] at hv1
  subst hv1
  have N1 := Fr.app N0 N1q
  refine own_go (fun t k => st1 t k) ?_
  show Go p.tables e below _ (T1.setTop (mkF m 18 #[.val (.int p1), .val (.int p2), .val (.int (2 : Int32)), .val (.int ((p2 &&& (2147483647 : Int32)) % (5 : Int32))), .unset, .unset, .unset, .unset, .unset, .unset, .unset] [(.ref w_SINCE_ACROSS_SESSIONS)]))
  refine own_go (fun t k => XS.astore X1.here hx rfl (hb hby at_18) rfl rfl (l' := #[.val (.int p1), .val (.int p2), .val (.int (2 : Int32)), .val (.int ((p2 &&& (2147483647 : Int32)) % (5 : Int32))), .val (.ref w_SINCE_ACROSS_SESSIONS), .unset, .unset, .unset, .unset, .unset, .unset]) rfl k) ?_
  show Go p.tables e below _ (T1.setTop (mkF m 20 #[.val (.int p1), .val (.int p2), .val (.int (2 : Int32)), .val (.int ((p2 &&& (2147483647 : Int32)) % (5 : Int32))), .val (.ref w_SINCE_ACROSS_SESSIONS), .unset, .unset, .unset, .unset, .unset, .unset] []))
  refine own_go (fun t k => XS.iloadN X1.here hx rfl (hb hby at_20) rfl k) ?_
  show Go p.tables e below _ (T1.setTop (mkF m 21 #[.val (.int p1), .val (.int p2), .val (.int (2 : Int32)), .val (.int ((p2 &&& (2147483647 : Int32)) % (5 : Int32))), .val (.ref w_SINCE_ACROSS_SESSIONS), .unset, .unset, .unset, .unset, .unset, .unset] [(.int ((p2 &&& (2147483647 : Int32)) % (5 : Int32)))]))
  obtain ⟨v2, _, ⟨T2, L2, k2, n2⟩, -, X2, ⟨Lc2, hQ2, l2, y2, z2⟩, st2⟩ := Jvm.LawKit.callS X1 hx (y := (⟨"com/example/meerkat/meerkat/formula/BinaryOperatorGroupsRightPinLaw", "pick", "(I)Lcom/example/meerkat/meerkat/formula/Formula$BinaryOperator;"⟩ : MethodName)) hown (mvT hZ (hw _ (List.mem_of_getElem? (i := 1) rfl))) (mvT hZ (hw _ (List.mem_of_getElem? (i := 2) rfl))) (mvT hZ (hw _ (List.mem_of_getElem? (i := 3) rfl))) (mvT hZ (hw _ (List.mem_of_getElem? (i := 4) rfl))) (by decide) (backOf (W := 0) (rm_pick l Z a0 hw [] ((p2 &&& (2147483647 : Int32)) % (5 : Int32)) w_IMPLIES w_OR w_AND w_SINCE_IN_SESSION w_SINCE_ACROSS_SESSIONS h0 n0 SS) hZ (hw _ (List.mem_of_getElem? (i := 4) rfl)) (hw _ (List.mem_of_getElem? (i := 3) rfl)) (by decide) (by decide)) (g := (mkF m 21 #[.val (.int p1), .val (.int p2), .val (.int (2 : Int32)), .val (.int ((p2 &&& (2147483647 : Int32)) % (5 : Int32))), .val (.ref w_SINCE_ACROSS_SESSIONS), .unset, .unset, .unset, .unset, .unset, .unset] [(.int ((p2 &&& (2147483647 : Int32)) % (5 : Int32)))])) rfl (by rw [hml]; rfl) (argsL := [(.int ((p2 &&& (2147483647 : Int32)) % (5 : Int32)))]) (rest := []) (lenOf pd_0 rfl) rfl (by show 2 * 0 + _ ≤ _; exact Nat.le_of_eq rfl) (hb hby at_21) (fun _ _ => ⟨rfl, e1, (by decide : 0 + 0 ≤ _), (by decide : 0 + 0 ≤ _)⟩)
  dsimp only [Pt.U, Pt.locs, Pt.cells, Pt.slots] at X2 l2 y2 z2 st2 hQ2
  subst l2 y2 z2
  obtain ⟨hv2, N2q, e2⟩ := hQ2
  rw [show ((.ref (own_pick w_IMPLIES w_SINCE_IN_SESSION w_SINCE_ACROSS_SESSIONS w_OR w_AND ((p2 &&& (2147483647 : Int32)) % (5 : Int32)))) : Value) = (.ref w_y) from congrArg Value.ref q2] at hv2
  subst hv2
  have N2 := Fr.app N1 N2q
  refine own_go (fun t k => st2 t k) ?_
  show Go p.tables e below _ (T2.setTop (mkF m 24 #[.val (.int p1), .val (.int p2), .val (.int (2 : Int32)), .val (.int ((p2 &&& (2147483647 : Int32)) % (5 : Int32))), .val (.ref w_SINCE_ACROSS_SESSIONS), .unset, .unset, .unset, .unset, .unset, .unset] [(.ref w_y)]))
  refine own_go (fun t k => XS.astore X2.here hx rfl (hb hby at_24) rfl rfl (l' := #[.val (.int p1), .val (.int p2), .val (.int (2 : Int32)), .val (.int ((p2 &&& (2147483647 : Int32)) % (5 : Int32))), .val (.ref w_SINCE_ACROSS_SESSIONS), .val (.ref w_y), .unset, .unset, .unset, .unset, .unset]) rfl k) ?_
  show Go p.tables e below _ (T2.setTop (mkF m 26 #[.val (.int p1), .val (.int p2), .val (.int (2 : Int32)), .val (.int ((p2 &&& (2147483647 : Int32)) % (5 : Int32))), .val (.ref w_SINCE_ACROSS_SESSIONS), .val (.ref w_y), .unset, .unset, .unset, .unset, .unset] []))
  refine own_go (fun t k => XS.aload X2.here hx rfl (hb hby at_26) rfl rfl k) ?_
  show Go p.tables e below _ (T2.setTop (mkF m 28 #[.val (.int p1), .val (.int p2), .val (.int (2 : Int32)), .val (.int ((p2 &&& (2147483647 : Int32)) % (5 : Int32))), .val (.ref w_SINCE_ACROSS_SESSIONS), .val (.ref w_y), .unset, .unset, .unset, .unset, .unset] [(.ref w_SINCE_ACROSS_SESSIONS)]))
  obtain ⟨cq3, kq3, q3a, q3b, q3c⟩ := isOf hZ e2 E_SINCE_ACROSS_SESSIONS
  obtain ⟨v3, _, ⟨T3, L3, k3, n3⟩, -, X3, ⟨Lc3, hQ3, l3, y3, z3⟩, st3⟩ := X2.virtualBack hx (y := (⟨"com/example/meerkat/meerkat/formula/Formula$BinaryOperator", "groupsRight", "()Z"⟩ : MethodName)) (z := (⟨"com/example/meerkat/meerkat/formula/Formula$BinaryOperator", "groupsRight", "()Z"⟩ : MethodName)) hown (mvT hZ (hw _ (List.mem_of_getElem? (i := 10) rfl))) (mvT hZ (hw _ (List.mem_of_getElem? (i := 11) rfl))) (notFace_of_selects (args := #[]) (mvT hZ (hw _ (List.mem_of_getElem? (i := 13) rfl)))) (mvT hZ (hw _ (List.mem_of_getElem? (i := 13) rfl))) (mvT hZ (hw _ (List.mem_of_getElem? (i := 12) rfl))) (by decide) (backOf (W := 0) (rm_grp l Z a0 hw [] w_SINCE_ACROSS_SESSIONS w_IMPLIES w_OR w_AND w_SINCE_IN_SESSION w_SINCE_ACROSS_SESSIONS h0 n0 SS) hZ (hw _ (List.mem_of_getElem? (i := 14) rfl)) (hw _ (List.mem_of_getElem? (i := 6) rfl)) (by decide) (by decide)) q3a q3c (g := (mkF m 28 #[.val (.int p1), .val (.int p2), .val (.int (2 : Int32)), .val (.int ((p2 &&& (2147483647 : Int32)) % (5 : Int32))), .val (.ref w_SINCE_ACROSS_SESSIONS), .val (.ref w_y), .unset, .unset, .unset, .unset, .unset] [(.ref w_SINCE_ACROSS_SESSIONS)])) rfl (by rw [hml]; rfl) (Steps.refl _) (argsL := []) (rest := []) (lenOf pd_1 rfl) rfl (by show 2 * 0 + _ ≤ _; exact Nat.le_of_eq rfl) (hb hby at_28) (fun _ _ => ⟨rfl, e2, (by decide : 0 + 0 ≤ _), (by decide : 0 + 0 ≤ _)⟩)
  dsimp only [Pt.U, Pt.locs, Pt.cells, Pt.slots] at X3 l3 y3 z3 st3 hQ3
  subst l3 y3 z3
  obtain ⟨hv3, N3q, e3⟩ := hQ3
  rw [show ((.int (own_grp w_IMPLIES w_SINCE_ACROSS_SESSIONS)) : Value) = (.int (0 : Int32)) from by simp [own_grp, nSINCE_IN_SESSION, nSINCE_ACROSS_SESSIONS, nOR, nAND]] at hv3
  subst hv3
  have N3 := Fr.app N2 N3q
  refine own_go (fun t k => st3.trans k) ?_
  show Go p.tables e below _ (T3.setTop (mkF m 31 #[.val (.int p1), .val (.int p2), .val (.int (2 : Int32)), .val (.int ((p2 &&& (2147483647 : Int32)) % (5 : Int32))), .val (.ref w_SINCE_ACROSS_SESSIONS), .val (.ref w_y), .unset, .unset, .unset, .unset, .unset] [(.int (0 : Int32))]))
  refine own_go (fun t k => XS.istore X3.here hx rfl (hb hby at_31) rfl (l' := #[.val (.int p1), .val (.int p2), .val (.int (2 : Int32)), .val (.int ((p2 &&& (2147483647 : Int32)) % (5 : Int32))), .val (.ref w_SINCE_ACROSS_SESSIONS), .val (.ref w_y), .val (.int (0 : Int32)), .unset, .unset, .unset, .unset]) rfl k) ?_
  show Go p.tables e below _ (T3.setTop (mkF m 33 #[.val (.int p1), .val (.int p2), .val (.int (2 : Int32)), .val (.int ((p2 &&& (2147483647 : Int32)) % (5 : Int32))), .val (.ref w_SINCE_ACROSS_SESSIONS), .val (.ref w_y), .val (.int (0 : Int32)), .unset, .unset, .unset, .unset] []))
  refine own_go (fun t k => XS.aload X3.here hx rfl (hb hby at_33) rfl rfl k) ?_
  show Go p.tables e below _ (T3.setTop (mkF m 35 #[.val (.int p1), .val (.int p2), .val (.int (2 : Int32)), .val (.int ((p2 &&& (2147483647 : Int32)) % (5 : Int32))), .val (.ref w_SINCE_ACROSS_SESSIONS), .val (.ref w_y), .val (.int (0 : Int32)), .unset, .unset, .unset, .unset] [(.ref w_y)]))
  obtain ⟨cq4, kq4, q4a, q4b, q4c⟩ := isOf hZ e3 E_y
  obtain ⟨v4, _, ⟨T4, L4, k4, n4⟩, -, X4, ⟨Lc4, hQ4, l4, y4, z4⟩, st4⟩ := X3.virtualBack hx (y := (⟨"com/example/meerkat/meerkat/formula/Formula$BinaryOperator", "groupsRight", "()Z"⟩ : MethodName)) (z := (⟨"com/example/meerkat/meerkat/formula/Formula$BinaryOperator", "groupsRight", "()Z"⟩ : MethodName)) hown (mvT hZ (hw _ (List.mem_of_getElem? (i := 10) rfl))) (mvT hZ (hw _ (List.mem_of_getElem? (i := 11) rfl))) (notFace_of_selects (args := #[]) (mvT hZ (hw _ (List.mem_of_getElem? (i := 13) rfl)))) (mvT hZ (hw _ (List.mem_of_getElem? (i := 13) rfl))) (mvT hZ (hw _ (List.mem_of_getElem? (i := 12) rfl))) (by decide) (backOf (W := 0) (rm_grp l Z a0 hw [] w_y w_IMPLIES w_OR w_AND w_SINCE_IN_SESSION w_SINCE_ACROSS_SESSIONS h0 n0 SS) hZ (hw _ (List.mem_of_getElem? (i := 14) rfl)) (hw _ (List.mem_of_getElem? (i := 6) rfl)) (by decide) (by decide)) q4a q4c (g := (mkF m 35 #[.val (.int p1), .val (.int p2), .val (.int (2 : Int32)), .val (.int ((p2 &&& (2147483647 : Int32)) % (5 : Int32))), .val (.ref w_SINCE_ACROSS_SESSIONS), .val (.ref w_y), .val (.int (0 : Int32)), .unset, .unset, .unset, .unset] [(.ref w_y)])) rfl (by rw [hml]; rfl) (Steps.refl _) (argsL := []) (rest := []) (lenOf pd_1 rfl) rfl (by show 2 * 0 + _ ≤ _; exact Nat.le_of_eq rfl) (hb hby at_35) (fun _ _ => ⟨rfl, e3, (by decide : 0 + 0 ≤ _), (by decide : 0 + 0 ≤ _)⟩)
  dsimp only [Pt.U, Pt.locs, Pt.cells, Pt.slots] at X4 l4 y4 z4 st4 hQ4
  subst l4 y4 z4
  obtain ⟨hv4, N4q, e4⟩ := hQ4
  rw [show ((.int (own_grp w_IMPLIES w_y)) : Value) = (.int g_y) from congrArg Value.int hg] at hv4
  subst hv4
  have N4 := Fr.app N3 N4q
  refine own_go (fun t k => st4.trans k) ?_
  show Go p.tables e below _ (T4.setTop (mkF m 38 #[.val (.int p1), .val (.int p2), .val (.int (2 : Int32)), .val (.int ((p2 &&& (2147483647 : Int32)) % (5 : Int32))), .val (.ref w_SINCE_ACROSS_SESSIONS), .val (.ref w_y), .val (.int (0 : Int32)), .unset, .unset, .unset, .unset] [(.int g_y)]))
  refine own_go (fun t k => XS.istore X4.here hx rfl (hb hby at_38) rfl (l' := #[.val (.int p1), .val (.int p2), .val (.int (2 : Int32)), .val (.int ((p2 &&& (2147483647 : Int32)) % (5 : Int32))), .val (.ref w_SINCE_ACROSS_SESSIONS), .val (.ref w_y), .val (.int (0 : Int32)), .val (.int g_y), .unset, .unset, .unset]) rfl k) ?_
  show Go p.tables e below _ (T4.setTop (mkF m 40 #[.val (.int p1), .val (.int p2), .val (.int (2 : Int32)), .val (.int ((p2 &&& (2147483647 : Int32)) % (5 : Int32))), .val (.ref w_SINCE_ACROSS_SESSIONS), .val (.ref w_y), .val (.int (0 : Int32)), .val (.int g_y), .unset, .unset, .unset] []))
  refine own_go (fun t k => XS.iloadN X4.here hx rfl (hb hby at_40) rfl k) ?_
  show Go p.tables e below _ (T4.setTop (mkF m 41 #[.val (.int p1), .val (.int p2), .val (.int (2 : Int32)), .val (.int ((p2 &&& (2147483647 : Int32)) % (5 : Int32))), .val (.ref w_SINCE_ACROSS_SESSIONS), .val (.ref w_y), .val (.int (0 : Int32)), .val (.int g_y), .unset, .unset, .unset] [(.int (2 : Int32))]))
  refine own_go (fun t k => XS.ifYes X4.here hx rfl (pc0 := 41) (pc' := 48) rfl (hb hby at_41) rfl (XT.i0_ne_t (by decide)) (by decide) (by decide) k) ?_
  show Go p.tables e below _ (T4.setTop (mkF m 48 #[.val (.int p1), .val (.int p2), .val (.int (2 : Int32)), .val (.int ((p2 &&& (2147483647 : Int32)) % (5 : Int32))), .val (.ref w_SINCE_ACROSS_SESSIONS), .val (.ref w_y), .val (.int (0 : Int32)), .val (.int g_y), .unset, .unset, .unset] []))
  refine own_go (fun t k => XS.iconst X4.here hx rfl (hb hby at_48) k) ?_
  show Go p.tables e below _ (T4.setTop (mkF m 49 #[.val (.int p1), .val (.int p2), .val (.int (2 : Int32)), .val (.int ((p2 &&& (2147483647 : Int32)) % (5 : Int32))), .val (.ref w_SINCE_ACROSS_SESSIONS), .val (.ref w_y), .val (.int (0 : Int32)), .val (.int g_y), .unset, .unset, .unset] [(.int (0 : Int32))]))
  refine own_go (fun t k => XS.istore X4.here hx rfl (hb hby at_49) rfl (l' := #[.val (.int p1), .val (.int p2), .val (.int (2 : Int32)), .val (.int ((p2 &&& (2147483647 : Int32)) % (5 : Int32))), .val (.ref w_SINCE_ACROSS_SESSIONS), .val (.ref w_y), .val (.int (0 : Int32)), .val (.int g_y), .val (.int (0 : Int32)), .unset, .unset]) rfl k) ?_
  show Go p.tables e below _ (T4.setTop (mkF m 51 #[.val (.int p1), .val (.int p2), .val (.int (2 : Int32)), .val (.int ((p2 &&& (2147483647 : Int32)) % (5 : Int32))), .val (.ref w_SINCE_ACROSS_SESSIONS), .val (.ref w_y), .val (.int (0 : Int32)), .val (.int g_y), .val (.int (0 : Int32)), .unset, .unset] []))
  refine own_go (fun t k => XS.iload X4.here hx rfl (hb hby at_51) rfl k) ?_
  show Go p.tables e below _ (T4.setTop (mkF m 53 #[.val (.int p1), .val (.int p2), .val (.int (2 : Int32)), .val (.int ((p2 &&& (2147483647 : Int32)) % (5 : Int32))), .val (.ref w_SINCE_ACROSS_SESSIONS), .val (.ref w_y), .val (.int (0 : Int32)), .val (.int g_y), .val (.int (0 : Int32)), .unset, .unset] [(.int (0 : Int32))]))
  refine own_go (fun t k => XS.iload X4.here hx rfl (hb hby at_53) rfl k) ?_
  show Go p.tables e below _ (T4.setTop (mkF m 55 #[.val (.int p1), .val (.int p2), .val (.int (2 : Int32)), .val (.int ((p2 &&& (2147483647 : Int32)) % (5 : Int32))), .val (.ref w_SINCE_ACROSS_SESSIONS), .val (.ref w_y), .val (.int (0 : Int32)), .val (.int g_y), .val (.int (0 : Int32)), .unset, .unset] [(.int (0 : Int32)), (.int (0 : Int32))]))
  refine own_go (fun t k => XS.icmpNo X4.here hx rfl (hb hby at_55) rfl (XT.ii_ne_f (by decide)) k) ?_
  show Go p.tables e below _ (T4.setTop (mkF m 58 #[.val (.int p1), .val (.int p2), .val (.int (2 : Int32)), .val (.int ((p2 &&& (2147483647 : Int32)) % (5 : Int32))), .val (.ref w_SINCE_ACROSS_SESSIONS), .val (.ref w_y), .val (.int (0 : Int32)), .val (.int g_y), .val (.int (0 : Int32)), .unset, .unset] []))
  refine own_go (fun t k => XS.iconst X4.here hx rfl (hb hby at_58) k) ?_
  show Go p.tables e below _ (T4.setTop (mkF m 59 #[.val (.int p1), .val (.int p2), .val (.int (2 : Int32)), .val (.int ((p2 &&& (2147483647 : Int32)) % (5 : Int32))), .val (.ref w_SINCE_ACROSS_SESSIONS), .val (.ref w_y), .val (.int (0 : Int32)), .val (.int g_y), .val (.int (0 : Int32)), .unset, .unset] [(.int (1 : Int32))]))
  refine own_go (fun t k => XS.goto X4.here hx rfl (pc0 := 59) (pc' := 63) rfl (hb hby at_59) (by decide) (by decide) k) ?_
  show Go p.tables e below _ (T4.setTop (mkF m 63 #[.val (.int p1), .val (.int p2), .val (.int (2 : Int32)), .val (.int ((p2 &&& (2147483647 : Int32)) % (5 : Int32))), .val (.ref w_SINCE_ACROSS_SESSIONS), .val (.ref w_y), .val (.int (0 : Int32)), .val (.int g_y), .val (.int (0 : Int32)), .unset, .unset] [(.int (1 : Int32))]))
  refine own_go (fun t k => XS.istore X4.here hx rfl (hb hby at_63) rfl (l' := #[.val (.int p1), .val (.int p2), .val (.int (2 : Int32)), .val (.int ((p2 &&& (2147483647 : Int32)) % (5 : Int32))), .val (.ref w_SINCE_ACROSS_SESSIONS), .val (.ref w_y), .val (.int (0 : Int32)), .val (.int g_y), .val (.int (0 : Int32)), .val (.int (1 : Int32)), .unset]) rfl k) ?_
  show Go p.tables e below _ (T4.setTop (mkF m 65 #[.val (.int p1), .val (.int p2), .val (.int (2 : Int32)), .val (.int ((p2 &&& (2147483647 : Int32)) % (5 : Int32))), .val (.ref w_SINCE_ACROSS_SESSIONS), .val (.ref w_y), .val (.int (0 : Int32)), .val (.int g_y), .val (.int (0 : Int32)), .val (.int (1 : Int32)), .unset] []))
  refine own_go (fun t k => XS.aload X4.here hx rfl (hb hby at_65) rfl rfl k) ?_
  show Go p.tables e below _ (T4.setTop (mkF m 67 #[.val (.int p1), .val (.int p2), .val (.int (2 : Int32)), .val (.int ((p2 &&& (2147483647 : Int32)) % (5 : Int32))), .val (.ref w_SINCE_ACROSS_SESSIONS), .val (.ref w_y), .val (.int (0 : Int32)), .val (.int g_y), .val (.int (0 : Int32)), .val (.int (1 : Int32)), .unset] [(.ref w_SINCE_ACROSS_SESSIONS)]))
  obtain ⟨cq5, kq5, q5a, q5b, q5c⟩ := isOf hZ e4 E_SINCE_ACROSS_SESSIONS
  obtain ⟨v5, _, ⟨T5, L5, k5, n5⟩, -, X5, ⟨Lc5, hQ5, l5, y5, z5⟩, st5⟩ := X4.virtualBack hx (y := (⟨"com/example/meerkat/meerkat/formula/Formula$BinaryOperator", "precedence", "()I"⟩ : MethodName)) (z := (⟨"com/example/meerkat/meerkat/formula/Formula$BinaryOperator", "precedence", "()I"⟩ : MethodName)) hown (mvT hZ (hw _ (List.mem_of_getElem? (i := 16) rfl))) (mvT hZ (hw _ (List.mem_of_getElem? (i := 17) rfl))) (notFace_of_selects (args := #[]) (mvT hZ (hw _ (List.mem_of_getElem? (i := 19) rfl)))) (mvT hZ (hw _ (List.mem_of_getElem? (i := 19) rfl))) (mvT hZ (hw _ (List.mem_of_getElem? (i := 18) rfl))) (by decide) (backOf (W := 0) (rm_prec l Z a0 hw [] w_SINCE_ACROSS_SESSIONS (2 : Int32) h0 n0 F_SINCE_ACROSS_SESSIONS_precedence) hZ (hw _ (List.mem_of_getElem? (i := 20) rfl)) (hw _ (List.mem_of_getElem? (i := 6) rfl)) (by decide) (by decide)) q5a q5c (g := (mkF m 67 #[.val (.int p1), .val (.int p2), .val (.int (2 : Int32)), .val (.int ((p2 &&& (2147483647 : Int32)) % (5 : Int32))), .val (.ref w_SINCE_ACROSS_SESSIONS), .val (.ref w_y), .val (.int (0 : Int32)), .val (.int g_y), .val (.int (0 : Int32)), .val (.int (1 : Int32)), .unset] [(.ref w_SINCE_ACROSS_SESSIONS)])) rfl (by rw [hml]; rfl) (Steps.refl _) (argsL := []) (rest := []) (lenOf pd_2 rfl) rfl (by show 2 * 0 + _ ≤ _; exact Nat.le_of_eq rfl) (hb hby at_67) (fun _ _ => ⟨rfl, e4, (by decide : 0 + 0 ≤ _), (by decide : 0 + 0 ≤ _)⟩)
  dsimp only [Pt.U, Pt.locs, Pt.cells, Pt.slots] at X5 l5 y5 z5 st5 hQ5
  subst l5 y5 z5
  obtain ⟨hv5, N5q, e5⟩ := hQ5
  subst hv5
  have N5 := Fr.app N4 N5q
  refine own_go (fun t k => st5.trans k) ?_
  show Go p.tables e below _ (T5.setTop (mkF m 70 #[.val (.int p1), .val (.int p2), .val (.int (2 : Int32)), .val (.int ((p2 &&& (2147483647 : Int32)) % (5 : Int32))), .val (.ref w_SINCE_ACROSS_SESSIONS), .val (.ref w_y), .val (.int (0 : Int32)), .val (.int g_y), .val (.int (0 : Int32)), .val (.int (1 : Int32)), .unset] [(.int (2 : Int32))]))
  refine own_go (fun t k => XS.aload X5.here hx rfl (hb hby at_70) rfl rfl k) ?_
  show Go p.tables e below _ (T5.setTop (mkF m 72 #[.val (.int p1), .val (.int p2), .val (.int (2 : Int32)), .val (.int ((p2 &&& (2147483647 : Int32)) % (5 : Int32))), .val (.ref w_SINCE_ACROSS_SESSIONS), .val (.ref w_y), .val (.int (0 : Int32)), .val (.int g_y), .val (.int (0 : Int32)), .val (.int (1 : Int32)), .unset] [(.ref w_y), (.int (2 : Int32))]))
  obtain ⟨cq6, kq6, q6a, q6b, q6c⟩ := isOf hZ e5 E_y
  obtain ⟨v6, _, ⟨T6, L6, k6, n6⟩, -, X6, ⟨Lc6, hQ6, l6, y6, z6⟩, st6⟩ := X5.virtualBack hx (y := (⟨"com/example/meerkat/meerkat/formula/Formula$BinaryOperator", "precedence", "()I"⟩ : MethodName)) (z := (⟨"com/example/meerkat/meerkat/formula/Formula$BinaryOperator", "precedence", "()I"⟩ : MethodName)) hown (mvT hZ (hw _ (List.mem_of_getElem? (i := 16) rfl))) (mvT hZ (hw _ (List.mem_of_getElem? (i := 17) rfl))) (notFace_of_selects (args := #[]) (mvT hZ (hw _ (List.mem_of_getElem? (i := 19) rfl)))) (mvT hZ (hw _ (List.mem_of_getElem? (i := 19) rfl))) (mvT hZ (hw _ (List.mem_of_getElem? (i := 18) rfl))) (by decide) (backOf (W := 1) (rm_prec l Z a0 hw [] w_y z_y h0 n0 F_y_precedence) hZ (hw _ (List.mem_of_getElem? (i := 20) rfl)) (hw _ (List.mem_of_getElem? (i := 6) rfl)) (by decide) (by decide)) q6a q6c (g := (mkF m 72 #[.val (.int p1), .val (.int p2), .val (.int (2 : Int32)), .val (.int ((p2 &&& (2147483647 : Int32)) % (5 : Int32))), .val (.ref w_SINCE_ACROSS_SESSIONS), .val (.ref w_y), .val (.int (0 : Int32)), .val (.int g_y), .val (.int (0 : Int32)), .val (.int (1 : Int32)), .unset] [(.ref w_y), (.int (2 : Int32))])) rfl (by rw [hml]; rfl) (Steps.refl _) (argsL := []) (rest := [(.int (2 : Int32))]) (lenOf pd_2 rfl) rfl (by show 2 * 0 + _ ≤ _; exact Nat.le_of_eq rfl) (hb hby at_72) (fun _ _ => ⟨rfl, e5, (by decide : 0 + 0 ≤ _), (by decide : 0 + 0 ≤ _)⟩)
  dsimp only [Pt.U, Pt.locs, Pt.cells, Pt.slots] at X6 l6 y6 z6 st6 hQ6
  subst l6 y6 z6
  obtain ⟨hv6, N6q, e6⟩ := hQ6
  subst hv6
  have N6 := Fr.app N5 N6q
  refine own_go (fun t k => st6.trans k) ?_
  show Go p.tables e below _ (T6.setTop (mkF m 75 #[.val (.int p1), .val (.int p2), .val (.int (2 : Int32)), .val (.int ((p2 &&& (2147483647 : Int32)) % (5 : Int32))), .val (.ref w_SINCE_ACROSS_SESSIONS), .val (.ref w_y), .val (.int (0 : Int32)), .val (.int g_y), .val (.int (0 : Int32)), .val (.int (1 : Int32)), .unset] [(.int z_y), (.int (2 : Int32))]))
  by_cases hc7 : (2 : Int32) = z_y
  · refine own_go (fun t k => XS.icmpNo X6.here hx rfl (hb hby at_75) rfl (XT.ii_ne_f hc7) k) ?_
    show Go p.tables e below _ (T6.setTop (mkF m 78 #[.val (.int p1), .val (.int p2), .val (.int (2 : Int32)), .val (.int ((p2 &&& (2147483647 : Int32)) % (5 : Int32))), .val (.ref w_SINCE_ACROSS_SESSIONS), .val (.ref w_y), .val (.int (0 : Int32)), .val (.int g_y), .val (.int (0 : Int32)), .val (.int (1 : Int32)), .unset] []))
    refine own_go (fun t k => XS.iload X6.here hx rfl (hb hby at_78) rfl k) ?_
    show Go p.tables e below _ (T6.setTop (mkF m 80 #[.val (.int p1), .val (.int p2), .val (.int (2 : Int32)), .val (.int ((p2 &&& (2147483647 : Int32)) % (5 : Int32))), .val (.ref w_SINCE_ACROSS_SESSIONS), .val (.ref w_y), .val (.int (0 : Int32)), .val (.int g_y), .val (.int (0 : Int32)), .val (.int (1 : Int32)), .unset] [(.int (0 : Int32))]))
    refine own_go (fun t k => XS.iload X6.here hx rfl (hb hby at_80) rfl k) ?_
    show Go p.tables e below _ (T6.setTop (mkF m 82 #[.val (.int p1), .val (.int p2), .val (.int (2 : Int32)), .val (.int ((p2 &&& (2147483647 : Int32)) % (5 : Int32))), .val (.ref w_SINCE_ACROSS_SESSIONS), .val (.ref w_y), .val (.int (0 : Int32)), .val (.int g_y), .val (.int (0 : Int32)), .val (.int (1 : Int32)), .unset] [(.int g_y), (.int (0 : Int32))]))
    refine own_go (fun t k => XS.icmpNo X6.here hx rfl (hb hby at_82) rfl (XT.ii_ne_f (hpq hc7)) k) ?_
    show Go p.tables e below _ (T6.setTop (mkF m 85 #[.val (.int p1), .val (.int p2), .val (.int (2 : Int32)), .val (.int ((p2 &&& (2147483647 : Int32)) % (5 : Int32))), .val (.ref w_SINCE_ACROSS_SESSIONS), .val (.ref w_y), .val (.int (0 : Int32)), .val (.int g_y), .val (.int (0 : Int32)), .val (.int (1 : Int32)), .unset] []))
    refine own_go (fun t k => XS.iconst X6.here hx rfl (hb hby at_85) k) ?_
    show Go p.tables e below _ (T6.setTop (mkF m 86 #[.val (.int p1), .val (.int p2), .val (.int (2 : Int32)), .val (.int ((p2 &&& (2147483647 : Int32)) % (5 : Int32))), .val (.ref w_SINCE_ACROSS_SESSIONS), .val (.ref w_y), .val (.int (0 : Int32)), .val (.int g_y), .val (.int (0 : Int32)), .val (.int (1 : Int32)), .unset] [(.int (1 : Int32))]))
    refine own_go (fun t k => XS.goto X6.here hx rfl (pc0 := 86) (pc' := 90) rfl (hb hby at_86) (by decide) (by decide) k) ?_
    show Go p.tables e below _ (T6.setTop (mkF m 90 #[.val (.int p1), .val (.int p2), .val (.int (2 : Int32)), .val (.int ((p2 &&& (2147483647 : Int32)) % (5 : Int32))), .val (.ref w_SINCE_ACROSS_SESSIONS), .val (.ref w_y), .val (.int (0 : Int32)), .val (.int g_y), .val (.int (0 : Int32)), .val (.int (1 : Int32)), .unset] [(.int (1 : Int32))]))
    refine own_go (fun t k => XS.istore X6.here hx rfl (hb hby at_90) rfl (l' := #[.val (.int p1), .val (.int p2), .val (.int (2 : Int32)), .val (.int ((p2 &&& (2147483647 : Int32)) % (5 : Int32))), .val (.ref w_SINCE_ACROSS_SESSIONS), .val (.ref w_y), .val (.int (0 : Int32)), .val (.int g_y), .val (.int (0 : Int32)), .val (.int (1 : Int32)), .val (.int (1 : Int32))]) rfl k) ?_
    show Go p.tables e below _ (T6.setTop (mkF m 92 #[.val (.int p1), .val (.int p2), .val (.int (2 : Int32)), .val (.int ((p2 &&& (2147483647 : Int32)) % (5 : Int32))), .val (.ref w_SINCE_ACROSS_SESSIONS), .val (.ref w_y), .val (.int (0 : Int32)), .val (.int g_y), .val (.int (0 : Int32)), .val (.int (1 : Int32)), .val (.int (1 : Int32))] []))
    refine own_go (fun t k => XS.iload X6.here hx rfl (hb hby at_92) rfl k) ?_
    show Go p.tables e below _ (T6.setTop (mkF m 94 #[.val (.int p1), .val (.int p2), .val (.int (2 : Int32)), .val (.int ((p2 &&& (2147483647 : Int32)) % (5 : Int32))), .val (.ref w_SINCE_ACROSS_SESSIONS), .val (.ref w_y), .val (.int (0 : Int32)), .val (.int g_y), .val (.int (0 : Int32)), .val (.int (1 : Int32)), .val (.int (1 : Int32))] [(.int (1 : Int32))]))
    refine own_go (fun t k => XS.ifNo X6.here hx rfl (hb hby at_94) rfl (XT.i0_eq_f (by decide)) k) ?_
    show Go p.tables e below _ (T6.setTop (mkF m 97 #[.val (.int p1), .val (.int p2), .val (.int (2 : Int32)), .val (.int ((p2 &&& (2147483647 : Int32)) % (5 : Int32))), .val (.ref w_SINCE_ACROSS_SESSIONS), .val (.ref w_y), .val (.int (0 : Int32)), .val (.int g_y), .val (.int (0 : Int32)), .val (.int (1 : Int32)), .val (.int (1 : Int32))] []))
    refine own_go (fun t k => XS.iload X6.here hx rfl (hb hby at_97) rfl k) ?_
    show Go p.tables e below _ (T6.setTop (mkF m 99 #[.val (.int p1), .val (.int p2), .val (.int (2 : Int32)), .val (.int ((p2 &&& (2147483647 : Int32)) % (5 : Int32))), .val (.ref w_SINCE_ACROSS_SESSIONS), .val (.ref w_y), .val (.int (0 : Int32)), .val (.int g_y), .val (.int (0 : Int32)), .val (.int (1 : Int32)), .val (.int (1 : Int32))] [(.int (1 : Int32))]))
    refine own_go (fun t k => XS.ifNo X6.here hx rfl (hb hby at_99) rfl (XT.i0_eq_f (by decide)) k) ?_
    show Go p.tables e below _ (T6.setTop (mkF m 102 #[.val (.int p1), .val (.int p2), .val (.int (2 : Int32)), .val (.int ((p2 &&& (2147483647 : Int32)) % (5 : Int32))), .val (.ref w_SINCE_ACROSS_SESSIONS), .val (.ref w_y), .val (.int (0 : Int32)), .val (.int g_y), .val (.int (0 : Int32)), .val (.int (1 : Int32)), .val (.int (1 : Int32))] []))
    refine own_go (fun t k => XS.iconst X6.here hx rfl (hb hby at_102) k) ?_
    show Go p.tables e below _ (T6.setTop (mkF m 103 #[.val (.int p1), .val (.int p2), .val (.int (2 : Int32)), .val (.int ((p2 &&& (2147483647 : Int32)) % (5 : Int32))), .val (.ref w_SINCE_ACROSS_SESSIONS), .val (.ref w_y), .val (.int (0 : Int32)), .val (.int g_y), .val (.int (0 : Int32)), .val (.int (1 : Int32)), .val (.int (1 : Int32))] [(.int (1 : Int32))]))
    refine own_go (fun t k => XS.goto X6.here hx rfl (pc0 := 103) (pc' := 107) rfl (hb hby at_103) (by decide) (by decide) k) ?_
    show Go p.tables e below _ (T6.setTop (mkF m 107 #[.val (.int p1), .val (.int p2), .val (.int (2 : Int32)), .val (.int ((p2 &&& (2147483647 : Int32)) % (5 : Int32))), .val (.ref w_SINCE_ACROSS_SESSIONS), .val (.ref w_y), .val (.int (0 : Int32)), .val (.int g_y), .val (.int (0 : Int32)), .val (.int (1 : Int32)), .val (.int (1 : Int32))] [(.int (1 : Int32))]))
    exact own_ret X6 hx hlk Bd.returns rfl (Or.inl ⟨rfl, Or.inr (Or.inl rfl), _, rfl⟩) (hb hby at_107) ⟨rfl, N6, e6⟩ (by decide) (by decide)
  · refine own_go (fun t k => XS.icmpYes X6.here hx rfl (pc0 := 75) (pc' := 85) rfl (hb hby at_75) rfl (XT.ii_ne_t hc7) (by decide) (by decide) k) ?_
    show Go p.tables e below _ (T6.setTop (mkF m 85 #[.val (.int p1), .val (.int p2), .val (.int (2 : Int32)), .val (.int ((p2 &&& (2147483647 : Int32)) % (5 : Int32))), .val (.ref w_SINCE_ACROSS_SESSIONS), .val (.ref w_y), .val (.int (0 : Int32)), .val (.int g_y), .val (.int (0 : Int32)), .val (.int (1 : Int32)), .unset] []))
    refine own_go (fun t k => XS.iconst X6.here hx rfl (hb hby at_85) k) ?_
    show Go p.tables e below _ (T6.setTop (mkF m 86 #[.val (.int p1), .val (.int p2), .val (.int (2 : Int32)), .val (.int ((p2 &&& (2147483647 : Int32)) % (5 : Int32))), .val (.ref w_SINCE_ACROSS_SESSIONS), .val (.ref w_y), .val (.int (0 : Int32)), .val (.int g_y), .val (.int (0 : Int32)), .val (.int (1 : Int32)), .unset] [(.int (1 : Int32))]))
    refine own_go (fun t k => XS.goto X6.here hx rfl (pc0 := 86) (pc' := 90) rfl (hb hby at_86) (by decide) (by decide) k) ?_
    show Go p.tables e below _ (T6.setTop (mkF m 90 #[.val (.int p1), .val (.int p2), .val (.int (2 : Int32)), .val (.int ((p2 &&& (2147483647 : Int32)) % (5 : Int32))), .val (.ref w_SINCE_ACROSS_SESSIONS), .val (.ref w_y), .val (.int (0 : Int32)), .val (.int g_y), .val (.int (0 : Int32)), .val (.int (1 : Int32)), .unset] [(.int (1 : Int32))]))
    refine own_go (fun t k => XS.istore X6.here hx rfl (hb hby at_90) rfl (l' := #[.val (.int p1), .val (.int p2), .val (.int (2 : Int32)), .val (.int ((p2 &&& (2147483647 : Int32)) % (5 : Int32))), .val (.ref w_SINCE_ACROSS_SESSIONS), .val (.ref w_y), .val (.int (0 : Int32)), .val (.int g_y), .val (.int (0 : Int32)), .val (.int (1 : Int32)), .val (.int (1 : Int32))]) rfl k) ?_
    show Go p.tables e below _ (T6.setTop (mkF m 92 #[.val (.int p1), .val (.int p2), .val (.int (2 : Int32)), .val (.int ((p2 &&& (2147483647 : Int32)) % (5 : Int32))), .val (.ref w_SINCE_ACROSS_SESSIONS), .val (.ref w_y), .val (.int (0 : Int32)), .val (.int g_y), .val (.int (0 : Int32)), .val (.int (1 : Int32)), .val (.int (1 : Int32))] []))
    refine own_go (fun t k => XS.iload X6.here hx rfl (hb hby at_92) rfl k) ?_
    show Go p.tables e below _ (T6.setTop (mkF m 94 #[.val (.int p1), .val (.int p2), .val (.int (2 : Int32)), .val (.int ((p2 &&& (2147483647 : Int32)) % (5 : Int32))), .val (.ref w_SINCE_ACROSS_SESSIONS), .val (.ref w_y), .val (.int (0 : Int32)), .val (.int g_y), .val (.int (0 : Int32)), .val (.int (1 : Int32)), .val (.int (1 : Int32))] [(.int (1 : Int32))]))
    refine own_go (fun t k => XS.ifNo X6.here hx rfl (hb hby at_94) rfl (XT.i0_eq_f (by decide)) k) ?_
    show Go p.tables e below _ (T6.setTop (mkF m 97 #[.val (.int p1), .val (.int p2), .val (.int (2 : Int32)), .val (.int ((p2 &&& (2147483647 : Int32)) % (5 : Int32))), .val (.ref w_SINCE_ACROSS_SESSIONS), .val (.ref w_y), .val (.int (0 : Int32)), .val (.int g_y), .val (.int (0 : Int32)), .val (.int (1 : Int32)), .val (.int (1 : Int32))] []))
    refine own_go (fun t k => XS.iload X6.here hx rfl (hb hby at_97) rfl k) ?_
    show Go p.tables e below _ (T6.setTop (mkF m 99 #[.val (.int p1), .val (.int p2), .val (.int (2 : Int32)), .val (.int ((p2 &&& (2147483647 : Int32)) % (5 : Int32))), .val (.ref w_SINCE_ACROSS_SESSIONS), .val (.ref w_y), .val (.int (0 : Int32)), .val (.int g_y), .val (.int (0 : Int32)), .val (.int (1 : Int32)), .val (.int (1 : Int32))] [(.int (1 : Int32))]))
    refine own_go (fun t k => XS.ifNo X6.here hx rfl (hb hby at_99) rfl (XT.i0_eq_f (by decide)) k) ?_
    show Go p.tables e below _ (T6.setTop (mkF m 102 #[.val (.int p1), .val (.int p2), .val (.int (2 : Int32)), .val (.int ((p2 &&& (2147483647 : Int32)) % (5 : Int32))), .val (.ref w_SINCE_ACROSS_SESSIONS), .val (.ref w_y), .val (.int (0 : Int32)), .val (.int g_y), .val (.int (0 : Int32)), .val (.int (1 : Int32)), .val (.int (1 : Int32))] []))
    refine own_go (fun t k => XS.iconst X6.here hx rfl (hb hby at_102) k) ?_
    show Go p.tables e below _ (T6.setTop (mkF m 103 #[.val (.int p1), .val (.int p2), .val (.int (2 : Int32)), .val (.int ((p2 &&& (2147483647 : Int32)) % (5 : Int32))), .val (.ref w_SINCE_ACROSS_SESSIONS), .val (.ref w_y), .val (.int (0 : Int32)), .val (.int g_y), .val (.int (0 : Int32)), .val (.int (1 : Int32)), .val (.int (1 : Int32))] [(.int (1 : Int32))]))
    refine own_go (fun t k => XS.goto X6.here hx rfl (pc0 := 103) (pc' := 107) rfl (hb hby at_103) (by decide) (by decide) k) ?_
    show Go p.tables e below _ (T6.setTop (mkF m 107 #[.val (.int p1), .val (.int p2), .val (.int (2 : Int32)), .val (.int ((p2 &&& (2147483647 : Int32)) % (5 : Int32))), .val (.ref w_SINCE_ACROSS_SESSIONS), .val (.ref w_y), .val (.int (0 : Int32)), .val (.int g_y), .val (.int (0 : Int32)), .val (.int (1 : Int32)), .val (.int (1 : Int32))] [(.int (1 : Int32))]))
    exact own_ret X6 hx hlk Bd.returns rfl (Or.inl ⟨rfl, Or.inr (Or.inl rfl), _, rfl⟩) (hb hby at_107) ⟨rfl, N6, e6⟩ (by decide) (by decide)
theorem ef_rm_law_3 (m : MethodId) (x0 : Int32) (x1 : Int32) : entryFrame m #[(.int x0), (.int x1)] maxLocals = mkF m 0 #[.val (.int x0), .val (.int x1), .unset, .unset, .unset, .unset, .unset, .unset, .unset, .unset, .unset] [] := by first | (simp [entryFrame, mkF, argsToLocals, Value.category, maxLocals]; done) | rfl
set_option maxRecDepth 65536 in
set_option maxHeartbeats 40000000 in
theorem rm_law_3 (l : Launch) (Z : State) (a0 : Array Value) (hw : ∀ d ∈ tables_1, d.before a0 Z = true) (ws : List Jvm.Cond) (p1 p2 : Int32) (w_IMPLIES w_OR w_AND w_SINCE_IN_SESSION w_SINCE_ACROSS_SESSIONS : Addr) (w_y : Addr) (z_y g_y : Int32) (h0 : Heap) (n0 : Nat) (SS : own_S Z h0 w_IMPLIES w_OR w_AND w_SINCE_IN_SESSION w_SINCE_ACROSS_SESSIONS) (EE : own_E Z h0 w_IMPLIES w_OR w_AND w_SINCE_IN_SESSION w_SINCE_ACROSS_SESSIONS) (OO : own_O Z h0 w_IMPLIES w_OR w_AND w_SINCE_IN_SESSION w_SINCE_ACROSS_SESSIONS) (q1 : (p1 &&& 2147483647) % 5 = 3) (q2 : own_pick w_IMPLIES w_SINCE_IN_SESSION w_SINCE_ACROSS_SESSIONS w_OR w_AND ((p2 &&& 2147483647) % 5) = w_y) (E_y : Exa Z h0 w_y "com/example/meerkat/meerkat/formula/Formula$BinaryOperator") (F_y_precedence : Fld Z h0 w_y "com/example/meerkat/meerkat/formula/Formula$BinaryOperator" "precedence" "I" (.int z_y)) (hg : own_grp w_IMPLIES w_y = g_y) (hpq : (3 : Int32) = z_y → (0 : Int32) = g_y) :
    MetFree l x (head1 (Jvm.Cond.code x code maxLocals ret :: ws) room_1) (fun aa U => aa = #[(.int p1), (.int p2)] ∧ Z.Warmed39 U.vm ∧ U.heap = h0) (fun _ _ _ _ _ => True) (fun _ U o U' => ∃ v L, o = .returned v ∧ PQ (.int 1) h0 n0 v U'.heap L ∧ FrameEnd U o U' L room_1.cells room_1.slots) := by
  refine MetFree.of_bodySF (plainFor_of_name pn_0) hisR ?_
  intro p e s m args below meth c s₁ Bd hml0 hP hK
  obtain ⟨rfl, hZ, hh⟩ := hP
  have hx := Bd.exec
  have hby := Bd.bytes
  have hlk := Bd.notSynchronized
  have hml : c.maxLocals = 11 := hml0
  have hown : s.vm.findClass "com/example/meerkat/meerkat/formula/BinaryOperatorGroupsRightPinLaw" = some m.cls := findClass_of_methodNamed Bd.named
  have X0 : Stand p l e room_1 s m #[(.int p1), (.int p2)] below meth c s₁ [] 0 0 := Stand.of_body Bd
  have e0 : s₁.heap = h0 := by rw [← hh, Bd.state]; rfl
  have N0 := Fr.nil n0
  have SS' := SS
  obtain ⟨S_IMPLIES, S_OR, S_AND, S_SINCE_IN_SESSION, S_SINCE_ACROSS_SESSIONS⟩ := SS'
  obtain ⟨E_IMPLIES, E_OR, E_AND, E_SINCE_IN_SESSION, E_SINCE_ACROSS_SESSIONS⟩ := EE
  obtain ⟨F_OR_ordinal, F_IMPLIES_ordinal, F_IMPLIES_precedence, F_OR_precedence, F_AND_ordinal, F_SINCE_IN_SESSION_ordinal, F_AND_precedence, F_SINCE_IN_SESSION_precedence, F_SINCE_ACROSS_SESSIONS_ordinal, F_SINCE_ACROSS_SESSIONS_precedence⟩ := OO
  have nSINCE_IN_SESSION : w_SINCE_IN_SESSION ≠ w_IMPLIES := (own_ne F_SINCE_IN_SESSION_ordinal F_IMPLIES_ordinal (by decide))
  have nSINCE_ACROSS_SESSIONS : w_SINCE_ACROSS_SESSIONS ≠ w_IMPLIES := (own_ne F_SINCE_ACROSS_SESSIONS_ordinal F_IMPLIES_ordinal (by decide))
  have nOR : w_OR ≠ w_IMPLIES := (own_ne F_OR_ordinal F_IMPLIES_ordinal (by decide))
  have nAND : w_AND ≠ w_IMPLIES := (own_ne F_AND_ordinal F_IMPLIES_ordinal (by decide))
  show Go p.tables e below (Fin s below (PQ (.int 1) h0 n0) room_1.cells room_1.slots) (s₁.setTop (entryFrame m #[(.int p1), (.int p2)] maxLocals))
  refine own_go (fun t k => castTop (ef_rm_law_3 m p1 p2) k) ?_
  show Go p.tables e below _ (s₁.setTop (mkF m 0 #[.val (.int p1), .val (.int p2), .unset, .unset, .unset, .unset, .unset, .unset, .unset, .unset, .unset] []))
  refine own_go (fun t k => XS.iloadN X0.here hx rfl (hb hby at_0) rfl k) ?_
  show Go p.tables e below _ (s₁.setTop (mkF m 1 #[.val (.int p1), .val (.int p2), .unset, .unset, .unset, .unset, .unset, .unset, .unset, .unset, .unset] [(.int p1)]))
  refine own_go (fun t k => Jvm.Stand.ldcI X0 hx hown (mvT hZ (hw _ (List.mem_of_getElem? (i := 0) rfl))) rfl (hb hby at_1) k) ?_
  show Go p.tables e below _ (s₁.setTop (mkF m 3 #[.val (.int p1), .val (.int p2), .unset, .unset, .unset, .unset, .unset, .unset, .unset, .unset, .unset] [(.int (2147483647 : Int32)), (.int p1)]))
  refine own_go (fun t k => XS.iand X0.here hx rfl (hb hby at_3) rfl k) ?_
  show Go p.tables e below _ (s₁.setTop (mkF m 4 #[.val (.int p1), .val (.int p2), .unset, .unset, .unset, .unset, .unset, .unset, .unset, .unset, .unset] [(.int (p1 &&& (2147483647 : Int32)))]))
  refine own_go (fun t k => XS.iconst X0.here hx rfl (hb hby at_4) k) ?_
  show Go p.tables e below _ (s₁.setTop (mkF m 5 #[.val (.int p1), .val (.int p2), .unset, .unset, .unset, .unset, .unset, .unset, .unset, .unset, .unset] [(.int (5 : Int32)), (.int (p1 &&& (2147483647 : Int32)))]))
  refine own_go (fun t k => iremM (g := (mkF m 5 #[.val (.int p1), .val (.int p2), .unset, .unset, .unset, .unset, .unset, .unset, .unset, .unset, .unset] [(.int (5 : Int32)), (.int (p1 &&& (2147483647 : Int32)))])) X0 hx rfl (hb hby at_5) rfl (by decide) k) ?_
  show Go p.tables e below _ (s₁.setTop (mkF m 6 #[.val (.int p1), .val (.int p2), .unset, .unset, .unset, .unset, .unset, .unset, .unset, .unset, .unset] [(.int ((p1 &&& (2147483647 : Int32)) % (5 : Int32)))]))
  rw [q1]
  show Go p.tables e below _ (s₁.setTop (mkF m 6 #[.val (.int p1), .val (.int p2), .unset, .unset, .unset, .unset, .unset, .unset, .unset, .unset, .unset] [(.int (3 : Int32))]))
  refine own_go (fun t k => XS.istoreN X0.here hx rfl (hb hby at_6) rfl (l' := #[.val (.int p1), .val (.int p2), .val (.int (3 : Int32)), .unset, .unset, .unset, .unset, .unset, .unset, .unset, .unset]) rfl k) ?_
  show Go p.tables e below _ (s₁.setTop (mkF m 7 #[.val (.int p1), .val (.int p2), .val (.int (3 : Int32)), .unset, .unset, .unset, .unset, .unset, .unset, .unset, .unset] []))
  refine own_go (fun t k => XS.iloadN X0.here hx rfl (hb hby at_7) rfl k) ?_
  show Go p.tables e below _ (s₁.setTop (mkF m 8 #[.val (.int p1), .val (.int p2), .val (.int (3 : Int32)), .unset, .unset, .unset, .unset, .unset, .unset, .unset, .unset] [(.int p2)]))
  refine own_go (fun t k => Jvm.Stand.ldcI X0 hx hown (mvT hZ (hw _ (List.mem_of_getElem? (i := 0) rfl))) rfl (hb hby at_8) k) ?_
  show Go p.tables e below _ (s₁.setTop (mkF m 10 #[.val (.int p1), .val (.int p2), .val (.int (3 : Int32)), .unset, .unset, .unset, .unset, .unset, .unset, .unset, .unset] [(.int (2147483647 : Int32)), (.int p2)]))
  refine own_go (fun t k => XS.iand X0.here hx rfl (hb hby at_10) rfl k) ?_
  show Go p.tables e below _ (s₁.setTop (mkF m 11 #[.val (.int p1), .val (.int p2), .val (.int (3 : Int32)), .unset, .unset, .unset, .unset, .unset, .unset, .unset, .unset] [(.int (p2 &&& (2147483647 : Int32)))]))
  refine own_go (fun t k => XS.iconst X0.here hx rfl (hb hby at_11) k) ?_
  show Go p.tables e below _ (s₁.setTop (mkF m 12 #[.val (.int p1), .val (.int p2), .val (.int (3 : Int32)), .unset, .unset, .unset, .unset, .unset, .unset, .unset, .unset] [(.int (5 : Int32)), (.int (p2 &&& (2147483647 : Int32)))]))
  refine own_go (fun t k => iremM (g := (mkF m 12 #[.val (.int p1), .val (.int p2), .val (.int (3 : Int32)), .unset, .unset, .unset, .unset, .unset, .unset, .unset, .unset] [(.int (5 : Int32)), (.int (p2 &&& (2147483647 : Int32)))])) X0 hx rfl (hb hby at_12) rfl (by decide) k) ?_
  show Go p.tables e below _ (s₁.setTop (mkF m 13 #[.val (.int p1), .val (.int p2), .val (.int (3 : Int32)), .unset, .unset, .unset, .unset, .unset, .unset, .unset, .unset] [(.int ((p2 &&& (2147483647 : Int32)) % (5 : Int32)))]))
  refine own_go (fun t k => XS.istoreN X0.here hx rfl (hb hby at_13) rfl (l' := #[.val (.int p1), .val (.int p2), .val (.int (3 : Int32)), .val (.int ((p2 &&& (2147483647 : Int32)) % (5 : Int32))), .unset, .unset, .unset, .unset, .unset, .unset, .unset]) rfl k) ?_
  show Go p.tables e below _ (s₁.setTop (mkF m 14 #[.val (.int p1), .val (.int p2), .val (.int (3 : Int32)), .val (.int ((p2 &&& (2147483647 : Int32)) % (5 : Int32))), .unset, .unset, .unset, .unset, .unset, .unset, .unset] []))
  refine own_go (fun t k => XS.iloadN X0.here hx rfl (hb hby at_14) rfl k) ?_
  show Go p.tables e below _ (s₁.setTop (mkF m 15 #[.val (.int p1), .val (.int p2), .val (.int (3 : Int32)), .val (.int ((p2 &&& (2147483647 : Int32)) % (5 : Int32))), .unset, .unset, .unset, .unset, .unset, .unset, .unset] [(.int (3 : Int32))]))
  obtain ⟨v1, _, ⟨T1, L1, k1, n1⟩, -, X1, ⟨Lc1, hQ1, l1, y1, z1⟩, st1⟩ := Jvm.LawKit.callS X0 hx (y := (⟨"com/example/meerkat/meerkat/formula/BinaryOperatorGroupsRightPinLaw", "pick", "(I)Lcom/example/meerkat/meerkat/formula/Formula$BinaryOperator;"⟩ : MethodName)) hown (mvT hZ (hw _ (List.mem_of_getElem? (i := 1) rfl))) (mvT hZ (hw _ (List.mem_of_getElem? (i := 2) rfl))) (mvT hZ (hw _ (List.mem_of_getElem? (i := 3) rfl))) (mvT hZ (hw _ (List.mem_of_getElem? (i := 4) rfl))) (by decide) (backOf (W := 0) (rm_pick l Z a0 hw [] (3 : Int32) w_IMPLIES w_OR w_AND w_SINCE_IN_SESSION w_SINCE_ACROSS_SESSIONS h0 n0 SS) hZ (hw _ (List.mem_of_getElem? (i := 4) rfl)) (hw _ (List.mem_of_getElem? (i := 3) rfl)) (by decide) (by decide)) (g := (mkF m 15 #[.val (.int p1), .val (.int p2), .val (.int (3 : Int32)), .val (.int ((p2 &&& (2147483647 : Int32)) % (5 : Int32))), .unset, .unset, .unset, .unset, .unset, .unset, .unset] [(.int (3 : Int32))])) rfl (by rw [hml]; rfl) (argsL := [(.int (3 : Int32))]) (rest := []) (lenOf pd_0 rfl) rfl (by show 2 * 0 + _ ≤ _; exact Nat.le_of_eq rfl) (hb hby at_15) (fun _ _ => ⟨rfl, e0, (by decide : 0 + 0 ≤ _), (by decide : 0 + 0 ≤ _)⟩)
  dsimp only [Pt.U, Pt.locs, Pt.cells, Pt.slots] at X1 l1 y1 z1 st1 hQ1
  subst l1 y1 z1
  obtain ⟨hv1, N1q, e1⟩ := hQ1
  rw [show ((.ref (own_pick w_IMPLIES w_SINCE_IN_SESSION w_SINCE_ACROSS_SESSIONS w_OR w_AND (3 : Int32))) : Value) = (.ref w_OR) from rfl] at hv1
  subst hv1
  have N1 := Fr.app N0 N1q
  refine own_go (fun t k => st1 t k) ?_
  show Go p.tables e below _ (T1.setTop (mkF m 18 #[.val (.int p1), .val (.int p2), .val (.int (3 : Int32)), .val (.int ((p2 &&& (2147483647 : Int32)) % (5 : Int32))), .unset, .unset, .unset, .unset, .unset, .unset, .unset] [(.ref w_OR)]))
  refine own_go (fun t k => XS.astore X1.here hx rfl (hb hby at_18) rfl rfl (l' := #[.val (.int p1), .val (.int p2), .val (.int (3 : Int32)), .val (.int ((p2 &&& (2147483647 : Int32)) % (5 : Int32))), .val (.ref w_OR), .unset, .unset, .unset, .unset, .unset, .unset]) rfl k) ?_
  show Go p.tables e below _ (T1.setTop (mkF m 20 #[.val (.int p1), .val (.int p2), .val (.int (3 : Int32)), .val (.int ((p2 &&& (2147483647 : Int32)) % (5 : Int32))), .val (.ref w_OR), .unset, .unset, .unset, .unset, .unset, .unset] []))
  refine own_go (fun t k => XS.iloadN X1.here hx rfl (hb hby at_20) rfl k) ?_
  show Go p.tables e below _ (T1.setTop (mkF m 21 #[.val (.int p1), .val (.int p2), .val (.int (3 : Int32)), .val (.int ((p2 &&& (2147483647 : Int32)) % (5 : Int32))), .val (.ref w_OR), .unset, .unset, .unset, .unset, .unset, .unset] [(.int ((p2 &&& (2147483647 : Int32)) % (5 : Int32)))]))
  obtain ⟨v2, _, ⟨T2, L2, k2, n2⟩, -, X2, ⟨Lc2, hQ2, l2, y2, z2⟩, st2⟩ := Jvm.LawKit.callS X1 hx (y := (⟨"com/example/meerkat/meerkat/formula/BinaryOperatorGroupsRightPinLaw", "pick", "(I)Lcom/example/meerkat/meerkat/formula/Formula$BinaryOperator;"⟩ : MethodName)) hown (mvT hZ (hw _ (List.mem_of_getElem? (i := 1) rfl))) (mvT hZ (hw _ (List.mem_of_getElem? (i := 2) rfl))) (mvT hZ (hw _ (List.mem_of_getElem? (i := 3) rfl))) (mvT hZ (hw _ (List.mem_of_getElem? (i := 4) rfl))) (by decide) (backOf (W := 0) (rm_pick l Z a0 hw [] ((p2 &&& (2147483647 : Int32)) % (5 : Int32)) w_IMPLIES w_OR w_AND w_SINCE_IN_SESSION w_SINCE_ACROSS_SESSIONS h0 n0 SS) hZ (hw _ (List.mem_of_getElem? (i := 4) rfl)) (hw _ (List.mem_of_getElem? (i := 3) rfl)) (by decide) (by decide)) (g := (mkF m 21 #[.val (.int p1), .val (.int p2), .val (.int (3 : Int32)), .val (.int ((p2 &&& (2147483647 : Int32)) % (5 : Int32))), .val (.ref w_OR), .unset, .unset, .unset, .unset, .unset, .unset] [(.int ((p2 &&& (2147483647 : Int32)) % (5 : Int32)))])) rfl (by rw [hml]; rfl) (argsL := [(.int ((p2 &&& (2147483647 : Int32)) % (5 : Int32)))]) (rest := []) (lenOf pd_0 rfl) rfl (by show 2 * 0 + _ ≤ _; exact Nat.le_of_eq rfl) (hb hby at_21) (fun _ _ => ⟨rfl, e1, (by decide : 0 + 0 ≤ _), (by decide : 0 + 0 ≤ _)⟩)
  dsimp only [Pt.U, Pt.locs, Pt.cells, Pt.slots] at X2 l2 y2 z2 st2 hQ2
  subst l2 y2 z2
  obtain ⟨hv2, N2q, e2⟩ := hQ2
  rw [show ((.ref (own_pick w_IMPLIES w_SINCE_IN_SESSION w_SINCE_ACROSS_SESSIONS w_OR w_AND ((p2 &&& (2147483647 : Int32)) % (5 : Int32)))) : Value) = (.ref w_y) from congrArg Value.ref q2] at hv2
  subst hv2
  have N2 := Fr.app N1 N2q
  refine own_go (fun t k => st2 t k) ?_
  show Go p.tables e below _ (T2.setTop (mkF m 24 #[.val (.int p1), .val (.int p2), .val (.int (3 : Int32)), .val (.int ((p2 &&& (2147483647 : Int32)) % (5 : Int32))), .val (.ref w_OR), .unset, .unset, .unset, .unset, .unset, .unset] [(.ref w_y)]))
  refine own_go (fun t k => XS.astore X2.here hx rfl (hb hby at_24) rfl rfl (l' := #[.val (.int p1), .val (.int p2), .val (.int (3 : Int32)), .val (.int ((p2 &&& (2147483647 : Int32)) % (5 : Int32))), .val (.ref w_OR), .val (.ref w_y), .unset, .unset, .unset, .unset, .unset]) rfl k) ?_
  show Go p.tables e below _ (T2.setTop (mkF m 26 #[.val (.int p1), .val (.int p2), .val (.int (3 : Int32)), .val (.int ((p2 &&& (2147483647 : Int32)) % (5 : Int32))), .val (.ref w_OR), .val (.ref w_y), .unset, .unset, .unset, .unset, .unset] []))
  refine own_go (fun t k => XS.aload X2.here hx rfl (hb hby at_26) rfl rfl k) ?_
  show Go p.tables e below _ (T2.setTop (mkF m 28 #[.val (.int p1), .val (.int p2), .val (.int (3 : Int32)), .val (.int ((p2 &&& (2147483647 : Int32)) % (5 : Int32))), .val (.ref w_OR), .val (.ref w_y), .unset, .unset, .unset, .unset, .unset] [(.ref w_OR)]))
  obtain ⟨cq3, kq3, q3a, q3b, q3c⟩ := isOf hZ e2 E_OR
  obtain ⟨v3, _, ⟨T3, L3, k3, n3⟩, -, X3, ⟨Lc3, hQ3, l3, y3, z3⟩, st3⟩ := X2.virtualBack hx (y := (⟨"com/example/meerkat/meerkat/formula/Formula$BinaryOperator", "groupsRight", "()Z"⟩ : MethodName)) (z := (⟨"com/example/meerkat/meerkat/formula/Formula$BinaryOperator", "groupsRight", "()Z"⟩ : MethodName)) hown (mvT hZ (hw _ (List.mem_of_getElem? (i := 10) rfl))) (mvT hZ (hw _ (List.mem_of_getElem? (i := 11) rfl))) (notFace_of_selects (args := #[]) (mvT hZ (hw _ (List.mem_of_getElem? (i := 13) rfl)))) (mvT hZ (hw _ (List.mem_of_getElem? (i := 13) rfl))) (mvT hZ (hw _ (List.mem_of_getElem? (i := 12) rfl))) (by decide) (backOf (W := 0) (rm_grp l Z a0 hw [] w_OR w_IMPLIES w_OR w_AND w_SINCE_IN_SESSION w_SINCE_ACROSS_SESSIONS h0 n0 SS) hZ (hw _ (List.mem_of_getElem? (i := 14) rfl)) (hw _ (List.mem_of_getElem? (i := 6) rfl)) (by decide) (by decide)) q3a q3c (g := (mkF m 28 #[.val (.int p1), .val (.int p2), .val (.int (3 : Int32)), .val (.int ((p2 &&& (2147483647 : Int32)) % (5 : Int32))), .val (.ref w_OR), .val (.ref w_y), .unset, .unset, .unset, .unset, .unset] [(.ref w_OR)])) rfl (by rw [hml]; rfl) (Steps.refl _) (argsL := []) (rest := []) (lenOf pd_1 rfl) rfl (by show 2 * 0 + _ ≤ _; exact Nat.le_of_eq rfl) (hb hby at_28) (fun _ _ => ⟨rfl, e2, (by decide : 0 + 0 ≤ _), (by decide : 0 + 0 ≤ _)⟩)
  dsimp only [Pt.U, Pt.locs, Pt.cells, Pt.slots] at X3 l3 y3 z3 st3 hQ3
  subst l3 y3 z3
  obtain ⟨hv3, N3q, e3⟩ := hQ3
  rw [show ((.int (own_grp w_IMPLIES w_OR)) : Value) = (.int (0 : Int32)) from by simp [own_grp, nSINCE_IN_SESSION, nSINCE_ACROSS_SESSIONS, nOR, nAND]] at hv3
  subst hv3
  have N3 := Fr.app N2 N3q
  refine own_go (fun t k => st3.trans k) ?_
  show Go p.tables e below _ (T3.setTop (mkF m 31 #[.val (.int p1), .val (.int p2), .val (.int (3 : Int32)), .val (.int ((p2 &&& (2147483647 : Int32)) % (5 : Int32))), .val (.ref w_OR), .val (.ref w_y), .unset, .unset, .unset, .unset, .unset] [(.int (0 : Int32))]))
  refine own_go (fun t k => XS.istore X3.here hx rfl (hb hby at_31) rfl (l' := #[.val (.int p1), .val (.int p2), .val (.int (3 : Int32)), .val (.int ((p2 &&& (2147483647 : Int32)) % (5 : Int32))), .val (.ref w_OR), .val (.ref w_y), .val (.int (0 : Int32)), .unset, .unset, .unset, .unset]) rfl k) ?_
  show Go p.tables e below _ (T3.setTop (mkF m 33 #[.val (.int p1), .val (.int p2), .val (.int (3 : Int32)), .val (.int ((p2 &&& (2147483647 : Int32)) % (5 : Int32))), .val (.ref w_OR), .val (.ref w_y), .val (.int (0 : Int32)), .unset, .unset, .unset, .unset] []))
  refine own_go (fun t k => XS.aload X3.here hx rfl (hb hby at_33) rfl rfl k) ?_
  show Go p.tables e below _ (T3.setTop (mkF m 35 #[.val (.int p1), .val (.int p2), .val (.int (3 : Int32)), .val (.int ((p2 &&& (2147483647 : Int32)) % (5 : Int32))), .val (.ref w_OR), .val (.ref w_y), .val (.int (0 : Int32)), .unset, .unset, .unset, .unset] [(.ref w_y)]))
  obtain ⟨cq4, kq4, q4a, q4b, q4c⟩ := isOf hZ e3 E_y
  obtain ⟨v4, _, ⟨T4, L4, k4, n4⟩, -, X4, ⟨Lc4, hQ4, l4, y4, z4⟩, st4⟩ := X3.virtualBack hx (y := (⟨"com/example/meerkat/meerkat/formula/Formula$BinaryOperator", "groupsRight", "()Z"⟩ : MethodName)) (z := (⟨"com/example/meerkat/meerkat/formula/Formula$BinaryOperator", "groupsRight", "()Z"⟩ : MethodName)) hown (mvT hZ (hw _ (List.mem_of_getElem? (i := 10) rfl))) (mvT hZ (hw _ (List.mem_of_getElem? (i := 11) rfl))) (notFace_of_selects (args := #[]) (mvT hZ (hw _ (List.mem_of_getElem? (i := 13) rfl)))) (mvT hZ (hw _ (List.mem_of_getElem? (i := 13) rfl))) (mvT hZ (hw _ (List.mem_of_getElem? (i := 12) rfl))) (by decide) (backOf (W := 0) (rm_grp l Z a0 hw [] w_y w_IMPLIES w_OR w_AND w_SINCE_IN_SESSION w_SINCE_ACROSS_SESSIONS h0 n0 SS) hZ (hw _ (List.mem_of_getElem? (i := 14) rfl)) (hw _ (List.mem_of_getElem? (i := 6) rfl)) (by decide) (by decide)) q4a q4c (g := (mkF m 35 #[.val (.int p1), .val (.int p2), .val (.int (3 : Int32)), .val (.int ((p2 &&& (2147483647 : Int32)) % (5 : Int32))), .val (.ref w_OR), .val (.ref w_y), .val (.int (0 : Int32)), .unset, .unset, .unset, .unset] [(.ref w_y)])) rfl (by rw [hml]; rfl) (Steps.refl _) (argsL := []) (rest := []) (lenOf pd_1 rfl) rfl (by show 2 * 0 + _ ≤ _; exact Nat.le_of_eq rfl) (hb hby at_35) (fun _ _ => ⟨rfl, e3, (by decide : 0 + 0 ≤ _), (by decide : 0 + 0 ≤ _)⟩)
  dsimp only [Pt.U, Pt.locs, Pt.cells, Pt.slots] at X4 l4 y4 z4 st4 hQ4
  subst l4 y4 z4
  obtain ⟨hv4, N4q, e4⟩ := hQ4
  rw [show ((.int (own_grp w_IMPLIES w_y)) : Value) = (.int g_y) from congrArg Value.int hg] at hv4
  subst hv4
  have N4 := Fr.app N3 N4q
  refine own_go (fun t k => st4.trans k) ?_
  show Go p.tables e below _ (T4.setTop (mkF m 38 #[.val (.int p1), .val (.int p2), .val (.int (3 : Int32)), .val (.int ((p2 &&& (2147483647 : Int32)) % (5 : Int32))), .val (.ref w_OR), .val (.ref w_y), .val (.int (0 : Int32)), .unset, .unset, .unset, .unset] [(.int g_y)]))
  refine own_go (fun t k => XS.istore X4.here hx rfl (hb hby at_38) rfl (l' := #[.val (.int p1), .val (.int p2), .val (.int (3 : Int32)), .val (.int ((p2 &&& (2147483647 : Int32)) % (5 : Int32))), .val (.ref w_OR), .val (.ref w_y), .val (.int (0 : Int32)), .val (.int g_y), .unset, .unset, .unset]) rfl k) ?_
  show Go p.tables e below _ (T4.setTop (mkF m 40 #[.val (.int p1), .val (.int p2), .val (.int (3 : Int32)), .val (.int ((p2 &&& (2147483647 : Int32)) % (5 : Int32))), .val (.ref w_OR), .val (.ref w_y), .val (.int (0 : Int32)), .val (.int g_y), .unset, .unset, .unset] []))
  refine own_go (fun t k => XS.iloadN X4.here hx rfl (hb hby at_40) rfl k) ?_
  show Go p.tables e below _ (T4.setTop (mkF m 41 #[.val (.int p1), .val (.int p2), .val (.int (3 : Int32)), .val (.int ((p2 &&& (2147483647 : Int32)) % (5 : Int32))), .val (.ref w_OR), .val (.ref w_y), .val (.int (0 : Int32)), .val (.int g_y), .unset, .unset, .unset] [(.int (3 : Int32))]))
  refine own_go (fun t k => XS.ifYes X4.here hx rfl (pc0 := 41) (pc' := 48) rfl (hb hby at_41) rfl (XT.i0_ne_t (by decide)) (by decide) (by decide) k) ?_
  show Go p.tables e below _ (T4.setTop (mkF m 48 #[.val (.int p1), .val (.int p2), .val (.int (3 : Int32)), .val (.int ((p2 &&& (2147483647 : Int32)) % (5 : Int32))), .val (.ref w_OR), .val (.ref w_y), .val (.int (0 : Int32)), .val (.int g_y), .unset, .unset, .unset] []))
  refine own_go (fun t k => XS.iconst X4.here hx rfl (hb hby at_48) k) ?_
  show Go p.tables e below _ (T4.setTop (mkF m 49 #[.val (.int p1), .val (.int p2), .val (.int (3 : Int32)), .val (.int ((p2 &&& (2147483647 : Int32)) % (5 : Int32))), .val (.ref w_OR), .val (.ref w_y), .val (.int (0 : Int32)), .val (.int g_y), .unset, .unset, .unset] [(.int (0 : Int32))]))
  refine own_go (fun t k => XS.istore X4.here hx rfl (hb hby at_49) rfl (l' := #[.val (.int p1), .val (.int p2), .val (.int (3 : Int32)), .val (.int ((p2 &&& (2147483647 : Int32)) % (5 : Int32))), .val (.ref w_OR), .val (.ref w_y), .val (.int (0 : Int32)), .val (.int g_y), .val (.int (0 : Int32)), .unset, .unset]) rfl k) ?_
  show Go p.tables e below _ (T4.setTop (mkF m 51 #[.val (.int p1), .val (.int p2), .val (.int (3 : Int32)), .val (.int ((p2 &&& (2147483647 : Int32)) % (5 : Int32))), .val (.ref w_OR), .val (.ref w_y), .val (.int (0 : Int32)), .val (.int g_y), .val (.int (0 : Int32)), .unset, .unset] []))
  refine own_go (fun t k => XS.iload X4.here hx rfl (hb hby at_51) rfl k) ?_
  show Go p.tables e below _ (T4.setTop (mkF m 53 #[.val (.int p1), .val (.int p2), .val (.int (3 : Int32)), .val (.int ((p2 &&& (2147483647 : Int32)) % (5 : Int32))), .val (.ref w_OR), .val (.ref w_y), .val (.int (0 : Int32)), .val (.int g_y), .val (.int (0 : Int32)), .unset, .unset] [(.int (0 : Int32))]))
  refine own_go (fun t k => XS.iload X4.here hx rfl (hb hby at_53) rfl k) ?_
  show Go p.tables e below _ (T4.setTop (mkF m 55 #[.val (.int p1), .val (.int p2), .val (.int (3 : Int32)), .val (.int ((p2 &&& (2147483647 : Int32)) % (5 : Int32))), .val (.ref w_OR), .val (.ref w_y), .val (.int (0 : Int32)), .val (.int g_y), .val (.int (0 : Int32)), .unset, .unset] [(.int (0 : Int32)), (.int (0 : Int32))]))
  refine own_go (fun t k => XS.icmpNo X4.here hx rfl (hb hby at_55) rfl (XT.ii_ne_f (by decide)) k) ?_
  show Go p.tables e below _ (T4.setTop (mkF m 58 #[.val (.int p1), .val (.int p2), .val (.int (3 : Int32)), .val (.int ((p2 &&& (2147483647 : Int32)) % (5 : Int32))), .val (.ref w_OR), .val (.ref w_y), .val (.int (0 : Int32)), .val (.int g_y), .val (.int (0 : Int32)), .unset, .unset] []))
  refine own_go (fun t k => XS.iconst X4.here hx rfl (hb hby at_58) k) ?_
  show Go p.tables e below _ (T4.setTop (mkF m 59 #[.val (.int p1), .val (.int p2), .val (.int (3 : Int32)), .val (.int ((p2 &&& (2147483647 : Int32)) % (5 : Int32))), .val (.ref w_OR), .val (.ref w_y), .val (.int (0 : Int32)), .val (.int g_y), .val (.int (0 : Int32)), .unset, .unset] [(.int (1 : Int32))]))
  refine own_go (fun t k => XS.goto X4.here hx rfl (pc0 := 59) (pc' := 63) rfl (hb hby at_59) (by decide) (by decide) k) ?_
  show Go p.tables e below _ (T4.setTop (mkF m 63 #[.val (.int p1), .val (.int p2), .val (.int (3 : Int32)), .val (.int ((p2 &&& (2147483647 : Int32)) % (5 : Int32))), .val (.ref w_OR), .val (.ref w_y), .val (.int (0 : Int32)), .val (.int g_y), .val (.int (0 : Int32)), .unset, .unset] [(.int (1 : Int32))]))
  refine own_go (fun t k => XS.istore X4.here hx rfl (hb hby at_63) rfl (l' := #[.val (.int p1), .val (.int p2), .val (.int (3 : Int32)), .val (.int ((p2 &&& (2147483647 : Int32)) % (5 : Int32))), .val (.ref w_OR), .val (.ref w_y), .val (.int (0 : Int32)), .val (.int g_y), .val (.int (0 : Int32)), .val (.int (1 : Int32)), .unset]) rfl k) ?_
  show Go p.tables e below _ (T4.setTop (mkF m 65 #[.val (.int p1), .val (.int p2), .val (.int (3 : Int32)), .val (.int ((p2 &&& (2147483647 : Int32)) % (5 : Int32))), .val (.ref w_OR), .val (.ref w_y), .val (.int (0 : Int32)), .val (.int g_y), .val (.int (0 : Int32)), .val (.int (1 : Int32)), .unset] []))
  refine own_go (fun t k => XS.aload X4.here hx rfl (hb hby at_65) rfl rfl k) ?_
  show Go p.tables e below _ (T4.setTop (mkF m 67 #[.val (.int p1), .val (.int p2), .val (.int (3 : Int32)), .val (.int ((p2 &&& (2147483647 : Int32)) % (5 : Int32))), .val (.ref w_OR), .val (.ref w_y), .val (.int (0 : Int32)), .val (.int g_y), .val (.int (0 : Int32)), .val (.int (1 : Int32)), .unset] [(.ref w_OR)]))
  obtain ⟨cq5, kq5, q5a, q5b, q5c⟩ := isOf hZ e4 E_OR
  obtain ⟨v5, _, ⟨T5, L5, k5, n5⟩, -, X5, ⟨Lc5, hQ5, l5, y5, z5⟩, st5⟩ := X4.virtualBack hx (y := (⟨"com/example/meerkat/meerkat/formula/Formula$BinaryOperator", "precedence", "()I"⟩ : MethodName)) (z := (⟨"com/example/meerkat/meerkat/formula/Formula$BinaryOperator", "precedence", "()I"⟩ : MethodName)) hown (mvT hZ (hw _ (List.mem_of_getElem? (i := 16) rfl))) (mvT hZ (hw _ (List.mem_of_getElem? (i := 17) rfl))) (notFace_of_selects (args := #[]) (mvT hZ (hw _ (List.mem_of_getElem? (i := 19) rfl)))) (mvT hZ (hw _ (List.mem_of_getElem? (i := 19) rfl))) (mvT hZ (hw _ (List.mem_of_getElem? (i := 18) rfl))) (by decide) (backOf (W := 0) (rm_prec l Z a0 hw [] w_OR (3 : Int32) h0 n0 F_OR_precedence) hZ (hw _ (List.mem_of_getElem? (i := 20) rfl)) (hw _ (List.mem_of_getElem? (i := 6) rfl)) (by decide) (by decide)) q5a q5c (g := (mkF m 67 #[.val (.int p1), .val (.int p2), .val (.int (3 : Int32)), .val (.int ((p2 &&& (2147483647 : Int32)) % (5 : Int32))), .val (.ref w_OR), .val (.ref w_y), .val (.int (0 : Int32)), .val (.int g_y), .val (.int (0 : Int32)), .val (.int (1 : Int32)), .unset] [(.ref w_OR)])) rfl (by rw [hml]; rfl) (Steps.refl _) (argsL := []) (rest := []) (lenOf pd_2 rfl) rfl (by show 2 * 0 + _ ≤ _; exact Nat.le_of_eq rfl) (hb hby at_67) (fun _ _ => ⟨rfl, e4, (by decide : 0 + 0 ≤ _), (by decide : 0 + 0 ≤ _)⟩)
  dsimp only [Pt.U, Pt.locs, Pt.cells, Pt.slots] at X5 l5 y5 z5 st5 hQ5
  subst l5 y5 z5
  obtain ⟨hv5, N5q, e5⟩ := hQ5
  subst hv5
  have N5 := Fr.app N4 N5q
  refine own_go (fun t k => st5.trans k) ?_
  show Go p.tables e below _ (T5.setTop (mkF m 70 #[.val (.int p1), .val (.int p2), .val (.int (3 : Int32)), .val (.int ((p2 &&& (2147483647 : Int32)) % (5 : Int32))), .val (.ref w_OR), .val (.ref w_y), .val (.int (0 : Int32)), .val (.int g_y), .val (.int (0 : Int32)), .val (.int (1 : Int32)), .unset] [(.int (3 : Int32))]))
  refine own_go (fun t k => XS.aload X5.here hx rfl (hb hby at_70) rfl rfl k) ?_
  show Go p.tables e below _ (T5.setTop (mkF m 72 #[.val (.int p1), .val (.int p2), .val (.int (3 : Int32)), .val (.int ((p2 &&& (2147483647 : Int32)) % (5 : Int32))), .val (.ref w_OR), .val (.ref w_y), .val (.int (0 : Int32)), .val (.int g_y), .val (.int (0 : Int32)), .val (.int (1 : Int32)), .unset] [(.ref w_y), (.int (3 : Int32))]))
  obtain ⟨cq6, kq6, q6a, q6b, q6c⟩ := isOf hZ e5 E_y
  obtain ⟨v6, _, ⟨T6, L6, k6, n6⟩, -, X6, ⟨Lc6, hQ6, l6, y6, z6⟩, st6⟩ := X5.virtualBack hx (y := (⟨"com/example/meerkat/meerkat/formula/Formula$BinaryOperator", "precedence", "()I"⟩ : MethodName)) (z := (⟨"com/example/meerkat/meerkat/formula/Formula$BinaryOperator", "precedence", "()I"⟩ : MethodName)) hown (mvT hZ (hw _ (List.mem_of_getElem? (i := 16) rfl))) (mvT hZ (hw _ (List.mem_of_getElem? (i := 17) rfl))) (notFace_of_selects (args := #[]) (mvT hZ (hw _ (List.mem_of_getElem? (i := 19) rfl)))) (mvT hZ (hw _ (List.mem_of_getElem? (i := 19) rfl))) (mvT hZ (hw _ (List.mem_of_getElem? (i := 18) rfl))) (by decide) (backOf (W := 1) (rm_prec l Z a0 hw [] w_y z_y h0 n0 F_y_precedence) hZ (hw _ (List.mem_of_getElem? (i := 20) rfl)) (hw _ (List.mem_of_getElem? (i := 6) rfl)) (by decide) (by decide)) q6a q6c (g := (mkF m 72 #[.val (.int p1), .val (.int p2), .val (.int (3 : Int32)), .val (.int ((p2 &&& (2147483647 : Int32)) % (5 : Int32))), .val (.ref w_OR), .val (.ref w_y), .val (.int (0 : Int32)), .val (.int g_y), .val (.int (0 : Int32)), .val (.int (1 : Int32)), .unset] [(.ref w_y), (.int (3 : Int32))])) rfl (by rw [hml]; rfl) (Steps.refl _) (argsL := []) (rest := [(.int (3 : Int32))]) (lenOf pd_2 rfl) rfl (by show 2 * 0 + _ ≤ _; exact Nat.le_of_eq rfl) (hb hby at_72) (fun _ _ => ⟨rfl, e5, (by decide : 0 + 0 ≤ _), (by decide : 0 + 0 ≤ _)⟩)
  dsimp only [Pt.U, Pt.locs, Pt.cells, Pt.slots] at X6 l6 y6 z6 st6 hQ6
  subst l6 y6 z6
  obtain ⟨hv6, N6q, e6⟩ := hQ6
  subst hv6
  have N6 := Fr.app N5 N6q
  refine own_go (fun t k => st6.trans k) ?_
  show Go p.tables e below _ (T6.setTop (mkF m 75 #[.val (.int p1), .val (.int p2), .val (.int (3 : Int32)), .val (.int ((p2 &&& (2147483647 : Int32)) % (5 : Int32))), .val (.ref w_OR), .val (.ref w_y), .val (.int (0 : Int32)), .val (.int g_y), .val (.int (0 : Int32)), .val (.int (1 : Int32)), .unset] [(.int z_y), (.int (3 : Int32))]))
  by_cases hc7 : (3 : Int32) = z_y
  · refine own_go (fun t k => XS.icmpNo X6.here hx rfl (hb hby at_75) rfl (XT.ii_ne_f hc7) k) ?_
    show Go p.tables e below _ (T6.setTop (mkF m 78 #[.val (.int p1), .val (.int p2), .val (.int (3 : Int32)), .val (.int ((p2 &&& (2147483647 : Int32)) % (5 : Int32))), .val (.ref w_OR), .val (.ref w_y), .val (.int (0 : Int32)), .val (.int g_y), .val (.int (0 : Int32)), .val (.int (1 : Int32)), .unset] []))
    refine own_go (fun t k => XS.iload X6.here hx rfl (hb hby at_78) rfl k) ?_
    show Go p.tables e below _ (T6.setTop (mkF m 80 #[.val (.int p1), .val (.int p2), .val (.int (3 : Int32)), .val (.int ((p2 &&& (2147483647 : Int32)) % (5 : Int32))), .val (.ref w_OR), .val (.ref w_y), .val (.int (0 : Int32)), .val (.int g_y), .val (.int (0 : Int32)), .val (.int (1 : Int32)), .unset] [(.int (0 : Int32))]))
    refine own_go (fun t k => XS.iload X6.here hx rfl (hb hby at_80) rfl k) ?_
    show Go p.tables e below _ (T6.setTop (mkF m 82 #[.val (.int p1), .val (.int p2), .val (.int (3 : Int32)), .val (.int ((p2 &&& (2147483647 : Int32)) % (5 : Int32))), .val (.ref w_OR), .val (.ref w_y), .val (.int (0 : Int32)), .val (.int g_y), .val (.int (0 : Int32)), .val (.int (1 : Int32)), .unset] [(.int g_y), (.int (0 : Int32))]))
    refine own_go (fun t k => XS.icmpNo X6.here hx rfl (hb hby at_82) rfl (XT.ii_ne_f (hpq hc7)) k) ?_
    show Go p.tables e below _ (T6.setTop (mkF m 85 #[.val (.int p1), .val (.int p2), .val (.int (3 : Int32)), .val (.int ((p2 &&& (2147483647 : Int32)) % (5 : Int32))), .val (.ref w_OR), .val (.ref w_y), .val (.int (0 : Int32)), .val (.int g_y), .val (.int (0 : Int32)), .val (.int (1 : Int32)), .unset] []))
    refine own_go (fun t k => XS.iconst X6.here hx rfl (hb hby at_85) k) ?_
    show Go p.tables e below _ (T6.setTop (mkF m 86 #[.val (.int p1), .val (.int p2), .val (.int (3 : Int32)), .val (.int ((p2 &&& (2147483647 : Int32)) % (5 : Int32))), .val (.ref w_OR), .val (.ref w_y), .val (.int (0 : Int32)), .val (.int g_y), .val (.int (0 : Int32)), .val (.int (1 : Int32)), .unset] [(.int (1 : Int32))]))
    refine own_go (fun t k => XS.goto X6.here hx rfl (pc0 := 86) (pc' := 90) rfl (hb hby at_86) (by decide) (by decide) k) ?_
    show Go p.tables e below _ (T6.setTop (mkF m 90 #[.val (.int p1), .val (.int p2), .val (.int (3 : Int32)), .val (.int ((p2 &&& (2147483647 : Int32)) % (5 : Int32))), .val (.ref w_OR), .val (.ref w_y), .val (.int (0 : Int32)), .val (.int g_y), .val (.int (0 : Int32)), .val (.int (1 : Int32)), .unset] [(.int (1 : Int32))]))
    refine own_go (fun t k => XS.istore X6.here hx rfl (hb hby at_90) rfl (l' := #[.val (.int p1), .val (.int p2), .val (.int (3 : Int32)), .val (.int ((p2 &&& (2147483647 : Int32)) % (5 : Int32))), .val (.ref w_OR), .val (.ref w_y), .val (.int (0 : Int32)), .val (.int g_y), .val (.int (0 : Int32)), .val (.int (1 : Int32)), .val (.int (1 : Int32))]) rfl k) ?_
    show Go p.tables e below _ (T6.setTop (mkF m 92 #[.val (.int p1), .val (.int p2), .val (.int (3 : Int32)), .val (.int ((p2 &&& (2147483647 : Int32)) % (5 : Int32))), .val (.ref w_OR), .val (.ref w_y), .val (.int (0 : Int32)), .val (.int g_y), .val (.int (0 : Int32)), .val (.int (1 : Int32)), .val (.int (1 : Int32))] []))
    refine own_go (fun t k => XS.iload X6.here hx rfl (hb hby at_92) rfl k) ?_
    show Go p.tables e below _ (T6.setTop (mkF m 94 #[.val (.int p1), .val (.int p2), .val (.int (3 : Int32)), .val (.int ((p2 &&& (2147483647 : Int32)) % (5 : Int32))), .val (.ref w_OR), .val (.ref w_y), .val (.int (0 : Int32)), .val (.int g_y), .val (.int (0 : Int32)), .val (.int (1 : Int32)), .val (.int (1 : Int32))] [(.int (1 : Int32))]))
    refine own_go (fun t k => XS.ifNo X6.here hx rfl (hb hby at_94) rfl (XT.i0_eq_f (by decide)) k) ?_
    show Go p.tables e below _ (T6.setTop (mkF m 97 #[.val (.int p1), .val (.int p2), .val (.int (3 : Int32)), .val (.int ((p2 &&& (2147483647 : Int32)) % (5 : Int32))), .val (.ref w_OR), .val (.ref w_y), .val (.int (0 : Int32)), .val (.int g_y), .val (.int (0 : Int32)), .val (.int (1 : Int32)), .val (.int (1 : Int32))] []))
    refine own_go (fun t k => XS.iload X6.here hx rfl (hb hby at_97) rfl k) ?_
    show Go p.tables e below _ (T6.setTop (mkF m 99 #[.val (.int p1), .val (.int p2), .val (.int (3 : Int32)), .val (.int ((p2 &&& (2147483647 : Int32)) % (5 : Int32))), .val (.ref w_OR), .val (.ref w_y), .val (.int (0 : Int32)), .val (.int g_y), .val (.int (0 : Int32)), .val (.int (1 : Int32)), .val (.int (1 : Int32))] [(.int (1 : Int32))]))
    refine own_go (fun t k => XS.ifNo X6.here hx rfl (hb hby at_99) rfl (XT.i0_eq_f (by decide)) k) ?_
    show Go p.tables e below _ (T6.setTop (mkF m 102 #[.val (.int p1), .val (.int p2), .val (.int (3 : Int32)), .val (.int ((p2 &&& (2147483647 : Int32)) % (5 : Int32))), .val (.ref w_OR), .val (.ref w_y), .val (.int (0 : Int32)), .val (.int g_y), .val (.int (0 : Int32)), .val (.int (1 : Int32)), .val (.int (1 : Int32))] []))
    refine own_go (fun t k => XS.iconst X6.here hx rfl (hb hby at_102) k) ?_
    show Go p.tables e below _ (T6.setTop (mkF m 103 #[.val (.int p1), .val (.int p2), .val (.int (3 : Int32)), .val (.int ((p2 &&& (2147483647 : Int32)) % (5 : Int32))), .val (.ref w_OR), .val (.ref w_y), .val (.int (0 : Int32)), .val (.int g_y), .val (.int (0 : Int32)), .val (.int (1 : Int32)), .val (.int (1 : Int32))] [(.int (1 : Int32))]))
    refine own_go (fun t k => XS.goto X6.here hx rfl (pc0 := 103) (pc' := 107) rfl (hb hby at_103) (by decide) (by decide) k) ?_
    show Go p.tables e below _ (T6.setTop (mkF m 107 #[.val (.int p1), .val (.int p2), .val (.int (3 : Int32)), .val (.int ((p2 &&& (2147483647 : Int32)) % (5 : Int32))), .val (.ref w_OR), .val (.ref w_y), .val (.int (0 : Int32)), .val (.int g_y), .val (.int (0 : Int32)), .val (.int (1 : Int32)), .val (.int (1 : Int32))] [(.int (1 : Int32))]))
    exact own_ret X6 hx hlk Bd.returns rfl (Or.inl ⟨rfl, Or.inr (Or.inl rfl), _, rfl⟩) (hb hby at_107) ⟨rfl, N6, e6⟩ (by decide) (by decide)
  · refine own_go (fun t k => XS.icmpYes X6.here hx rfl (pc0 := 75) (pc' := 85) rfl (hb hby at_75) rfl (XT.ii_ne_t hc7) (by decide) (by decide) k) ?_
    show Go p.tables e below _ (T6.setTop (mkF m 85 #[.val (.int p1), .val (.int p2), .val (.int (3 : Int32)), .val (.int ((p2 &&& (2147483647 : Int32)) % (5 : Int32))), .val (.ref w_OR), .val (.ref w_y), .val (.int (0 : Int32)), .val (.int g_y), .val (.int (0 : Int32)), .val (.int (1 : Int32)), .unset] []))
    refine own_go (fun t k => XS.iconst X6.here hx rfl (hb hby at_85) k) ?_
    show Go p.tables e below _ (T6.setTop (mkF m 86 #[.val (.int p1), .val (.int p2), .val (.int (3 : Int32)), .val (.int ((p2 &&& (2147483647 : Int32)) % (5 : Int32))), .val (.ref w_OR), .val (.ref w_y), .val (.int (0 : Int32)), .val (.int g_y), .val (.int (0 : Int32)), .val (.int (1 : Int32)), .unset] [(.int (1 : Int32))]))
    refine own_go (fun t k => XS.goto X6.here hx rfl (pc0 := 86) (pc' := 90) rfl (hb hby at_86) (by decide) (by decide) k) ?_
    show Go p.tables e below _ (T6.setTop (mkF m 90 #[.val (.int p1), .val (.int p2), .val (.int (3 : Int32)), .val (.int ((p2 &&& (2147483647 : Int32)) % (5 : Int32))), .val (.ref w_OR), .val (.ref w_y), .val (.int (0 : Int32)), .val (.int g_y), .val (.int (0 : Int32)), .val (.int (1 : Int32)), .unset] [(.int (1 : Int32))]))
    refine own_go (fun t k => XS.istore X6.here hx rfl (hb hby at_90) rfl (l' := #[.val (.int p1), .val (.int p2), .val (.int (3 : Int32)), .val (.int ((p2 &&& (2147483647 : Int32)) % (5 : Int32))), .val (.ref w_OR), .val (.ref w_y), .val (.int (0 : Int32)), .val (.int g_y), .val (.int (0 : Int32)), .val (.int (1 : Int32)), .val (.int (1 : Int32))]) rfl k) ?_
    show Go p.tables e below _ (T6.setTop (mkF m 92 #[.val (.int p1), .val (.int p2), .val (.int (3 : Int32)), .val (.int ((p2 &&& (2147483647 : Int32)) % (5 : Int32))), .val (.ref w_OR), .val (.ref w_y), .val (.int (0 : Int32)), .val (.int g_y), .val (.int (0 : Int32)), .val (.int (1 : Int32)), .val (.int (1 : Int32))] []))
    refine own_go (fun t k => XS.iload X6.here hx rfl (hb hby at_92) rfl k) ?_
    show Go p.tables e below _ (T6.setTop (mkF m 94 #[.val (.int p1), .val (.int p2), .val (.int (3 : Int32)), .val (.int ((p2 &&& (2147483647 : Int32)) % (5 : Int32))), .val (.ref w_OR), .val (.ref w_y), .val (.int (0 : Int32)), .val (.int g_y), .val (.int (0 : Int32)), .val (.int (1 : Int32)), .val (.int (1 : Int32))] [(.int (1 : Int32))]))
    refine own_go (fun t k => XS.ifNo X6.here hx rfl (hb hby at_94) rfl (XT.i0_eq_f (by decide)) k) ?_
    show Go p.tables e below _ (T6.setTop (mkF m 97 #[.val (.int p1), .val (.int p2), .val (.int (3 : Int32)), .val (.int ((p2 &&& (2147483647 : Int32)) % (5 : Int32))), .val (.ref w_OR), .val (.ref w_y), .val (.int (0 : Int32)), .val (.int g_y), .val (.int (0 : Int32)), .val (.int (1 : Int32)), .val (.int (1 : Int32))] []))
    refine own_go (fun t k => XS.iload X6.here hx rfl (hb hby at_97) rfl k) ?_
    show Go p.tables e below _ (T6.setTop (mkF m 99 #[.val (.int p1), .val (.int p2), .val (.int (3 : Int32)), .val (.int ((p2 &&& (2147483647 : Int32)) % (5 : Int32))), .val (.ref w_OR), .val (.ref w_y), .val (.int (0 : Int32)), .val (.int g_y), .val (.int (0 : Int32)), .val (.int (1 : Int32)), .val (.int (1 : Int32))] [(.int (1 : Int32))]))
    refine own_go (fun t k => XS.ifNo X6.here hx rfl (hb hby at_99) rfl (XT.i0_eq_f (by decide)) k) ?_
    show Go p.tables e below _ (T6.setTop (mkF m 102 #[.val (.int p1), .val (.int p2), .val (.int (3 : Int32)), .val (.int ((p2 &&& (2147483647 : Int32)) % (5 : Int32))), .val (.ref w_OR), .val (.ref w_y), .val (.int (0 : Int32)), .val (.int g_y), .val (.int (0 : Int32)), .val (.int (1 : Int32)), .val (.int (1 : Int32))] []))
    refine own_go (fun t k => XS.iconst X6.here hx rfl (hb hby at_102) k) ?_
    show Go p.tables e below _ (T6.setTop (mkF m 103 #[.val (.int p1), .val (.int p2), .val (.int (3 : Int32)), .val (.int ((p2 &&& (2147483647 : Int32)) % (5 : Int32))), .val (.ref w_OR), .val (.ref w_y), .val (.int (0 : Int32)), .val (.int g_y), .val (.int (0 : Int32)), .val (.int (1 : Int32)), .val (.int (1 : Int32))] [(.int (1 : Int32))]))
    refine own_go (fun t k => XS.goto X6.here hx rfl (pc0 := 103) (pc' := 107) rfl (hb hby at_103) (by decide) (by decide) k) ?_
    show Go p.tables e below _ (T6.setTop (mkF m 107 #[.val (.int p1), .val (.int p2), .val (.int (3 : Int32)), .val (.int ((p2 &&& (2147483647 : Int32)) % (5 : Int32))), .val (.ref w_OR), .val (.ref w_y), .val (.int (0 : Int32)), .val (.int g_y), .val (.int (0 : Int32)), .val (.int (1 : Int32)), .val (.int (1 : Int32))] [(.int (1 : Int32))]))
    exact own_ret X6 hx hlk Bd.returns rfl (Or.inl ⟨rfl, Or.inr (Or.inl rfl), _, rfl⟩) (hb hby at_107) ⟨rfl, N6, e6⟩ (by decide) (by decide)
theorem ef_rm_law_4 (m : MethodId) (x0 : Int32) (x1 : Int32) : entryFrame m #[(.int x0), (.int x1)] maxLocals = mkF m 0 #[.val (.int x0), .val (.int x1), .unset, .unset, .unset, .unset, .unset, .unset, .unset, .unset, .unset] [] := by first | (simp [entryFrame, mkF, argsToLocals, Value.category, maxLocals]; done) | rfl
set_option maxRecDepth 65536 in
set_option maxHeartbeats 40000000 in
theorem rm_law_4 (l : Launch) (Z : State) (a0 : Array Value) (hw : ∀ d ∈ tables_1, d.before a0 Z = true) (ws : List Jvm.Cond) (p1 p2 : Int32) (w_IMPLIES w_OR w_AND w_SINCE_IN_SESSION w_SINCE_ACROSS_SESSIONS : Addr) (w_y : Addr) (z_y g_y : Int32) (h0 : Heap) (n0 : Nat) (SS : own_S Z h0 w_IMPLIES w_OR w_AND w_SINCE_IN_SESSION w_SINCE_ACROSS_SESSIONS) (EE : own_E Z h0 w_IMPLIES w_OR w_AND w_SINCE_IN_SESSION w_SINCE_ACROSS_SESSIONS) (OO : own_O Z h0 w_IMPLIES w_OR w_AND w_SINCE_IN_SESSION w_SINCE_ACROSS_SESSIONS) (q1 : (p1 &&& 2147483647) % 5 = 4) (q2 : own_pick w_IMPLIES w_SINCE_IN_SESSION w_SINCE_ACROSS_SESSIONS w_OR w_AND ((p2 &&& 2147483647) % 5) = w_y) (E_y : Exa Z h0 w_y "com/example/meerkat/meerkat/formula/Formula$BinaryOperator") (F_y_precedence : Fld Z h0 w_y "com/example/meerkat/meerkat/formula/Formula$BinaryOperator" "precedence" "I" (.int z_y)) (hg : own_grp w_IMPLIES w_y = g_y) (hpq : (4 : Int32) = z_y → (0 : Int32) = g_y) :
    MetFree l x (head1 (Jvm.Cond.code x code maxLocals ret :: ws) room_1) (fun aa U => aa = #[(.int p1), (.int p2)] ∧ Z.Warmed39 U.vm ∧ U.heap = h0) (fun _ _ _ _ _ => True) (fun _ U o U' => ∃ v L, o = .returned v ∧ PQ (.int 1) h0 n0 v U'.heap L ∧ FrameEnd U o U' L room_1.cells room_1.slots) := by
  refine MetFree.of_bodySF (plainFor_of_name pn_0) hisR ?_
  intro p e s m args below meth c s₁ Bd hml0 hP hK
  obtain ⟨rfl, hZ, hh⟩ := hP
  have hx := Bd.exec
  have hby := Bd.bytes
  have hlk := Bd.notSynchronized
  have hml : c.maxLocals = 11 := hml0
  have hown : s.vm.findClass "com/example/meerkat/meerkat/formula/BinaryOperatorGroupsRightPinLaw" = some m.cls := findClass_of_methodNamed Bd.named
  have X0 : Stand p l e room_1 s m #[(.int p1), (.int p2)] below meth c s₁ [] 0 0 := Stand.of_body Bd
  have e0 : s₁.heap = h0 := by rw [← hh, Bd.state]; rfl
  have N0 := Fr.nil n0
  have SS' := SS
  obtain ⟨S_IMPLIES, S_OR, S_AND, S_SINCE_IN_SESSION, S_SINCE_ACROSS_SESSIONS⟩ := SS'
  obtain ⟨E_IMPLIES, E_OR, E_AND, E_SINCE_IN_SESSION, E_SINCE_ACROSS_SESSIONS⟩ := EE
  obtain ⟨F_OR_ordinal, F_IMPLIES_ordinal, F_IMPLIES_precedence, F_OR_precedence, F_AND_ordinal, F_SINCE_IN_SESSION_ordinal, F_AND_precedence, F_SINCE_IN_SESSION_precedence, F_SINCE_ACROSS_SESSIONS_ordinal, F_SINCE_ACROSS_SESSIONS_precedence⟩ := OO
  have nSINCE_IN_SESSION : w_SINCE_IN_SESSION ≠ w_IMPLIES := (own_ne F_SINCE_IN_SESSION_ordinal F_IMPLIES_ordinal (by decide))
  have nSINCE_ACROSS_SESSIONS : w_SINCE_ACROSS_SESSIONS ≠ w_IMPLIES := (own_ne F_SINCE_ACROSS_SESSIONS_ordinal F_IMPLIES_ordinal (by decide))
  have nOR : w_OR ≠ w_IMPLIES := (own_ne F_OR_ordinal F_IMPLIES_ordinal (by decide))
  have nAND : w_AND ≠ w_IMPLIES := (own_ne F_AND_ordinal F_IMPLIES_ordinal (by decide))
  show Go p.tables e below (Fin s below (PQ (.int 1) h0 n0) room_1.cells room_1.slots) (s₁.setTop (entryFrame m #[(.int p1), (.int p2)] maxLocals))
  refine own_go (fun t k => castTop (ef_rm_law_4 m p1 p2) k) ?_
  show Go p.tables e below _ (s₁.setTop (mkF m 0 #[.val (.int p1), .val (.int p2), .unset, .unset, .unset, .unset, .unset, .unset, .unset, .unset, .unset] []))
  refine own_go (fun t k => XS.iloadN X0.here hx rfl (hb hby at_0) rfl k) ?_
  show Go p.tables e below _ (s₁.setTop (mkF m 1 #[.val (.int p1), .val (.int p2), .unset, .unset, .unset, .unset, .unset, .unset, .unset, .unset, .unset] [(.int p1)]))
  refine own_go (fun t k => Jvm.Stand.ldcI X0 hx hown (mvT hZ (hw _ (List.mem_of_getElem? (i := 0) rfl))) rfl (hb hby at_1) k) ?_
  show Go p.tables e below _ (s₁.setTop (mkF m 3 #[.val (.int p1), .val (.int p2), .unset, .unset, .unset, .unset, .unset, .unset, .unset, .unset, .unset] [(.int (2147483647 : Int32)), (.int p1)]))
  refine own_go (fun t k => XS.iand X0.here hx rfl (hb hby at_3) rfl k) ?_
  show Go p.tables e below _ (s₁.setTop (mkF m 4 #[.val (.int p1), .val (.int p2), .unset, .unset, .unset, .unset, .unset, .unset, .unset, .unset, .unset] [(.int (p1 &&& (2147483647 : Int32)))]))
  refine own_go (fun t k => XS.iconst X0.here hx rfl (hb hby at_4) k) ?_
  show Go p.tables e below _ (s₁.setTop (mkF m 5 #[.val (.int p1), .val (.int p2), .unset, .unset, .unset, .unset, .unset, .unset, .unset, .unset, .unset] [(.int (5 : Int32)), (.int (p1 &&& (2147483647 : Int32)))]))
  refine own_go (fun t k => iremM (g := (mkF m 5 #[.val (.int p1), .val (.int p2), .unset, .unset, .unset, .unset, .unset, .unset, .unset, .unset, .unset] [(.int (5 : Int32)), (.int (p1 &&& (2147483647 : Int32)))])) X0 hx rfl (hb hby at_5) rfl (by decide) k) ?_
  show Go p.tables e below _ (s₁.setTop (mkF m 6 #[.val (.int p1), .val (.int p2), .unset, .unset, .unset, .unset, .unset, .unset, .unset, .unset, .unset] [(.int ((p1 &&& (2147483647 : Int32)) % (5 : Int32)))]))
  rw [q1]
  show Go p.tables e below _ (s₁.setTop (mkF m 6 #[.val (.int p1), .val (.int p2), .unset, .unset, .unset, .unset, .unset, .unset, .unset, .unset, .unset] [(.int (4 : Int32))]))
  refine own_go (fun t k => XS.istoreN X0.here hx rfl (hb hby at_6) rfl (l' := #[.val (.int p1), .val (.int p2), .val (.int (4 : Int32)), .unset, .unset, .unset, .unset, .unset, .unset, .unset, .unset]) rfl k) ?_
  show Go p.tables e below _ (s₁.setTop (mkF m 7 #[.val (.int p1), .val (.int p2), .val (.int (4 : Int32)), .unset, .unset, .unset, .unset, .unset, .unset, .unset, .unset] []))
  refine own_go (fun t k => XS.iloadN X0.here hx rfl (hb hby at_7) rfl k) ?_
  show Go p.tables e below _ (s₁.setTop (mkF m 8 #[.val (.int p1), .val (.int p2), .val (.int (4 : Int32)), .unset, .unset, .unset, .unset, .unset, .unset, .unset, .unset] [(.int p2)]))
  refine own_go (fun t k => Jvm.Stand.ldcI X0 hx hown (mvT hZ (hw _ (List.mem_of_getElem? (i := 0) rfl))) rfl (hb hby at_8) k) ?_
  show Go p.tables e below _ (s₁.setTop (mkF m 10 #[.val (.int p1), .val (.int p2), .val (.int (4 : Int32)), .unset, .unset, .unset, .unset, .unset, .unset, .unset, .unset] [(.int (2147483647 : Int32)), (.int p2)]))
  refine own_go (fun t k => XS.iand X0.here hx rfl (hb hby at_10) rfl k) ?_
  show Go p.tables e below _ (s₁.setTop (mkF m 11 #[.val (.int p1), .val (.int p2), .val (.int (4 : Int32)), .unset, .unset, .unset, .unset, .unset, .unset, .unset, .unset] [(.int (p2 &&& (2147483647 : Int32)))]))
  refine own_go (fun t k => XS.iconst X0.here hx rfl (hb hby at_11) k) ?_
  show Go p.tables e below _ (s₁.setTop (mkF m 12 #[.val (.int p1), .val (.int p2), .val (.int (4 : Int32)), .unset, .unset, .unset, .unset, .unset, .unset, .unset, .unset] [(.int (5 : Int32)), (.int (p2 &&& (2147483647 : Int32)))]))
  refine own_go (fun t k => iremM (g := (mkF m 12 #[.val (.int p1), .val (.int p2), .val (.int (4 : Int32)), .unset, .unset, .unset, .unset, .unset, .unset, .unset, .unset] [(.int (5 : Int32)), (.int (p2 &&& (2147483647 : Int32)))])) X0 hx rfl (hb hby at_12) rfl (by decide) k) ?_
  show Go p.tables e below _ (s₁.setTop (mkF m 13 #[.val (.int p1), .val (.int p2), .val (.int (4 : Int32)), .unset, .unset, .unset, .unset, .unset, .unset, .unset, .unset] [(.int ((p2 &&& (2147483647 : Int32)) % (5 : Int32)))]))
  refine own_go (fun t k => XS.istoreN X0.here hx rfl (hb hby at_13) rfl (l' := #[.val (.int p1), .val (.int p2), .val (.int (4 : Int32)), .val (.int ((p2 &&& (2147483647 : Int32)) % (5 : Int32))), .unset, .unset, .unset, .unset, .unset, .unset, .unset]) rfl k) ?_
  show Go p.tables e below _ (s₁.setTop (mkF m 14 #[.val (.int p1), .val (.int p2), .val (.int (4 : Int32)), .val (.int ((p2 &&& (2147483647 : Int32)) % (5 : Int32))), .unset, .unset, .unset, .unset, .unset, .unset, .unset] []))
  refine own_go (fun t k => XS.iloadN X0.here hx rfl (hb hby at_14) rfl k) ?_
  show Go p.tables e below _ (s₁.setTop (mkF m 15 #[.val (.int p1), .val (.int p2), .val (.int (4 : Int32)), .val (.int ((p2 &&& (2147483647 : Int32)) % (5 : Int32))), .unset, .unset, .unset, .unset, .unset, .unset, .unset] [(.int (4 : Int32))]))
  obtain ⟨v1, _, ⟨T1, L1, k1, n1⟩, -, X1, ⟨Lc1, hQ1, l1, y1, z1⟩, st1⟩ := Jvm.LawKit.callS X0 hx (y := (⟨"com/example/meerkat/meerkat/formula/BinaryOperatorGroupsRightPinLaw", "pick", "(I)Lcom/example/meerkat/meerkat/formula/Formula$BinaryOperator;"⟩ : MethodName)) hown (mvT hZ (hw _ (List.mem_of_getElem? (i := 1) rfl))) (mvT hZ (hw _ (List.mem_of_getElem? (i := 2) rfl))) (mvT hZ (hw _ (List.mem_of_getElem? (i := 3) rfl))) (mvT hZ (hw _ (List.mem_of_getElem? (i := 4) rfl))) (by decide) (backOf (W := 0) (rm_pick l Z a0 hw [] (4 : Int32) w_IMPLIES w_OR w_AND w_SINCE_IN_SESSION w_SINCE_ACROSS_SESSIONS h0 n0 SS) hZ (hw _ (List.mem_of_getElem? (i := 4) rfl)) (hw _ (List.mem_of_getElem? (i := 3) rfl)) (by decide) (by decide)) (g := (mkF m 15 #[.val (.int p1), .val (.int p2), .val (.int (4 : Int32)), .val (.int ((p2 &&& (2147483647 : Int32)) % (5 : Int32))), .unset, .unset, .unset, .unset, .unset, .unset, .unset] [(.int (4 : Int32))])) rfl (by rw [hml]; rfl) (argsL := [(.int (4 : Int32))]) (rest := []) (lenOf pd_0 rfl) rfl (by show 2 * 0 + _ ≤ _; exact Nat.le_of_eq rfl) (hb hby at_15) (fun _ _ => ⟨rfl, e0, (by decide : 0 + 0 ≤ _), (by decide : 0 + 0 ≤ _)⟩)
  dsimp only [Pt.U, Pt.locs, Pt.cells, Pt.slots] at X1 l1 y1 z1 st1 hQ1
  subst l1 y1 z1
  obtain ⟨hv1, N1q, e1⟩ := hQ1
  rw [show ((.ref (own_pick w_IMPLIES w_SINCE_IN_SESSION w_SINCE_ACROSS_SESSIONS w_OR w_AND (4 : Int32))) : Value) = (.ref w_AND) from rfl] at hv1
  subst hv1
  have N1 := Fr.app N0 N1q
  refine own_go (fun t k => st1 t k) ?_
  show Go p.tables e below _ (T1.setTop (mkF m 18 #[.val (.int p1), .val (.int p2), .val (.int (4 : Int32)), .val (.int ((p2 &&& (2147483647 : Int32)) % (5 : Int32))), .unset, .unset, .unset, .unset, .unset, .unset, .unset] [(.ref w_AND)]))
  refine own_go (fun t k => XS.astore X1.here hx rfl (hb hby at_18) rfl rfl (l' := #[.val (.int p1), .val (.int p2), .val (.int (4 : Int32)), .val (.int ((p2 &&& (2147483647 : Int32)) % (5 : Int32))), .val (.ref w_AND), .unset, .unset, .unset, .unset, .unset, .unset]) rfl k) ?_
  show Go p.tables e below _ (T1.setTop (mkF m 20 #[.val (.int p1), .val (.int p2), .val (.int (4 : Int32)), .val (.int ((p2 &&& (2147483647 : Int32)) % (5 : Int32))), .val (.ref w_AND), .unset, .unset, .unset, .unset, .unset, .unset] []))
  refine own_go (fun t k => XS.iloadN X1.here hx rfl (hb hby at_20) rfl k) ?_
  show Go p.tables e below _ (T1.setTop (mkF m 21 #[.val (.int p1), .val (.int p2), .val (.int (4 : Int32)), .val (.int ((p2 &&& (2147483647 : Int32)) % (5 : Int32))), .val (.ref w_AND), .unset, .unset, .unset, .unset, .unset, .unset] [(.int ((p2 &&& (2147483647 : Int32)) % (5 : Int32)))]))
  obtain ⟨v2, _, ⟨T2, L2, k2, n2⟩, -, X2, ⟨Lc2, hQ2, l2, y2, z2⟩, st2⟩ := Jvm.LawKit.callS X1 hx (y := (⟨"com/example/meerkat/meerkat/formula/BinaryOperatorGroupsRightPinLaw", "pick", "(I)Lcom/example/meerkat/meerkat/formula/Formula$BinaryOperator;"⟩ : MethodName)) hown (mvT hZ (hw _ (List.mem_of_getElem? (i := 1) rfl))) (mvT hZ (hw _ (List.mem_of_getElem? (i := 2) rfl))) (mvT hZ (hw _ (List.mem_of_getElem? (i := 3) rfl))) (mvT hZ (hw _ (List.mem_of_getElem? (i := 4) rfl))) (by decide) (backOf (W := 0) (rm_pick l Z a0 hw [] ((p2 &&& (2147483647 : Int32)) % (5 : Int32)) w_IMPLIES w_OR w_AND w_SINCE_IN_SESSION w_SINCE_ACROSS_SESSIONS h0 n0 SS) hZ (hw _ (List.mem_of_getElem? (i := 4) rfl)) (hw _ (List.mem_of_getElem? (i := 3) rfl)) (by decide) (by decide)) (g := (mkF m 21 #[.val (.int p1), .val (.int p2), .val (.int (4 : Int32)), .val (.int ((p2 &&& (2147483647 : Int32)) % (5 : Int32))), .val (.ref w_AND), .unset, .unset, .unset, .unset, .unset, .unset] [(.int ((p2 &&& (2147483647 : Int32)) % (5 : Int32)))])) rfl (by rw [hml]; rfl) (argsL := [(.int ((p2 &&& (2147483647 : Int32)) % (5 : Int32)))]) (rest := []) (lenOf pd_0 rfl) rfl (by show 2 * 0 + _ ≤ _; exact Nat.le_of_eq rfl) (hb hby at_21) (fun _ _ => ⟨rfl, e1, (by decide : 0 + 0 ≤ _), (by decide : 0 + 0 ≤ _)⟩)
  dsimp only [Pt.U, Pt.locs, Pt.cells, Pt.slots] at X2 l2 y2 z2 st2 hQ2
  subst l2 y2 z2
  obtain ⟨hv2, N2q, e2⟩ := hQ2
  rw [show ((.ref (own_pick w_IMPLIES w_SINCE_IN_SESSION w_SINCE_ACROSS_SESSIONS w_OR w_AND ((p2 &&& (2147483647 : Int32)) % (5 : Int32)))) : Value) = (.ref w_y) from congrArg Value.ref q2] at hv2
  subst hv2
  have N2 := Fr.app N1 N2q
  refine own_go (fun t k => st2 t k) ?_
  show Go p.tables e below _ (T2.setTop (mkF m 24 #[.val (.int p1), .val (.int p2), .val (.int (4 : Int32)), .val (.int ((p2 &&& (2147483647 : Int32)) % (5 : Int32))), .val (.ref w_AND), .unset, .unset, .unset, .unset, .unset, .unset] [(.ref w_y)]))
  refine own_go (fun t k => XS.astore X2.here hx rfl (hb hby at_24) rfl rfl (l' := #[.val (.int p1), .val (.int p2), .val (.int (4 : Int32)), .val (.int ((p2 &&& (2147483647 : Int32)) % (5 : Int32))), .val (.ref w_AND), .val (.ref w_y), .unset, .unset, .unset, .unset, .unset]) rfl k) ?_
  show Go p.tables e below _ (T2.setTop (mkF m 26 #[.val (.int p1), .val (.int p2), .val (.int (4 : Int32)), .val (.int ((p2 &&& (2147483647 : Int32)) % (5 : Int32))), .val (.ref w_AND), .val (.ref w_y), .unset, .unset, .unset, .unset, .unset] []))
  refine own_go (fun t k => XS.aload X2.here hx rfl (hb hby at_26) rfl rfl k) ?_
  show Go p.tables e below _ (T2.setTop (mkF m 28 #[.val (.int p1), .val (.int p2), .val (.int (4 : Int32)), .val (.int ((p2 &&& (2147483647 : Int32)) % (5 : Int32))), .val (.ref w_AND), .val (.ref w_y), .unset, .unset, .unset, .unset, .unset] [(.ref w_AND)]))
  obtain ⟨cq3, kq3, q3a, q3b, q3c⟩ := isOf hZ e2 E_AND
  obtain ⟨v3, _, ⟨T3, L3, k3, n3⟩, -, X3, ⟨Lc3, hQ3, l3, y3, z3⟩, st3⟩ := X2.virtualBack hx (y := (⟨"com/example/meerkat/meerkat/formula/Formula$BinaryOperator", "groupsRight", "()Z"⟩ : MethodName)) (z := (⟨"com/example/meerkat/meerkat/formula/Formula$BinaryOperator", "groupsRight", "()Z"⟩ : MethodName)) hown (mvT hZ (hw _ (List.mem_of_getElem? (i := 10) rfl))) (mvT hZ (hw _ (List.mem_of_getElem? (i := 11) rfl))) (notFace_of_selects (args := #[]) (mvT hZ (hw _ (List.mem_of_getElem? (i := 13) rfl)))) (mvT hZ (hw _ (List.mem_of_getElem? (i := 13) rfl))) (mvT hZ (hw _ (List.mem_of_getElem? (i := 12) rfl))) (by decide) (backOf (W := 0) (rm_grp l Z a0 hw [] w_AND w_IMPLIES w_OR w_AND w_SINCE_IN_SESSION w_SINCE_ACROSS_SESSIONS h0 n0 SS) hZ (hw _ (List.mem_of_getElem? (i := 14) rfl)) (hw _ (List.mem_of_getElem? (i := 6) rfl)) (by decide) (by decide)) q3a q3c (g := (mkF m 28 #[.val (.int p1), .val (.int p2), .val (.int (4 : Int32)), .val (.int ((p2 &&& (2147483647 : Int32)) % (5 : Int32))), .val (.ref w_AND), .val (.ref w_y), .unset, .unset, .unset, .unset, .unset] [(.ref w_AND)])) rfl (by rw [hml]; rfl) (Steps.refl _) (argsL := []) (rest := []) (lenOf pd_1 rfl) rfl (by show 2 * 0 + _ ≤ _; exact Nat.le_of_eq rfl) (hb hby at_28) (fun _ _ => ⟨rfl, e2, (by decide : 0 + 0 ≤ _), (by decide : 0 + 0 ≤ _)⟩)
  dsimp only [Pt.U, Pt.locs, Pt.cells, Pt.slots] at X3 l3 y3 z3 st3 hQ3
  subst l3 y3 z3
  obtain ⟨hv3, N3q, e3⟩ := hQ3
  rw [show ((.int (own_grp w_IMPLIES w_AND)) : Value) = (.int (0 : Int32)) from by simp [own_grp, nSINCE_IN_SESSION, nSINCE_ACROSS_SESSIONS, nOR, nAND]] at hv3
  subst hv3
  have N3 := Fr.app N2 N3q
  refine own_go (fun t k => st3.trans k) ?_
  show Go p.tables e below _ (T3.setTop (mkF m 31 #[.val (.int p1), .val (.int p2), .val (.int (4 : Int32)), .val (.int ((p2 &&& (2147483647 : Int32)) % (5 : Int32))), .val (.ref w_AND), .val (.ref w_y), .unset, .unset, .unset, .unset, .unset] [(.int (0 : Int32))]))
  refine own_go (fun t k => XS.istore X3.here hx rfl (hb hby at_31) rfl (l' := #[.val (.int p1), .val (.int p2), .val (.int (4 : Int32)), .val (.int ((p2 &&& (2147483647 : Int32)) % (5 : Int32))), .val (.ref w_AND), .val (.ref w_y), .val (.int (0 : Int32)), .unset, .unset, .unset, .unset]) rfl k) ?_
  show Go p.tables e below _ (T3.setTop (mkF m 33 #[.val (.int p1), .val (.int p2), .val (.int (4 : Int32)), .val (.int ((p2 &&& (2147483647 : Int32)) % (5 : Int32))), .val (.ref w_AND), .val (.ref w_y), .val (.int (0 : Int32)), .unset, .unset, .unset, .unset] []))
  refine own_go (fun t k => XS.aload X3.here hx rfl (hb hby at_33) rfl rfl k) ?_
  show Go p.tables e below _ (T3.setTop (mkF m 35 #[.val (.int p1), .val (.int p2), .val (.int (4 : Int32)), .val (.int ((p2 &&& (2147483647 : Int32)) % (5 : Int32))), .val (.ref w_AND), .val (.ref w_y), .val (.int (0 : Int32)), .unset, .unset, .unset, .unset] [(.ref w_y)]))
  obtain ⟨cq4, kq4, q4a, q4b, q4c⟩ := isOf hZ e3 E_y
  obtain ⟨v4, _, ⟨T4, L4, k4, n4⟩, -, X4, ⟨Lc4, hQ4, l4, y4, z4⟩, st4⟩ := X3.virtualBack hx (y := (⟨"com/example/meerkat/meerkat/formula/Formula$BinaryOperator", "groupsRight", "()Z"⟩ : MethodName)) (z := (⟨"com/example/meerkat/meerkat/formula/Formula$BinaryOperator", "groupsRight", "()Z"⟩ : MethodName)) hown (mvT hZ (hw _ (List.mem_of_getElem? (i := 10) rfl))) (mvT hZ (hw _ (List.mem_of_getElem? (i := 11) rfl))) (notFace_of_selects (args := #[]) (mvT hZ (hw _ (List.mem_of_getElem? (i := 13) rfl)))) (mvT hZ (hw _ (List.mem_of_getElem? (i := 13) rfl))) (mvT hZ (hw _ (List.mem_of_getElem? (i := 12) rfl))) (by decide) (backOf (W := 0) (rm_grp l Z a0 hw [] w_y w_IMPLIES w_OR w_AND w_SINCE_IN_SESSION w_SINCE_ACROSS_SESSIONS h0 n0 SS) hZ (hw _ (List.mem_of_getElem? (i := 14) rfl)) (hw _ (List.mem_of_getElem? (i := 6) rfl)) (by decide) (by decide)) q4a q4c (g := (mkF m 35 #[.val (.int p1), .val (.int p2), .val (.int (4 : Int32)), .val (.int ((p2 &&& (2147483647 : Int32)) % (5 : Int32))), .val (.ref w_AND), .val (.ref w_y), .val (.int (0 : Int32)), .unset, .unset, .unset, .unset] [(.ref w_y)])) rfl (by rw [hml]; rfl) (Steps.refl _) (argsL := []) (rest := []) (lenOf pd_1 rfl) rfl (by show 2 * 0 + _ ≤ _; exact Nat.le_of_eq rfl) (hb hby at_35) (fun _ _ => ⟨rfl, e3, (by decide : 0 + 0 ≤ _), (by decide : 0 + 0 ≤ _)⟩)
  dsimp only [Pt.U, Pt.locs, Pt.cells, Pt.slots] at X4 l4 y4 z4 st4 hQ4
  subst l4 y4 z4
  obtain ⟨hv4, N4q, e4⟩ := hQ4
  rw [show ((.int (own_grp w_IMPLIES w_y)) : Value) = (.int g_y) from congrArg Value.int hg] at hv4
  subst hv4
  have N4 := Fr.app N3 N4q
  refine own_go (fun t k => st4.trans k) ?_
  show Go p.tables e below _ (T4.setTop (mkF m 38 #[.val (.int p1), .val (.int p2), .val (.int (4 : Int32)), .val (.int ((p2 &&& (2147483647 : Int32)) % (5 : Int32))), .val (.ref w_AND), .val (.ref w_y), .val (.int (0 : Int32)), .unset, .unset, .unset, .unset] [(.int g_y)]))
  refine own_go (fun t k => XS.istore X4.here hx rfl (hb hby at_38) rfl (l' := #[.val (.int p1), .val (.int p2), .val (.int (4 : Int32)), .val (.int ((p2 &&& (2147483647 : Int32)) % (5 : Int32))), .val (.ref w_AND), .val (.ref w_y), .val (.int (0 : Int32)), .val (.int g_y), .unset, .unset, .unset]) rfl k) ?_
  show Go p.tables e below _ (T4.setTop (mkF m 40 #[.val (.int p1), .val (.int p2), .val (.int (4 : Int32)), .val (.int ((p2 &&& (2147483647 : Int32)) % (5 : Int32))), .val (.ref w_AND), .val (.ref w_y), .val (.int (0 : Int32)), .val (.int g_y), .unset, .unset, .unset] []))
  refine own_go (fun t k => XS.iloadN X4.here hx rfl (hb hby at_40) rfl k) ?_
  show Go p.tables e below _ (T4.setTop (mkF m 41 #[.val (.int p1), .val (.int p2), .val (.int (4 : Int32)), .val (.int ((p2 &&& (2147483647 : Int32)) % (5 : Int32))), .val (.ref w_AND), .val (.ref w_y), .val (.int (0 : Int32)), .val (.int g_y), .unset, .unset, .unset] [(.int (4 : Int32))]))
  refine own_go (fun t k => XS.ifYes X4.here hx rfl (pc0 := 41) (pc' := 48) rfl (hb hby at_41) rfl (XT.i0_ne_t (by decide)) (by decide) (by decide) k) ?_
  show Go p.tables e below _ (T4.setTop (mkF m 48 #[.val (.int p1), .val (.int p2), .val (.int (4 : Int32)), .val (.int ((p2 &&& (2147483647 : Int32)) % (5 : Int32))), .val (.ref w_AND), .val (.ref w_y), .val (.int (0 : Int32)), .val (.int g_y), .unset, .unset, .unset] []))
  refine own_go (fun t k => XS.iconst X4.here hx rfl (hb hby at_48) k) ?_
  show Go p.tables e below _ (T4.setTop (mkF m 49 #[.val (.int p1), .val (.int p2), .val (.int (4 : Int32)), .val (.int ((p2 &&& (2147483647 : Int32)) % (5 : Int32))), .val (.ref w_AND), .val (.ref w_y), .val (.int (0 : Int32)), .val (.int g_y), .unset, .unset, .unset] [(.int (0 : Int32))]))
  refine own_go (fun t k => XS.istore X4.here hx rfl (hb hby at_49) rfl (l' := #[.val (.int p1), .val (.int p2), .val (.int (4 : Int32)), .val (.int ((p2 &&& (2147483647 : Int32)) % (5 : Int32))), .val (.ref w_AND), .val (.ref w_y), .val (.int (0 : Int32)), .val (.int g_y), .val (.int (0 : Int32)), .unset, .unset]) rfl k) ?_
  show Go p.tables e below _ (T4.setTop (mkF m 51 #[.val (.int p1), .val (.int p2), .val (.int (4 : Int32)), .val (.int ((p2 &&& (2147483647 : Int32)) % (5 : Int32))), .val (.ref w_AND), .val (.ref w_y), .val (.int (0 : Int32)), .val (.int g_y), .val (.int (0 : Int32)), .unset, .unset] []))
  refine own_go (fun t k => XS.iload X4.here hx rfl (hb hby at_51) rfl k) ?_
  show Go p.tables e below _ (T4.setTop (mkF m 53 #[.val (.int p1), .val (.int p2), .val (.int (4 : Int32)), .val (.int ((p2 &&& (2147483647 : Int32)) % (5 : Int32))), .val (.ref w_AND), .val (.ref w_y), .val (.int (0 : Int32)), .val (.int g_y), .val (.int (0 : Int32)), .unset, .unset] [(.int (0 : Int32))]))
  refine own_go (fun t k => XS.iload X4.here hx rfl (hb hby at_53) rfl k) ?_
  show Go p.tables e below _ (T4.setTop (mkF m 55 #[.val (.int p1), .val (.int p2), .val (.int (4 : Int32)), .val (.int ((p2 &&& (2147483647 : Int32)) % (5 : Int32))), .val (.ref w_AND), .val (.ref w_y), .val (.int (0 : Int32)), .val (.int g_y), .val (.int (0 : Int32)), .unset, .unset] [(.int (0 : Int32)), (.int (0 : Int32))]))
  refine own_go (fun t k => XS.icmpNo X4.here hx rfl (hb hby at_55) rfl (XT.ii_ne_f (by decide)) k) ?_
  show Go p.tables e below _ (T4.setTop (mkF m 58 #[.val (.int p1), .val (.int p2), .val (.int (4 : Int32)), .val (.int ((p2 &&& (2147483647 : Int32)) % (5 : Int32))), .val (.ref w_AND), .val (.ref w_y), .val (.int (0 : Int32)), .val (.int g_y), .val (.int (0 : Int32)), .unset, .unset] []))
  refine own_go (fun t k => XS.iconst X4.here hx rfl (hb hby at_58) k) ?_
  show Go p.tables e below _ (T4.setTop (mkF m 59 #[.val (.int p1), .val (.int p2), .val (.int (4 : Int32)), .val (.int ((p2 &&& (2147483647 : Int32)) % (5 : Int32))), .val (.ref w_AND), .val (.ref w_y), .val (.int (0 : Int32)), .val (.int g_y), .val (.int (0 : Int32)), .unset, .unset] [(.int (1 : Int32))]))
  refine own_go (fun t k => XS.goto X4.here hx rfl (pc0 := 59) (pc' := 63) rfl (hb hby at_59) (by decide) (by decide) k) ?_
  show Go p.tables e below _ (T4.setTop (mkF m 63 #[.val (.int p1), .val (.int p2), .val (.int (4 : Int32)), .val (.int ((p2 &&& (2147483647 : Int32)) % (5 : Int32))), .val (.ref w_AND), .val (.ref w_y), .val (.int (0 : Int32)), .val (.int g_y), .val (.int (0 : Int32)), .unset, .unset] [(.int (1 : Int32))]))
  refine own_go (fun t k => XS.istore X4.here hx rfl (hb hby at_63) rfl (l' := #[.val (.int p1), .val (.int p2), .val (.int (4 : Int32)), .val (.int ((p2 &&& (2147483647 : Int32)) % (5 : Int32))), .val (.ref w_AND), .val (.ref w_y), .val (.int (0 : Int32)), .val (.int g_y), .val (.int (0 : Int32)), .val (.int (1 : Int32)), .unset]) rfl k) ?_
  show Go p.tables e below _ (T4.setTop (mkF m 65 #[.val (.int p1), .val (.int p2), .val (.int (4 : Int32)), .val (.int ((p2 &&& (2147483647 : Int32)) % (5 : Int32))), .val (.ref w_AND), .val (.ref w_y), .val (.int (0 : Int32)), .val (.int g_y), .val (.int (0 : Int32)), .val (.int (1 : Int32)), .unset] []))
  refine own_go (fun t k => XS.aload X4.here hx rfl (hb hby at_65) rfl rfl k) ?_
  show Go p.tables e below _ (T4.setTop (mkF m 67 #[.val (.int p1), .val (.int p2), .val (.int (4 : Int32)), .val (.int ((p2 &&& (2147483647 : Int32)) % (5 : Int32))), .val (.ref w_AND), .val (.ref w_y), .val (.int (0 : Int32)), .val (.int g_y), .val (.int (0 : Int32)), .val (.int (1 : Int32)), .unset] [(.ref w_AND)]))
  obtain ⟨cq5, kq5, q5a, q5b, q5c⟩ := isOf hZ e4 E_AND
  obtain ⟨v5, _, ⟨T5, L5, k5, n5⟩, -, X5, ⟨Lc5, hQ5, l5, y5, z5⟩, st5⟩ := X4.virtualBack hx (y := (⟨"com/example/meerkat/meerkat/formula/Formula$BinaryOperator", "precedence", "()I"⟩ : MethodName)) (z := (⟨"com/example/meerkat/meerkat/formula/Formula$BinaryOperator", "precedence", "()I"⟩ : MethodName)) hown (mvT hZ (hw _ (List.mem_of_getElem? (i := 16) rfl))) (mvT hZ (hw _ (List.mem_of_getElem? (i := 17) rfl))) (notFace_of_selects (args := #[]) (mvT hZ (hw _ (List.mem_of_getElem? (i := 19) rfl)))) (mvT hZ (hw _ (List.mem_of_getElem? (i := 19) rfl))) (mvT hZ (hw _ (List.mem_of_getElem? (i := 18) rfl))) (by decide) (backOf (W := 0) (rm_prec l Z a0 hw [] w_AND (4 : Int32) h0 n0 F_AND_precedence) hZ (hw _ (List.mem_of_getElem? (i := 20) rfl)) (hw _ (List.mem_of_getElem? (i := 6) rfl)) (by decide) (by decide)) q5a q5c (g := (mkF m 67 #[.val (.int p1), .val (.int p2), .val (.int (4 : Int32)), .val (.int ((p2 &&& (2147483647 : Int32)) % (5 : Int32))), .val (.ref w_AND), .val (.ref w_y), .val (.int (0 : Int32)), .val (.int g_y), .val (.int (0 : Int32)), .val (.int (1 : Int32)), .unset] [(.ref w_AND)])) rfl (by rw [hml]; rfl) (Steps.refl _) (argsL := []) (rest := []) (lenOf pd_2 rfl) rfl (by show 2 * 0 + _ ≤ _; exact Nat.le_of_eq rfl) (hb hby at_67) (fun _ _ => ⟨rfl, e4, (by decide : 0 + 0 ≤ _), (by decide : 0 + 0 ≤ _)⟩)
  dsimp only [Pt.U, Pt.locs, Pt.cells, Pt.slots] at X5 l5 y5 z5 st5 hQ5
  subst l5 y5 z5
  obtain ⟨hv5, N5q, e5⟩ := hQ5
  subst hv5
  have N5 := Fr.app N4 N5q
  refine own_go (fun t k => st5.trans k) ?_
  show Go p.tables e below _ (T5.setTop (mkF m 70 #[.val (.int p1), .val (.int p2), .val (.int (4 : Int32)), .val (.int ((p2 &&& (2147483647 : Int32)) % (5 : Int32))), .val (.ref w_AND), .val (.ref w_y), .val (.int (0 : Int32)), .val (.int g_y), .val (.int (0 : Int32)), .val (.int (1 : Int32)), .unset] [(.int (4 : Int32))]))
  refine own_go (fun t k => XS.aload X5.here hx rfl (hb hby at_70) rfl rfl k) ?_
  show Go p.tables e below _ (T5.setTop (mkF m 72 #[.val (.int p1), .val (.int p2), .val (.int (4 : Int32)), .val (.int ((p2 &&& (2147483647 : Int32)) % (5 : Int32))), .val (.ref w_AND), .val (.ref w_y), .val (.int (0 : Int32)), .val (.int g_y), .val (.int (0 : Int32)), .val (.int (1 : Int32)), .unset] [(.ref w_y), (.int (4 : Int32))]))
  obtain ⟨cq6, kq6, q6a, q6b, q6c⟩ := isOf hZ e5 E_y
  obtain ⟨v6, _, ⟨T6, L6, k6, n6⟩, -, X6, ⟨Lc6, hQ6, l6, y6, z6⟩, st6⟩ := X5.virtualBack hx (y := (⟨"com/example/meerkat/meerkat/formula/Formula$BinaryOperator", "precedence", "()I"⟩ : MethodName)) (z := (⟨"com/example/meerkat/meerkat/formula/Formula$BinaryOperator", "precedence", "()I"⟩ : MethodName)) hown (mvT hZ (hw _ (List.mem_of_getElem? (i := 16) rfl))) (mvT hZ (hw _ (List.mem_of_getElem? (i := 17) rfl))) (notFace_of_selects (args := #[]) (mvT hZ (hw _ (List.mem_of_getElem? (i := 19) rfl)))) (mvT hZ (hw _ (List.mem_of_getElem? (i := 19) rfl))) (mvT hZ (hw _ (List.mem_of_getElem? (i := 18) rfl))) (by decide) (backOf (W := 1) (rm_prec l Z a0 hw [] w_y z_y h0 n0 F_y_precedence) hZ (hw _ (List.mem_of_getElem? (i := 20) rfl)) (hw _ (List.mem_of_getElem? (i := 6) rfl)) (by decide) (by decide)) q6a q6c (g := (mkF m 72 #[.val (.int p1), .val (.int p2), .val (.int (4 : Int32)), .val (.int ((p2 &&& (2147483647 : Int32)) % (5 : Int32))), .val (.ref w_AND), .val (.ref w_y), .val (.int (0 : Int32)), .val (.int g_y), .val (.int (0 : Int32)), .val (.int (1 : Int32)), .unset] [(.ref w_y), (.int (4 : Int32))])) rfl (by rw [hml]; rfl) (Steps.refl _) (argsL := []) (rest := [(.int (4 : Int32))]) (lenOf pd_2 rfl) rfl (by show 2 * 0 + _ ≤ _; exact Nat.le_of_eq rfl) (hb hby at_72) (fun _ _ => ⟨rfl, e5, (by decide : 0 + 0 ≤ _), (by decide : 0 + 0 ≤ _)⟩)
  dsimp only [Pt.U, Pt.locs, Pt.cells, Pt.slots] at X6 l6 y6 z6 st6 hQ6
  subst l6 y6 z6
  obtain ⟨hv6, N6q, e6⟩ := hQ6
  subst hv6
  have N6 := Fr.app N5 N6q
  refine own_go (fun t k => st6.trans k) ?_
  show Go p.tables e below _ (T6.setTop (mkF m 75 #[.val (.int p1), .val (.int p2), .val (.int (4 : Int32)), .val (.int ((p2 &&& (2147483647 : Int32)) % (5 : Int32))), .val (.ref w_AND), .val (.ref w_y), .val (.int (0 : Int32)), .val (.int g_y), .val (.int (0 : Int32)), .val (.int (1 : Int32)), .unset] [(.int z_y), (.int (4 : Int32))]))
  by_cases hc7 : (4 : Int32) = z_y
  · refine own_go (fun t k => XS.icmpNo X6.here hx rfl (hb hby at_75) rfl (XT.ii_ne_f hc7) k) ?_
    show Go p.tables e below _ (T6.setTop (mkF m 78 #[.val (.int p1), .val (.int p2), .val (.int (4 : Int32)), .val (.int ((p2 &&& (2147483647 : Int32)) % (5 : Int32))), .val (.ref w_AND), .val (.ref w_y), .val (.int (0 : Int32)), .val (.int g_y), .val (.int (0 : Int32)), .val (.int (1 : Int32)), .unset] []))
    refine own_go (fun t k => XS.iload X6.here hx rfl (hb hby at_78) rfl k) ?_
    show Go p.tables e below _ (T6.setTop (mkF m 80 #[.val (.int p1), .val (.int p2), .val (.int (4 : Int32)), .val (.int ((p2 &&& (2147483647 : Int32)) % (5 : Int32))), .val (.ref w_AND), .val (.ref w_y), .val (.int (0 : Int32)), .val (.int g_y), .val (.int (0 : Int32)), .val (.int (1 : Int32)), .unset] [(.int (0 : Int32))]))
    refine own_go (fun t k => XS.iload X6.here hx rfl (hb hby at_80) rfl k) ?_
    show Go p.tables e below _ (T6.setTop (mkF m 82 #[.val (.int p1), .val (.int p2), .val (.int (4 : Int32)), .val (.int ((p2 &&& (2147483647 : Int32)) % (5 : Int32))), .val (.ref w_AND), .val (.ref w_y), .val (.int (0 : Int32)), .val (.int g_y), .val (.int (0 : Int32)), .val (.int (1 : Int32)), .unset] [(.int g_y), (.int (0 : Int32))]))
    refine own_go (fun t k => XS.icmpNo X6.here hx rfl (hb hby at_82) rfl (XT.ii_ne_f (hpq hc7)) k) ?_
    show Go p.tables e below _ (T6.setTop (mkF m 85 #[.val (.int p1), .val (.int p2), .val (.int (4 : Int32)), .val (.int ((p2 &&& (2147483647 : Int32)) % (5 : Int32))), .val (.ref w_AND), .val (.ref w_y), .val (.int (0 : Int32)), .val (.int g_y), .val (.int (0 : Int32)), .val (.int (1 : Int32)), .unset] []))
    refine own_go (fun t k => XS.iconst X6.here hx rfl (hb hby at_85) k) ?_
    show Go p.tables e below _ (T6.setTop (mkF m 86 #[.val (.int p1), .val (.int p2), .val (.int (4 : Int32)), .val (.int ((p2 &&& (2147483647 : Int32)) % (5 : Int32))), .val (.ref w_AND), .val (.ref w_y), .val (.int (0 : Int32)), .val (.int g_y), .val (.int (0 : Int32)), .val (.int (1 : Int32)), .unset] [(.int (1 : Int32))]))
    refine own_go (fun t k => XS.goto X6.here hx rfl (pc0 := 86) (pc' := 90) rfl (hb hby at_86) (by decide) (by decide) k) ?_
    show Go p.tables e below _ (T6.setTop (mkF m 90 #[.val (.int p1), .val (.int p2), .val (.int (4 : Int32)), .val (.int ((p2 &&& (2147483647 : Int32)) % (5 : Int32))), .val (.ref w_AND), .val (.ref w_y), .val (.int (0 : Int32)), .val (.int g_y), .val (.int (0 : Int32)), .val (.int (1 : Int32)), .unset] [(.int (1 : Int32))]))
    refine own_go (fun t k => XS.istore X6.here hx rfl (hb hby at_90) rfl (l' := #[.val (.int p1), .val (.int p2), .val (.int (4 : Int32)), .val (.int ((p2 &&& (2147483647 : Int32)) % (5 : Int32))), .val (.ref w_AND), .val (.ref w_y), .val (.int (0 : Int32)), .val (.int g_y), .val (.int (0 : Int32)), .val (.int (1 : Int32)), .val (.int (1 : Int32))]) rfl k) ?_
    show Go p.tables e below _ (T6.setTop (mkF m 92 #[.val (.int p1), .val (.int p2), .val (.int (4 : Int32)), .val (.int ((p2 &&& (2147483647 : Int32)) % (5 : Int32))), .val (.ref w_AND), .val (.ref w_y), .val (.int (0 : Int32)), .val (.int g_y), .val (.int (0 : Int32)), .val (.int (1 : Int32)), .val (.int (1 : Int32))] []))
    refine own_go (fun t k => XS.iload X6.here hx rfl (hb hby at_92) rfl k) ?_
    show Go p.tables e below _ (T6.setTop (mkF m 94 #[.val (.int p1), .val (.int p2), .val (.int (4 : Int32)), .val (.int ((p2 &&& (2147483647 : Int32)) % (5 : Int32))), .val (.ref w_AND), .val (.ref w_y), .val (.int (0 : Int32)), .val (.int g_y), .val (.int (0 : Int32)), .val (.int (1 : Int32)), .val (.int (1 : Int32))] [(.int (1 : Int32))]))
    refine own_go (fun t k => XS.ifNo X6.here hx rfl (hb hby at_94) rfl (XT.i0_eq_f (by decide)) k) ?_
    show Go p.tables e below _ (T6.setTop (mkF m 97 #[.val (.int p1), .val (.int p2), .val (.int (4 : Int32)), .val (.int ((p2 &&& (2147483647 : Int32)) % (5 : Int32))), .val (.ref w_AND), .val (.ref w_y), .val (.int (0 : Int32)), .val (.int g_y), .val (.int (0 : Int32)), .val (.int (1 : Int32)), .val (.int (1 : Int32))] []))
    refine own_go (fun t k => XS.iload X6.here hx rfl (hb hby at_97) rfl k) ?_
    show Go p.tables e below _ (T6.setTop (mkF m 99 #[.val (.int p1), .val (.int p2), .val (.int (4 : Int32)), .val (.int ((p2 &&& (2147483647 : Int32)) % (5 : Int32))), .val (.ref w_AND), .val (.ref w_y), .val (.int (0 : Int32)), .val (.int g_y), .val (.int (0 : Int32)), .val (.int (1 : Int32)), .val (.int (1 : Int32))] [(.int (1 : Int32))]))
    refine own_go (fun t k => XS.ifNo X6.here hx rfl (hb hby at_99) rfl (XT.i0_eq_f (by decide)) k) ?_
    show Go p.tables e below _ (T6.setTop (mkF m 102 #[.val (.int p1), .val (.int p2), .val (.int (4 : Int32)), .val (.int ((p2 &&& (2147483647 : Int32)) % (5 : Int32))), .val (.ref w_AND), .val (.ref w_y), .val (.int (0 : Int32)), .val (.int g_y), .val (.int (0 : Int32)), .val (.int (1 : Int32)), .val (.int (1 : Int32))] []))
    refine own_go (fun t k => XS.iconst X6.here hx rfl (hb hby at_102) k) ?_
    show Go p.tables e below _ (T6.setTop (mkF m 103 #[.val (.int p1), .val (.int p2), .val (.int (4 : Int32)), .val (.int ((p2 &&& (2147483647 : Int32)) % (5 : Int32))), .val (.ref w_AND), .val (.ref w_y), .val (.int (0 : Int32)), .val (.int g_y), .val (.int (0 : Int32)), .val (.int (1 : Int32)), .val (.int (1 : Int32))] [(.int (1 : Int32))]))
    refine own_go (fun t k => XS.goto X6.here hx rfl (pc0 := 103) (pc' := 107) rfl (hb hby at_103) (by decide) (by decide) k) ?_
    show Go p.tables e below _ (T6.setTop (mkF m 107 #[.val (.int p1), .val (.int p2), .val (.int (4 : Int32)), .val (.int ((p2 &&& (2147483647 : Int32)) % (5 : Int32))), .val (.ref w_AND), .val (.ref w_y), .val (.int (0 : Int32)), .val (.int g_y), .val (.int (0 : Int32)), .val (.int (1 : Int32)), .val (.int (1 : Int32))] [(.int (1 : Int32))]))
    exact own_ret X6 hx hlk Bd.returns rfl (Or.inl ⟨rfl, Or.inr (Or.inl rfl), _, rfl⟩) (hb hby at_107) ⟨rfl, N6, e6⟩ (by decide) (by decide)
  · refine own_go (fun t k => XS.icmpYes X6.here hx rfl (pc0 := 75) (pc' := 85) rfl (hb hby at_75) rfl (XT.ii_ne_t hc7) (by decide) (by decide) k) ?_
    show Go p.tables e below _ (T6.setTop (mkF m 85 #[.val (.int p1), .val (.int p2), .val (.int (4 : Int32)), .val (.int ((p2 &&& (2147483647 : Int32)) % (5 : Int32))), .val (.ref w_AND), .val (.ref w_y), .val (.int (0 : Int32)), .val (.int g_y), .val (.int (0 : Int32)), .val (.int (1 : Int32)), .unset] []))
    refine own_go (fun t k => XS.iconst X6.here hx rfl (hb hby at_85) k) ?_
    show Go p.tables e below _ (T6.setTop (mkF m 86 #[.val (.int p1), .val (.int p2), .val (.int (4 : Int32)), .val (.int ((p2 &&& (2147483647 : Int32)) % (5 : Int32))), .val (.ref w_AND), .val (.ref w_y), .val (.int (0 : Int32)), .val (.int g_y), .val (.int (0 : Int32)), .val (.int (1 : Int32)), .unset] [(.int (1 : Int32))]))
    refine own_go (fun t k => XS.goto X6.here hx rfl (pc0 := 86) (pc' := 90) rfl (hb hby at_86) (by decide) (by decide) k) ?_
    show Go p.tables e below _ (T6.setTop (mkF m 90 #[.val (.int p1), .val (.int p2), .val (.int (4 : Int32)), .val (.int ((p2 &&& (2147483647 : Int32)) % (5 : Int32))), .val (.ref w_AND), .val (.ref w_y), .val (.int (0 : Int32)), .val (.int g_y), .val (.int (0 : Int32)), .val (.int (1 : Int32)), .unset] [(.int (1 : Int32))]))
    refine own_go (fun t k => XS.istore X6.here hx rfl (hb hby at_90) rfl (l' := #[.val (.int p1), .val (.int p2), .val (.int (4 : Int32)), .val (.int ((p2 &&& (2147483647 : Int32)) % (5 : Int32))), .val (.ref w_AND), .val (.ref w_y), .val (.int (0 : Int32)), .val (.int g_y), .val (.int (0 : Int32)), .val (.int (1 : Int32)), .val (.int (1 : Int32))]) rfl k) ?_
    show Go p.tables e below _ (T6.setTop (mkF m 92 #[.val (.int p1), .val (.int p2), .val (.int (4 : Int32)), .val (.int ((p2 &&& (2147483647 : Int32)) % (5 : Int32))), .val (.ref w_AND), .val (.ref w_y), .val (.int (0 : Int32)), .val (.int g_y), .val (.int (0 : Int32)), .val (.int (1 : Int32)), .val (.int (1 : Int32))] []))
    refine own_go (fun t k => XS.iload X6.here hx rfl (hb hby at_92) rfl k) ?_
    show Go p.tables e below _ (T6.setTop (mkF m 94 #[.val (.int p1), .val (.int p2), .val (.int (4 : Int32)), .val (.int ((p2 &&& (2147483647 : Int32)) % (5 : Int32))), .val (.ref w_AND), .val (.ref w_y), .val (.int (0 : Int32)), .val (.int g_y), .val (.int (0 : Int32)), .val (.int (1 : Int32)), .val (.int (1 : Int32))] [(.int (1 : Int32))]))
    refine own_go (fun t k => XS.ifNo X6.here hx rfl (hb hby at_94) rfl (XT.i0_eq_f (by decide)) k) ?_
    show Go p.tables e below _ (T6.setTop (mkF m 97 #[.val (.int p1), .val (.int p2), .val (.int (4 : Int32)), .val (.int ((p2 &&& (2147483647 : Int32)) % (5 : Int32))), .val (.ref w_AND), .val (.ref w_y), .val (.int (0 : Int32)), .val (.int g_y), .val (.int (0 : Int32)), .val (.int (1 : Int32)), .val (.int (1 : Int32))] []))
    refine own_go (fun t k => XS.iload X6.here hx rfl (hb hby at_97) rfl k) ?_
    show Go p.tables e below _ (T6.setTop (mkF m 99 #[.val (.int p1), .val (.int p2), .val (.int (4 : Int32)), .val (.int ((p2 &&& (2147483647 : Int32)) % (5 : Int32))), .val (.ref w_AND), .val (.ref w_y), .val (.int (0 : Int32)), .val (.int g_y), .val (.int (0 : Int32)), .val (.int (1 : Int32)), .val (.int (1 : Int32))] [(.int (1 : Int32))]))
    refine own_go (fun t k => XS.ifNo X6.here hx rfl (hb hby at_99) rfl (XT.i0_eq_f (by decide)) k) ?_
    show Go p.tables e below _ (T6.setTop (mkF m 102 #[.val (.int p1), .val (.int p2), .val (.int (4 : Int32)), .val (.int ((p2 &&& (2147483647 : Int32)) % (5 : Int32))), .val (.ref w_AND), .val (.ref w_y), .val (.int (0 : Int32)), .val (.int g_y), .val (.int (0 : Int32)), .val (.int (1 : Int32)), .val (.int (1 : Int32))] []))
    refine own_go (fun t k => XS.iconst X6.here hx rfl (hb hby at_102) k) ?_
    show Go p.tables e below _ (T6.setTop (mkF m 103 #[.val (.int p1), .val (.int p2), .val (.int (4 : Int32)), .val (.int ((p2 &&& (2147483647 : Int32)) % (5 : Int32))), .val (.ref w_AND), .val (.ref w_y), .val (.int (0 : Int32)), .val (.int g_y), .val (.int (0 : Int32)), .val (.int (1 : Int32)), .val (.int (1 : Int32))] [(.int (1 : Int32))]))
    refine own_go (fun t k => XS.goto X6.here hx rfl (pc0 := 103) (pc' := 107) rfl (hb hby at_103) (by decide) (by decide) k) ?_
    show Go p.tables e below _ (T6.setTop (mkF m 107 #[.val (.int p1), .val (.int p2), .val (.int (4 : Int32)), .val (.int ((p2 &&& (2147483647 : Int32)) % (5 : Int32))), .val (.ref w_AND), .val (.ref w_y), .val (.int (0 : Int32)), .val (.int g_y), .val (.int (0 : Int32)), .val (.int (1 : Int32)), .val (.int (1 : Int32))] [(.int (1 : Int32))]))
    exact own_ret X6 hx hlk Bd.returns rfl (Or.inl ⟨rfl, Or.inr (Or.inl rfl), _, rfl⟩) (hb hby at_107) ⟨rfl, N6, e6⟩ (by decide) (by decide)
set_option maxRecDepth 65536 in
theorem rm_law (l : Launch) (Z : State) (a0 : Array Value) (hw : ∀ d ∈ tables_1, d.before a0 Z = true) (ws : List Jvm.Cond) (p1 p2 : Int32) (w_IMPLIES w_OR w_AND w_SINCE_IN_SESSION w_SINCE_ACROSS_SESSIONS : Addr) (h0 : Heap) (n0 : Nat) (SS : own_S Z h0 w_IMPLIES w_OR w_AND w_SINCE_IN_SESSION w_SINCE_ACROSS_SESSIONS) (EE : own_E Z h0 w_IMPLIES w_OR w_AND w_SINCE_IN_SESSION w_SINCE_ACROSS_SESSIONS) (OO : own_O Z h0 w_IMPLIES w_OR w_AND w_SINCE_IN_SESSION w_SINCE_ACROSS_SESSIONS) :
    MetFree l x (head1 (Jvm.Cond.code x code maxLocals ret :: ws) room_1) (fun aa U => aa = #[(.int p1), (.int p2)] ∧ Z.Warmed39 U.vm ∧ U.heap = h0) (fun _ _ _ _ _ => True) (fun _ U o U' => ∃ v L, o = .returned v ∧ PQ (.int 1) h0 n0 v U'.heap L ∧ FrameEnd U o U' L room_1.cells room_1.slots) := by
  have SS' := SS
  have EE' := EE
  have OO' := OO
  obtain ⟨S_IMPLIES, S_OR, S_AND, S_SINCE_IN_SESSION, S_SINCE_ACROSS_SESSIONS⟩ := SS'
  obtain ⟨E_IMPLIES, E_OR, E_AND, E_SINCE_IN_SESSION, E_SINCE_ACROSS_SESSIONS⟩ := EE'
  obtain ⟨F_OR_ordinal, F_IMPLIES_ordinal, F_IMPLIES_precedence, F_OR_precedence, F_AND_ordinal, F_SINCE_IN_SESSION_ordinal, F_AND_precedence, F_SINCE_IN_SESSION_precedence, F_SINCE_ACROSS_SESSIONS_ordinal, F_SINCE_ACROSS_SESSIONS_precedence⟩ := OO'
  have nSINCE_IN_SESSION : w_SINCE_IN_SESSION ≠ w_IMPLIES := (own_ne F_SINCE_IN_SESSION_ordinal F_IMPLIES_ordinal (by decide))
  have nSINCE_ACROSS_SESSIONS : w_SINCE_ACROSS_SESSIONS ≠ w_IMPLIES := (own_ne F_SINCE_ACROSS_SESSIONS_ordinal F_IMPLIES_ordinal (by decide))
  have nOR : w_OR ≠ w_IMPLIES := (own_ne F_OR_ordinal F_IMPLIES_ordinal (by decide))
  have nAND : w_AND ≠ w_IMPLIES := (own_ne F_AND_ordinal F_IMPLIES_ordinal (by decide))
  rcases own_cases p1 with q1 | q1 | q1 | q1 | q1 <;> rcases own_cases p2 with q2 | q2 | q2 | q2 | q2
  · exact rm_law_0 l Z a0 hw ws p1 p2 w_IMPLIES w_OR w_AND w_SINCE_IN_SESSION w_SINCE_ACROSS_SESSIONS w_IMPLIES 1 1 h0 n0 SS EE OO q1 (by rw [q2]; rfl) E_IMPLIES F_IMPLIES_precedence (by simp [own_grp, nSINCE_IN_SESSION, nSINCE_ACROSS_SESSIONS, nOR, nAND]) (by decide)
  · exact rm_law_0 l Z a0 hw ws p1 p2 w_IMPLIES w_OR w_AND w_SINCE_IN_SESSION w_SINCE_ACROSS_SESSIONS w_SINCE_IN_SESSION 2 0 h0 n0 SS EE OO q1 (by rw [q2]; rfl) E_SINCE_IN_SESSION F_SINCE_IN_SESSION_precedence (by simp [own_grp, nSINCE_IN_SESSION, nSINCE_ACROSS_SESSIONS, nOR, nAND]) (by decide)
  · exact rm_law_0 l Z a0 hw ws p1 p2 w_IMPLIES w_OR w_AND w_SINCE_IN_SESSION w_SINCE_ACROSS_SESSIONS w_SINCE_ACROSS_SESSIONS 2 0 h0 n0 SS EE OO q1 (by rw [q2]; rfl) E_SINCE_ACROSS_SESSIONS F_SINCE_ACROSS_SESSIONS_precedence (by simp [own_grp, nSINCE_IN_SESSION, nSINCE_ACROSS_SESSIONS, nOR, nAND]) (by decide)
  · exact rm_law_0 l Z a0 hw ws p1 p2 w_IMPLIES w_OR w_AND w_SINCE_IN_SESSION w_SINCE_ACROSS_SESSIONS w_OR 3 0 h0 n0 SS EE OO q1 (by rw [q2]; rfl) E_OR F_OR_precedence (by simp [own_grp, nSINCE_IN_SESSION, nSINCE_ACROSS_SESSIONS, nOR, nAND]) (by decide)
  · exact rm_law_0 l Z a0 hw ws p1 p2 w_IMPLIES w_OR w_AND w_SINCE_IN_SESSION w_SINCE_ACROSS_SESSIONS w_AND 4 0 h0 n0 SS EE OO q1 (by rw [q2]; rfl) E_AND F_AND_precedence (by simp [own_grp, nSINCE_IN_SESSION, nSINCE_ACROSS_SESSIONS, nOR, nAND]) (by decide)
  · exact rm_law_1 l Z a0 hw ws p1 p2 w_IMPLIES w_OR w_AND w_SINCE_IN_SESSION w_SINCE_ACROSS_SESSIONS w_IMPLIES 1 1 h0 n0 SS EE OO q1 (by rw [q2]; rfl) E_IMPLIES F_IMPLIES_precedence (by simp [own_grp, nSINCE_IN_SESSION, nSINCE_ACROSS_SESSIONS, nOR, nAND]) (by decide)
  · exact rm_law_1 l Z a0 hw ws p1 p2 w_IMPLIES w_OR w_AND w_SINCE_IN_SESSION w_SINCE_ACROSS_SESSIONS w_SINCE_IN_SESSION 2 0 h0 n0 SS EE OO q1 (by rw [q2]; rfl) E_SINCE_IN_SESSION F_SINCE_IN_SESSION_precedence (by simp [own_grp, nSINCE_IN_SESSION, nSINCE_ACROSS_SESSIONS, nOR, nAND]) (by decide)
  · exact rm_law_1 l Z a0 hw ws p1 p2 w_IMPLIES w_OR w_AND w_SINCE_IN_SESSION w_SINCE_ACROSS_SESSIONS w_SINCE_ACROSS_SESSIONS 2 0 h0 n0 SS EE OO q1 (by rw [q2]; rfl) E_SINCE_ACROSS_SESSIONS F_SINCE_ACROSS_SESSIONS_precedence (by simp [own_grp, nSINCE_IN_SESSION, nSINCE_ACROSS_SESSIONS, nOR, nAND]) (by decide)
  · exact rm_law_1 l Z a0 hw ws p1 p2 w_IMPLIES w_OR w_AND w_SINCE_IN_SESSION w_SINCE_ACROSS_SESSIONS w_OR 3 0 h0 n0 SS EE OO q1 (by rw [q2]; rfl) E_OR F_OR_precedence (by simp [own_grp, nSINCE_IN_SESSION, nSINCE_ACROSS_SESSIONS, nOR, nAND]) (by decide)
  · exact rm_law_1 l Z a0 hw ws p1 p2 w_IMPLIES w_OR w_AND w_SINCE_IN_SESSION w_SINCE_ACROSS_SESSIONS w_AND 4 0 h0 n0 SS EE OO q1 (by rw [q2]; rfl) E_AND F_AND_precedence (by simp [own_grp, nSINCE_IN_SESSION, nSINCE_ACROSS_SESSIONS, nOR, nAND]) (by decide)
  · exact rm_law_2 l Z a0 hw ws p1 p2 w_IMPLIES w_OR w_AND w_SINCE_IN_SESSION w_SINCE_ACROSS_SESSIONS w_IMPLIES 1 1 h0 n0 SS EE OO q1 (by rw [q2]; rfl) E_IMPLIES F_IMPLIES_precedence (by simp [own_grp, nSINCE_IN_SESSION, nSINCE_ACROSS_SESSIONS, nOR, nAND]) (by decide)
  · exact rm_law_2 l Z a0 hw ws p1 p2 w_IMPLIES w_OR w_AND w_SINCE_IN_SESSION w_SINCE_ACROSS_SESSIONS w_SINCE_IN_SESSION 2 0 h0 n0 SS EE OO q1 (by rw [q2]; rfl) E_SINCE_IN_SESSION F_SINCE_IN_SESSION_precedence (by simp [own_grp, nSINCE_IN_SESSION, nSINCE_ACROSS_SESSIONS, nOR, nAND]) (by decide)
  · exact rm_law_2 l Z a0 hw ws p1 p2 w_IMPLIES w_OR w_AND w_SINCE_IN_SESSION w_SINCE_ACROSS_SESSIONS w_SINCE_ACROSS_SESSIONS 2 0 h0 n0 SS EE OO q1 (by rw [q2]; rfl) E_SINCE_ACROSS_SESSIONS F_SINCE_ACROSS_SESSIONS_precedence (by simp [own_grp, nSINCE_IN_SESSION, nSINCE_ACROSS_SESSIONS, nOR, nAND]) (by decide)
  · exact rm_law_2 l Z a0 hw ws p1 p2 w_IMPLIES w_OR w_AND w_SINCE_IN_SESSION w_SINCE_ACROSS_SESSIONS w_OR 3 0 h0 n0 SS EE OO q1 (by rw [q2]; rfl) E_OR F_OR_precedence (by simp [own_grp, nSINCE_IN_SESSION, nSINCE_ACROSS_SESSIONS, nOR, nAND]) (by decide)
  · exact rm_law_2 l Z a0 hw ws p1 p2 w_IMPLIES w_OR w_AND w_SINCE_IN_SESSION w_SINCE_ACROSS_SESSIONS w_AND 4 0 h0 n0 SS EE OO q1 (by rw [q2]; rfl) E_AND F_AND_precedence (by simp [own_grp, nSINCE_IN_SESSION, nSINCE_ACROSS_SESSIONS, nOR, nAND]) (by decide)
  · exact rm_law_3 l Z a0 hw ws p1 p2 w_IMPLIES w_OR w_AND w_SINCE_IN_SESSION w_SINCE_ACROSS_SESSIONS w_IMPLIES 1 1 h0 n0 SS EE OO q1 (by rw [q2]; rfl) E_IMPLIES F_IMPLIES_precedence (by simp [own_grp, nSINCE_IN_SESSION, nSINCE_ACROSS_SESSIONS, nOR, nAND]) (by decide)
  · exact rm_law_3 l Z a0 hw ws p1 p2 w_IMPLIES w_OR w_AND w_SINCE_IN_SESSION w_SINCE_ACROSS_SESSIONS w_SINCE_IN_SESSION 2 0 h0 n0 SS EE OO q1 (by rw [q2]; rfl) E_SINCE_IN_SESSION F_SINCE_IN_SESSION_precedence (by simp [own_grp, nSINCE_IN_SESSION, nSINCE_ACROSS_SESSIONS, nOR, nAND]) (by decide)
  · exact rm_law_3 l Z a0 hw ws p1 p2 w_IMPLIES w_OR w_AND w_SINCE_IN_SESSION w_SINCE_ACROSS_SESSIONS w_SINCE_ACROSS_SESSIONS 2 0 h0 n0 SS EE OO q1 (by rw [q2]; rfl) E_SINCE_ACROSS_SESSIONS F_SINCE_ACROSS_SESSIONS_precedence (by simp [own_grp, nSINCE_IN_SESSION, nSINCE_ACROSS_SESSIONS, nOR, nAND]) (by decide)
  · exact rm_law_3 l Z a0 hw ws p1 p2 w_IMPLIES w_OR w_AND w_SINCE_IN_SESSION w_SINCE_ACROSS_SESSIONS w_OR 3 0 h0 n0 SS EE OO q1 (by rw [q2]; rfl) E_OR F_OR_precedence (by simp [own_grp, nSINCE_IN_SESSION, nSINCE_ACROSS_SESSIONS, nOR, nAND]) (by decide)
  · exact rm_law_3 l Z a0 hw ws p1 p2 w_IMPLIES w_OR w_AND w_SINCE_IN_SESSION w_SINCE_ACROSS_SESSIONS w_AND 4 0 h0 n0 SS EE OO q1 (by rw [q2]; rfl) E_AND F_AND_precedence (by simp [own_grp, nSINCE_IN_SESSION, nSINCE_ACROSS_SESSIONS, nOR, nAND]) (by decide)
  · exact rm_law_4 l Z a0 hw ws p1 p2 w_IMPLIES w_OR w_AND w_SINCE_IN_SESSION w_SINCE_ACROSS_SESSIONS w_IMPLIES 1 1 h0 n0 SS EE OO q1 (by rw [q2]; rfl) E_IMPLIES F_IMPLIES_precedence (by simp [own_grp, nSINCE_IN_SESSION, nSINCE_ACROSS_SESSIONS, nOR, nAND]) (by decide)
  · exact rm_law_4 l Z a0 hw ws p1 p2 w_IMPLIES w_OR w_AND w_SINCE_IN_SESSION w_SINCE_ACROSS_SESSIONS w_SINCE_IN_SESSION 2 0 h0 n0 SS EE OO q1 (by rw [q2]; rfl) E_SINCE_IN_SESSION F_SINCE_IN_SESSION_precedence (by simp [own_grp, nSINCE_IN_SESSION, nSINCE_ACROSS_SESSIONS, nOR, nAND]) (by decide)
  · exact rm_law_4 l Z a0 hw ws p1 p2 w_IMPLIES w_OR w_AND w_SINCE_IN_SESSION w_SINCE_ACROSS_SESSIONS w_SINCE_ACROSS_SESSIONS 2 0 h0 n0 SS EE OO q1 (by rw [q2]; rfl) E_SINCE_ACROSS_SESSIONS F_SINCE_ACROSS_SESSIONS_precedence (by simp [own_grp, nSINCE_IN_SESSION, nSINCE_ACROSS_SESSIONS, nOR, nAND]) (by decide)
  · exact rm_law_4 l Z a0 hw ws p1 p2 w_IMPLIES w_OR w_AND w_SINCE_IN_SESSION w_SINCE_ACROSS_SESSIONS w_OR 3 0 h0 n0 SS EE OO q1 (by rw [q2]; rfl) E_OR F_OR_precedence (by simp [own_grp, nSINCE_IN_SESSION, nSINCE_ACROSS_SESSIONS, nOR, nAND]) (by decide)
  · exact rm_law_4 l Z a0 hw ws p1 p2 w_IMPLIES w_OR w_AND w_SINCE_IN_SESSION w_SINCE_ACROSS_SESSIONS w_AND 4 0 h0 n0 SS EE OO q1 (by rw [q2]; rfl) E_AND F_AND_precedence (by simp [own_grp, nSINCE_IN_SESSION, nSINCE_ACROSS_SESSIONS, nOR, nAND]) (by decide)
set_option maxRecDepth 65536 in
set_option maxHeartbeats 40000000 in
theorem comes_1 {Post : Tables → Env → Array Value → State → Outcome → State → Prop} (hpost : ∀ tb e args s v u, (limb_1_1.after args s (.returned v) u = true ∧ limb_1_2.after args s (.returned v) u = true ∧ True) → FrameEnd s (.returned v) u (Jvm.fieldLocs frame_1_writes args s ++ Jvm.arrayLocs frame_1_arrays args s ++ Jvm.staticLocs frame_1_statics s) 0 0 → Post tb e args s (.returned v) u) :
    ArmFor flags0 classFile x code maxLocals ret World_1 tables_1 room_1 Calls_1 rest_1 Pre_1 Post := by
  intro l hfl _ _ p e ha hc hk s m args below hf hA hF happ hP
  obtain ⟨hcalls, hrest, hpre⟩ := hP
  obtain ⟨-, -, -, hnamed, -, -, -, hat⟩ := (Spec.applies_iff hf).mp happ
  obtain ⟨hg, hn⟩ := and_e (Cond.before_iff.mp (show (Jvm.Cond.and given_1 narrow_1).before args s = true from hpre))
  obtain ⟨gc, ga0⟩ := and_e hg
  obtain ⟨gi0, ga1⟩ := and_e ga0
  have gi1 := ga1
  obtain ⟨w0, w1, rfl⟩ : ∃ w0 w1 : Value, args = #[w0, w1] := by
    have hs : args.size = 2 := by simpa [Cond.value, given_1] using gc
    obtain ⟨L⟩ := args
    match L, hs with
    | [w0, w1], _ => exact ⟨w0, w1, rfl⟩
  have hw := fun d (hd : d ∈ tables_1) => atoms_spec (ws := Jvm.Cond.code x code maxLocals ret :: tables_1) hat d (List.mem_cons_of_mem _ hd)
  obtain ⟨i0, ei0⟩ := is_v gi0
  obtain rfl : w0 = (.int i0) := Option.some.inj ei0
  obtain ⟨i1, ei1⟩ := is_v gi1
  obtain rfl : w1 = (.int i1) := Option.some.inj ei1
  obtain ⟨c0, r0⟩ := and_e hn
  obtain ⟨c1, r1⟩ := and_e r0
  obtain ⟨c2, r2⟩ := and_e r1
  obtain ⟨c3, r3⟩ := and_e r2
  obtain ⟨c4, r4⟩ := and_e r3
  obtain ⟨c5, r5⟩ := and_e r4
  obtain ⟨c6, r6⟩ := and_e r5
  obtain ⟨c7, r7⟩ := and_e r6
  obtain ⟨c8, r8⟩ := and_e r7
  obtain ⟨c9, r9⟩ := and_e r8
  obtain ⟨c10, r10⟩ := and_e r9
  obtain ⟨c11, r11⟩ := and_e r10
  obtain ⟨c12, r12⟩ := and_e r11
  obtain ⟨c13, r13⟩ := and_e r12
  have c14 := r13
  obtain ⟨w_IMPLIES, ev_IMPLIES⟩ := exa_v c0
  have E_IMPLIES := Exa.start ev_IMPLIES c0
  have S_IMPLIES := Sta.start ev_IMPLIES (Or.inr ⟨(hw _ (List.mem_of_getElem? (i := 6) rfl)), (hw _ (List.mem_of_getElem? (i := 7) rfl))⟩)
  obtain ⟨w_OR, ev_OR⟩ := exa_v c1
  have E_OR := Exa.start ev_OR c1
  have S_OR := Sta.start ev_OR (Or.inr ⟨(hw _ (List.mem_of_getElem? (i := 6) rfl)), (hw _ (List.mem_of_getElem? (i := 9) rfl))⟩)
  obtain ⟨w_AND, ev_AND⟩ := exa_v c6
  have E_AND := Exa.start ev_AND c6
  have S_AND := Sta.start ev_AND (Or.inr ⟨(hw _ (List.mem_of_getElem? (i := 6) rfl)), (hw _ (List.mem_of_getElem? (i := 24) rfl))⟩)
  obtain ⟨w_SINCE_IN_SESSION, ev_SINCE_IN_SESSION⟩ := exa_v c7
  have E_SINCE_IN_SESSION := Exa.start ev_SINCE_IN_SESSION c7
  have S_SINCE_IN_SESSION := Sta.start ev_SINCE_IN_SESSION (Or.inr ⟨(hw _ (List.mem_of_getElem? (i := 6) rfl)), (hw _ (List.mem_of_getElem? (i := 26) rfl))⟩)
  obtain ⟨w_SINCE_ACROSS_SESSIONS, ev_SINCE_ACROSS_SESSIONS⟩ := exa_v c12
  have E_SINCE_ACROSS_SESSIONS := Exa.start ev_SINCE_ACROSS_SESSIONS c12
  have S_SINCE_ACROSS_SESSIONS := Sta.start ev_SINCE_ACROSS_SESSIONS (Or.inr ⟨(hw _ (List.mem_of_getElem? (i := 6) rfl)), (hw _ (List.mem_of_getElem? (i := 28) rfl))⟩)
  have F_OR_ordinal := own_fld ev_OR c2
  have F_IMPLIES_ordinal := own_fld ev_IMPLIES c3
  have F_IMPLIES_precedence := own_fld ev_IMPLIES c4
  have F_OR_precedence := own_fld ev_OR c5
  have F_AND_ordinal := own_fld ev_AND c8
  have F_SINCE_IN_SESSION_ordinal := own_fld ev_SINCE_IN_SESSION c9
  have F_AND_precedence := own_fld ev_AND c10
  have F_SINCE_IN_SESSION_precedence := own_fld ev_SINCE_IN_SESSION c11
  have F_SINCE_ACROSS_SESSIONS_ordinal := own_fld ev_SINCE_ACROSS_SESSIONS c13
  have F_SINCE_ACROSS_SESSIONS_precedence := own_fld ev_SINCE_ACROSS_SESSIONS c14
  obtain ⟨n, o, h1, h2, h3, _, L, rfl, ⟨rfl, N, -⟩, hq⟩ := rm_law l s _ hw tables_1 i0 i1 w_IMPLIES w_OR w_AND w_SINCE_IN_SESSION w_SINCE_ACROSS_SESSIONS s.heap s.heap.size ⟨S_IMPLIES, S_OR, S_AND, S_SINCE_IN_SESSION, S_SINCE_ACROSS_SESSIONS⟩ ⟨E_IMPLIES, E_OR, E_AND, E_SINCE_IN_SESSION, E_SINCE_ACROSS_SESSIONS⟩ ⟨F_OR_ordinal, F_IMPLIES_ordinal, F_IMPLIES_precedence, F_OR_precedence, F_AND_ordinal, F_SINCE_IN_SESSION_ordinal, F_AND_precedence, F_SINCE_IN_SESSION_precedence, F_SINCE_ACROSS_SESSIONS_ordinal, F_SINCE_ACROSS_SESSIONS_precedence⟩ p e ha hc hk s m _ below hf ((Spec.applies_iff_loose hf).mp happ).1 ⟨rfl, State.Warmed39.refl s, rfl⟩ trivial
  refine ⟨n, _, h1, h2, h3, hpost _ _ _ _ _ _ ⟨Cond.after_iff.mpr rfl, Cond.after_iff.mpr (eq_i res_at (Term.int_eval (1)) rfl), trivial⟩ ⟨hq.1, hq.2.1, (hq.2.2.sift fun y hy => Or.inr (N y hy)).mono (by decide) (by decide)⟩⟩
theorem main_1_1 : Claimed_1_1 := comes_1 fun _ _ _ _ _ _ h hF => ⟨h.1, hF⟩
theorem main_1_2 : Claimed_1_2 := comes_1 fun _ _ _ _ _ _ h hF => ⟨h.2.1, hF⟩
end Jvm.Pilot.@@N@@
namespace Jvm.Pilot.@@N@@
open Jvm Jvm.ClassFile Sem Op Lib Jvm.Free Jvm.Stand Jvm.Pilot.@@N@@.Jvm.D
/-! MADE BY PROGRAM (witnessworld.py) out of the Statement's table words and the real class files: 12 classes; the members and pool entries that the words name. The judged class is class 1, her method 2. -/
namespace start1
open Jvm.ClassFile
def u (s : String) : CpInfo := .utf8 (stringToUtf16 s)
/-- a pool by its gaps: so many unusable entries, then the entry; so many at the end -/
def gap : Nat → List CpInfo → List CpInfo
  | 0, r => r
  | n + 1, r => .unusable :: gap n r
def poolList (es : List (Nat × CpInfo)) (last : Nat) : List CpInfo := es.foldr (fun e r => gap e.1 (e.2 :: r)) (gap last [])
def pool (es : List (Nat × CpInfo)) (last : Nat) : Array CpInfo := ⟨poolList es last⟩
def fileOf (pool : Array CpInfo) (this : Nat) (attrs : Array Attribute := #[]) (ms : Array MethodInfo := #[]) (fl : Nat := 33) (sup : Nat := 0) (ifs : Array Nat := #[]) (fds : Array FieldInfo := #[]) : ClassFile where
  minorVersion := 0
  majorVersion := 65
  constantPool := pool
  accessFlags := fl
  thisClass := this
  superClass := sup
  interfaces := ifs
  fields := fds
  methods := ms
  attributes := attrs
def plain (name : String) (sup : Option ClassId) : Class where
  name := name
  kind := .ordinary
  loader := none
  accessFlags := 33
  super := sup
  interfaces := #[]
  cf := none
  fields := #[]
  methods := #[]
  instanceTypes := #[]
  staticTypes := #[]
  resolved := #[]
  callSites := []
  init := .initialized
  statics := none
  mirror := none

def pool0 : Array CpInfo := pool [(5, u "<init>"), (0, u "()V"), (1, .class_ 10), (1, u "java/lang/Object")] 113

def k0m0 : Method := { name := "<init>", desc := "()V", sig := { parameters := [], returnType := none }, accessFlags := 1, code := none }
/-- java/lang/Object -/
def k0 : Class := { plain "java/lang/Object" none with
  accessFlags := 33
  interfaces := #[]
  cf := some (fileOf pool0 8 #[] #[{ accessFlags := 1, nameIndex := 5, descriptorIndex := 6, attributes := #[] }] 33 0 #[] #[])
  fields := #[]
  methods := #[k0m0]
  instanceTypes := #[]
  staticTypes := #[]
  resolved := Array.replicate 124 none
  statics := none }

def pool1 : Array CpInfo := pool [(2, .class_ 4), (1, u "java/lang/Object"), (0, u "<init>"), (0, u "()V"), (0, .fieldref 8 9), (0, .class_ 10), (0, .nameAndType 11 12), (0, u "com/example/meerkat/meerkat/formula/Formula$BinaryOperator"), (0, u "IMPLIES"), (0, u "Lcom/example/meerkat/meerkat/formula/Formula$BinaryOperator;"), (0, .fieldref 8 14), (0, .nameAndType 15 12), (0, u "SINCE_IN_SESSION"), (0, .fieldref 8 17), (0, .nameAndType 18 12), (0, u "SINCE_ACROSS_SESSIONS"), (0, .fieldref 8 20), (0, .nameAndType 21 12), (0, u "OR"), (0, .fieldref 8 23), (0, .nameAndType 24 12), (0, u "AND"), (0, .integer 2147483647), (0, .methodref 27 28), (0, .class_ 29), (0, .nameAndType 30 31), (0, u "com/example/meerkat/meerkat/formula/BinaryOperatorGroupsRightPinLaw"), (0, u "pick"), (0, u "(I)Lcom/example/meerkat/meerkat/formula/Formula$BinaryOperator;"), (0, .methodref 8 33), (0, .nameAndType 34 35), (0, u "groupsRight"), (0, u "()Z"), (0, .methodref 8 37), (0, .nameAndType 38 39), (0, u "precedence"), (0, u "()I"), (3, u "law"), (0, u "(II)Z")] 6

def k1m0 : Method := { name := "<init>", desc := "()V", sig := { parameters := [], returnType := none }, accessFlags := 1, code := none }
def k1c1 : Code := { maxStack := 2, maxLocals := 1, code := method_2_code, exceptionTable := #[], attributes := #[] }
def k1m1 : Method := { name := "pick", desc := "(I)Lcom/example/meerkat/meerkat/formula/Formula$BinaryOperator;", sig := { parameters := [.int], returnType := some (.object "com/example/meerkat/meerkat/formula/Formula$BinaryOperator") }, accessFlags := 10, code := some k1c1 }
def k1c2 : Code := { maxStack := 2, maxLocals := 11, code := code, exceptionTable := #[], attributes := #[] }
def k1m2 : Method := { name := "law", desc := "(II)Z", sig := { parameters := [.int, .int], returnType := some .boolean }, accessFlags := 9, code := some k1c2 }
/-- com/example/meerkat/meerkat/formula/BinaryOperatorGroupsRightPinLaw -/
def k1 : Class := { plain "com/example/meerkat/meerkat/formula/BinaryOperatorGroupsRightPinLaw" (some 0) with
  accessFlags := 49
  interfaces := #[]
  cf := some (fileOf pool1 27 #[] #[{ accessFlags := 1, nameIndex := 5, descriptorIndex := 6, attributes := #[] }, { accessFlags := 10, nameIndex := 30, descriptorIndex := 31, attributes := #[] }, { accessFlags := 9, nameIndex := 43, descriptorIndex := 44, attributes := #[] }] 49 2 #[] #[])
  fields := #[]
  methods := #[k1m0, k1m1, k1m2]
  instanceTypes := #[]
  staticTypes := #[]
  resolved := Array.replicate 51 none
  statics := none }

def pool2 : Array CpInfo := pool [(1, .class_ 2), (0, u "java/lang/constant/Constable"), (0, .class_ 4), (0, u "java/lang/Object")] 6

/-- java/lang/constant/Constable -/
def k2 : Class := { plain "java/lang/constant/Constable" (some 0) with
  accessFlags := 1537
  interfaces := #[]
  cf := some (fileOf pool2 1 #[] #[] 1537 3 #[] #[])
  fields := #[]
  methods := #[]
  instanceTypes := #[]
  staticTypes := #[]
  resolved := Array.replicate 11 none
  statics := none }

def pool3 : Array CpInfo := pool [(1, .class_ 2), (0, u "java/lang/Comparable"), (0, .class_ 4), (0, u "java/lang/Object")] 7

/-- java/lang/Comparable -/
def k3 : Class := { plain "java/lang/Comparable" (some 0) with
  accessFlags := 1537
  interfaces := #[]
  cf := some (fileOf pool3 1 #[] #[] 1537 3 #[] #[])
  fields := #[]
  methods := #[]
  instanceTypes := #[]
  staticTypes := #[]
  resolved := Array.replicate 12 none
  statics := none }

def pool4 : Array CpInfo := pool [(1, .class_ 2), (0, u "java/io/Serializable"), (0, .class_ 4), (0, u "java/lang/Object")] 2

/-- java/io/Serializable -/
def k4 : Class := { plain "java/io/Serializable" (some 0) with
  accessFlags := 1537
  interfaces := #[]
  cf := some (fileOf pool4 1 #[] #[] 1537 3 #[] #[])
  fields := #[]
  methods := #[]
  instanceTypes := #[]
  staticTypes := #[]
  resolved := Array.replicate 7 none
  statics := none }

def pool5 : Array CpInfo := pool [(2, .class_ 4), (1, u "java/lang/Enum"), (0, u "name"), (0, u "Ljava/lang/String;"), (2, u "ordinal"), (0, u "I"), (1, .class_ 14), (1, u "java/lang/Object"), (4, u "hash"), (86, .class_ 108), (1, u "java/lang/Enum$EnumDesc"), (2, .class_ 112), (0, u "java/lang/constant/Constable"), (0, .class_ 114), (0, u "java/lang/Comparable"), (0, .class_ 116), (0, u "java/io/Serializable")] 87

/-- java/lang/Enum -/
def k5 : Class := { plain "java/lang/Enum" (some 0) with
  accessFlags := 1057
  interfaces := #[2, 3, 4]
  cf := some (fileOf pool5 2 #[.nestMembers #[106]] #[] 1057 12 #[111, 113, 115] #[{ accessFlags := 18, nameIndex := 5, descriptorIndex := 6, attributes := #[] }, { accessFlags := 18, nameIndex := 9, descriptorIndex := 10, attributes := #[] }, { accessFlags := 2, nameIndex := 19, descriptorIndex := 10, attributes := #[] }])
  fields := #[{ name := "name", type := (.object "java/lang/String"), accessFlags := 18, slot := 0, constantValue := 0 }, { name := "ordinal", type := .int, accessFlags := 18, slot := 1, constantValue := 0 }, { name := "hash", type := .int, accessFlags := 2, slot := 2, constantValue := 0 }]
  methods := #[]
  instanceTypes := #[(.object "java/lang/String"), .int, .int]
  staticTypes := #[]
  resolved := Array.replicate 204 none
  statics := none }

def pool6 : Array CpInfo := pool [(1, .class_ 2), (0, u "com/example/meerkat/meerkat/formula/Formula$BinaryOperator"), (0, .fieldref 1 4), (0, .nameAndType 5 6), (0, u "IMPLIES"), (0, u "Lcom/example/meerkat/meerkat/formula/Formula$BinaryOperator;"), (2, u "SINCE_IN_SESSION"), (2, u "SINCE_ACROSS_SESSIONS"), (2, u "OR"), (2, u "AND"), (2, u "$VALUES"), (0, u "[Lcom/example/meerkat/meerkat/formula/Formula$BinaryOperator;"), (6, .class_ 31), (1, u "java/lang/Enum"), (8, u "symbol"), (0, u "Ljava/lang/String;"), (0, .fieldref 1 43), (0, .nameAndType 44 45), (0, u "precedence"), (0, u "I"), (36, u "()I"), (0, u "groupsRight"), (0, u "()Z"), (8, .class_ 94), (0, u "com/example/meerkat/meerkat/formula/Formula")] 2

def k6c0 : Code := { maxStack := 1, maxLocals := 1, code := prog_58_method_4_code, exceptionTable := #[], attributes := #[] }
def k6m0 : Method := { name := "precedence", desc := "()I", sig := { parameters := [], returnType := some .int }, accessFlags := 1, code := some k6c0 }
def k6c1 : Code := { maxStack := 2, maxLocals := 1, code := prog_58_method_5_code, exceptionTable := #[], attributes := #[] }
def k6m1 : Method := { name := "groupsRight", desc := "()Z", sig := { parameters := [], returnType := some .boolean }, accessFlags := 1, code := some k6c1 }
/-- com/example/meerkat/meerkat/formula/Formula$BinaryOperator -/
def k6 : Class := { plain "com/example/meerkat/meerkat/formula/Formula$BinaryOperator" (some 5) with
  accessFlags := 16433
  interfaces := #[]
  cf := some (fileOf pool6 1 #[.nestHost 93] #[{ accessFlags := 1, nameIndex := 44, descriptorIndex := 82, attributes := #[] }, { accessFlags := 1, nameIndex := 83, descriptorIndex := 84, attributes := #[] }] 16433 29 #[] #[{ accessFlags := 16409, nameIndex := 5, descriptorIndex := 6, attributes := #[] }, { accessFlags := 16409, nameIndex := 9, descriptorIndex := 6, attributes := #[] }, { accessFlags := 16409, nameIndex := 12, descriptorIndex := 6, attributes := #[] }, { accessFlags := 16409, nameIndex := 15, descriptorIndex := 6, attributes := #[] }, { accessFlags := 16409, nameIndex := 18, descriptorIndex := 6, attributes := #[] }, { accessFlags := 18, nameIndex := 40, descriptorIndex := 41, attributes := #[] }, { accessFlags := 18, nameIndex := 44, descriptorIndex := 45, attributes := #[] }, { accessFlags := 4122, nameIndex := 21, descriptorIndex := 22, attributes := #[] }])
  fields := #[{ name := "IMPLIES", type := (.object "com/example/meerkat/meerkat/formula/Formula$BinaryOperator"), accessFlags := 16409, slot := 0, constantValue := 0 }, { name := "SINCE_IN_SESSION", type := (.object "com/example/meerkat/meerkat/formula/Formula$BinaryOperator"), accessFlags := 16409, slot := 1, constantValue := 0 }, { name := "SINCE_ACROSS_SESSIONS", type := (.object "com/example/meerkat/meerkat/formula/Formula$BinaryOperator"), accessFlags := 16409, slot := 2, constantValue := 0 }, { name := "OR", type := (.object "com/example/meerkat/meerkat/formula/Formula$BinaryOperator"), accessFlags := 16409, slot := 3, constantValue := 0 }, { name := "AND", type := (.object "com/example/meerkat/meerkat/formula/Formula$BinaryOperator"), accessFlags := 16409, slot := 4, constantValue := 0 }, { name := "symbol", type := (.object "java/lang/String"), accessFlags := 18, slot := 3, constantValue := 0 }, { name := "precedence", type := .int, accessFlags := 18, slot := 4, constantValue := 0 }, { name := "$VALUES", type := (.array (.object "com/example/meerkat/meerkat/formula/Formula$BinaryOperator")), accessFlags := 4122, slot := 5, constantValue := 0 }]
  methods := #[k6m0, k6m1]
  instanceTypes := #[(.object "java/lang/String"), .int, .int, (.object "java/lang/String"), .int]
  staticTypes := #[(.object "com/example/meerkat/meerkat/formula/Formula$BinaryOperator"), (.object "com/example/meerkat/meerkat/formula/Formula$BinaryOperator"), (.object "com/example/meerkat/meerkat/formula/Formula$BinaryOperator"), (.object "com/example/meerkat/meerkat/formula/Formula$BinaryOperator"), (.object "com/example/meerkat/meerkat/formula/Formula$BinaryOperator"), (.array (.object "com/example/meerkat/meerkat/formula/Formula$BinaryOperator"))]
  resolved := Array.replicate 97 none
  statics := some 0 }

def pool7 : Array CpInfo := pool [(1, u "java/lang/Cloneable"), (0, .class_ 1), (0, u "java/lang/Object"), (0, .class_ 3)] 3

/-- java/lang/Cloneable -/
def k7 : Class := { plain "java/lang/Cloneable" (some 0) with
  accessFlags := 1537
  interfaces := #[]
  cf := some (fileOf pool7 2 #[] #[] 1537 4 #[] #[])
  fields := #[]
  methods := #[]
  instanceTypes := #[]
  staticTypes := #[]
  resolved := Array.replicate 8 none
  statics := none }

/-- the primitive byte -/
def k8 : Class := { plain "byte" none with kind := .primitive 'B', accessFlags := 0x411 }
/-- [B -/
def k9 : Class := { plain "[B" (some 0) with kind := .array 8 .byte, interfaces := #[7, 4], accessFlags := 1041 }

/-- the primitive int -/
def k10 : Class := { plain "int" none with kind := .primitive 'I', accessFlags := 0x411 }
/-- [I -/
def k11 : Class := { plain "[I" (some 0) with kind := .array 10 .int, interfaces := #[7, 4], accessFlags := 1041 }

def heap : Heap := #[{ cls := 6, slots := #[.ref 1, .ref 4, .ref 5, .ref 2, .ref 3, .null], vm := .statics 6 },
  { cls := 6, slots := #[.null, .int 0, .int 0, .null, .int 1], vm := .none },
  { cls := 6, slots := #[.null, .int 3, .int 0, .null, .int 3], vm := .none },
  { cls := 6, slots := #[.null, .int 4, .int 0, .null, .int 4], vm := .none },
  { cls := 6, slots := #[.null, .int 1, .int 0, .null, .int 2], vm := .none },
  { cls := 6, slots := #[.null, .int 2, .int 0, .null, .int 2], vm := .none }]
def classes : Array Class := #[k0, k1, k2, k3, k4, k5, k6, k7, k8, k9, k10, k11]
def interned : List (Array UInt16 × Addr) := []
def slotsUsed : Nat := 31
def theMethod : MethodId := ⟨1, 2⟩
def args0 : Array Value := #[.int 5, .int 3]
def aboutOver (below : List Frame) : State where
  vm := { classes := classes, interned := interned.toArray }
  heap := heap
  slotsUsed := slotsUsed
  threads := #[{ frames := .invoking theMethod args0 :: below }]
def below0 : List Frame := [.native { method := ⟨0, 0⟩, args := #[] }]
def about1 : State := aboutOver below0
def p0 : Program := .bare "" "" ""
def e0 : Env := launch0.env 0 0 0
theorem w_frames : about1.frames = Frame.invoking theMethod args0 :: below0 := rfl
set_option maxRecDepth 65536 in
theorem w_args : argsFit about1.vm theMethod args0 = true := by decide +kernel
set_option maxRecDepth 65536 in
theorem w_heap : heapFits about1 = true := by decide +kernel
set_option maxRecDepth 65536 in
theorem w_runnable : about1.curStatus? = some .runnable := by decide +kernel
set_option maxRecDepth 65536 in
theorem w_alone : about1.alone = true := by decide +kernel
set_option maxRecDepth 65536 in
theorem w_named : about1.methodNamed? x = some theMethod := by decide +kernel
set_option maxRecDepth 65536 in
theorem w_hears : about1.hears theMethod below0 = true := by decide +kernel
set_option maxRecDepth 65536 in
theorem w_ripe : about1.ripe theMethod args0 below0 = true := by decide +kernel
theorem w_running : about1.status = .running := rfl
set_option maxRecDepth 65536 in
theorem w_room : about1.hasRoom e0.platform room_1 = true :=
  launch0.hasRoom_least _ room_1 (by decide +kernel) (by decide +kernel) (by decide +kernel) (by decide +kernel) (by decide +kernel) (by decide +kernel)
theorem allAtoms_all (ts : List Jvm.Cond) (a : Array Jvm.Value) (st : Jvm.State) : (allAtoms ts).before a st = ts.all (fun c => c.before a st) := by
  induction ts with
  | nil => rfl
  | cons c t ih =>
    show (Jvm.Cond.and c (allAtoms t)).before a st = _
    rw [Jvm.Cond.before_and, ih, List.all_cons]
def words1 : List Jvm.Cond := Jvm.Cond.code x code maxLocals ret :: tables_1
/-- a 'code' word, met by the world's own term for the bytes: nothing is compared byte by byte -/
theorem code_word {y : MethodName} {bytes : ByteArray} {mx : Nat} {rt : Option FieldType} {a : Array Value} {s : State} {m : MethodId} {meth : Method} {c : Code} (h1 : s.methodNamed? y = some m) (h2 : s.vm.method? m = some meth) (h3 : meth.code = some c) (h4 : c.code = bytes)
    (h5 : (c.maxLocals == mx && c.exceptionTable.isEmpty && decide (c.maxStack ≤ mostOperands) && decide (meth.sig.returnType = rt) && !meth.locks && decide (parseMethodDescriptor y.desc = some meth.sig)) = true) : (Jvm.Cond.code y bytes mx rt).before a s = true := by
  simp only [Bool.and_eq_true, beq_iff_eq, Bool.not_eq_true', decide_eq_true_eq] at h5
  obtain ⟨⟨⟨⟨⟨g1, g2⟩, g3⟩, g4⟩, g5⟩, g6⟩ := h5
  simp [Cond.before, Cond.holds, Cond.value, h1, h2, h3, h4, g1, g2, g3, g4, g5, g6]
def isCode : Jvm.Cond → Bool
  | .code _ _ _ _ => true
  | _ => false
theorem all_split {L : List Jvm.Cond} {P : Jvm.Cond → Bool} (h1 : L.all (fun c => isCode c || P c) = true) (h2 : ∀ c ∈ L.filter isCode, P c = true) : L.all P = true := by
  refine List.all_eq_true.mpr fun c hc => ?_
  have h := List.all_eq_true.mp h1 c hc
  rcases Bool.eq_false_or_eq_true (isCode c) with hi | hi
  · exact h2 c (List.mem_filter.mpr ⟨hc, hi⟩)
  · simpa [hi] using h
set_option maxRecDepth 65536 in
theorem w_c0 : (Jvm.Cond.code x code maxLocals ret).before args0 about1 = true := code_word (m := ⟨1, 2⟩) (meth := k1m2) (c := k1c2) (by decide +kernel) rfl rfl rfl (by decide +kernel)
set_option maxRecDepth 65536 in
theorem w_c1 : (Jvm.Cond.code ({ cls := "com/example/meerkat/meerkat/formula/BinaryOperatorGroupsRightPinLaw", name := "pick", desc := "(I)Lcom/example/meerkat/meerkat/formula/Formula$BinaryOperator;" } : Jvm.MethodName) method_2_code (1 : Nat) (Option.some (Jvm.ClassFile.FieldType.object "com/example/meerkat/meerkat/formula/Formula$BinaryOperator"))).before args0 about1 = true := code_word (m := ⟨1, 1⟩) (meth := k1m1) (c := k1c1) (by decide +kernel) rfl rfl rfl (by decide +kernel)
set_option maxRecDepth 65536 in
theorem w_c2 : (Jvm.Cond.code ({ cls := "com/example/meerkat/meerkat/formula/Formula$BinaryOperator", name := "groupsRight", desc := "()Z" } : Jvm.MethodName) prog_58_method_5_code (1 : Nat) (Option.some Jvm.ClassFile.FieldType.boolean)).before args0 about1 = true := code_word (m := ⟨6, 1⟩) (meth := k6m1) (c := k6c1) (by decide +kernel) rfl rfl rfl (by decide +kernel)
set_option maxRecDepth 65536 in
theorem w_c3 : (Jvm.Cond.code ({ cls := "com/example/meerkat/meerkat/formula/Formula$BinaryOperator", name := "precedence", desc := "()I" } : Jvm.MethodName) prog_58_method_4_code (1 : Nat) (Option.some Jvm.ClassFile.FieldType.int)).before args0 about1 = true := code_word (m := ⟨6, 0⟩) (meth := k6m0) (c := k6c0) (by decide +kernel) rfl rfl rfl (by decide +kernel)
def codes1 : List Jvm.Cond := [Jvm.Cond.code x code maxLocals ret, Jvm.Cond.code ({ cls := "com/example/meerkat/meerkat/formula/BinaryOperatorGroupsRightPinLaw", name := "pick", desc := "(I)Lcom/example/meerkat/meerkat/formula/Formula$BinaryOperator;" } : Jvm.MethodName) method_2_code (1 : Nat) (Option.some (Jvm.ClassFile.FieldType.object "com/example/meerkat/meerkat/formula/Formula$BinaryOperator")), Jvm.Cond.code ({ cls := "com/example/meerkat/meerkat/formula/Formula$BinaryOperator", name := "groupsRight", desc := "()Z" } : Jvm.MethodName) prog_58_method_5_code (1 : Nat) (Option.some Jvm.ClassFile.FieldType.boolean), Jvm.Cond.code ({ cls := "com/example/meerkat/meerkat/formula/Formula$BinaryOperator", name := "precedence", desc := "()I" } : Jvm.MethodName) prog_58_method_4_code (1 : Nat) (Option.some Jvm.ClassFile.FieldType.int)]
set_option maxRecDepth 65536 in
theorem codes_eq : words1.filter isCode = codes1 := rfl
theorem w_codes : ∀ c ∈ words1.filter isCode, c.before args0 about1 = true := by
  rw [codes_eq]
  intro c hc
  simp only [codes1, List.mem_cons, List.not_mem_nil, or_false] at hc
  rcases hc with rfl | rfl | rfl | rfl
  · exact w_c0
  · exact w_c1
  · exact w_c2
  · exact w_c3
set_option maxRecDepth 65536 in
theorem w_t1 : (words1.take 24).all (fun c => isCode c || c.before args0 about1) = true := by decide +kernel
set_option maxRecDepth 65536 in
theorem w_t2 : (words1.drop 24).all (fun c => isCode c || c.before args0 about1) = true := by decide +kernel
theorem w_tables : (allAtoms (Jvm.Cond.code x code maxLocals ret :: tables_1)).before args0 about1 = true := by
  rw [allAtoms_all]
  show words1.all (fun c => c.before args0 about1) = true
  refine all_split ?_ w_codes
  rw [← List.take_append_drop 24 words1, List.all_append, w_t1, w_t2]
  rfl
set_option maxRecDepth 65536 in
theorem w_case : (Jvm.Cond.and given_1 narrow_1).before args0 about1 = true := by decide +kernel
theorem w_applies : (headSpec (Jvm.Cond.code x code maxLocals ret :: tables_1) room_1).applies x e0.platform about1 = true :=
  (Spec.applies_iff w_frames).mpr ⟨w_running, w_runnable, w_alone, w_named, w_hears, w_ripe, w_room, w_tables⟩
theorem atStart : AtStart classFile x code maxLocals ret World_1 tables_1 room_1 Calls_1 rest_1 Pre_1 launch0 p0 e0 about1 theMethod args0 below0 :=
  ⟨lists_1, trivial, launch0.admits_env _ _ _, launch0.least_env, fairChoices_fair.cas, fairChoices_fair.clock, w_frames, w_args, w_heap, w_applies, trivial, trivial, w_case⟩
end start1
theorem witness_1 : WitnessClaimed_1 := ⟨start1.p0, start1.e0, start1.about1, start1.theMethod, start1.args0, start1.below0, start1.atStart⟩
end Jvm.Pilot.@@N@@
