import JvmDerived
import JvmDerived.Pilot.@@N@@Statement
import JvmDerived.Pilot.@@N@@Code
set_option linter.unusedVariables false
set_option linter.unusedSimpArgs false
namespace Jvm.Pilot.@@N@@
open Jvm Jvm.ClassFile Sem Op Lib Jvm.Free Jvm.Stand Jvm.LawKit Jvm.RoadKit Bundle Jvm.Pilot.@@N@@.Jvm.D
def Go (tb : Tables) (e : Env) (below : List Frame) (P : State → Outcome → Prop) (T : State) : Prop := ∃ s₂ o, Steps tb e below T s₂ ∧ P s₂ o
theorem own_go {tb : Tables} {e : Env} {below : List Frame} {P : State → Outcome → Prop} {T T' : State} (h : ∀ t, Steps tb e below T' t → Steps tb e below T t) (k : Go tb e below P T') : Go tb e below P T := by
  obtain ⟨a, b, c, d⟩ := k
  exact ⟨a, b, h a c, d⟩
def Fin (s : State) (below : List Frame) (Q : Option Value → Heap → List Loc → Prop) (cc ss : Nat) (s₂ : State) (o : Outcome) : Prop := s₂.status = .running ∧ Ended s₂ below o ∧ ∃ v L, o = .returned v ∧ Q v s₂.heap L ∧ FrameEnd s o s₂ L cc ss
def PQ (w : Value) (h0 : Heap) (n0 : Nat) (v : Option Value) (h : Heap) (L : List Loc) : Prop := v = some w ∧ Fr n0 L ∧ h = h0
theorem own_ret {p : Program} {l : Launch} {e : Env} {R : Room} {s : State} {m : MethodId} {args : Array Value} {below : List Frame} {meth : Method} {c : Code} {T : State} {locs : List Loc} {cells slots : Nat} (X : Stand p l e R s m args below meth c T locs cells slots) (hx : p.tables.exec = Jvm.exec) (hlk : meth.locks = false)
    {pc : Nat} {Ls : Array Slot} {w : Value} {t : FieldType} {i : Instr} {rest : List Value} (hret : meth.sig.returnType = some t) (hn : narrow t w = w)
    (hi : (i = .ireturn ∧ (t = .int ∨ t = .boolean ∨ t = .byte ∨ t = .char ∨ t = .short) ∧ ∃ z, w = .int z) ∨ (i = .lreturn ∧ t = .long ∧ ∃ z, w = .long z) ∨ (i = .dreturn ∧ t = .double ∧ ∃ z, w = .double z) ∨ (i = .freturn ∧ t = .float ∧ ∃ z, w = .float z) ∨ (i = .areturn ∧ t.isReference = true ∧ w.isRef = true))
    (hd : decode c.code pc = .ok (i, 1)) {Q : Option Value → Heap → List Loc → Prop} (hQ : Q (some w) T.heap locs) {cc ss : Nat} (hc : cells ≤ cc) (hs : slots ≤ ss) :
    Go p.tables e below (Fin s below Q cc ss) (T.setTop (mkF m pc Ls (w :: rest))) := by
  obtain ⟨fs, hr, hrun, hended, hW, hsame⟩ := X.leave (v := some w) (fun h => by rw [hret] at h; cases h) hlk
  exact ⟨_, _, retOut X hx hret hn hi hd hr, hrun, hended, _, _, rfl, hQ, ⟨_, rfl⟩, hW, hsame.mono hc hs⟩
theorem own_fld {Z : State} {args : Array Value} {t : Term} {a : Addr} {C n d : String} {k : Int32} (ev : t.eval args Z none [] Z = some (.ref a)) (h : (Jvm.Cond.eq (.field t C n d) (.int k)).value args Z none Z [] = some true) : Fld Z Z.heap a C n d (.int k) := by
  have e1 : (Term.field t C n d).eval args Z none [] Z = Z.fieldOf? a C n d := fld_at ev
  obtain ⟨x, y, h1, h2, h3, h4⟩ := cmp_v (Or.inl h)
  have e2 : (Term.int k).eval args Z none [] Z = some (.int k) := Term.int_eval k
  cases e2.symm.trans h2
  obtain ⟨z, rfl⟩ := h4
  have q := gotT (u := (Jvm.Cond.eq (.field t C n d) (.int k)).value args Z none Z []) (P := z = k) (by simp [Cond.value, h1, e2]) h
  subst q
  exact Fld.start (e1 ▸ h1)
theorem own_ne {Z : State} {h : Heap} {a b : Addr} {C n d : String} {v w : Value} (F : Fld Z h a C n d v) (G : Fld Z h b C n d w) (hn : v ≠ w) : a ≠ b := by
  rintro rfl
  obtain ⟨c1, cf1, k1, i1, f1, a1, a2, a3, a4, a5, a6, a7⟩ := F
  obtain ⟨c2, cf2, k2, i2, f2, b1, b2, b3, b4, b5, b6, b7⟩ := G
  cases a1.symm.trans b1
  cases a2.symm.trans b2
  exact hn (Option.some.inj (a7.symm.trans b7))
theorem own_mask (x : Int32) : 0 ≤ (x &&& 2147483647).toInt ∧ (x &&& 2147483647).toInt < 2147483648 := by
  have h1 : (x &&& 2147483647).toBitVec.toNat < 2 ^ 31 := by
    rw [Int32.toBitVec_and, BitVec.toNat_and]
    exact Nat.lt_of_le_of_lt Nat.and_le_right (by decide)
  have h2 : (x &&& 2147483647).toInt = ((x &&& 2147483647).toBitVec.toNat : Int) := by
    show (x &&& 2147483647).toBitVec.toInt = _
    rw [BitVec.toInt_eq_toNat_of_lt (by omega)]
  omega
theorem own_mod (x : Int32) (k : Int32) (hk : 0 < k.toInt) : 0 ≤ ((x &&& 2147483647) % k).toInt ∧ ((x &&& 2147483647) % k).toInt < k.toInt := by
  have h := own_mask x
  rw [Int32.toInt_mod]
  rw [Int.tmod_eq_emod_of_nonneg h.1]
  exact ⟨Int.emod_nonneg _ (by omega), Int.emod_lt_of_pos _ hk⟩
theorem own_cases (x : Int32) : (x &&& 2147483647) % 3 = 0 ∨ (x &&& 2147483647) % 3 = 1 ∨ (x &&& 2147483647) % 3 = 2 := by
  have h := own_mod x 3 (by decide)
  have h3 : (3 : Int32).toInt = 3 := rfl
  have c : ((x &&& 2147483647) % 3).toInt = 0 ∨ ((x &&& 2147483647) % 3).toInt = 1 ∨ ((x &&& 2147483647) % 3).toInt = 2 := by omega
  rcases c with c | c | c
  · exact Or.inl (Int32.toInt_inj.mp c)
  · exact Or.inr (Or.inl (Int32.toInt_inj.mp c))
  · exact Or.inr (Or.inr (Int32.toInt_inj.mp c))
def LQ (n0 : Nat) (v : Option Value) (h : Heap) (L : List Loc) : Prop := v = some (.int 1) ∧ Fr n0 L
def own_S (Z : State) (h0 : Heap) (w_YES w_NO w_UNKNOWN : Addr) : Prop := Sta Z h0 "com/example/casewright/casewright/types/Answer" "YES" "Lcom/example/casewright/casewright/types/Answer;" (.ref w_YES) ∧ Sta Z h0 "com/example/casewright/casewright/types/Answer" "NO" "Lcom/example/casewright/casewright/types/Answer;" (.ref w_NO) ∧ Sta Z h0 "com/example/casewright/casewright/types/Answer" "UNKNOWN" "Lcom/example/casewright/casewright/types/Answer;" (.ref w_UNKNOWN)
def own_E (Z : State) (h0 : Heap) (w_YES w_NO w_UNKNOWN : Addr) : Prop := Exa Z h0 w_YES "com/example/casewright/casewright/types/Answer" ∧ Exa Z h0 w_NO "com/example/casewright/casewright/types/Answer" ∧ Exa Z h0 w_UNKNOWN "com/example/casewright/casewright/types/Answer"
def own_O (Z : State) (h0 : Heap) (w_YES w_NO w_UNKNOWN : Addr) : Prop := Fld Z h0 w_NO "java/lang/Enum" "ordinal" "I" (.int 1) ∧ Fld Z h0 w_YES "java/lang/Enum" "ordinal" "I" (.int 0) ∧ Fld Z h0 w_UNKNOWN "java/lang/Enum" "ordinal" "I" (.int 2)
def own_and (wN wU wY a b : Addr) : Addr := if a = wN then wN else if b = wN then wN else if a = wU then wU else if b = wU then wU else wY
def own_or (wN wU wY a b : Addr) : Addr := if a = wY then wY else if b = wY then wY else if a = wU then wU else if b = wU then wU else wN
def own_not (wN wU wY a : Addr) : Addr := if a = wY then wN else if a = wN then wY else wU
theorem d2_0 : decode prog_15_method_5_code 0 = .ok (.aload_n 0, 1) := by decide +kernel
theorem d2_1 : decode prog_15_method_5_code 1 = .ok (.getstatic 7, 3) := by decide +kernel
theorem d2_4 : decode prog_15_method_5_code 4 = .ok (.if_acmp .eq 10, 3) := by decide +kernel
theorem d2_7 : decode prog_15_method_5_code 7 = .ok (.aload_n 1, 1) := by decide +kernel
theorem d2_8 : decode prog_15_method_5_code 8 = .ok (.getstatic 7, 3) := by decide +kernel
theorem d2_11 : decode prog_15_method_5_code 11 = .ok (.if_acmp .ne 10, 3) := by decide +kernel
theorem d2_14 : decode prog_15_method_5_code 14 = .ok (.getstatic 7, 3) := by decide +kernel
theorem d2_17 : decode prog_15_method_5_code 17 = .ok (.astore_n 2, 1) := by decide +kernel
theorem d2_18 : decode prog_15_method_5_code 18 = .ok (.goto 28, 3) := by decide +kernel
theorem d2_21 : decode prog_15_method_5_code 21 = .ok (.aload_n 0, 1) := by decide +kernel
theorem d2_22 : decode prog_15_method_5_code 22 = .ok (.getstatic 10, 3) := by decide +kernel
theorem d2_25 : decode prog_15_method_5_code 25 = .ok (.if_acmp .eq 10, 3) := by decide +kernel
theorem d2_28 : decode prog_15_method_5_code 28 = .ok (.aload_n 1, 1) := by decide +kernel
theorem d2_29 : decode prog_15_method_5_code 29 = .ok (.getstatic 10, 3) := by decide +kernel
theorem d2_32 : decode prog_15_method_5_code 32 = .ok (.if_acmp .ne 10, 3) := by decide +kernel
theorem d2_35 : decode prog_15_method_5_code 35 = .ok (.getstatic 10, 3) := by decide +kernel
theorem d2_38 : decode prog_15_method_5_code 38 = .ok (.astore_n 2, 1) := by decide +kernel
theorem d2_39 : decode prog_15_method_5_code 39 = .ok (.goto 7, 3) := by decide +kernel
theorem d2_42 : decode prog_15_method_5_code 42 = .ok (.getstatic 3, 3) := by decide +kernel
theorem d2_45 : decode prog_15_method_5_code 45 = .ok (.astore_n 2, 1) := by decide +kernel
theorem d2_46 : decode prog_15_method_5_code 46 = .ok (.aload_n 2, 1) := by decide +kernel
theorem d2_47 : decode prog_15_method_5_code 47 = .ok (.areturn, 1) := by decide +kernel
theorem pn_0 : plainName "com/example/casewright/casewright/types/Answer" = true := by first | (simp [plainName, overriddenIn]; done) | decide +kernel
theorem ef_rm_and (m : MethodId) (x0 : Addr) (x1 : Addr) : entryFrame m #[(.ref x0), (.ref x1)] 3 = mkF m 0 #[.val (.ref x0), .val (.ref x1), .unset] [] := by first | (simp [entryFrame, mkF, argsToLocals, Value.category]; done) | rfl
set_option maxRecDepth 65536 in
set_option maxHeartbeats 40000000 in
theorem rm_and (l : Launch) (Z : State) (a0 : Array Value) (hw : ∀ d ∈ tables_1, d.before a0 Z = true) (ws : List Jvm.Cond) (a b : Addr) (w_YES w_NO w_UNKNOWN : Addr) (h0 : Heap) (n0 : Nat) (SS : own_S Z h0 w_YES w_NO w_UNKNOWN) :
    MetFree l (⟨"com/example/casewright/casewright/types/Answer", "and", "(Lcom/example/casewright/casewright/types/Answer;)Lcom/example/casewright/casewright/types/Answer;"⟩ : MethodName) (head1 (Jvm.Cond.code (⟨"com/example/casewright/casewright/types/Answer", "and", "(Lcom/example/casewright/casewright/types/Answer;)Lcom/example/casewright/casewright/types/Answer;"⟩ : MethodName) prog_15_method_5_code 3 (some (.object "com/example/casewright/casewright/types/Answer")) :: ws) ({ frames := 0, cells := 0, slots := 0, locals := 0 } : Room)) (fun aa U => aa = #[(.ref a), (.ref b)] ∧ Z.Warmed39 U.vm ∧ U.heap = h0) (fun _ _ _ _ _ => True) (fun _ U o U' => ∃ v L, o = .returned v ∧ PQ (.ref (own_and w_NO w_UNKNOWN w_YES a b)) h0 n0 v U'.heap L ∧ FrameEnd U o U' L ({ frames := 0, cells := 0, slots := 0, locals := 0 } : Room).cells ({ frames := 0, cells := 0, slots := 0, locals := 0 } : Room).slots) := by
  refine MetFree.of_bodySF (plainFor_of_name pn_0) hisR ?_
  intro p e s m args below meth c s₁ Bd hml0 hP hK
  obtain ⟨rfl, hZ, hh⟩ := hP
  have hx := Bd.exec
  have hby := Bd.bytes
  have hlk := Bd.notSynchronized
  have hml : c.maxLocals = 3 := hml0
  have hown : s.vm.findClass "com/example/casewright/casewright/types/Answer" = some m.cls := findClass_of_methodNamed Bd.named
  have X0 : Stand p l e ({ frames := 0, cells := 0, slots := 0, locals := 0 } : Room) s m #[(.ref a), (.ref b)] below meth c s₁ [] 0 0 := Stand.of_body Bd
  have e0 : s₁.heap = h0 := by rw [← hh, Bd.state]; rfl
  have N0 := Fr.nil n0
  obtain ⟨S_YES, S_NO, S_UNKNOWN⟩ := SS
  show Go p.tables e below (Fin s below (PQ (.ref (own_and w_NO w_UNKNOWN w_YES a b)) h0 n0) ({ frames := 0, cells := 0, slots := 0, locals := 0 } : Room).cells ({ frames := 0, cells := 0, slots := 0, locals := 0 } : Room).slots) (s₁.setTop (entryFrame m #[(.ref a), (.ref b)] 3))
  refine own_go (fun t k => castTop (ef_rm_and m a b) k) ?_
  show Go p.tables e below _ (s₁.setTop (mkF m 0 #[.val (.ref a), .val (.ref b), .unset] []))
  refine own_go (fun t k => XS.aloadN X0.here hx rfl (hb hby d2_0) rfl rfl k) ?_
  show Go p.tables e below _ (s₁.setTop (mkF m 1 #[.val (.ref a), .val (.ref b), .unset] [(.ref a)]))
  obtain ⟨T1, X1, e1, st1⟩ := getS2 X0 hx hZ hown (host := "") (Or.inl (hw _ (List.mem_of_getElem? (i := 17) rfl))) Via.refl e0 S_NO (g := (mkF m 1 #[.val (.ref a), .val (.ref b), .unset] [(.ref a)])) rfl (hb hby d2_1)
  refine own_go (fun t k => st1 t k) ?_
  show Go p.tables e below _ (T1.setTop (mkF m 4 #[.val (.ref a), .val (.ref b), .unset] [(.ref w_NO), (.ref a)]))
  by_cases hc2 : a = w_NO
  · refine own_go (fun t k => XT.acmpYes X1.here hx rfl (pc0 := 4) (pc' := 14) rfl (hb hby d2_4) rfl rfl rfl (XT.aa_eq_t (congrArg Value.ref hc2)) (by decide) (by decide) k) ?_
    show Go p.tables e below _ (T1.setTop (mkF m 14 #[.val (.ref a), .val (.ref b), .unset] []))
    obtain ⟨T3, X3, e3, st3⟩ := getS2 X1 hx hZ hown (host := "") (Or.inl (hw _ (List.mem_of_getElem? (i := 17) rfl))) Via.refl e1 S_NO (g := (mkF m 14 #[.val (.ref a), .val (.ref b), .unset] [])) rfl (hb hby d2_14)
    refine own_go (fun t k => st3 t k) ?_
    show Go p.tables e below _ (T3.setTop (mkF m 17 #[.val (.ref a), .val (.ref b), .unset] [(.ref w_NO)]))
    refine own_go (fun t k => XS.astoreN X3.here hx rfl (hb hby d2_17) rfl rfl (l' := #[.val (.ref a), .val (.ref b), .val (.ref w_NO)]) rfl k) ?_
    show Go p.tables e below _ (T3.setTop (mkF m 18 #[.val (.ref a), .val (.ref b), .val (.ref w_NO)] []))
    refine own_go (fun t k => XS.goto X3.here hx rfl (pc0 := 18) (pc' := 46) rfl (hb hby d2_18) (by decide) (by decide) k) ?_
    show Go p.tables e below _ (T3.setTop (mkF m 46 #[.val (.ref a), .val (.ref b), .val (.ref w_NO)] []))
    refine own_go (fun t k => XS.aloadN X3.here hx rfl (hb hby d2_46) rfl rfl k) ?_
    show Go p.tables e below _ (T3.setTop (mkF m 47 #[.val (.ref a), .val (.ref b), .val (.ref w_NO)] [(.ref w_NO)]))
    exact own_ret X3 hx hlk Bd.returns rfl (Or.inr (Or.inr (Or.inr (Or.inr ⟨rfl, rfl, rfl⟩)))) (hb hby d2_47) ⟨by first | (simp [own_and, hc2]; done) | rw [own_and, if_pos hc2], N0, e3⟩ (by decide) (by decide)
  · refine own_go (fun t k => XT.acmpNo X1.here hx rfl (hb hby d2_4) rfl rfl rfl (XT.aa_eq_f (fun q => hc2 (Value.ref.inj q))) k) ?_
    show Go p.tables e below _ (T1.setTop (mkF m 7 #[.val (.ref a), .val (.ref b), .unset] []))
    refine own_go (fun t k => XS.aloadN X1.here hx rfl (hb hby d2_7) rfl rfl k) ?_
    show Go p.tables e below _ (T1.setTop (mkF m 8 #[.val (.ref a), .val (.ref b), .unset] [(.ref b)]))
    obtain ⟨T4, X4, e4, st4⟩ := getS2 X1 hx hZ hown (host := "") (Or.inl (hw _ (List.mem_of_getElem? (i := 17) rfl))) Via.refl e1 S_NO (g := (mkF m 8 #[.val (.ref a), .val (.ref b), .unset] [(.ref b)])) rfl (hb hby d2_8)
    refine own_go (fun t k => st4 t k) ?_
    show Go p.tables e below _ (T4.setTop (mkF m 11 #[.val (.ref a), .val (.ref b), .unset] [(.ref w_NO), (.ref b)]))
    by_cases hc5 : b = w_NO
    · refine own_go (fun t k => XT.acmpNo X4.here hx rfl (hb hby d2_11) rfl rfl rfl (XT.aa_ne_f (congrArg Value.ref hc5)) k) ?_
      show Go p.tables e below _ (T4.setTop (mkF m 14 #[.val (.ref a), .val (.ref b), .unset] []))
      obtain ⟨T6, X6, e6, st6⟩ := getS2 X4 hx hZ hown (host := "") (Or.inl (hw _ (List.mem_of_getElem? (i := 17) rfl))) Via.refl e4 S_NO (g := (mkF m 14 #[.val (.ref a), .val (.ref b), .unset] [])) rfl (hb hby d2_14)
      refine own_go (fun t k => st6 t k) ?_
      show Go p.tables e below _ (T6.setTop (mkF m 17 #[.val (.ref a), .val (.ref b), .unset] [(.ref w_NO)]))
      refine own_go (fun t k => XS.astoreN X6.here hx rfl (hb hby d2_17) rfl rfl (l' := #[.val (.ref a), .val (.ref b), .val (.ref w_NO)]) rfl k) ?_
      show Go p.tables e below _ (T6.setTop (mkF m 18 #[.val (.ref a), .val (.ref b), .val (.ref w_NO)] []))
      refine own_go (fun t k => XS.goto X6.here hx rfl (pc0 := 18) (pc' := 46) rfl (hb hby d2_18) (by decide) (by decide) k) ?_
      show Go p.tables e below _ (T6.setTop (mkF m 46 #[.val (.ref a), .val (.ref b), .val (.ref w_NO)] []))
      refine own_go (fun t k => XS.aloadN X6.here hx rfl (hb hby d2_46) rfl rfl k) ?_
      show Go p.tables e below _ (T6.setTop (mkF m 47 #[.val (.ref a), .val (.ref b), .val (.ref w_NO)] [(.ref w_NO)]))
      exact own_ret X6 hx hlk Bd.returns rfl (Or.inr (Or.inr (Or.inr (Or.inr ⟨rfl, rfl, rfl⟩)))) (hb hby d2_47) ⟨by first | (simp [own_and, hc2, hc5]; done) | rw [own_and, if_neg hc2, if_pos hc5], N0, e6⟩ (by decide) (by decide)
    · refine own_go (fun t k => XT.acmpYes X4.here hx rfl (pc0 := 11) (pc' := 21) rfl (hb hby d2_11) rfl rfl rfl (XT.aa_ne_t (fun q => hc5 (Value.ref.inj q))) (by decide) (by decide) k) ?_
      show Go p.tables e below _ (T4.setTop (mkF m 21 #[.val (.ref a), .val (.ref b), .unset] []))
      refine own_go (fun t k => XS.aloadN X4.here hx rfl (hb hby d2_21) rfl rfl k) ?_
      show Go p.tables e below _ (T4.setTop (mkF m 22 #[.val (.ref a), .val (.ref b), .unset] [(.ref a)]))
      obtain ⟨T7, X7, e7, st7⟩ := getS2 X4 hx hZ hown (host := "") (Or.inl (hw _ (List.mem_of_getElem? (i := 23) rfl))) Via.refl e4 S_UNKNOWN (g := (mkF m 22 #[.val (.ref a), .val (.ref b), .unset] [(.ref a)])) rfl (hb hby d2_22)
      refine own_go (fun t k => st7 t k) ?_
      show Go p.tables e below _ (T7.setTop (mkF m 25 #[.val (.ref a), .val (.ref b), .unset] [(.ref w_UNKNOWN), (.ref a)]))
      by_cases hc8 : a = w_UNKNOWN
      · refine own_go (fun t k => XT.acmpYes X7.here hx rfl (pc0 := 25) (pc' := 35) rfl (hb hby d2_25) rfl rfl rfl (XT.aa_eq_t (congrArg Value.ref hc8)) (by decide) (by decide) k) ?_
        show Go p.tables e below _ (T7.setTop (mkF m 35 #[.val (.ref a), .val (.ref b), .unset] []))
        obtain ⟨T9, X9, e9, st9⟩ := getS2 X7 hx hZ hown (host := "") (Or.inl (hw _ (List.mem_of_getElem? (i := 23) rfl))) Via.refl e7 S_UNKNOWN (g := (mkF m 35 #[.val (.ref a), .val (.ref b), .unset] [])) rfl (hb hby d2_35)
        refine own_go (fun t k => st9 t k) ?_
        show Go p.tables e below _ (T9.setTop (mkF m 38 #[.val (.ref a), .val (.ref b), .unset] [(.ref w_UNKNOWN)]))
        refine own_go (fun t k => XS.astoreN X9.here hx rfl (hb hby d2_38) rfl rfl (l' := #[.val (.ref a), .val (.ref b), .val (.ref w_UNKNOWN)]) rfl k) ?_
        show Go p.tables e below _ (T9.setTop (mkF m 39 #[.val (.ref a), .val (.ref b), .val (.ref w_UNKNOWN)] []))
        refine own_go (fun t k => XS.goto X9.here hx rfl (pc0 := 39) (pc' := 46) rfl (hb hby d2_39) (by decide) (by decide) k) ?_
        show Go p.tables e below _ (T9.setTop (mkF m 46 #[.val (.ref a), .val (.ref b), .val (.ref w_UNKNOWN)] []))
        refine own_go (fun t k => XS.aloadN X9.here hx rfl (hb hby d2_46) rfl rfl k) ?_
        show Go p.tables e below _ (T9.setTop (mkF m 47 #[.val (.ref a), .val (.ref b), .val (.ref w_UNKNOWN)] [(.ref w_UNKNOWN)]))
        exact own_ret X9 hx hlk Bd.returns rfl (Or.inr (Or.inr (Or.inr (Or.inr ⟨rfl, rfl, rfl⟩)))) (hb hby d2_47) ⟨by first | (simp [own_and, hc2, hc5, hc8]; done) | rw [own_and, if_neg hc2, if_neg hc5, if_pos hc8], N0, e9⟩ (by decide) (by decide)
      · refine own_go (fun t k => XT.acmpNo X7.here hx rfl (hb hby d2_25) rfl rfl rfl (XT.aa_eq_f (fun q => hc8 (Value.ref.inj q))) k) ?_
        show Go p.tables e below _ (T7.setTop (mkF m 28 #[.val (.ref a), .val (.ref b), .unset] []))
        refine own_go (fun t k => XS.aloadN X7.here hx rfl (hb hby d2_28) rfl rfl k) ?_
        show Go p.tables e below _ (T7.setTop (mkF m 29 #[.val (.ref a), .val (.ref b), .unset] [(.ref b)]))
        obtain ⟨T10, X10, e10, st10⟩ := getS2 X7 hx hZ hown (host := "") (Or.inl (hw _ (List.mem_of_getElem? (i := 23) rfl))) Via.refl e7 S_UNKNOWN (g := (mkF m 29 #[.val (.ref a), .val (.ref b), .unset] [(.ref b)])) rfl (hb hby d2_29)
        refine own_go (fun t k => st10 t k) ?_
        show Go p.tables e below _ (T10.setTop (mkF m 32 #[.val (.ref a), .val (.ref b), .unset] [(.ref w_UNKNOWN), (.ref b)]))
        by_cases hc11 : b = w_UNKNOWN
        · refine own_go (fun t k => XT.acmpNo X10.here hx rfl (hb hby d2_32) rfl rfl rfl (XT.aa_ne_f (congrArg Value.ref hc11)) k) ?_
          show Go p.tables e below _ (T10.setTop (mkF m 35 #[.val (.ref a), .val (.ref b), .unset] []))
          obtain ⟨T12, X12, e12, st12⟩ := getS2 X10 hx hZ hown (host := "") (Or.inl (hw _ (List.mem_of_getElem? (i := 23) rfl))) Via.refl e10 S_UNKNOWN (g := (mkF m 35 #[.val (.ref a), .val (.ref b), .unset] [])) rfl (hb hby d2_35)
          refine own_go (fun t k => st12 t k) ?_
          show Go p.tables e below _ (T12.setTop (mkF m 38 #[.val (.ref a), .val (.ref b), .unset] [(.ref w_UNKNOWN)]))
          refine own_go (fun t k => XS.astoreN X12.here hx rfl (hb hby d2_38) rfl rfl (l' := #[.val (.ref a), .val (.ref b), .val (.ref w_UNKNOWN)]) rfl k) ?_
          show Go p.tables e below _ (T12.setTop (mkF m 39 #[.val (.ref a), .val (.ref b), .val (.ref w_UNKNOWN)] []))
          refine own_go (fun t k => XS.goto X12.here hx rfl (pc0 := 39) (pc' := 46) rfl (hb hby d2_39) (by decide) (by decide) k) ?_
          show Go p.tables e below _ (T12.setTop (mkF m 46 #[.val (.ref a), .val (.ref b), .val (.ref w_UNKNOWN)] []))
          refine own_go (fun t k => XS.aloadN X12.here hx rfl (hb hby d2_46) rfl rfl k) ?_
          show Go p.tables e below _ (T12.setTop (mkF m 47 #[.val (.ref a), .val (.ref b), .val (.ref w_UNKNOWN)] [(.ref w_UNKNOWN)]))
          exact own_ret X12 hx hlk Bd.returns rfl (Or.inr (Or.inr (Or.inr (Or.inr ⟨rfl, rfl, rfl⟩)))) (hb hby d2_47) ⟨by first | (simp [own_and, hc2, hc5, hc8, hc11]; done) | rw [own_and, if_neg hc2, if_neg hc5, if_neg hc8, if_pos hc11], N0, e12⟩ (by decide) (by decide)
        · refine own_go (fun t k => XT.acmpYes X10.here hx rfl (pc0 := 32) (pc' := 42) rfl (hb hby d2_32) rfl rfl rfl (XT.aa_ne_t (fun q => hc11 (Value.ref.inj q))) (by decide) (by decide) k) ?_
          show Go p.tables e below _ (T10.setTop (mkF m 42 #[.val (.ref a), .val (.ref b), .unset] []))
          obtain ⟨T13, X13, e13, st13⟩ := getS2 X10 hx hZ hown (host := "") (Or.inl (hw _ (List.mem_of_getElem? (i := 16) rfl))) Via.refl e10 S_YES (g := (mkF m 42 #[.val (.ref a), .val (.ref b), .unset] [])) rfl (hb hby d2_42)
          refine own_go (fun t k => st13 t k) ?_
          show Go p.tables e below _ (T13.setTop (mkF m 45 #[.val (.ref a), .val (.ref b), .unset] [(.ref w_YES)]))
          refine own_go (fun t k => XS.astoreN X13.here hx rfl (hb hby d2_45) rfl rfl (l' := #[.val (.ref a), .val (.ref b), .val (.ref w_YES)]) rfl k) ?_
          show Go p.tables e below _ (T13.setTop (mkF m 46 #[.val (.ref a), .val (.ref b), .val (.ref w_YES)] []))
          refine own_go (fun t k => XS.aloadN X13.here hx rfl (hb hby d2_46) rfl rfl k) ?_
          show Go p.tables e below _ (T13.setTop (mkF m 47 #[.val (.ref a), .val (.ref b), .val (.ref w_YES)] [(.ref w_YES)]))
          exact own_ret X13 hx hlk Bd.returns rfl (Or.inr (Or.inr (Or.inr (Or.inr ⟨rfl, rfl, rfl⟩)))) (hb hby d2_47) ⟨by first | (simp [own_and, hc2, hc5, hc8, hc11]; done) | rw [own_and, if_neg hc2, if_neg hc5, if_neg hc8, if_neg hc11], N0, e13⟩ (by decide) (by decide)
theorem d3_0 : decode prog_15_method_6_code 0 = .ok (.aload_n 0, 1) := by decide +kernel
theorem d3_1 : decode prog_15_method_6_code 1 = .ok (.getstatic 3, 3) := by decide +kernel
theorem d3_4 : decode prog_15_method_6_code 4 = .ok (.if_acmp .eq 10, 3) := by decide +kernel
theorem d3_7 : decode prog_15_method_6_code 7 = .ok (.aload_n 1, 1) := by decide +kernel
theorem d3_8 : decode prog_15_method_6_code 8 = .ok (.getstatic 3, 3) := by decide +kernel
theorem d3_11 : decode prog_15_method_6_code 11 = .ok (.if_acmp .ne 10, 3) := by decide +kernel
theorem d3_14 : decode prog_15_method_6_code 14 = .ok (.getstatic 3, 3) := by decide +kernel
theorem d3_17 : decode prog_15_method_6_code 17 = .ok (.astore_n 2, 1) := by decide +kernel
theorem d3_18 : decode prog_15_method_6_code 18 = .ok (.goto 28, 3) := by decide +kernel
theorem d3_21 : decode prog_15_method_6_code 21 = .ok (.aload_n 0, 1) := by decide +kernel
theorem d3_22 : decode prog_15_method_6_code 22 = .ok (.getstatic 10, 3) := by decide +kernel
theorem d3_25 : decode prog_15_method_6_code 25 = .ok (.if_acmp .eq 10, 3) := by decide +kernel
theorem d3_28 : decode prog_15_method_6_code 28 = .ok (.aload_n 1, 1) := by decide +kernel
theorem d3_29 : decode prog_15_method_6_code 29 = .ok (.getstatic 10, 3) := by decide +kernel
theorem d3_32 : decode prog_15_method_6_code 32 = .ok (.if_acmp .ne 10, 3) := by decide +kernel
theorem d3_35 : decode prog_15_method_6_code 35 = .ok (.getstatic 10, 3) := by decide +kernel
theorem d3_38 : decode prog_15_method_6_code 38 = .ok (.astore_n 2, 1) := by decide +kernel
theorem d3_39 : decode prog_15_method_6_code 39 = .ok (.goto 7, 3) := by decide +kernel
theorem d3_42 : decode prog_15_method_6_code 42 = .ok (.getstatic 7, 3) := by decide +kernel
theorem d3_45 : decode prog_15_method_6_code 45 = .ok (.astore_n 2, 1) := by decide +kernel
theorem d3_46 : decode prog_15_method_6_code 46 = .ok (.aload_n 2, 1) := by decide +kernel
theorem d3_47 : decode prog_15_method_6_code 47 = .ok (.areturn, 1) := by decide +kernel
theorem ef_rm_or (m : MethodId) (x0 : Addr) (x1 : Addr) : entryFrame m #[(.ref x0), (.ref x1)] 3 = mkF m 0 #[.val (.ref x0), .val (.ref x1), .unset] [] := by first | (simp [entryFrame, mkF, argsToLocals, Value.category]; done) | rfl
set_option maxRecDepth 65536 in
set_option maxHeartbeats 40000000 in
theorem rm_or (l : Launch) (Z : State) (a0 : Array Value) (hw : ∀ d ∈ tables_1, d.before a0 Z = true) (ws : List Jvm.Cond) (a b : Addr) (w_YES w_NO w_UNKNOWN : Addr) (h0 : Heap) (n0 : Nat) (SS : own_S Z h0 w_YES w_NO w_UNKNOWN) :
    MetFree l (⟨"com/example/casewright/casewright/types/Answer", "or", "(Lcom/example/casewright/casewright/types/Answer;)Lcom/example/casewright/casewright/types/Answer;"⟩ : MethodName) (head1 (Jvm.Cond.code (⟨"com/example/casewright/casewright/types/Answer", "or", "(Lcom/example/casewright/casewright/types/Answer;)Lcom/example/casewright/casewright/types/Answer;"⟩ : MethodName) prog_15_method_6_code 3 (some (.object "com/example/casewright/casewright/types/Answer")) :: ws) ({ frames := 0, cells := 0, slots := 0, locals := 0 } : Room)) (fun aa U => aa = #[(.ref a), (.ref b)] ∧ Z.Warmed39 U.vm ∧ U.heap = h0) (fun _ _ _ _ _ => True) (fun _ U o U' => ∃ v L, o = .returned v ∧ PQ (.ref (own_or w_NO w_UNKNOWN w_YES a b)) h0 n0 v U'.heap L ∧ FrameEnd U o U' L ({ frames := 0, cells := 0, slots := 0, locals := 0 } : Room).cells ({ frames := 0, cells := 0, slots := 0, locals := 0 } : Room).slots) := by
  refine MetFree.of_bodySF (plainFor_of_name pn_0) hisR ?_
  intro p e s m args below meth c s₁ Bd hml0 hP hK
  obtain ⟨rfl, hZ, hh⟩ := hP
  have hx := Bd.exec
  have hby := Bd.bytes
  have hlk := Bd.notSynchronized
  have hml : c.maxLocals = 3 := hml0
  have hown : s.vm.findClass "com/example/casewright/casewright/types/Answer" = some m.cls := findClass_of_methodNamed Bd.named
  have X0 : Stand p l e ({ frames := 0, cells := 0, slots := 0, locals := 0 } : Room) s m #[(.ref a), (.ref b)] below meth c s₁ [] 0 0 := Stand.of_body Bd
  have e0 : s₁.heap = h0 := by rw [← hh, Bd.state]; rfl
  have N0 := Fr.nil n0
  obtain ⟨S_YES, S_NO, S_UNKNOWN⟩ := SS
  show Go p.tables e below (Fin s below (PQ (.ref (own_or w_NO w_UNKNOWN w_YES a b)) h0 n0) ({ frames := 0, cells := 0, slots := 0, locals := 0 } : Room).cells ({ frames := 0, cells := 0, slots := 0, locals := 0 } : Room).slots) (s₁.setTop (entryFrame m #[(.ref a), (.ref b)] 3))
  refine own_go (fun t k => castTop (ef_rm_or m a b) k) ?_
  show Go p.tables e below _ (s₁.setTop (mkF m 0 #[.val (.ref a), .val (.ref b), .unset] []))
  refine own_go (fun t k => XS.aloadN X0.here hx rfl (hb hby d3_0) rfl rfl k) ?_
  show Go p.tables e below _ (s₁.setTop (mkF m 1 #[.val (.ref a), .val (.ref b), .unset] [(.ref a)]))
  obtain ⟨T1, X1, e1, st1⟩ := getS2 X0 hx hZ hown (host := "") (Or.inl (hw _ (List.mem_of_getElem? (i := 16) rfl))) Via.refl e0 S_YES (g := (mkF m 1 #[.val (.ref a), .val (.ref b), .unset] [(.ref a)])) rfl (hb hby d3_1)
  refine own_go (fun t k => st1 t k) ?_
  show Go p.tables e below _ (T1.setTop (mkF m 4 #[.val (.ref a), .val (.ref b), .unset] [(.ref w_YES), (.ref a)]))
  by_cases hc2 : a = w_YES
  · refine own_go (fun t k => XT.acmpYes X1.here hx rfl (pc0 := 4) (pc' := 14) rfl (hb hby d3_4) rfl rfl rfl (XT.aa_eq_t (congrArg Value.ref hc2)) (by decide) (by decide) k) ?_
    show Go p.tables e below _ (T1.setTop (mkF m 14 #[.val (.ref a), .val (.ref b), .unset] []))
    obtain ⟨T3, X3, e3, st3⟩ := getS2 X1 hx hZ hown (host := "") (Or.inl (hw _ (List.mem_of_getElem? (i := 16) rfl))) Via.refl e1 S_YES (g := (mkF m 14 #[.val (.ref a), .val (.ref b), .unset] [])) rfl (hb hby d3_14)
    refine own_go (fun t k => st3 t k) ?_
    show Go p.tables e below _ (T3.setTop (mkF m 17 #[.val (.ref a), .val (.ref b), .unset] [(.ref w_YES)]))
    refine own_go (fun t k => XS.astoreN X3.here hx rfl (hb hby d3_17) rfl rfl (l' := #[.val (.ref a), .val (.ref b), .val (.ref w_YES)]) rfl k) ?_
    show Go p.tables e below _ (T3.setTop (mkF m 18 #[.val (.ref a), .val (.ref b), .val (.ref w_YES)] []))
    refine own_go (fun t k => XS.goto X3.here hx rfl (pc0 := 18) (pc' := 46) rfl (hb hby d3_18) (by decide) (by decide) k) ?_
    show Go p.tables e below _ (T3.setTop (mkF m 46 #[.val (.ref a), .val (.ref b), .val (.ref w_YES)] []))
    refine own_go (fun t k => XS.aloadN X3.here hx rfl (hb hby d3_46) rfl rfl k) ?_
    show Go p.tables e below _ (T3.setTop (mkF m 47 #[.val (.ref a), .val (.ref b), .val (.ref w_YES)] [(.ref w_YES)]))
    exact own_ret X3 hx hlk Bd.returns rfl (Or.inr (Or.inr (Or.inr (Or.inr ⟨rfl, rfl, rfl⟩)))) (hb hby d3_47) ⟨by first | (simp [own_or, hc2]; done) | rw [own_or, if_pos hc2], N0, e3⟩ (by decide) (by decide)
  · refine own_go (fun t k => XT.acmpNo X1.here hx rfl (hb hby d3_4) rfl rfl rfl (XT.aa_eq_f (fun q => hc2 (Value.ref.inj q))) k) ?_
    show Go p.tables e below _ (T1.setTop (mkF m 7 #[.val (.ref a), .val (.ref b), .unset] []))
    refine own_go (fun t k => XS.aloadN X1.here hx rfl (hb hby d3_7) rfl rfl k) ?_
    show Go p.tables e below _ (T1.setTop (mkF m 8 #[.val (.ref a), .val (.ref b), .unset] [(.ref b)]))
    obtain ⟨T4, X4, e4, st4⟩ := getS2 X1 hx hZ hown (host := "") (Or.inl (hw _ (List.mem_of_getElem? (i := 16) rfl))) Via.refl e1 S_YES (g := (mkF m 8 #[.val (.ref a), .val (.ref b), .unset] [(.ref b)])) rfl (hb hby d3_8)
    refine own_go (fun t k => st4 t k) ?_
    show Go p.tables e below _ (T4.setTop (mkF m 11 #[.val (.ref a), .val (.ref b), .unset] [(.ref w_YES), (.ref b)]))
    by_cases hc5 : b = w_YES
    · refine own_go (fun t k => XT.acmpNo X4.here hx rfl (hb hby d3_11) rfl rfl rfl (XT.aa_ne_f (congrArg Value.ref hc5)) k) ?_
      show Go p.tables e below _ (T4.setTop (mkF m 14 #[.val (.ref a), .val (.ref b), .unset] []))
      obtain ⟨T6, X6, e6, st6⟩ := getS2 X4 hx hZ hown (host := "") (Or.inl (hw _ (List.mem_of_getElem? (i := 16) rfl))) Via.refl e4 S_YES (g := (mkF m 14 #[.val (.ref a), .val (.ref b), .unset] [])) rfl (hb hby d3_14)
      refine own_go (fun t k => st6 t k) ?_
      show Go p.tables e below _ (T6.setTop (mkF m 17 #[.val (.ref a), .val (.ref b), .unset] [(.ref w_YES)]))
      refine own_go (fun t k => XS.astoreN X6.here hx rfl (hb hby d3_17) rfl rfl (l' := #[.val (.ref a), .val (.ref b), .val (.ref w_YES)]) rfl k) ?_
      show Go p.tables e below _ (T6.setTop (mkF m 18 #[.val (.ref a), .val (.ref b), .val (.ref w_YES)] []))
      refine own_go (fun t k => XS.goto X6.here hx rfl (pc0 := 18) (pc' := 46) rfl (hb hby d3_18) (by decide) (by decide) k) ?_
      show Go p.tables e below _ (T6.setTop (mkF m 46 #[.val (.ref a), .val (.ref b), .val (.ref w_YES)] []))
      refine own_go (fun t k => XS.aloadN X6.here hx rfl (hb hby d3_46) rfl rfl k) ?_
      show Go p.tables e below _ (T6.setTop (mkF m 47 #[.val (.ref a), .val (.ref b), .val (.ref w_YES)] [(.ref w_YES)]))
      exact own_ret X6 hx hlk Bd.returns rfl (Or.inr (Or.inr (Or.inr (Or.inr ⟨rfl, rfl, rfl⟩)))) (hb hby d3_47) ⟨by first | (simp [own_or, hc2, hc5]; done) | rw [own_or, if_neg hc2, if_pos hc5], N0, e6⟩ (by decide) (by decide)
    · refine own_go (fun t k => XT.acmpYes X4.here hx rfl (pc0 := 11) (pc' := 21) rfl (hb hby d3_11) rfl rfl rfl (XT.aa_ne_t (fun q => hc5 (Value.ref.inj q))) (by decide) (by decide) k) ?_
      show Go p.tables e below _ (T4.setTop (mkF m 21 #[.val (.ref a), .val (.ref b), .unset] []))
      refine own_go (fun t k => XS.aloadN X4.here hx rfl (hb hby d3_21) rfl rfl k) ?_
      show Go p.tables e below _ (T4.setTop (mkF m 22 #[.val (.ref a), .val (.ref b), .unset] [(.ref a)]))
      obtain ⟨T7, X7, e7, st7⟩ := getS2 X4 hx hZ hown (host := "") (Or.inl (hw _ (List.mem_of_getElem? (i := 23) rfl))) Via.refl e4 S_UNKNOWN (g := (mkF m 22 #[.val (.ref a), .val (.ref b), .unset] [(.ref a)])) rfl (hb hby d3_22)
      refine own_go (fun t k => st7 t k) ?_
      show Go p.tables e below _ (T7.setTop (mkF m 25 #[.val (.ref a), .val (.ref b), .unset] [(.ref w_UNKNOWN), (.ref a)]))
      by_cases hc8 : a = w_UNKNOWN
      · refine own_go (fun t k => XT.acmpYes X7.here hx rfl (pc0 := 25) (pc' := 35) rfl (hb hby d3_25) rfl rfl rfl (XT.aa_eq_t (congrArg Value.ref hc8)) (by decide) (by decide) k) ?_
        show Go p.tables e below _ (T7.setTop (mkF m 35 #[.val (.ref a), .val (.ref b), .unset] []))
        obtain ⟨T9, X9, e9, st9⟩ := getS2 X7 hx hZ hown (host := "") (Or.inl (hw _ (List.mem_of_getElem? (i := 23) rfl))) Via.refl e7 S_UNKNOWN (g := (mkF m 35 #[.val (.ref a), .val (.ref b), .unset] [])) rfl (hb hby d3_35)
        refine own_go (fun t k => st9 t k) ?_
        show Go p.tables e below _ (T9.setTop (mkF m 38 #[.val (.ref a), .val (.ref b), .unset] [(.ref w_UNKNOWN)]))
        refine own_go (fun t k => XS.astoreN X9.here hx rfl (hb hby d3_38) rfl rfl (l' := #[.val (.ref a), .val (.ref b), .val (.ref w_UNKNOWN)]) rfl k) ?_
        show Go p.tables e below _ (T9.setTop (mkF m 39 #[.val (.ref a), .val (.ref b), .val (.ref w_UNKNOWN)] []))
        refine own_go (fun t k => XS.goto X9.here hx rfl (pc0 := 39) (pc' := 46) rfl (hb hby d3_39) (by decide) (by decide) k) ?_
        show Go p.tables e below _ (T9.setTop (mkF m 46 #[.val (.ref a), .val (.ref b), .val (.ref w_UNKNOWN)] []))
        refine own_go (fun t k => XS.aloadN X9.here hx rfl (hb hby d3_46) rfl rfl k) ?_
        show Go p.tables e below _ (T9.setTop (mkF m 47 #[.val (.ref a), .val (.ref b), .val (.ref w_UNKNOWN)] [(.ref w_UNKNOWN)]))
        exact own_ret X9 hx hlk Bd.returns rfl (Or.inr (Or.inr (Or.inr (Or.inr ⟨rfl, rfl, rfl⟩)))) (hb hby d3_47) ⟨by first | (simp [own_or, hc2, hc5, hc8]; done) | rw [own_or, if_neg hc2, if_neg hc5, if_pos hc8], N0, e9⟩ (by decide) (by decide)
      · refine own_go (fun t k => XT.acmpNo X7.here hx rfl (hb hby d3_25) rfl rfl rfl (XT.aa_eq_f (fun q => hc8 (Value.ref.inj q))) k) ?_
        show Go p.tables e below _ (T7.setTop (mkF m 28 #[.val (.ref a), .val (.ref b), .unset] []))
        refine own_go (fun t k => XS.aloadN X7.here hx rfl (hb hby d3_28) rfl rfl k) ?_
        show Go p.tables e below _ (T7.setTop (mkF m 29 #[.val (.ref a), .val (.ref b), .unset] [(.ref b)]))
        obtain ⟨T10, X10, e10, st10⟩ := getS2 X7 hx hZ hown (host := "") (Or.inl (hw _ (List.mem_of_getElem? (i := 23) rfl))) Via.refl e7 S_UNKNOWN (g := (mkF m 29 #[.val (.ref a), .val (.ref b), .unset] [(.ref b)])) rfl (hb hby d3_29)
        refine own_go (fun t k => st10 t k) ?_
        show Go p.tables e below _ (T10.setTop (mkF m 32 #[.val (.ref a), .val (.ref b), .unset] [(.ref w_UNKNOWN), (.ref b)]))
        by_cases hc11 : b = w_UNKNOWN
        · refine own_go (fun t k => XT.acmpNo X10.here hx rfl (hb hby d3_32) rfl rfl rfl (XT.aa_ne_f (congrArg Value.ref hc11)) k) ?_
          show Go p.tables e below _ (T10.setTop (mkF m 35 #[.val (.ref a), .val (.ref b), .unset] []))
          obtain ⟨T12, X12, e12, st12⟩ := getS2 X10 hx hZ hown (host := "") (Or.inl (hw _ (List.mem_of_getElem? (i := 23) rfl))) Via.refl e10 S_UNKNOWN (g := (mkF m 35 #[.val (.ref a), .val (.ref b), .unset] [])) rfl (hb hby d3_35)
          refine own_go (fun t k => st12 t k) ?_
          show Go p.tables e below _ (T12.setTop (mkF m 38 #[.val (.ref a), .val (.ref b), .unset] [(.ref w_UNKNOWN)]))
          refine own_go (fun t k => XS.astoreN X12.here hx rfl (hb hby d3_38) rfl rfl (l' := #[.val (.ref a), .val (.ref b), .val (.ref w_UNKNOWN)]) rfl k) ?_
          show Go p.tables e below _ (T12.setTop (mkF m 39 #[.val (.ref a), .val (.ref b), .val (.ref w_UNKNOWN)] []))
          refine own_go (fun t k => XS.goto X12.here hx rfl (pc0 := 39) (pc' := 46) rfl (hb hby d3_39) (by decide) (by decide) k) ?_
          show Go p.tables e below _ (T12.setTop (mkF m 46 #[.val (.ref a), .val (.ref b), .val (.ref w_UNKNOWN)] []))
          refine own_go (fun t k => XS.aloadN X12.here hx rfl (hb hby d3_46) rfl rfl k) ?_
          show Go p.tables e below _ (T12.setTop (mkF m 47 #[.val (.ref a), .val (.ref b), .val (.ref w_UNKNOWN)] [(.ref w_UNKNOWN)]))
          exact own_ret X12 hx hlk Bd.returns rfl (Or.inr (Or.inr (Or.inr (Or.inr ⟨rfl, rfl, rfl⟩)))) (hb hby d3_47) ⟨by first | (simp [own_or, hc2, hc5, hc8, hc11]; done) | rw [own_or, if_neg hc2, if_neg hc5, if_neg hc8, if_pos hc11], N0, e12⟩ (by decide) (by decide)
        · refine own_go (fun t k => XT.acmpYes X10.here hx rfl (pc0 := 32) (pc' := 42) rfl (hb hby d3_32) rfl rfl rfl (XT.aa_ne_t (fun q => hc11 (Value.ref.inj q))) (by decide) (by decide) k) ?_
          show Go p.tables e below _ (T10.setTop (mkF m 42 #[.val (.ref a), .val (.ref b), .unset] []))
          obtain ⟨T13, X13, e13, st13⟩ := getS2 X10 hx hZ hown (host := "") (Or.inl (hw _ (List.mem_of_getElem? (i := 17) rfl))) Via.refl e10 S_NO (g := (mkF m 42 #[.val (.ref a), .val (.ref b), .unset] [])) rfl (hb hby d3_42)
          refine own_go (fun t k => st13 t k) ?_
          show Go p.tables e below _ (T13.setTop (mkF m 45 #[.val (.ref a), .val (.ref b), .unset] [(.ref w_NO)]))
          refine own_go (fun t k => XS.astoreN X13.here hx rfl (hb hby d3_45) rfl rfl (l' := #[.val (.ref a), .val (.ref b), .val (.ref w_NO)]) rfl k) ?_
          show Go p.tables e below _ (T13.setTop (mkF m 46 #[.val (.ref a), .val (.ref b), .val (.ref w_NO)] []))
          refine own_go (fun t k => XS.aloadN X13.here hx rfl (hb hby d3_46) rfl rfl k) ?_
          show Go p.tables e below _ (T13.setTop (mkF m 47 #[.val (.ref a), .val (.ref b), .val (.ref w_NO)] [(.ref w_NO)]))
          exact own_ret X13 hx hlk Bd.returns rfl (Or.inr (Or.inr (Or.inr (Or.inr ⟨rfl, rfl, rfl⟩)))) (hb hby d3_47) ⟨by first | (simp [own_or, hc2, hc5, hc8, hc11]; done) | rw [own_or, if_neg hc2, if_neg hc5, if_neg hc8, if_neg hc11], N0, e13⟩ (by decide) (by decide)
theorem d1_0 : decode prog_15_method_7_code 0 = .ok (.aload_n 0, 1) := by decide +kernel
theorem d1_1 : decode prog_15_method_7_code 1 = .ok (.getstatic 3, 3) := by decide +kernel
theorem d1_4 : decode prog_15_method_7_code 4 = .ok (.if_acmp .ne 10, 3) := by decide +kernel
theorem d1_7 : decode prog_15_method_7_code 7 = .ok (.getstatic 7, 3) := by decide +kernel
theorem d1_10 : decode prog_15_method_7_code 10 = .ok (.astore_n 1, 1) := by decide +kernel
theorem d1_11 : decode prog_15_method_7_code 11 = .ok (.goto 21, 3) := by decide +kernel
theorem d1_14 : decode prog_15_method_7_code 14 = .ok (.aload_n 0, 1) := by decide +kernel
theorem d1_15 : decode prog_15_method_7_code 15 = .ok (.getstatic 7, 3) := by decide +kernel
theorem d1_18 : decode prog_15_method_7_code 18 = .ok (.if_acmp .ne 10, 3) := by decide +kernel
theorem d1_21 : decode prog_15_method_7_code 21 = .ok (.getstatic 3, 3) := by decide +kernel
theorem d1_24 : decode prog_15_method_7_code 24 = .ok (.astore_n 1, 1) := by decide +kernel
theorem d1_25 : decode prog_15_method_7_code 25 = .ok (.goto 7, 3) := by decide +kernel
theorem d1_28 : decode prog_15_method_7_code 28 = .ok (.getstatic 10, 3) := by decide +kernel
theorem d1_31 : decode prog_15_method_7_code 31 = .ok (.astore_n 1, 1) := by decide +kernel
theorem d1_32 : decode prog_15_method_7_code 32 = .ok (.aload_n 1, 1) := by decide +kernel
theorem d1_33 : decode prog_15_method_7_code 33 = .ok (.areturn, 1) := by decide +kernel
theorem ef_rm_not (m : MethodId) (x0 : Addr) : entryFrame m #[(.ref x0)] 2 = mkF m 0 #[.val (.ref x0), .unset] [] := by first | (simp [entryFrame, mkF, argsToLocals, Value.category]; done) | rfl
set_option maxRecDepth 65536 in
set_option maxHeartbeats 40000000 in
theorem rm_not (l : Launch) (Z : State) (a0 : Array Value) (hw : ∀ d ∈ tables_1, d.before a0 Z = true) (ws : List Jvm.Cond) (a : Addr) (w_YES w_NO w_UNKNOWN : Addr) (h0 : Heap) (n0 : Nat) (SS : own_S Z h0 w_YES w_NO w_UNKNOWN) :
    MetFree l (⟨"com/example/casewright/casewright/types/Answer", "not", "()Lcom/example/casewright/casewright/types/Answer;"⟩ : MethodName) (head1 (Jvm.Cond.code (⟨"com/example/casewright/casewright/types/Answer", "not", "()Lcom/example/casewright/casewright/types/Answer;"⟩ : MethodName) prog_15_method_7_code 2 (some (.object "com/example/casewright/casewright/types/Answer")) :: ws) ({ frames := 0, cells := 0, slots := 0, locals := 0 } : Room)) (fun aa U => aa = #[(.ref a)] ∧ Z.Warmed39 U.vm ∧ U.heap = h0) (fun _ _ _ _ _ => True) (fun _ U o U' => ∃ v L, o = .returned v ∧ PQ (.ref (own_not w_NO w_UNKNOWN w_YES a)) h0 n0 v U'.heap L ∧ FrameEnd U o U' L ({ frames := 0, cells := 0, slots := 0, locals := 0 } : Room).cells ({ frames := 0, cells := 0, slots := 0, locals := 0 } : Room).slots) := by
  refine MetFree.of_bodySF (plainFor_of_name pn_0) hisR ?_
  intro p e s m args below meth c s₁ Bd hml0 hP hK
  obtain ⟨rfl, hZ, hh⟩ := hP
  have hx := Bd.exec
  have hby := Bd.bytes
  have hlk := Bd.notSynchronized
  have hml : c.maxLocals = 2 := hml0
  have hown : s.vm.findClass "com/example/casewright/casewright/types/Answer" = some m.cls := findClass_of_methodNamed Bd.named
  have X0 : Stand p l e ({ frames := 0, cells := 0, slots := 0, locals := 0 } : Room) s m #[(.ref a)] below meth c s₁ [] 0 0 := Stand.of_body Bd
  have e0 : s₁.heap = h0 := by rw [← hh, Bd.state]; rfl
  have N0 := Fr.nil n0
  obtain ⟨S_YES, S_NO, S_UNKNOWN⟩ := SS
  show Go p.tables e below (Fin s below (PQ (.ref (own_not w_NO w_UNKNOWN w_YES a)) h0 n0) ({ frames := 0, cells := 0, slots := 0, locals := 0 } : Room).cells ({ frames := 0, cells := 0, slots := 0, locals := 0 } : Room).slots) (s₁.setTop (entryFrame m #[(.ref a)] 2))
  refine own_go (fun t k => castTop (ef_rm_not m a) k) ?_
  show Go p.tables e below _ (s₁.setTop (mkF m 0 #[.val (.ref a), .unset] []))
  refine own_go (fun t k => XS.aloadN X0.here hx rfl (hb hby d1_0) rfl rfl k) ?_
  show Go p.tables e below _ (s₁.setTop (mkF m 1 #[.val (.ref a), .unset] [(.ref a)]))
  obtain ⟨T1, X1, e1, st1⟩ := getS2 X0 hx hZ hown (host := "") (Or.inl (hw _ (List.mem_of_getElem? (i := 16) rfl))) Via.refl e0 S_YES (g := (mkF m 1 #[.val (.ref a), .unset] [(.ref a)])) rfl (hb hby d1_1)
  refine own_go (fun t k => st1 t k) ?_
  show Go p.tables e below _ (T1.setTop (mkF m 4 #[.val (.ref a), .unset] [(.ref w_YES), (.ref a)]))
  by_cases hc2 : a = w_YES
  · refine own_go (fun t k => XT.acmpNo X1.here hx rfl (hb hby d1_4) rfl rfl rfl (XT.aa_ne_f (congrArg Value.ref hc2)) k) ?_
    show Go p.tables e below _ (T1.setTop (mkF m 7 #[.val (.ref a), .unset] []))
    obtain ⟨T3, X3, e3, st3⟩ := getS2 X1 hx hZ hown (host := "") (Or.inl (hw _ (List.mem_of_getElem? (i := 17) rfl))) Via.refl e1 S_NO (g := (mkF m 7 #[.val (.ref a), .unset] [])) rfl (hb hby d1_7)
    refine own_go (fun t k => st3 t k) ?_
    show Go p.tables e below _ (T3.setTop (mkF m 10 #[.val (.ref a), .unset] [(.ref w_NO)]))
    refine own_go (fun t k => XS.astoreN X3.here hx rfl (hb hby d1_10) rfl rfl (l' := #[.val (.ref a), .val (.ref w_NO)]) rfl k) ?_
    show Go p.tables e below _ (T3.setTop (mkF m 11 #[.val (.ref a), .val (.ref w_NO)] []))
    refine own_go (fun t k => XS.goto X3.here hx rfl (pc0 := 11) (pc' := 32) rfl (hb hby d1_11) (by decide) (by decide) k) ?_
    show Go p.tables e below _ (T3.setTop (mkF m 32 #[.val (.ref a), .val (.ref w_NO)] []))
    refine own_go (fun t k => XS.aloadN X3.here hx rfl (hb hby d1_32) rfl rfl k) ?_
    show Go p.tables e below _ (T3.setTop (mkF m 33 #[.val (.ref a), .val (.ref w_NO)] [(.ref w_NO)]))
    exact own_ret X3 hx hlk Bd.returns rfl (Or.inr (Or.inr (Or.inr (Or.inr ⟨rfl, rfl, rfl⟩)))) (hb hby d1_33) ⟨by first | (simp [own_not, hc2]; done) | rw [own_not, if_pos hc2], N0, e3⟩ (by decide) (by decide)
  · refine own_go (fun t k => XT.acmpYes X1.here hx rfl (pc0 := 4) (pc' := 14) rfl (hb hby d1_4) rfl rfl rfl (XT.aa_ne_t (fun q => hc2 (Value.ref.inj q))) (by decide) (by decide) k) ?_
    show Go p.tables e below _ (T1.setTop (mkF m 14 #[.val (.ref a), .unset] []))
    refine own_go (fun t k => XS.aloadN X1.here hx rfl (hb hby d1_14) rfl rfl k) ?_
    show Go p.tables e below _ (T1.setTop (mkF m 15 #[.val (.ref a), .unset] [(.ref a)]))
    obtain ⟨T4, X4, e4, st4⟩ := getS2 X1 hx hZ hown (host := "") (Or.inl (hw _ (List.mem_of_getElem? (i := 17) rfl))) Via.refl e1 S_NO (g := (mkF m 15 #[.val (.ref a), .unset] [(.ref a)])) rfl (hb hby d1_15)
    refine own_go (fun t k => st4 t k) ?_
    show Go p.tables e below _ (T4.setTop (mkF m 18 #[.val (.ref a), .unset] [(.ref w_NO), (.ref a)]))
    by_cases hc5 : a = w_NO
    · refine own_go (fun t k => XT.acmpNo X4.here hx rfl (hb hby d1_18) rfl rfl rfl (XT.aa_ne_f (congrArg Value.ref hc5)) k) ?_
      show Go p.tables e below _ (T4.setTop (mkF m 21 #[.val (.ref a), .unset] []))
      obtain ⟨T6, X6, e6, st6⟩ := getS2 X4 hx hZ hown (host := "") (Or.inl (hw _ (List.mem_of_getElem? (i := 16) rfl))) Via.refl e4 S_YES (g := (mkF m 21 #[.val (.ref a), .unset] [])) rfl (hb hby d1_21)
      refine own_go (fun t k => st6 t k) ?_
      show Go p.tables e below _ (T6.setTop (mkF m 24 #[.val (.ref a), .unset] [(.ref w_YES)]))
      refine own_go (fun t k => XS.astoreN X6.here hx rfl (hb hby d1_24) rfl rfl (l' := #[.val (.ref a), .val (.ref w_YES)]) rfl k) ?_
      show Go p.tables e below _ (T6.setTop (mkF m 25 #[.val (.ref a), .val (.ref w_YES)] []))
      refine own_go (fun t k => XS.goto X6.here hx rfl (pc0 := 25) (pc' := 32) rfl (hb hby d1_25) (by decide) (by decide) k) ?_
      show Go p.tables e below _ (T6.setTop (mkF m 32 #[.val (.ref a), .val (.ref w_YES)] []))
      refine own_go (fun t k => XS.aloadN X6.here hx rfl (hb hby d1_32) rfl rfl k) ?_
      show Go p.tables e below _ (T6.setTop (mkF m 33 #[.val (.ref a), .val (.ref w_YES)] [(.ref w_YES)]))
      exact own_ret X6 hx hlk Bd.returns rfl (Or.inr (Or.inr (Or.inr (Or.inr ⟨rfl, rfl, rfl⟩)))) (hb hby d1_33) ⟨by first | (simp [own_not, hc2, hc5]; done) | rw [own_not, if_neg hc2, if_pos hc5], N0, e6⟩ (by decide) (by decide)
    · refine own_go (fun t k => XT.acmpYes X4.here hx rfl (pc0 := 18) (pc' := 28) rfl (hb hby d1_18) rfl rfl rfl (XT.aa_ne_t (fun q => hc5 (Value.ref.inj q))) (by decide) (by decide) k) ?_
      show Go p.tables e below _ (T4.setTop (mkF m 28 #[.val (.ref a), .unset] []))
      obtain ⟨T7, X7, e7, st7⟩ := getS2 X4 hx hZ hown (host := "") (Or.inl (hw _ (List.mem_of_getElem? (i := 23) rfl))) Via.refl e4 S_UNKNOWN (g := (mkF m 28 #[.val (.ref a), .unset] [])) rfl (hb hby d1_28)
      refine own_go (fun t k => st7 t k) ?_
      show Go p.tables e below _ (T7.setTop (mkF m 31 #[.val (.ref a), .unset] [(.ref w_UNKNOWN)]))
      refine own_go (fun t k => XS.astoreN X7.here hx rfl (hb hby d1_31) rfl rfl (l' := #[.val (.ref a), .val (.ref w_UNKNOWN)]) rfl k) ?_
      show Go p.tables e below _ (T7.setTop (mkF m 32 #[.val (.ref a), .val (.ref w_UNKNOWN)] []))
      refine own_go (fun t k => XS.aloadN X7.here hx rfl (hb hby d1_32) rfl rfl k) ?_
      show Go p.tables e below _ (T7.setTop (mkF m 33 #[.val (.ref a), .val (.ref w_UNKNOWN)] [(.ref w_UNKNOWN)]))
      exact own_ret X7 hx hlk Bd.returns rfl (Or.inr (Or.inr (Or.inr (Or.inr ⟨rfl, rfl, rfl⟩)))) (hb hby d1_33) ⟨by first | (simp [own_not, hc2, hc5]; done) | rw [own_not, if_neg hc2, if_neg hc5], N0, e7⟩ (by decide) (by decide)
theorem pd_0 : parseMethodDescriptor "()Lcom/example/casewright/casewright/types/Answer;" = some ⟨[], some (.object "com/example/casewright/casewright/types/Answer")⟩ := by decide +kernel
theorem pd_1 : parseMethodDescriptor "(Lcom/example/casewright/casewright/types/Answer;)Lcom/example/casewright/casewright/types/Answer;" = some ⟨[(.object "com/example/casewright/casewright/types/Answer")], some (.object "com/example/casewright/casewright/types/Answer")⟩ := by decide +kernel
theorem pn_1 : plainName "com/example/casewright/casewright/types/AnswerNotPinLaw" = true := by first | (simp [plainName, overriddenIn]; done) | decide +kernel
theorem ef_rm_law_00 (m : MethodId) (x0 : Int32) (x1 : Int32) : entryFrame m #[(.int x0), (.int x1)] maxLocals = mkF m 0 #[.val (.int x0), .val (.int x1), .unset, .unset, .unset, .unset, .unset, .unset, .unset, .unset, .unset, .unset, .unset, .unset] [] := by first | (simp [entryFrame, mkF, argsToLocals, Value.category, maxLocals]; done) | rfl
set_option maxRecDepth 65536 in
set_option maxHeartbeats 40000000 in
theorem rm_law_00 (l : Launch) (Z : State) (a0 : Array Value) (hw : ∀ d ∈ tables_1, d.before a0 Z = true) (ws : List Jvm.Cond) (p1 p2 : Int32) (w_YES w_NO w_UNKNOWN : Addr) (h0 : Heap) (n0 : Nat) (SS : own_S Z h0 w_YES w_NO w_UNKNOWN) (EE : own_E Z h0 w_YES w_NO w_UNKNOWN) (OO : own_O Z h0 w_YES w_NO w_UNKNOWN) (Z0 : n0 ≤ h0.size) (q1 : (p1 &&& 2147483647) % 3 = 0) (q2 : (p2 &&& 2147483647) % 3 = 0) :
    MetFree l x (head1 (Jvm.Cond.code x code maxLocals ret :: ws) room_1) (fun aa U => aa = #[(.int p1), (.int p2)] ∧ Z.Warmed39 U.vm ∧ U.heap = h0) (fun _ _ _ _ _ => True) (fun _ U o U' => ∃ v L, o = .returned v ∧ LQ n0 v U'.heap L ∧ FrameEnd U o U' L room_1.cells room_1.slots) := by
  refine MetFree.of_bodySF (plainFor_of_name pn_1) hisR ?_
  intro p e s m args below meth c s₁ Bd hml0 hP hK
  obtain ⟨rfl, hZ, hh⟩ := hP
  have hx := Bd.exec
  have hby := Bd.bytes
  have hlk := Bd.notSynchronized
  have hml : c.maxLocals = 14 := hml0
  have hown : s.vm.findClass "com/example/casewright/casewright/types/AnswerNotPinLaw" = some m.cls := findClass_of_methodNamed Bd.named
  have X0 : Stand p l e room_1 s m #[(.int p1), (.int p2)] below meth c s₁ [] 0 0 := Stand.of_body Bd
  have e0 : s₁.heap = h0 := by rw [← hh, Bd.state]; rfl
  have N0 := Fr.nil n0
  have SS' := SS
  obtain ⟨S_YES, S_NO, S_UNKNOWN⟩ := SS'
  obtain ⟨E_YES, E_NO, E_UNKNOWN⟩ := EE
  obtain ⟨F_NO_ordinal, F_YES_ordinal, F_UNKNOWN_ordinal⟩ := OO
  have nUN : w_UNKNOWN ≠ w_NO := (own_ne F_UNKNOWN_ordinal F_NO_ordinal (by decide))
  have nYN : w_YES ≠ w_NO := (own_ne F_YES_ordinal F_NO_ordinal (by decide))
  have nYU : w_YES ≠ w_UNKNOWN := (own_ne F_YES_ordinal F_UNKNOWN_ordinal (by decide))
  show Go p.tables e below (Fin s below (LQ n0) room_1.cells room_1.slots) (s₁.setTop (entryFrame m #[(.int p1), (.int p2)] maxLocals))
  refine own_go (fun t k => castTop (ef_rm_law_00 m p1 p2) k) ?_
  show Go p.tables e below _ (s₁.setTop (mkF m 0 #[.val (.int p1), .val (.int p2), .unset, .unset, .unset, .unset, .unset, .unset, .unset, .unset, .unset, .unset, .unset, .unset] []))
  refine own_go (fun t k => XS.iconst X0.here hx rfl (hb hby at_0) k) ?_
  show Go p.tables e below _ (s₁.setTop (mkF m 1 #[.val (.int p1), .val (.int p2), .unset, .unset, .unset, .unset, .unset, .unset, .unset, .unset, .unset, .unset, .unset, .unset] [(.int (3 : Int32))]))
  obtain ⟨T1, h1, kA, X1, e1, Ex1, A1, O1, st1⟩ := newR X0 hx hZ hown (hw _ (List.mem_of_getElem? (i := 0) rfl)) (hw _ (List.mem_of_getElem? (i := 1) rfl)) e0 (g := (mkF m 1 #[.val (.int p1), .val (.int p2), .unset, .unset, .unset, .unset, .unset, .unset, .unset, .unset, .unset, .unset, .unset, .unset] [(.int (3 : Int32))])) rfl (hb hby at_1) rfl (by decide) (cap := 3) (by decide) (by decide) (by decide) (by decide)
  obtain ⟨b, gb⟩ : ∃ z, z = h0.size := ⟨_, rfl⟩
  rw [← gb] at A1 st1
  have hb0 : n0 ≤ b := Nat.le_trans Z0 (Nat.le_of_eq gb.symm)
  have S1_YES := S_YES.ext Ex1
  have E1_YES := E_YES.ext Ex1
  have S1_NO := S_NO.ext Ex1
  have E1_NO := E_NO.ext Ex1
  have S1_UNKNOWN := S_UNKNOWN.ext Ex1
  have E1_UNKNOWN := E_UNKNOWN.ext Ex1
  refine own_go (fun t k => st1 t k) ?_
  show Go p.tables e below _ (T1.setTop (mkF m 4 #[.val (.int p1), .val (.int p2), .unset, .unset, .unset, .unset, .unset, .unset, .unset, .unset, .unset, .unset, .unset, .unset] [(.ref b)]))
  refine own_go (fun t k => XS.dup X1.here hx rfl (hb hby at_4) rfl rfl k) ?_
  show Go p.tables e below _ (T1.setTop (mkF m 5 #[.val (.int p1), .val (.int p2), .unset, .unset, .unset, .unset, .unset, .unset, .unset, .unset, .unset, .unset, .unset, .unset] [(.ref b), (.ref b)]))
  refine own_go (fun t k => XS.iconst X1.here hx rfl (hb hby at_5) k) ?_
  show Go p.tables e below _ (T1.setTop (mkF m 6 #[.val (.int p1), .val (.int p2), .unset, .unset, .unset, .unset, .unset, .unset, .unset, .unset, .unset, .unset, .unset, .unset] [(.int (0 : Int32)), (.ref b), (.ref b)]))
  obtain ⟨T11, X11, e11, st11⟩ := getS2 X1 hx hZ hown (host := "") (Or.inl (hw _ (List.mem_of_getElem? (i := 2) rfl))) Via.refl e1 S1_YES (g := (mkF m 6 #[.val (.int p1), .val (.int p2), .unset, .unset, .unset, .unset, .unset, .unset, .unset, .unset, .unset, .unset, .unset, .unset] [(.int (0 : Int32)), (.ref b), (.ref b)])) rfl (hb hby at_6)
  refine own_go (fun t k => st11 t k) ?_
  show Go p.tables e below _ (T11.setTop (mkF m 9 #[.val (.int p1), .val (.int p2), .unset, .unset, .unset, .unset, .unset, .unset, .unset, .unset, .unset, .unset, .unset, .unset] [(.ref w_YES), (.int (0 : Int32)), (.ref b), (.ref b)]))
  obtain ⟨T2w, h2, X2w, e2w, W2, stw2⟩ := stR X11 hx hZ e11 A1 (j := (0 : Int32)) (by rw [sz_new]; decide) rfl (Sto.of A1 O1 (Ins.self E1_YES)) (g := (mkF m 9 #[.val (.int p1), .val (.int p2), .unset, .unset, .unset, .unset, .unset, .unset, .unset, .unset, .unset, .unset, .unset, .unset] [(.ref w_YES), (.int (0 : Int32)), (.ref b), (.ref b)])) rfl rfl (hb hby at_9)
  have N2w := Fr.snoc X2w N0 hb0
  have A2 := A1.same W2
  have S2_YES := S1_YES.wr W2
  have E2_YES := E1_YES.wr W2
  have S2_NO := S1_NO.wr W2
  have E2_NO := E1_NO.wr W2
  have S2_UNKNOWN := S1_UNKNOWN.wr W2
  have E2_UNKNOWN := E1_UNKNOWN.wr W2
  refine own_go (fun t k => stw2 t k) ?_
  show Go p.tables e below _ (T2w.setTop (mkF m 10 #[.val (.int p1), .val (.int p2), .unset, .unset, .unset, .unset, .unset, .unset, .unset, .unset, .unset, .unset, .unset, .unset] [(.ref b)]))
  refine own_go (fun t k => XS.dup X2w.here hx rfl (hb hby at_10) rfl rfl k) ?_
  show Go p.tables e below _ (T2w.setTop (mkF m 11 #[.val (.int p1), .val (.int p2), .unset, .unset, .unset, .unset, .unset, .unset, .unset, .unset, .unset, .unset, .unset, .unset] [(.ref b), (.ref b)]))
  refine own_go (fun t k => XS.iconst X2w.here hx rfl (hb hby at_11) k) ?_
  show Go p.tables e below _ (T2w.setTop (mkF m 12 #[.val (.int p1), .val (.int p2), .unset, .unset, .unset, .unset, .unset, .unset, .unset, .unset, .unset, .unset, .unset, .unset] [(.int (1 : Int32)), (.ref b), (.ref b)]))
  obtain ⟨T51, X51, e51, st51⟩ := getS2 X2w hx hZ hown (host := "") (Or.inl (hw _ (List.mem_of_getElem? (i := 6) rfl))) Via.refl e2w S2_NO (g := (mkF m 12 #[.val (.int p1), .val (.int p2), .unset, .unset, .unset, .unset, .unset, .unset, .unset, .unset, .unset, .unset, .unset, .unset] [(.int (1 : Int32)), (.ref b), (.ref b)])) rfl (hb hby at_12)
  refine own_go (fun t k => st51 t k) ?_
  show Go p.tables e below _ (T51.setTop (mkF m 15 #[.val (.int p1), .val (.int p2), .unset, .unset, .unset, .unset, .unset, .unset, .unset, .unset, .unset, .unset, .unset, .unset] [(.ref w_NO), (.int (1 : Int32)), (.ref b), (.ref b)]))
  obtain ⟨T3w, h3, X3w, e3w, W3, stw3⟩ := stR X51 hx hZ e51 A2 (j := (1 : Int32)) (by rw [sz_set]; rw [sz_new]; decide) rfl (Sto.of A2 O1 (Ins.self E2_NO)) (g := (mkF m 15 #[.val (.int p1), .val (.int p2), .unset, .unset, .unset, .unset, .unset, .unset, .unset, .unset, .unset, .unset, .unset, .unset] [(.ref w_NO), (.int (1 : Int32)), (.ref b), (.ref b)])) rfl rfl (hb hby at_15)
  have N3w := Fr.snoc X3w N2w hb0
  have A3 := A2.same W3
  have S3_YES := S2_YES.wr W3
  have E3_YES := E2_YES.wr W3
  have S3_NO := S2_NO.wr W3
  have E3_NO := E2_NO.wr W3
  have S3_UNKNOWN := S2_UNKNOWN.wr W3
  have E3_UNKNOWN := E2_UNKNOWN.wr W3
  refine own_go (fun t k => stw3 t k) ?_
  show Go p.tables e below _ (T3w.setTop (mkF m 16 #[.val (.int p1), .val (.int p2), .unset, .unset, .unset, .unset, .unset, .unset, .unset, .unset, .unset, .unset, .unset, .unset] [(.ref b)]))
  refine own_go (fun t k => XS.dup X3w.here hx rfl (hb hby at_16) rfl rfl k) ?_
  show Go p.tables e below _ (T3w.setTop (mkF m 17 #[.val (.int p1), .val (.int p2), .unset, .unset, .unset, .unset, .unset, .unset, .unset, .unset, .unset, .unset, .unset, .unset] [(.ref b), (.ref b)]))
  refine own_go (fun t k => XS.iconst X3w.here hx rfl (hb hby at_17) k) ?_
  show Go p.tables e below _ (T3w.setTop (mkF m 18 #[.val (.int p1), .val (.int p2), .unset, .unset, .unset, .unset, .unset, .unset, .unset, .unset, .unset, .unset, .unset, .unset] [(.int (2 : Int32)), (.ref b), (.ref b)]))
  obtain ⟨T52, X52, e52, st52⟩ := getS2 X3w hx hZ hown (host := "") (Or.inl (hw _ (List.mem_of_getElem? (i := 8) rfl))) Via.refl e3w S3_UNKNOWN (g := (mkF m 18 #[.val (.int p1), .val (.int p2), .unset, .unset, .unset, .unset, .unset, .unset, .unset, .unset, .unset, .unset, .unset, .unset] [(.int (2 : Int32)), (.ref b), (.ref b)])) rfl (hb hby at_18)
  refine own_go (fun t k => st52 t k) ?_
  show Go p.tables e below _ (T52.setTop (mkF m 21 #[.val (.int p1), .val (.int p2), .unset, .unset, .unset, .unset, .unset, .unset, .unset, .unset, .unset, .unset, .unset, .unset] [(.ref w_UNKNOWN), (.int (2 : Int32)), (.ref b), (.ref b)]))
  obtain ⟨T4w, h4, X4w, e4w, W4, stw4⟩ := stR X52 hx hZ e52 A3 (j := (2 : Int32)) (by rw [sz_set]; rw [sz_set]; rw [sz_new]; decide) rfl (Sto.of A3 O1 (Ins.self E3_UNKNOWN)) (g := (mkF m 21 #[.val (.int p1), .val (.int p2), .unset, .unset, .unset, .unset, .unset, .unset, .unset, .unset, .unset, .unset, .unset, .unset] [(.ref w_UNKNOWN), (.int (2 : Int32)), (.ref b), (.ref b)])) rfl rfl (hb hby at_21)
  have N4w := Fr.snoc X4w N3w hb0
  have A4 := A3.same W4
  have S4_YES := S3_YES.wr W4
  have E4_YES := E3_YES.wr W4
  have S4_NO := S3_NO.wr W4
  have E4_NO := E3_NO.wr W4
  have S4_UNKNOWN := S3_UNKNOWN.wr W4
  have E4_UNKNOWN := E3_UNKNOWN.wr W4
  refine own_go (fun t k => stw4 t k) ?_
  show Go p.tables e below _ (T4w.setTop (mkF m 22 #[.val (.int p1), .val (.int p2), .unset, .unset, .unset, .unset, .unset, .unset, .unset, .unset, .unset, .unset, .unset, .unset] [(.ref b)]))
  have SSh : own_S Z h4 w_YES w_NO w_UNKNOWN := ⟨S4_YES, S4_NO, S4_UNKNOWN⟩
  have EH_YES := E4_YES
  have EH_NO := E4_NO
  have EH_UNKNOWN := E4_UNKNOWN
  refine own_go (fun t k => XS.astoreN X4w.here hx rfl (hb hby at_22) rfl rfl (l' := #[.val (.int p1), .val (.int p2), .val (.ref b), .unset, .unset, .unset, .unset, .unset, .unset, .unset, .unset, .unset, .unset, .unset]) rfl k) ?_
  show Go p.tables e below _ (T4w.setTop (mkF m 23 #[.val (.int p1), .val (.int p2), .val (.ref b), .unset, .unset, .unset, .unset, .unset, .unset, .unset, .unset, .unset, .unset, .unset] []))
  refine own_go (fun t k => XS.iloadN X4w.here hx rfl (hb hby at_23) rfl k) ?_
  show Go p.tables e below _ (T4w.setTop (mkF m 24 #[.val (.int p1), .val (.int p2), .val (.ref b), .unset, .unset, .unset, .unset, .unset, .unset, .unset, .unset, .unset, .unset, .unset] [(.int p1)]))
  refine own_go (fun t k => Jvm.Stand.ldcI X4w hx hown (mvT hZ (hw _ (List.mem_of_getElem? (i := 10) rfl))) rfl (hb hby at_24) k) ?_
  show Go p.tables e below _ (T4w.setTop (mkF m 26 #[.val (.int p1), .val (.int p2), .val (.ref b), .unset, .unset, .unset, .unset, .unset, .unset, .unset, .unset, .unset, .unset, .unset] [(.int (2147483647 : Int32)), (.int p1)]))
  refine own_go (fun t k => XS.iand X4w.here hx rfl (hb hby at_26) rfl k) ?_
  show Go p.tables e below _ (T4w.setTop (mkF m 27 #[.val (.int p1), .val (.int p2), .val (.ref b), .unset, .unset, .unset, .unset, .unset, .unset, .unset, .unset, .unset, .unset, .unset] [(.int (p1 &&& (2147483647 : Int32)))]))
  refine own_go (fun t k => XS.iconst X4w.here hx rfl (hb hby at_27) k) ?_
  show Go p.tables e below _ (T4w.setTop (mkF m 28 #[.val (.int p1), .val (.int p2), .val (.ref b), .unset, .unset, .unset, .unset, .unset, .unset, .unset, .unset, .unset, .unset, .unset] [(.int (3 : Int32)), (.int (p1 &&& (2147483647 : Int32)))]))
  refine own_go (fun t k => iremM (g := (mkF m 28 #[.val (.int p1), .val (.int p2), .val (.ref b), .unset, .unset, .unset, .unset, .unset, .unset, .unset, .unset, .unset, .unset, .unset] [(.int (3 : Int32)), (.int (p1 &&& (2147483647 : Int32)))])) X4w hx rfl (hb hby at_28) rfl (by decide) k) ?_
  show Go p.tables e below _ (T4w.setTop (mkF m 29 #[.val (.int p1), .val (.int p2), .val (.ref b), .unset, .unset, .unset, .unset, .unset, .unset, .unset, .unset, .unset, .unset, .unset] [(.int ((p1 &&& (2147483647 : Int32)) % (3 : Int32)))]))
  rw [q1]
  show Go p.tables e below _ (T4w.setTop (mkF m 29 #[.val (.int p1), .val (.int p2), .val (.ref b), .unset, .unset, .unset, .unset, .unset, .unset, .unset, .unset, .unset, .unset, .unset] [(.int (0 : Int32))]))
  refine own_go (fun t k => XS.istoreN X4w.here hx rfl (hb hby at_29) rfl (l' := #[.val (.int p1), .val (.int p2), .val (.ref b), .val (.int (0 : Int32)), .unset, .unset, .unset, .unset, .unset, .unset, .unset, .unset, .unset, .unset]) rfl k) ?_
  show Go p.tables e below _ (T4w.setTop (mkF m 30 #[.val (.int p1), .val (.int p2), .val (.ref b), .val (.int (0 : Int32)), .unset, .unset, .unset, .unset, .unset, .unset, .unset, .unset, .unset, .unset] []))
  refine own_go (fun t k => XS.iloadN X4w.here hx rfl (hb hby at_30) rfl k) ?_
  show Go p.tables e below _ (T4w.setTop (mkF m 31 #[.val (.int p1), .val (.int p2), .val (.ref b), .val (.int (0 : Int32)), .unset, .unset, .unset, .unset, .unset, .unset, .unset, .unset, .unset, .unset] [(.int p2)]))
  refine own_go (fun t k => Jvm.Stand.ldcI X4w hx hown (mvT hZ (hw _ (List.mem_of_getElem? (i := 10) rfl))) rfl (hb hby at_31) k) ?_
  show Go p.tables e below _ (T4w.setTop (mkF m 33 #[.val (.int p1), .val (.int p2), .val (.ref b), .val (.int (0 : Int32)), .unset, .unset, .unset, .unset, .unset, .unset, .unset, .unset, .unset, .unset] [(.int (2147483647 : Int32)), (.int p2)]))
  refine own_go (fun t k => XS.iand X4w.here hx rfl (hb hby at_33) rfl k) ?_
  show Go p.tables e below _ (T4w.setTop (mkF m 34 #[.val (.int p1), .val (.int p2), .val (.ref b), .val (.int (0 : Int32)), .unset, .unset, .unset, .unset, .unset, .unset, .unset, .unset, .unset, .unset] [(.int (p2 &&& (2147483647 : Int32)))]))
  refine own_go (fun t k => XS.iconst X4w.here hx rfl (hb hby at_34) k) ?_
  show Go p.tables e below _ (T4w.setTop (mkF m 35 #[.val (.int p1), .val (.int p2), .val (.ref b), .val (.int (0 : Int32)), .unset, .unset, .unset, .unset, .unset, .unset, .unset, .unset, .unset, .unset] [(.int (3 : Int32)), (.int (p2 &&& (2147483647 : Int32)))]))
  refine own_go (fun t k => iremM (g := (mkF m 35 #[.val (.int p1), .val (.int p2), .val (.ref b), .val (.int (0 : Int32)), .unset, .unset, .unset, .unset, .unset, .unset, .unset, .unset, .unset, .unset] [(.int (3 : Int32)), (.int (p2 &&& (2147483647 : Int32)))])) X4w hx rfl (hb hby at_35) rfl (by decide) k) ?_
  show Go p.tables e below _ (T4w.setTop (mkF m 36 #[.val (.int p1), .val (.int p2), .val (.ref b), .val (.int (0 : Int32)), .unset, .unset, .unset, .unset, .unset, .unset, .unset, .unset, .unset, .unset] [(.int ((p2 &&& (2147483647 : Int32)) % (3 : Int32)))]))
  rw [q2]
  show Go p.tables e below _ (T4w.setTop (mkF m 36 #[.val (.int p1), .val (.int p2), .val (.ref b), .val (.int (0 : Int32)), .unset, .unset, .unset, .unset, .unset, .unset, .unset, .unset, .unset, .unset] [(.int (0 : Int32))]))
  refine own_go (fun t k => XS.istore X4w.here hx rfl (hb hby at_36) rfl (l' := #[.val (.int p1), .val (.int p2), .val (.ref b), .val (.int (0 : Int32)), .val (.int (0 : Int32)), .unset, .unset, .unset, .unset, .unset, .unset, .unset, .unset, .unset]) rfl k) ?_
  show Go p.tables e below _ (T4w.setTop (mkF m 38 #[.val (.int p1), .val (.int p2), .val (.ref b), .val (.int (0 : Int32)), .val (.int (0 : Int32)), .unset, .unset, .unset, .unset, .unset, .unset, .unset, .unset, .unset] []))
  refine own_go (fun t k => XS.aloadN X4w.here hx rfl (hb hby at_38) rfl rfl k) ?_
  show Go p.tables e below _ (T4w.setTop (mkF m 39 #[.val (.int p1), .val (.int p2), .val (.ref b), .val (.int (0 : Int32)), .val (.int (0 : Int32)), .unset, .unset, .unset, .unset, .unset, .unset, .unset, .unset, .unset] [(.ref b)]))
  refine own_go (fun t k => XS.iloadN X4w.here hx rfl (hb hby at_39) rfl k) ?_
  show Go p.tables e below _ (T4w.setTop (mkF m 40 #[.val (.int p1), .val (.int p2), .val (.ref b), .val (.int (0 : Int32)), .val (.int (0 : Int32)), .unset, .unset, .unset, .unset, .unset, .unset, .unset, .unset, .unset] [(.int (0 : Int32)), (.ref b)]))
  refine own_go (fun t k => X4w.aaload hx (j := (0 : Int32)) (v := (.ref w_YES)) (by rw [e4w]; exact A4.1) (State.isArrayOf_alike hZ.alike A4.2.1) rfl A4.2.2 (by rw [sz_set, sz_set, sz_set, sz_new]; decide) rfl (g := (mkF m 40 #[.val (.int p1), .val (.int p2), .val (.ref b), .val (.int (0 : Int32)), .val (.int (0 : Int32)), .unset, .unset, .unset, .unset, .unset, .unset, .unset, .unset, .unset] [(.int (0 : Int32)), (.ref b)])) rfl rfl (hb hby at_40) t k) ?_
  show Go p.tables e below _ (T4w.setTop (mkF m 41 #[.val (.int p1), .val (.int p2), .val (.ref b), .val (.int (0 : Int32)), .val (.int (0 : Int32)), .unset, .unset, .unset, .unset, .unset, .unset, .unset, .unset, .unset] [(.ref w_YES)]))
  refine own_go (fun t k => XS.astore X4w.here hx rfl (hb hby at_41) rfl rfl (l' := #[.val (.int p1), .val (.int p2), .val (.ref b), .val (.int (0 : Int32)), .val (.int (0 : Int32)), .val (.ref w_YES), .unset, .unset, .unset, .unset, .unset, .unset, .unset, .unset]) rfl k) ?_
  show Go p.tables e below _ (T4w.setTop (mkF m 43 #[.val (.int p1), .val (.int p2), .val (.ref b), .val (.int (0 : Int32)), .val (.int (0 : Int32)), .val (.ref w_YES), .unset, .unset, .unset, .unset, .unset, .unset, .unset, .unset] []))
  refine own_go (fun t k => XS.aloadN X4w.here hx rfl (hb hby at_43) rfl rfl k) ?_
  show Go p.tables e below _ (T4w.setTop (mkF m 44 #[.val (.int p1), .val (.int p2), .val (.ref b), .val (.int (0 : Int32)), .val (.int (0 : Int32)), .val (.ref w_YES), .unset, .unset, .unset, .unset, .unset, .unset, .unset, .unset] [(.ref b)]))
  refine own_go (fun t k => XS.iload X4w.here hx rfl (hb hby at_44) rfl k) ?_
  show Go p.tables e below _ (T4w.setTop (mkF m 46 #[.val (.int p1), .val (.int p2), .val (.ref b), .val (.int (0 : Int32)), .val (.int (0 : Int32)), .val (.ref w_YES), .unset, .unset, .unset, .unset, .unset, .unset, .unset, .unset] [(.int (0 : Int32)), (.ref b)]))
  refine own_go (fun t k => X4w.aaload hx (j := (0 : Int32)) (v := (.ref w_YES)) (by rw [e4w]; exact A4.1) (State.isArrayOf_alike hZ.alike A4.2.1) rfl A4.2.2 (by rw [sz_set, sz_set, sz_set, sz_new]; decide) rfl (g := (mkF m 46 #[.val (.int p1), .val (.int p2), .val (.ref b), .val (.int (0 : Int32)), .val (.int (0 : Int32)), .val (.ref w_YES), .unset, .unset, .unset, .unset, .unset, .unset, .unset, .unset] [(.int (0 : Int32)), (.ref b)])) rfl rfl (hb hby at_46) t k) ?_
  show Go p.tables e below _ (T4w.setTop (mkF m 47 #[.val (.int p1), .val (.int p2), .val (.ref b), .val (.int (0 : Int32)), .val (.int (0 : Int32)), .val (.ref w_YES), .unset, .unset, .unset, .unset, .unset, .unset, .unset, .unset] [(.ref w_YES)]))
  refine own_go (fun t k => XS.astore X4w.here hx rfl (hb hby at_47) rfl rfl (l' := #[.val (.int p1), .val (.int p2), .val (.ref b), .val (.int (0 : Int32)), .val (.int (0 : Int32)), .val (.ref w_YES), .val (.ref w_YES), .unset, .unset, .unset, .unset, .unset, .unset, .unset]) rfl k) ?_
  show Go p.tables e below _ (T4w.setTop (mkF m 49 #[.val (.int p1), .val (.int p2), .val (.ref b), .val (.int (0 : Int32)), .val (.int (0 : Int32)), .val (.ref w_YES), .val (.ref w_YES), .unset, .unset, .unset, .unset, .unset, .unset, .unset] []))
  refine own_go (fun t k => XS.iloadN X4w.here hx rfl (hb hby at_49) rfl k) ?_
  show Go p.tables e below _ (T4w.setTop (mkF m 50 #[.val (.int p1), .val (.int p2), .val (.ref b), .val (.int (0 : Int32)), .val (.int (0 : Int32)), .val (.ref w_YES), .val (.ref w_YES), .unset, .unset, .unset, .unset, .unset, .unset, .unset] [(.int (0 : Int32))]))
  refine own_go (fun t k => XS.iconst X4w.here hx rfl (hb hby at_50) k) ?_
  show Go p.tables e below _ (T4w.setTop (mkF m 51 #[.val (.int p1), .val (.int p2), .val (.ref b), .val (.int (0 : Int32)), .val (.int (0 : Int32)), .val (.ref w_YES), .val (.ref w_YES), .unset, .unset, .unset, .unset, .unset, .unset, .unset] [(.int (2 : Int32)), (.int (0 : Int32))]))
  refine own_go (fun t k => XS.icmpYes X4w.here hx rfl (pc0 := 51) (pc' := 62) rfl (hb hby at_51) rfl (XT.ii_ne_t (by decide)) (by decide) (by decide) k) ?_
  show Go p.tables e below _ (T4w.setTop (mkF m 62 #[.val (.int p1), .val (.int p2), .val (.ref b), .val (.int (0 : Int32)), .val (.int (0 : Int32)), .val (.ref w_YES), .val (.ref w_YES), .unset, .unset, .unset, .unset, .unset, .unset, .unset] []))
  refine own_go (fun t k => XS.aloadN X4w.here hx rfl (hb hby at_62) rfl rfl k) ?_
  show Go p.tables e below _ (T4w.setTop (mkF m 63 #[.val (.int p1), .val (.int p2), .val (.ref b), .val (.int (0 : Int32)), .val (.int (0 : Int32)), .val (.ref w_YES), .val (.ref w_YES), .unset, .unset, .unset, .unset, .unset, .unset, .unset] [(.ref b)]))
  refine own_go (fun t k => XS.iconst X4w.here hx rfl (hb hby at_63) k) ?_
  show Go p.tables e below _ (T4w.setTop (mkF m 64 #[.val (.int p1), .val (.int p2), .val (.ref b), .val (.int (0 : Int32)), .val (.int (0 : Int32)), .val (.ref w_YES), .val (.ref w_YES), .unset, .unset, .unset, .unset, .unset, .unset, .unset] [(.int (1 : Int32)), (.ref b)]))
  refine own_go (fun t k => XS.iloadN X4w.here hx rfl (hb hby at_64) rfl k) ?_
  show Go p.tables e below _ (T4w.setTop (mkF m 65 #[.val (.int p1), .val (.int p2), .val (.ref b), .val (.int (0 : Int32)), .val (.int (0 : Int32)), .val (.ref w_YES), .val (.ref w_YES), .unset, .unset, .unset, .unset, .unset, .unset, .unset] [(.int (0 : Int32)), (.int (1 : Int32)), (.ref b)]))
  refine own_go (fun t k => XS.isub X4w.here hx rfl (hb hby at_65) rfl k) ?_
  show Go p.tables e below _ (T4w.setTop (mkF m 66 #[.val (.int p1), .val (.int p2), .val (.ref b), .val (.int (0 : Int32)), .val (.int (0 : Int32)), .val (.ref w_YES), .val (.ref w_YES), .unset, .unset, .unset, .unset, .unset, .unset, .unset] [(.int (1 : Int32)), (.ref b)]))
  refine own_go (fun t k => X4w.aaload hx (j := (1 : Int32)) (v := (.ref w_NO)) (by rw [e4w]; exact A4.1) (State.isArrayOf_alike hZ.alike A4.2.1) rfl A4.2.2 (by rw [sz_set, sz_set, sz_set, sz_new]; decide) rfl (g := (mkF m 66 #[.val (.int p1), .val (.int p2), .val (.ref b), .val (.int (0 : Int32)), .val (.int (0 : Int32)), .val (.ref w_YES), .val (.ref w_YES), .unset, .unset, .unset, .unset, .unset, .unset, .unset] [(.int (1 : Int32)), (.ref b)])) rfl rfl (hb hby at_66) t k) ?_
  show Go p.tables e below _ (T4w.setTop (mkF m 67 #[.val (.int p1), .val (.int p2), .val (.ref b), .val (.int (0 : Int32)), .val (.int (0 : Int32)), .val (.ref w_YES), .val (.ref w_YES), .unset, .unset, .unset, .unset, .unset, .unset, .unset] [(.ref w_NO)]))
  refine own_go (fun t k => XS.astore X4w.here hx rfl (hb hby at_67) rfl rfl (l' := #[.val (.int p1), .val (.int p2), .val (.ref b), .val (.int (0 : Int32)), .val (.int (0 : Int32)), .val (.ref w_YES), .val (.ref w_YES), .val (.ref w_NO), .unset, .unset, .unset, .unset, .unset, .unset]) rfl k) ?_
  show Go p.tables e below _ (T4w.setTop (mkF m 69 #[.val (.int p1), .val (.int p2), .val (.ref b), .val (.int (0 : Int32)), .val (.int (0 : Int32)), .val (.ref w_YES), .val (.ref w_YES), .val (.ref w_NO), .unset, .unset, .unset, .unset, .unset, .unset] []))
  refine own_go (fun t k => XS.aload X4w.here hx rfl (hb hby at_69) rfl rfl k) ?_
  show Go p.tables e below _ (T4w.setTop (mkF m 71 #[.val (.int p1), .val (.int p2), .val (.ref b), .val (.int (0 : Int32)), .val (.int (0 : Int32)), .val (.ref w_YES), .val (.ref w_YES), .val (.ref w_NO), .unset, .unset, .unset, .unset, .unset, .unset] [(.ref w_YES)]))
  obtain ⟨cq53, kq53, q53a, q53b, q53c⟩ := isOf hZ e4w EH_YES
  obtain ⟨v53, _, ⟨T53, L53, k53, n53⟩, -, X53, ⟨Lc53, hQ53, l53, y53, z53⟩, st53⟩ := X4w.virtualBack hx (y := (⟨"com/example/casewright/casewright/types/Answer", "not", "()Lcom/example/casewright/casewright/types/Answer;"⟩ : MethodName)) (z := (⟨"com/example/casewright/casewright/types/Answer", "not", "()Lcom/example/casewright/casewright/types/Answer;"⟩ : MethodName)) hown (mvT hZ (hw _ (List.mem_of_getElem? (i := 11) rfl))) (mvT hZ (hw _ (List.mem_of_getElem? (i := 12) rfl))) (notFace_of_selects (args := #[]) (mvT hZ (hw _ (List.mem_of_getElem? (i := 14) rfl)))) (mvT hZ (hw _ (List.mem_of_getElem? (i := 14) rfl))) (mvT hZ (hw _ (List.mem_of_getElem? (i := 13) rfl))) (by decide) (backOf (W := 0) (rm_not l Z a0 hw [] w_YES w_YES w_NO w_UNKNOWN h4 n0 SSh) hZ (hw _ (List.mem_of_getElem? (i := 15) rfl)) (hw _ (List.mem_of_getElem? (i := 3) rfl)) (by decide) (by decide)) q53a q53c (g := (mkF m 71 #[.val (.int p1), .val (.int p2), .val (.ref b), .val (.int (0 : Int32)), .val (.int (0 : Int32)), .val (.ref w_YES), .val (.ref w_YES), .val (.ref w_NO), .unset, .unset, .unset, .unset, .unset, .unset] [(.ref w_YES)])) rfl (by rw [hml]; rfl) (Steps.refl _) (argsL := []) (rest := []) (lenOf pd_0 rfl) rfl (by show 2 * 0 + _ ≤ _; exact Nat.le_of_eq rfl) (hb hby at_71) (fun _ _ => ⟨rfl, e4w, (by decide : 0 + 1 + 0 ≤ _), (by decide : 0 + 3 + 0 ≤ _)⟩)
  dsimp only [Pt.U, Pt.locs, Pt.cells, Pt.slots] at X53 l53 y53 z53 st53 hQ53
  subst l53 y53 z53
  obtain ⟨hv53, N53q, e53⟩ := hQ53
  rw [show ((.ref (own_not w_NO w_UNKNOWN w_YES w_YES)) : Value) = (.ref w_NO) from by simp [own_not, nUN, nYN, nYU, nUN.symm, nYN.symm, nYU.symm]] at hv53
  subst hv53
  have N53 := Fr.app N4w N53q
  refine own_go (fun t k => st53.trans k) ?_
  show Go p.tables e below _ (T53.setTop (mkF m 74 #[.val (.int p1), .val (.int p2), .val (.ref b), .val (.int (0 : Int32)), .val (.int (0 : Int32)), .val (.ref w_YES), .val (.ref w_YES), .val (.ref w_NO), .unset, .unset, .unset, .unset, .unset, .unset] [(.ref w_NO)]))
  refine own_go (fun t k => XS.astore X53.here hx rfl (hb hby at_74) rfl rfl (l' := #[.val (.int p1), .val (.int p2), .val (.ref b), .val (.int (0 : Int32)), .val (.int (0 : Int32)), .val (.ref w_YES), .val (.ref w_YES), .val (.ref w_NO), .val (.ref w_NO), .unset, .unset, .unset, .unset, .unset]) rfl k) ?_
  show Go p.tables e below _ (T53.setTop (mkF m 76 #[.val (.int p1), .val (.int p2), .val (.ref b), .val (.int (0 : Int32)), .val (.int (0 : Int32)), .val (.ref w_YES), .val (.ref w_YES), .val (.ref w_NO), .val (.ref w_NO), .unset, .unset, .unset, .unset, .unset] []))
  refine own_go (fun t k => XS.aload X53.here hx rfl (hb hby at_76) rfl rfl k) ?_
  show Go p.tables e below _ (T53.setTop (mkF m 78 #[.val (.int p1), .val (.int p2), .val (.ref b), .val (.int (0 : Int32)), .val (.int (0 : Int32)), .val (.ref w_YES), .val (.ref w_YES), .val (.ref w_NO), .val (.ref w_NO), .unset, .unset, .unset, .unset, .unset] [(.ref w_YES)]))
  obtain ⟨cq54, kq54, q54a, q54b, q54c⟩ := isOf hZ e53 EH_YES
  obtain ⟨v54, _, ⟨T54, L54, k54, n54⟩, -, X54, ⟨Lc54, hQ54, l54, y54, z54⟩, st54⟩ := X53.virtualBack hx (y := (⟨"com/example/casewright/casewright/types/Answer", "not", "()Lcom/example/casewright/casewright/types/Answer;"⟩ : MethodName)) (z := (⟨"com/example/casewright/casewright/types/Answer", "not", "()Lcom/example/casewright/casewright/types/Answer;"⟩ : MethodName)) hown (mvT hZ (hw _ (List.mem_of_getElem? (i := 11) rfl))) (mvT hZ (hw _ (List.mem_of_getElem? (i := 12) rfl))) (notFace_of_selects (args := #[]) (mvT hZ (hw _ (List.mem_of_getElem? (i := 14) rfl)))) (mvT hZ (hw _ (List.mem_of_getElem? (i := 14) rfl))) (mvT hZ (hw _ (List.mem_of_getElem? (i := 13) rfl))) (by decide) (backOf (W := 0) (rm_not l Z a0 hw [] w_YES w_YES w_NO w_UNKNOWN h4 n0 SSh) hZ (hw _ (List.mem_of_getElem? (i := 15) rfl)) (hw _ (List.mem_of_getElem? (i := 3) rfl)) (by decide) (by decide)) q54a q54c (g := (mkF m 78 #[.val (.int p1), .val (.int p2), .val (.ref b), .val (.int (0 : Int32)), .val (.int (0 : Int32)), .val (.ref w_YES), .val (.ref w_YES), .val (.ref w_NO), .val (.ref w_NO), .unset, .unset, .unset, .unset, .unset] [(.ref w_YES)])) rfl (by rw [hml]; rfl) (Steps.refl _) (argsL := []) (rest := []) (lenOf pd_0 rfl) rfl (by show 2 * 0 + _ ≤ _; exact Nat.le_of_eq rfl) (hb hby at_78) (fun _ _ => ⟨rfl, e53, (by decide : 0 + 1 + 0 ≤ _), (by decide : 0 + 3 + 0 ≤ _)⟩)
  dsimp only [Pt.U, Pt.locs, Pt.cells, Pt.slots] at X54 l54 y54 z54 st54 hQ54
  subst l54 y54 z54
  obtain ⟨hv54, N54q, e54⟩ := hQ54
  rw [show ((.ref (own_not w_NO w_UNKNOWN w_YES w_YES)) : Value) = (.ref w_NO) from by simp [own_not, nUN, nYN, nYU, nUN.symm, nYN.symm, nYU.symm]] at hv54
  subst hv54
  have N54 := Fr.app N53 N54q
  refine own_go (fun t k => st54.trans k) ?_
  show Go p.tables e below _ (T54.setTop (mkF m 81 #[.val (.int p1), .val (.int p2), .val (.ref b), .val (.int (0 : Int32)), .val (.int (0 : Int32)), .val (.ref w_YES), .val (.ref w_YES), .val (.ref w_NO), .val (.ref w_NO), .unset, .unset, .unset, .unset, .unset] [(.ref w_NO)]))
  refine own_go (fun t k => XS.astore X54.here hx rfl (hb hby at_81) rfl rfl (l' := #[.val (.int p1), .val (.int p2), .val (.ref b), .val (.int (0 : Int32)), .val (.int (0 : Int32)), .val (.ref w_YES), .val (.ref w_YES), .val (.ref w_NO), .val (.ref w_NO), .val (.ref w_NO), .unset, .unset, .unset, .unset]) rfl k) ?_
  show Go p.tables e below _ (T54.setTop (mkF m 83 #[.val (.int p1), .val (.int p2), .val (.ref b), .val (.int (0 : Int32)), .val (.int (0 : Int32)), .val (.ref w_YES), .val (.ref w_YES), .val (.ref w_NO), .val (.ref w_NO), .val (.ref w_NO), .unset, .unset, .unset, .unset] []))
  refine own_go (fun t k => XS.aload X54.here hx rfl (hb hby at_83) rfl rfl k) ?_
  show Go p.tables e below _ (T54.setTop (mkF m 85 #[.val (.int p1), .val (.int p2), .val (.ref b), .val (.int (0 : Int32)), .val (.int (0 : Int32)), .val (.ref w_YES), .val (.ref w_YES), .val (.ref w_NO), .val (.ref w_NO), .val (.ref w_NO), .unset, .unset, .unset, .unset] [(.ref w_NO)]))
  refine own_go (fun t k => XS.aload X54.here hx rfl (hb hby at_85) rfl rfl k) ?_
  show Go p.tables e below _ (T54.setTop (mkF m 87 #[.val (.int p1), .val (.int p2), .val (.ref b), .val (.int (0 : Int32)), .val (.int (0 : Int32)), .val (.ref w_YES), .val (.ref w_YES), .val (.ref w_NO), .val (.ref w_NO), .val (.ref w_NO), .unset, .unset, .unset, .unset] [(.ref w_NO), (.ref w_NO)]))
  refine own_go (fun t k => XT.acmpNo X54.here hx rfl (hb hby at_87) rfl rfl rfl (XT.aa_ne_f (congrArg Value.ref rfl)) k) ?_
  show Go p.tables e below _ (T54.setTop (mkF m 90 #[.val (.int p1), .val (.int p2), .val (.ref b), .val (.int (0 : Int32)), .val (.int (0 : Int32)), .val (.ref w_YES), .val (.ref w_YES), .val (.ref w_NO), .val (.ref w_NO), .val (.ref w_NO), .unset, .unset, .unset, .unset] []))
  refine own_go (fun t k => XS.iconst X54.here hx rfl (hb hby at_90) k) ?_
  show Go p.tables e below _ (T54.setTop (mkF m 91 #[.val (.int p1), .val (.int p2), .val (.ref b), .val (.int (0 : Int32)), .val (.int (0 : Int32)), .val (.ref w_YES), .val (.ref w_YES), .val (.ref w_NO), .val (.ref w_NO), .val (.ref w_NO), .unset, .unset, .unset, .unset] [(.int (1 : Int32))]))
  refine own_go (fun t k => XS.goto X54.here hx rfl (pc0 := 91) (pc' := 95) rfl (hb hby at_91) (by decide) (by decide) k) ?_
  show Go p.tables e below _ (T54.setTop (mkF m 95 #[.val (.int p1), .val (.int p2), .val (.ref b), .val (.int (0 : Int32)), .val (.int (0 : Int32)), .val (.ref w_YES), .val (.ref w_YES), .val (.ref w_NO), .val (.ref w_NO), .val (.ref w_NO), .unset, .unset, .unset, .unset] [(.int (1 : Int32))]))
  refine own_go (fun t k => XS.istore X54.here hx rfl (hb hby at_95) rfl (l' := #[.val (.int p1), .val (.int p2), .val (.ref b), .val (.int (0 : Int32)), .val (.int (0 : Int32)), .val (.ref w_YES), .val (.ref w_YES), .val (.ref w_NO), .val (.ref w_NO), .val (.ref w_NO), .val (.int (1 : Int32)), .unset, .unset, .unset]) rfl k) ?_
  show Go p.tables e below _ (T54.setTop (mkF m 97 #[.val (.int p1), .val (.int p2), .val (.ref b), .val (.int (0 : Int32)), .val (.int (0 : Int32)), .val (.ref w_YES), .val (.ref w_YES), .val (.ref w_NO), .val (.ref w_NO), .val (.ref w_NO), .val (.int (1 : Int32)), .unset, .unset, .unset] []))
  refine own_go (fun t k => XS.aload X54.here hx rfl (hb hby at_97) rfl rfl k) ?_
  show Go p.tables e below _ (T54.setTop (mkF m 99 #[.val (.int p1), .val (.int p2), .val (.ref b), .val (.int (0 : Int32)), .val (.int (0 : Int32)), .val (.ref w_YES), .val (.ref w_YES), .val (.ref w_NO), .val (.ref w_NO), .val (.ref w_NO), .val (.int (1 : Int32)), .unset, .unset, .unset] [(.ref w_NO)]))
  obtain ⟨cq55, kq55, q55a, q55b, q55c⟩ := isOf hZ e54 EH_NO
  obtain ⟨v55, _, ⟨T55, L55, k55, n55⟩, -, X55, ⟨Lc55, hQ55, l55, y55, z55⟩, st55⟩ := X54.virtualBack hx (y := (⟨"com/example/casewright/casewright/types/Answer", "not", "()Lcom/example/casewright/casewright/types/Answer;"⟩ : MethodName)) (z := (⟨"com/example/casewright/casewright/types/Answer", "not", "()Lcom/example/casewright/casewright/types/Answer;"⟩ : MethodName)) hown (mvT hZ (hw _ (List.mem_of_getElem? (i := 11) rfl))) (mvT hZ (hw _ (List.mem_of_getElem? (i := 12) rfl))) (notFace_of_selects (args := #[]) (mvT hZ (hw _ (List.mem_of_getElem? (i := 14) rfl)))) (mvT hZ (hw _ (List.mem_of_getElem? (i := 14) rfl))) (mvT hZ (hw _ (List.mem_of_getElem? (i := 13) rfl))) (by decide) (backOf (W := 0) (rm_not l Z a0 hw [] w_NO w_YES w_NO w_UNKNOWN h4 n0 SSh) hZ (hw _ (List.mem_of_getElem? (i := 15) rfl)) (hw _ (List.mem_of_getElem? (i := 3) rfl)) (by decide) (by decide)) q55a q55c (g := (mkF m 99 #[.val (.int p1), .val (.int p2), .val (.ref b), .val (.int (0 : Int32)), .val (.int (0 : Int32)), .val (.ref w_YES), .val (.ref w_YES), .val (.ref w_NO), .val (.ref w_NO), .val (.ref w_NO), .val (.int (1 : Int32)), .unset, .unset, .unset] [(.ref w_NO)])) rfl (by rw [hml]; rfl) (Steps.refl _) (argsL := []) (rest := []) (lenOf pd_0 rfl) rfl (by show 2 * 0 + _ ≤ _; exact Nat.le_of_eq rfl) (hb hby at_99) (fun _ _ => ⟨rfl, e54, (by decide : 0 + 1 + 0 ≤ _), (by decide : 0 + 3 + 0 ≤ _)⟩)
  dsimp only [Pt.U, Pt.locs, Pt.cells, Pt.slots] at X55 l55 y55 z55 st55 hQ55
  subst l55 y55 z55
  obtain ⟨hv55, N55q, e55⟩ := hQ55
  rw [show ((.ref (own_not w_NO w_UNKNOWN w_YES w_NO)) : Value) = (.ref w_YES) from by simp [own_not, nUN, nYN, nYU, nUN.symm, nYN.symm, nYU.symm]] at hv55
  subst hv55
  have N55 := Fr.app N54 N55q
  refine own_go (fun t k => st55.trans k) ?_
  show Go p.tables e below _ (T55.setTop (mkF m 102 #[.val (.int p1), .val (.int p2), .val (.ref b), .val (.int (0 : Int32)), .val (.int (0 : Int32)), .val (.ref w_YES), .val (.ref w_YES), .val (.ref w_NO), .val (.ref w_NO), .val (.ref w_NO), .val (.int (1 : Int32)), .unset, .unset, .unset] [(.ref w_YES)]))
  refine own_go (fun t k => XS.aload X55.here hx rfl (hb hby at_102) rfl rfl k) ?_
  show Go p.tables e below _ (T55.setTop (mkF m 104 #[.val (.int p1), .val (.int p2), .val (.ref b), .val (.int (0 : Int32)), .val (.int (0 : Int32)), .val (.ref w_YES), .val (.ref w_YES), .val (.ref w_NO), .val (.ref w_NO), .val (.ref w_NO), .val (.int (1 : Int32)), .unset, .unset, .unset] [(.ref w_YES), (.ref w_YES)]))
  refine own_go (fun t k => XT.acmpNo X55.here hx rfl (hb hby at_104) rfl rfl rfl (XT.aa_ne_f (congrArg Value.ref rfl)) k) ?_
  show Go p.tables e below _ (T55.setTop (mkF m 107 #[.val (.int p1), .val (.int p2), .val (.ref b), .val (.int (0 : Int32)), .val (.int (0 : Int32)), .val (.ref w_YES), .val (.ref w_YES), .val (.ref w_NO), .val (.ref w_NO), .val (.ref w_NO), .val (.int (1 : Int32)), .unset, .unset, .unset] []))
  refine own_go (fun t k => XS.iconst X55.here hx rfl (hb hby at_107) k) ?_
  show Go p.tables e below _ (T55.setTop (mkF m 108 #[.val (.int p1), .val (.int p2), .val (.ref b), .val (.int (0 : Int32)), .val (.int (0 : Int32)), .val (.ref w_YES), .val (.ref w_YES), .val (.ref w_NO), .val (.ref w_NO), .val (.ref w_NO), .val (.int (1 : Int32)), .unset, .unset, .unset] [(.int (1 : Int32))]))
  refine own_go (fun t k => XS.goto X55.here hx rfl (pc0 := 108) (pc' := 112) rfl (hb hby at_108) (by decide) (by decide) k) ?_
  show Go p.tables e below _ (T55.setTop (mkF m 112 #[.val (.int p1), .val (.int p2), .val (.ref b), .val (.int (0 : Int32)), .val (.int (0 : Int32)), .val (.ref w_YES), .val (.ref w_YES), .val (.ref w_NO), .val (.ref w_NO), .val (.ref w_NO), .val (.int (1 : Int32)), .unset, .unset, .unset] [(.int (1 : Int32))]))
  refine own_go (fun t k => XS.istore X55.here hx rfl (hb hby at_112) rfl (l' := #[.val (.int p1), .val (.int p2), .val (.ref b), .val (.int (0 : Int32)), .val (.int (0 : Int32)), .val (.ref w_YES), .val (.ref w_YES), .val (.ref w_NO), .val (.ref w_NO), .val (.ref w_NO), .val (.int (1 : Int32)), .val (.int (1 : Int32)), .unset, .unset]) rfl k) ?_
  show Go p.tables e below _ (T55.setTop (mkF m 114 #[.val (.int p1), .val (.int p2), .val (.ref b), .val (.int (0 : Int32)), .val (.int (0 : Int32)), .val (.ref w_YES), .val (.ref w_YES), .val (.ref w_NO), .val (.ref w_NO), .val (.ref w_NO), .val (.int (1 : Int32)), .val (.int (1 : Int32)), .unset, .unset] []))
  refine own_go (fun t k => XS.aload X55.here hx rfl (hb hby at_114) rfl rfl k) ?_
  show Go p.tables e below _ (T55.setTop (mkF m 116 #[.val (.int p1), .val (.int p2), .val (.ref b), .val (.int (0 : Int32)), .val (.int (0 : Int32)), .val (.ref w_YES), .val (.ref w_YES), .val (.ref w_NO), .val (.ref w_NO), .val (.ref w_NO), .val (.int (1 : Int32)), .val (.int (1 : Int32)), .unset, .unset] [(.ref w_YES)]))
  refine own_go (fun t k => XS.aload X55.here hx rfl (hb hby at_116) rfl rfl k) ?_
  show Go p.tables e below _ (T55.setTop (mkF m 118 #[.val (.int p1), .val (.int p2), .val (.ref b), .val (.int (0 : Int32)), .val (.int (0 : Int32)), .val (.ref w_YES), .val (.ref w_YES), .val (.ref w_NO), .val (.ref w_NO), .val (.ref w_NO), .val (.int (1 : Int32)), .val (.int (1 : Int32)), .unset, .unset] [(.ref w_YES), (.ref w_YES)]))
  obtain ⟨cq56, kq56, q56a, q56b, q56c⟩ := isOf hZ e55 EH_YES
  obtain ⟨v56, _, ⟨T56, L56, k56, n56⟩, -, X56, ⟨Lc56, hQ56, l56, y56, z56⟩, st56⟩ := X55.virtualBack hx (y := (⟨"com/example/casewright/casewright/types/Answer", "and", "(Lcom/example/casewright/casewright/types/Answer;)Lcom/example/casewright/casewright/types/Answer;"⟩ : MethodName)) (z := (⟨"com/example/casewright/casewright/types/Answer", "and", "(Lcom/example/casewright/casewright/types/Answer;)Lcom/example/casewright/casewright/types/Answer;"⟩ : MethodName)) hown (mvT hZ (hw _ (List.mem_of_getElem? (i := 18) rfl))) (mvT hZ (hw _ (List.mem_of_getElem? (i := 19) rfl))) (notFace_of_selects (args := #[]) (mvT hZ (hw _ (List.mem_of_getElem? (i := 21) rfl)))) (mvT hZ (hw _ (List.mem_of_getElem? (i := 21) rfl))) (mvT hZ (hw _ (List.mem_of_getElem? (i := 20) rfl))) (by decide) (backOf (W := 0) (rm_and l Z a0 hw [] w_YES w_YES w_YES w_NO w_UNKNOWN h4 n0 SSh) hZ (hw _ (List.mem_of_getElem? (i := 22) rfl)) (hw _ (List.mem_of_getElem? (i := 3) rfl)) (by decide) (by decide)) q56a q56c (g := (mkF m 118 #[.val (.int p1), .val (.int p2), .val (.ref b), .val (.int (0 : Int32)), .val (.int (0 : Int32)), .val (.ref w_YES), .val (.ref w_YES), .val (.ref w_NO), .val (.ref w_NO), .val (.ref w_NO), .val (.int (1 : Int32)), .val (.int (1 : Int32)), .unset, .unset] [(.ref w_YES), (.ref w_YES)])) rfl (by rw [hml]; rfl) (Steps.refl _) (argsL := [(.ref w_YES)]) (rest := []) (lenOf pd_1 rfl) rfl (by show 2 * 0 + _ ≤ _; exact Nat.le_of_eq rfl) (hb hby at_118) (fun _ _ => ⟨rfl, e55, (by decide : 0 + 1 + 0 ≤ _), (by decide : 0 + 3 + 0 ≤ _)⟩)
  dsimp only [Pt.U, Pt.locs, Pt.cells, Pt.slots] at X56 l56 y56 z56 st56 hQ56
  subst l56 y56 z56
  obtain ⟨hv56, N56q, e56⟩ := hQ56
  rw [show ((.ref (own_and w_NO w_UNKNOWN w_YES w_YES w_YES)) : Value) = (.ref w_YES) from by simp [own_and, nUN, nYN, nYU, nUN.symm, nYN.symm, nYU.symm]] at hv56
  subst hv56
  have N56 := Fr.app N55 N56q
  refine own_go (fun t k => st56.trans k) ?_
  show Go p.tables e below _ (T56.setTop (mkF m 121 #[.val (.int p1), .val (.int p2), .val (.ref b), .val (.int (0 : Int32)), .val (.int (0 : Int32)), .val (.ref w_YES), .val (.ref w_YES), .val (.ref w_NO), .val (.ref w_NO), .val (.ref w_NO), .val (.int (1 : Int32)), .val (.int (1 : Int32)), .unset, .unset] [(.ref w_YES)]))
  obtain ⟨cq57, kq57, q57a, q57b, q57c⟩ := isOf hZ e56 EH_YES
  obtain ⟨v57, _, ⟨T57, L57, k57, n57⟩, -, X57, ⟨Lc57, hQ57, l57, y57, z57⟩, st57⟩ := X56.virtualBack hx (y := (⟨"com/example/casewright/casewright/types/Answer", "not", "()Lcom/example/casewright/casewright/types/Answer;"⟩ : MethodName)) (z := (⟨"com/example/casewright/casewright/types/Answer", "not", "()Lcom/example/casewright/casewright/types/Answer;"⟩ : MethodName)) hown (mvT hZ (hw _ (List.mem_of_getElem? (i := 11) rfl))) (mvT hZ (hw _ (List.mem_of_getElem? (i := 12) rfl))) (notFace_of_selects (args := #[]) (mvT hZ (hw _ (List.mem_of_getElem? (i := 14) rfl)))) (mvT hZ (hw _ (List.mem_of_getElem? (i := 14) rfl))) (mvT hZ (hw _ (List.mem_of_getElem? (i := 13) rfl))) (by decide) (backOf (W := 0) (rm_not l Z a0 hw [] w_YES w_YES w_NO w_UNKNOWN h4 n0 SSh) hZ (hw _ (List.mem_of_getElem? (i := 15) rfl)) (hw _ (List.mem_of_getElem? (i := 3) rfl)) (by decide) (by decide)) q57a q57c (g := (mkF m 121 #[.val (.int p1), .val (.int p2), .val (.ref b), .val (.int (0 : Int32)), .val (.int (0 : Int32)), .val (.ref w_YES), .val (.ref w_YES), .val (.ref w_NO), .val (.ref w_NO), .val (.ref w_NO), .val (.int (1 : Int32)), .val (.int (1 : Int32)), .unset, .unset] [(.ref w_YES)])) rfl (by rw [hml]; rfl) (Steps.refl _) (argsL := []) (rest := []) (lenOf pd_0 rfl) rfl (by show 2 * 0 + _ ≤ _; exact Nat.le_of_eq rfl) (hb hby at_121) (fun _ _ => ⟨rfl, e56, (by decide : 0 + 1 + 0 ≤ _), (by decide : 0 + 3 + 0 ≤ _)⟩)
  dsimp only [Pt.U, Pt.locs, Pt.cells, Pt.slots] at X57 l57 y57 z57 st57 hQ57
  subst l57 y57 z57
  obtain ⟨hv57, N57q, e57⟩ := hQ57
  rw [show ((.ref (own_not w_NO w_UNKNOWN w_YES w_YES)) : Value) = (.ref w_NO) from by simp [own_not, nUN, nYN, nYU, nUN.symm, nYN.symm, nYU.symm]] at hv57
  subst hv57
  have N57 := Fr.app N56 N57q
  refine own_go (fun t k => st57.trans k) ?_
  show Go p.tables e below _ (T57.setTop (mkF m 124 #[.val (.int p1), .val (.int p2), .val (.ref b), .val (.int (0 : Int32)), .val (.int (0 : Int32)), .val (.ref w_YES), .val (.ref w_YES), .val (.ref w_NO), .val (.ref w_NO), .val (.ref w_NO), .val (.int (1 : Int32)), .val (.int (1 : Int32)), .unset, .unset] [(.ref w_NO)]))
  refine own_go (fun t k => XS.aload X57.here hx rfl (hb hby at_124) rfl rfl k) ?_
  show Go p.tables e below _ (T57.setTop (mkF m 126 #[.val (.int p1), .val (.int p2), .val (.ref b), .val (.int (0 : Int32)), .val (.int (0 : Int32)), .val (.ref w_YES), .val (.ref w_YES), .val (.ref w_NO), .val (.ref w_NO), .val (.ref w_NO), .val (.int (1 : Int32)), .val (.int (1 : Int32)), .unset, .unset] [(.ref w_NO), (.ref w_NO)]))
  refine own_go (fun t k => XS.aload X57.here hx rfl (hb hby at_126) rfl rfl k) ?_
  show Go p.tables e below _ (T57.setTop (mkF m 128 #[.val (.int p1), .val (.int p2), .val (.ref b), .val (.int (0 : Int32)), .val (.int (0 : Int32)), .val (.ref w_YES), .val (.ref w_YES), .val (.ref w_NO), .val (.ref w_NO), .val (.ref w_NO), .val (.int (1 : Int32)), .val (.int (1 : Int32)), .unset, .unset] [(.ref w_NO), (.ref w_NO), (.ref w_NO)]))
  obtain ⟨cq58, kq58, q58a, q58b, q58c⟩ := isOf hZ e57 EH_NO
  obtain ⟨v58, _, ⟨T58, L58, k58, n58⟩, -, X58, ⟨Lc58, hQ58, l58, y58, z58⟩, st58⟩ := X57.virtualBack hx (y := (⟨"com/example/casewright/casewright/types/Answer", "or", "(Lcom/example/casewright/casewright/types/Answer;)Lcom/example/casewright/casewright/types/Answer;"⟩ : MethodName)) (z := (⟨"com/example/casewright/casewright/types/Answer", "or", "(Lcom/example/casewright/casewright/types/Answer;)Lcom/example/casewright/casewright/types/Answer;"⟩ : MethodName)) hown (mvT hZ (hw _ (List.mem_of_getElem? (i := 24) rfl))) (mvT hZ (hw _ (List.mem_of_getElem? (i := 25) rfl))) (notFace_of_selects (args := #[]) (mvT hZ (hw _ (List.mem_of_getElem? (i := 27) rfl)))) (mvT hZ (hw _ (List.mem_of_getElem? (i := 27) rfl))) (mvT hZ (hw _ (List.mem_of_getElem? (i := 26) rfl))) (by decide) (backOf (W := 1) (rm_or l Z a0 hw [] w_NO w_NO w_YES w_NO w_UNKNOWN h4 n0 SSh) hZ (hw _ (List.mem_of_getElem? (i := 28) rfl)) (hw _ (List.mem_of_getElem? (i := 3) rfl)) (by decide) (by decide)) q58a q58c (g := (mkF m 128 #[.val (.int p1), .val (.int p2), .val (.ref b), .val (.int (0 : Int32)), .val (.int (0 : Int32)), .val (.ref w_YES), .val (.ref w_YES), .val (.ref w_NO), .val (.ref w_NO), .val (.ref w_NO), .val (.int (1 : Int32)), .val (.int (1 : Int32)), .unset, .unset] [(.ref w_NO), (.ref w_NO), (.ref w_NO)])) rfl (by rw [hml]; rfl) (Steps.refl _) (argsL := [(.ref w_NO)]) (rest := [(.ref w_NO)]) (lenOf pd_1 rfl) rfl (by show 2 * 0 + _ ≤ _; exact Nat.le_of_eq rfl) (hb hby at_128) (fun _ _ => ⟨rfl, e57, (by decide : 0 + 1 + 0 ≤ _), (by decide : 0 + 3 + 0 ≤ _)⟩)
  dsimp only [Pt.U, Pt.locs, Pt.cells, Pt.slots] at X58 l58 y58 z58 st58 hQ58
  subst l58 y58 z58
  obtain ⟨hv58, N58q, e58⟩ := hQ58
  rw [show ((.ref (own_or w_NO w_UNKNOWN w_YES w_NO w_NO)) : Value) = (.ref w_NO) from by simp [own_or, nUN, nYN, nYU, nUN.symm, nYN.symm, nYU.symm]] at hv58
  subst hv58
  have N58 := Fr.app N57 N58q
  refine own_go (fun t k => st58.trans k) ?_
  show Go p.tables e below _ (T58.setTop (mkF m 131 #[.val (.int p1), .val (.int p2), .val (.ref b), .val (.int (0 : Int32)), .val (.int (0 : Int32)), .val (.ref w_YES), .val (.ref w_YES), .val (.ref w_NO), .val (.ref w_NO), .val (.ref w_NO), .val (.int (1 : Int32)), .val (.int (1 : Int32)), .unset, .unset] [(.ref w_NO), (.ref w_NO)]))
  refine own_go (fun t k => XT.acmpNo X58.here hx rfl (hb hby at_131) rfl rfl rfl (XT.aa_ne_f (congrArg Value.ref rfl)) k) ?_
  show Go p.tables e below _ (T58.setTop (mkF m 134 #[.val (.int p1), .val (.int p2), .val (.ref b), .val (.int (0 : Int32)), .val (.int (0 : Int32)), .val (.ref w_YES), .val (.ref w_YES), .val (.ref w_NO), .val (.ref w_NO), .val (.ref w_NO), .val (.int (1 : Int32)), .val (.int (1 : Int32)), .unset, .unset] []))
  refine own_go (fun t k => XS.iconst X58.here hx rfl (hb hby at_134) k) ?_
  show Go p.tables e below _ (T58.setTop (mkF m 135 #[.val (.int p1), .val (.int p2), .val (.ref b), .val (.int (0 : Int32)), .val (.int (0 : Int32)), .val (.ref w_YES), .val (.ref w_YES), .val (.ref w_NO), .val (.ref w_NO), .val (.ref w_NO), .val (.int (1 : Int32)), .val (.int (1 : Int32)), .unset, .unset] [(.int (1 : Int32))]))
  refine own_go (fun t k => XS.goto X58.here hx rfl (pc0 := 135) (pc' := 139) rfl (hb hby at_135) (by decide) (by decide) k) ?_
  show Go p.tables e below _ (T58.setTop (mkF m 139 #[.val (.int p1), .val (.int p2), .val (.ref b), .val (.int (0 : Int32)), .val (.int (0 : Int32)), .val (.ref w_YES), .val (.ref w_YES), .val (.ref w_NO), .val (.ref w_NO), .val (.ref w_NO), .val (.int (1 : Int32)), .val (.int (1 : Int32)), .unset, .unset] [(.int (1 : Int32))]))
  refine own_go (fun t k => XS.istore X58.here hx rfl (hb hby at_139) rfl (l' := #[.val (.int p1), .val (.int p2), .val (.ref b), .val (.int (0 : Int32)), .val (.int (0 : Int32)), .val (.ref w_YES), .val (.ref w_YES), .val (.ref w_NO), .val (.ref w_NO), .val (.ref w_NO), .val (.int (1 : Int32)), .val (.int (1 : Int32)), .val (.int (1 : Int32)), .unset]) rfl k) ?_
  show Go p.tables e below _ (T58.setTop (mkF m 141 #[.val (.int p1), .val (.int p2), .val (.ref b), .val (.int (0 : Int32)), .val (.int (0 : Int32)), .val (.ref w_YES), .val (.ref w_YES), .val (.ref w_NO), .val (.ref w_NO), .val (.ref w_NO), .val (.int (1 : Int32)), .val (.int (1 : Int32)), .val (.int (1 : Int32)), .unset] []))
  refine own_go (fun t k => XS.aload X58.here hx rfl (hb hby at_141) rfl rfl k) ?_
  show Go p.tables e below _ (T58.setTop (mkF m 143 #[.val (.int p1), .val (.int p2), .val (.ref b), .val (.int (0 : Int32)), .val (.int (0 : Int32)), .val (.ref w_YES), .val (.ref w_YES), .val (.ref w_NO), .val (.ref w_NO), .val (.ref w_NO), .val (.int (1 : Int32)), .val (.int (1 : Int32)), .val (.int (1 : Int32)), .unset] [(.ref w_YES)]))
  refine own_go (fun t k => XS.aload X58.here hx rfl (hb hby at_143) rfl rfl k) ?_
  show Go p.tables e below _ (T58.setTop (mkF m 145 #[.val (.int p1), .val (.int p2), .val (.ref b), .val (.int (0 : Int32)), .val (.int (0 : Int32)), .val (.ref w_YES), .val (.ref w_YES), .val (.ref w_NO), .val (.ref w_NO), .val (.ref w_NO), .val (.int (1 : Int32)), .val (.int (1 : Int32)), .val (.int (1 : Int32)), .unset] [(.ref w_YES), (.ref w_YES)]))
  obtain ⟨cq59, kq59, q59a, q59b, q59c⟩ := isOf hZ e58 EH_YES
  obtain ⟨v59, _, ⟨T59, L59, k59, n59⟩, -, X59, ⟨Lc59, hQ59, l59, y59, z59⟩, st59⟩ := X58.virtualBack hx (y := (⟨"com/example/casewright/casewright/types/Answer", "or", "(Lcom/example/casewright/casewright/types/Answer;)Lcom/example/casewright/casewright/types/Answer;"⟩ : MethodName)) (z := (⟨"com/example/casewright/casewright/types/Answer", "or", "(Lcom/example/casewright/casewright/types/Answer;)Lcom/example/casewright/casewright/types/Answer;"⟩ : MethodName)) hown (mvT hZ (hw _ (List.mem_of_getElem? (i := 24) rfl))) (mvT hZ (hw _ (List.mem_of_getElem? (i := 25) rfl))) (notFace_of_selects (args := #[]) (mvT hZ (hw _ (List.mem_of_getElem? (i := 27) rfl)))) (mvT hZ (hw _ (List.mem_of_getElem? (i := 27) rfl))) (mvT hZ (hw _ (List.mem_of_getElem? (i := 26) rfl))) (by decide) (backOf (W := 0) (rm_or l Z a0 hw [] w_YES w_YES w_YES w_NO w_UNKNOWN h4 n0 SSh) hZ (hw _ (List.mem_of_getElem? (i := 28) rfl)) (hw _ (List.mem_of_getElem? (i := 3) rfl)) (by decide) (by decide)) q59a q59c (g := (mkF m 145 #[.val (.int p1), .val (.int p2), .val (.ref b), .val (.int (0 : Int32)), .val (.int (0 : Int32)), .val (.ref w_YES), .val (.ref w_YES), .val (.ref w_NO), .val (.ref w_NO), .val (.ref w_NO), .val (.int (1 : Int32)), .val (.int (1 : Int32)), .val (.int (1 : Int32)), .unset] [(.ref w_YES), (.ref w_YES)])) rfl (by rw [hml]; rfl) (Steps.refl _) (argsL := [(.ref w_YES)]) (rest := []) (lenOf pd_1 rfl) rfl (by show 2 * 0 + _ ≤ _; exact Nat.le_of_eq rfl) (hb hby at_145) (fun _ _ => ⟨rfl, e58, (by decide : 0 + 1 + 0 ≤ _), (by decide : 0 + 3 + 0 ≤ _)⟩)
  dsimp only [Pt.U, Pt.locs, Pt.cells, Pt.slots] at X59 l59 y59 z59 st59 hQ59
  subst l59 y59 z59
  obtain ⟨hv59, N59q, e59⟩ := hQ59
  rw [show ((.ref (own_or w_NO w_UNKNOWN w_YES w_YES w_YES)) : Value) = (.ref w_YES) from by simp [own_or, nUN, nYN, nYU, nUN.symm, nYN.symm, nYU.symm]] at hv59
  subst hv59
  have N59 := Fr.app N58 N59q
  refine own_go (fun t k => st59.trans k) ?_
  show Go p.tables e below _ (T59.setTop (mkF m 148 #[.val (.int p1), .val (.int p2), .val (.ref b), .val (.int (0 : Int32)), .val (.int (0 : Int32)), .val (.ref w_YES), .val (.ref w_YES), .val (.ref w_NO), .val (.ref w_NO), .val (.ref w_NO), .val (.int (1 : Int32)), .val (.int (1 : Int32)), .val (.int (1 : Int32)), .unset] [(.ref w_YES)]))
  obtain ⟨cq60, kq60, q60a, q60b, q60c⟩ := isOf hZ e59 EH_YES
  obtain ⟨v60, _, ⟨T60, L60, k60, n60⟩, -, X60, ⟨Lc60, hQ60, l60, y60, z60⟩, st60⟩ := X59.virtualBack hx (y := (⟨"com/example/casewright/casewright/types/Answer", "not", "()Lcom/example/casewright/casewright/types/Answer;"⟩ : MethodName)) (z := (⟨"com/example/casewright/casewright/types/Answer", "not", "()Lcom/example/casewright/casewright/types/Answer;"⟩ : MethodName)) hown (mvT hZ (hw _ (List.mem_of_getElem? (i := 11) rfl))) (mvT hZ (hw _ (List.mem_of_getElem? (i := 12) rfl))) (notFace_of_selects (args := #[]) (mvT hZ (hw _ (List.mem_of_getElem? (i := 14) rfl)))) (mvT hZ (hw _ (List.mem_of_getElem? (i := 14) rfl))) (mvT hZ (hw _ (List.mem_of_getElem? (i := 13) rfl))) (by decide) (backOf (W := 0) (rm_not l Z a0 hw [] w_YES w_YES w_NO w_UNKNOWN h4 n0 SSh) hZ (hw _ (List.mem_of_getElem? (i := 15) rfl)) (hw _ (List.mem_of_getElem? (i := 3) rfl)) (by decide) (by decide)) q60a q60c (g := (mkF m 148 #[.val (.int p1), .val (.int p2), .val (.ref b), .val (.int (0 : Int32)), .val (.int (0 : Int32)), .val (.ref w_YES), .val (.ref w_YES), .val (.ref w_NO), .val (.ref w_NO), .val (.ref w_NO), .val (.int (1 : Int32)), .val (.int (1 : Int32)), .val (.int (1 : Int32)), .unset] [(.ref w_YES)])) rfl (by rw [hml]; rfl) (Steps.refl _) (argsL := []) (rest := []) (lenOf pd_0 rfl) rfl (by show 2 * 0 + _ ≤ _; exact Nat.le_of_eq rfl) (hb hby at_148) (fun _ _ => ⟨rfl, e59, (by decide : 0 + 1 + 0 ≤ _), (by decide : 0 + 3 + 0 ≤ _)⟩)
  dsimp only [Pt.U, Pt.locs, Pt.cells, Pt.slots] at X60 l60 y60 z60 st60 hQ60
  subst l60 y60 z60
  obtain ⟨hv60, N60q, e60⟩ := hQ60
  rw [show ((.ref (own_not w_NO w_UNKNOWN w_YES w_YES)) : Value) = (.ref w_NO) from by simp [own_not, nUN, nYN, nYU, nUN.symm, nYN.symm, nYU.symm]] at hv60
  subst hv60
  have N60 := Fr.app N59 N60q
  refine own_go (fun t k => st60.trans k) ?_
  show Go p.tables e below _ (T60.setTop (mkF m 151 #[.val (.int p1), .val (.int p2), .val (.ref b), .val (.int (0 : Int32)), .val (.int (0 : Int32)), .val (.ref w_YES), .val (.ref w_YES), .val (.ref w_NO), .val (.ref w_NO), .val (.ref w_NO), .val (.int (1 : Int32)), .val (.int (1 : Int32)), .val (.int (1 : Int32)), .unset] [(.ref w_NO)]))
  refine own_go (fun t k => XS.aload X60.here hx rfl (hb hby at_151) rfl rfl k) ?_
  show Go p.tables e below _ (T60.setTop (mkF m 153 #[.val (.int p1), .val (.int p2), .val (.ref b), .val (.int (0 : Int32)), .val (.int (0 : Int32)), .val (.ref w_YES), .val (.ref w_YES), .val (.ref w_NO), .val (.ref w_NO), .val (.ref w_NO), .val (.int (1 : Int32)), .val (.int (1 : Int32)), .val (.int (1 : Int32)), .unset] [(.ref w_NO), (.ref w_NO)]))
  refine own_go (fun t k => XS.aload X60.here hx rfl (hb hby at_153) rfl rfl k) ?_
  show Go p.tables e below _ (T60.setTop (mkF m 155 #[.val (.int p1), .val (.int p2), .val (.ref b), .val (.int (0 : Int32)), .val (.int (0 : Int32)), .val (.ref w_YES), .val (.ref w_YES), .val (.ref w_NO), .val (.ref w_NO), .val (.ref w_NO), .val (.int (1 : Int32)), .val (.int (1 : Int32)), .val (.int (1 : Int32)), .unset] [(.ref w_NO), (.ref w_NO), (.ref w_NO)]))
  obtain ⟨cq61, kq61, q61a, q61b, q61c⟩ := isOf hZ e60 EH_NO
  obtain ⟨v61, _, ⟨T61, L61, k61, n61⟩, -, X61, ⟨Lc61, hQ61, l61, y61, z61⟩, st61⟩ := X60.virtualBack hx (y := (⟨"com/example/casewright/casewright/types/Answer", "and", "(Lcom/example/casewright/casewright/types/Answer;)Lcom/example/casewright/casewright/types/Answer;"⟩ : MethodName)) (z := (⟨"com/example/casewright/casewright/types/Answer", "and", "(Lcom/example/casewright/casewright/types/Answer;)Lcom/example/casewright/casewright/types/Answer;"⟩ : MethodName)) hown (mvT hZ (hw _ (List.mem_of_getElem? (i := 18) rfl))) (mvT hZ (hw _ (List.mem_of_getElem? (i := 19) rfl))) (notFace_of_selects (args := #[]) (mvT hZ (hw _ (List.mem_of_getElem? (i := 21) rfl)))) (mvT hZ (hw _ (List.mem_of_getElem? (i := 21) rfl))) (mvT hZ (hw _ (List.mem_of_getElem? (i := 20) rfl))) (by decide) (backOf (W := 1) (rm_and l Z a0 hw [] w_NO w_NO w_YES w_NO w_UNKNOWN h4 n0 SSh) hZ (hw _ (List.mem_of_getElem? (i := 22) rfl)) (hw _ (List.mem_of_getElem? (i := 3) rfl)) (by decide) (by decide)) q61a q61c (g := (mkF m 155 #[.val (.int p1), .val (.int p2), .val (.ref b), .val (.int (0 : Int32)), .val (.int (0 : Int32)), .val (.ref w_YES), .val (.ref w_YES), .val (.ref w_NO), .val (.ref w_NO), .val (.ref w_NO), .val (.int (1 : Int32)), .val (.int (1 : Int32)), .val (.int (1 : Int32)), .unset] [(.ref w_NO), (.ref w_NO), (.ref w_NO)])) rfl (by rw [hml]; rfl) (Steps.refl _) (argsL := [(.ref w_NO)]) (rest := [(.ref w_NO)]) (lenOf pd_1 rfl) rfl (by show 2 * 0 + _ ≤ _; exact Nat.le_of_eq rfl) (hb hby at_155) (fun _ _ => ⟨rfl, e60, (by decide : 0 + 1 + 0 ≤ _), (by decide : 0 + 3 + 0 ≤ _)⟩)
  dsimp only [Pt.U, Pt.locs, Pt.cells, Pt.slots] at X61 l61 y61 z61 st61 hQ61
  subst l61 y61 z61
  obtain ⟨hv61, N61q, e61⟩ := hQ61
  rw [show ((.ref (own_and w_NO w_UNKNOWN w_YES w_NO w_NO)) : Value) = (.ref w_NO) from by simp [own_and, nUN, nYN, nYU, nUN.symm, nYN.symm, nYU.symm]] at hv61
  subst hv61
  have N61 := Fr.app N60 N61q
  refine own_go (fun t k => st61.trans k) ?_
  show Go p.tables e below _ (T61.setTop (mkF m 158 #[.val (.int p1), .val (.int p2), .val (.ref b), .val (.int (0 : Int32)), .val (.int (0 : Int32)), .val (.ref w_YES), .val (.ref w_YES), .val (.ref w_NO), .val (.ref w_NO), .val (.ref w_NO), .val (.int (1 : Int32)), .val (.int (1 : Int32)), .val (.int (1 : Int32)), .unset] [(.ref w_NO), (.ref w_NO)]))
  refine own_go (fun t k => XT.acmpNo X61.here hx rfl (hb hby at_158) rfl rfl rfl (XT.aa_ne_f (congrArg Value.ref rfl)) k) ?_
  show Go p.tables e below _ (T61.setTop (mkF m 161 #[.val (.int p1), .val (.int p2), .val (.ref b), .val (.int (0 : Int32)), .val (.int (0 : Int32)), .val (.ref w_YES), .val (.ref w_YES), .val (.ref w_NO), .val (.ref w_NO), .val (.ref w_NO), .val (.int (1 : Int32)), .val (.int (1 : Int32)), .val (.int (1 : Int32)), .unset] []))
  refine own_go (fun t k => XS.iconst X61.here hx rfl (hb hby at_161) k) ?_
  show Go p.tables e below _ (T61.setTop (mkF m 162 #[.val (.int p1), .val (.int p2), .val (.ref b), .val (.int (0 : Int32)), .val (.int (0 : Int32)), .val (.ref w_YES), .val (.ref w_YES), .val (.ref w_NO), .val (.ref w_NO), .val (.ref w_NO), .val (.int (1 : Int32)), .val (.int (1 : Int32)), .val (.int (1 : Int32)), .unset] [(.int (1 : Int32))]))
  refine own_go (fun t k => XS.goto X61.here hx rfl (pc0 := 162) (pc' := 166) rfl (hb hby at_162) (by decide) (by decide) k) ?_
  show Go p.tables e below _ (T61.setTop (mkF m 166 #[.val (.int p1), .val (.int p2), .val (.ref b), .val (.int (0 : Int32)), .val (.int (0 : Int32)), .val (.ref w_YES), .val (.ref w_YES), .val (.ref w_NO), .val (.ref w_NO), .val (.ref w_NO), .val (.int (1 : Int32)), .val (.int (1 : Int32)), .val (.int (1 : Int32)), .unset] [(.int (1 : Int32))]))
  refine own_go (fun t k => XS.istore X61.here hx rfl (hb hby at_166) rfl (l' := #[.val (.int p1), .val (.int p2), .val (.ref b), .val (.int (0 : Int32)), .val (.int (0 : Int32)), .val (.ref w_YES), .val (.ref w_YES), .val (.ref w_NO), .val (.ref w_NO), .val (.ref w_NO), .val (.int (1 : Int32)), .val (.int (1 : Int32)), .val (.int (1 : Int32)), .val (.int (1 : Int32))]) rfl k) ?_
  show Go p.tables e below _ (T61.setTop (mkF m 168 #[.val (.int p1), .val (.int p2), .val (.ref b), .val (.int (0 : Int32)), .val (.int (0 : Int32)), .val (.ref w_YES), .val (.ref w_YES), .val (.ref w_NO), .val (.ref w_NO), .val (.ref w_NO), .val (.int (1 : Int32)), .val (.int (1 : Int32)), .val (.int (1 : Int32)), .val (.int (1 : Int32))] []))
  refine own_go (fun t k => XS.iload X61.here hx rfl (hb hby at_168) rfl k) ?_
  show Go p.tables e below _ (T61.setTop (mkF m 170 #[.val (.int p1), .val (.int p2), .val (.ref b), .val (.int (0 : Int32)), .val (.int (0 : Int32)), .val (.ref w_YES), .val (.ref w_YES), .val (.ref w_NO), .val (.ref w_NO), .val (.ref w_NO), .val (.int (1 : Int32)), .val (.int (1 : Int32)), .val (.int (1 : Int32)), .val (.int (1 : Int32))] [(.int (1 : Int32))]))
  refine own_go (fun t k => XS.ifNo X61.here hx rfl (hb hby at_170) rfl (XT.i0_eq_f (by decide)) k) ?_
  show Go p.tables e below _ (T61.setTop (mkF m 173 #[.val (.int p1), .val (.int p2), .val (.ref b), .val (.int (0 : Int32)), .val (.int (0 : Int32)), .val (.ref w_YES), .val (.ref w_YES), .val (.ref w_NO), .val (.ref w_NO), .val (.ref w_NO), .val (.int (1 : Int32)), .val (.int (1 : Int32)), .val (.int (1 : Int32)), .val (.int (1 : Int32))] []))
  refine own_go (fun t k => XS.iload X61.here hx rfl (hb hby at_173) rfl k) ?_
  show Go p.tables e below _ (T61.setTop (mkF m 175 #[.val (.int p1), .val (.int p2), .val (.ref b), .val (.int (0 : Int32)), .val (.int (0 : Int32)), .val (.ref w_YES), .val (.ref w_YES), .val (.ref w_NO), .val (.ref w_NO), .val (.ref w_NO), .val (.int (1 : Int32)), .val (.int (1 : Int32)), .val (.int (1 : Int32)), .val (.int (1 : Int32))] [(.int (1 : Int32))]))
  refine own_go (fun t k => XS.ifNo X61.here hx rfl (hb hby at_175) rfl (XT.i0_eq_f (by decide)) k) ?_
  show Go p.tables e below _ (T61.setTop (mkF m 178 #[.val (.int p1), .val (.int p2), .val (.ref b), .val (.int (0 : Int32)), .val (.int (0 : Int32)), .val (.ref w_YES), .val (.ref w_YES), .val (.ref w_NO), .val (.ref w_NO), .val (.ref w_NO), .val (.int (1 : Int32)), .val (.int (1 : Int32)), .val (.int (1 : Int32)), .val (.int (1 : Int32))] []))
  refine own_go (fun t k => XS.iload X61.here hx rfl (hb hby at_178) rfl k) ?_
  show Go p.tables e below _ (T61.setTop (mkF m 180 #[.val (.int p1), .val (.int p2), .val (.ref b), .val (.int (0 : Int32)), .val (.int (0 : Int32)), .val (.ref w_YES), .val (.ref w_YES), .val (.ref w_NO), .val (.ref w_NO), .val (.ref w_NO), .val (.int (1 : Int32)), .val (.int (1 : Int32)), .val (.int (1 : Int32)), .val (.int (1 : Int32))] [(.int (1 : Int32))]))
  refine own_go (fun t k => XS.ifNo X61.here hx rfl (hb hby at_180) rfl (XT.i0_eq_f (by decide)) k) ?_
  show Go p.tables e below _ (T61.setTop (mkF m 183 #[.val (.int p1), .val (.int p2), .val (.ref b), .val (.int (0 : Int32)), .val (.int (0 : Int32)), .val (.ref w_YES), .val (.ref w_YES), .val (.ref w_NO), .val (.ref w_NO), .val (.ref w_NO), .val (.int (1 : Int32)), .val (.int (1 : Int32)), .val (.int (1 : Int32)), .val (.int (1 : Int32))] []))
  refine own_go (fun t k => XS.iload X61.here hx rfl (hb hby at_183) rfl k) ?_
  show Go p.tables e below _ (T61.setTop (mkF m 185 #[.val (.int p1), .val (.int p2), .val (.ref b), .val (.int (0 : Int32)), .val (.int (0 : Int32)), .val (.ref w_YES), .val (.ref w_YES), .val (.ref w_NO), .val (.ref w_NO), .val (.ref w_NO), .val (.int (1 : Int32)), .val (.int (1 : Int32)), .val (.int (1 : Int32)), .val (.int (1 : Int32))] [(.int (1 : Int32))]))
  refine own_go (fun t k => XS.ifNo X61.here hx rfl (hb hby at_185) rfl (XT.i0_eq_f (by decide)) k) ?_
  show Go p.tables e below _ (T61.setTop (mkF m 188 #[.val (.int p1), .val (.int p2), .val (.ref b), .val (.int (0 : Int32)), .val (.int (0 : Int32)), .val (.ref w_YES), .val (.ref w_YES), .val (.ref w_NO), .val (.ref w_NO), .val (.ref w_NO), .val (.int (1 : Int32)), .val (.int (1 : Int32)), .val (.int (1 : Int32)), .val (.int (1 : Int32))] []))
  refine own_go (fun t k => XS.iconst X61.here hx rfl (hb hby at_188) k) ?_
  show Go p.tables e below _ (T61.setTop (mkF m 189 #[.val (.int p1), .val (.int p2), .val (.ref b), .val (.int (0 : Int32)), .val (.int (0 : Int32)), .val (.ref w_YES), .val (.ref w_YES), .val (.ref w_NO), .val (.ref w_NO), .val (.ref w_NO), .val (.int (1 : Int32)), .val (.int (1 : Int32)), .val (.int (1 : Int32)), .val (.int (1 : Int32))] [(.int (1 : Int32))]))
  refine own_go (fun t k => XS.goto X61.here hx rfl (pc0 := 189) (pc' := 193) rfl (hb hby at_189) (by decide) (by decide) k) ?_
  show Go p.tables e below _ (T61.setTop (mkF m 193 #[.val (.int p1), .val (.int p2), .val (.ref b), .val (.int (0 : Int32)), .val (.int (0 : Int32)), .val (.ref w_YES), .val (.ref w_YES), .val (.ref w_NO), .val (.ref w_NO), .val (.ref w_NO), .val (.int (1 : Int32)), .val (.int (1 : Int32)), .val (.int (1 : Int32)), .val (.int (1 : Int32))] [(.int (1 : Int32))]))
  exact own_ret X61 hx hlk Bd.returns rfl (Or.inl ⟨rfl, Or.inr (Or.inl rfl), _, rfl⟩) (hb hby at_193) ⟨rfl, N61⟩ (by decide) (by decide)
theorem ef_rm_law_01 (m : MethodId) (x0 : Int32) (x1 : Int32) : entryFrame m #[(.int x0), (.int x1)] maxLocals = mkF m 0 #[.val (.int x0), .val (.int x1), .unset, .unset, .unset, .unset, .unset, .unset, .unset, .unset, .unset, .unset, .unset, .unset] [] := by first | (simp [entryFrame, mkF, argsToLocals, Value.category, maxLocals]; done) | rfl
set_option maxRecDepth 65536 in
set_option maxHeartbeats 40000000 in
theorem rm_law_01 (l : Launch) (Z : State) (a0 : Array Value) (hw : ∀ d ∈ tables_1, d.before a0 Z = true) (ws : List Jvm.Cond) (p1 p2 : Int32) (w_YES w_NO w_UNKNOWN : Addr) (h0 : Heap) (n0 : Nat) (SS : own_S Z h0 w_YES w_NO w_UNKNOWN) (EE : own_E Z h0 w_YES w_NO w_UNKNOWN) (OO : own_O Z h0 w_YES w_NO w_UNKNOWN) (Z0 : n0 ≤ h0.size) (q1 : (p1 &&& 2147483647) % 3 = 0) (q2 : (p2 &&& 2147483647) % 3 = 1) :
    MetFree l x (head1 (Jvm.Cond.code x code maxLocals ret :: ws) room_1) (fun aa U => aa = #[(.int p1), (.int p2)] ∧ Z.Warmed39 U.vm ∧ U.heap = h0) (fun _ _ _ _ _ => True) (fun _ U o U' => ∃ v L, o = .returned v ∧ LQ n0 v U'.heap L ∧ FrameEnd U o U' L room_1.cells room_1.slots) := by
  refine MetFree.of_bodySF (plainFor_of_name pn_1) hisR ?_
  intro p e s m args below meth c s₁ Bd hml0 hP hK
  obtain ⟨rfl, hZ, hh⟩ := hP
  have hx := Bd.exec
  have hby := Bd.bytes
  have hlk := Bd.notSynchronized
  have hml : c.maxLocals = 14 := hml0
  have hown : s.vm.findClass "com/example/casewright/casewright/types/AnswerNotPinLaw" = some m.cls := findClass_of_methodNamed Bd.named
  have X0 : Stand p l e room_1 s m #[(.int p1), (.int p2)] below meth c s₁ [] 0 0 := Stand.of_body Bd
  have e0 : s₁.heap = h0 := by rw [← hh, Bd.state]; rfl
  have N0 := Fr.nil n0
  have SS' := SS
  obtain ⟨S_YES, S_NO, S_UNKNOWN⟩ := SS'
  obtain ⟨E_YES, E_NO, E_UNKNOWN⟩ := EE
  obtain ⟨F_NO_ordinal, F_YES_ordinal, F_UNKNOWN_ordinal⟩ := OO
  have nUN : w_UNKNOWN ≠ w_NO := (own_ne F_UNKNOWN_ordinal F_NO_ordinal (by decide))
  have nYN : w_YES ≠ w_NO := (own_ne F_YES_ordinal F_NO_ordinal (by decide))
  have nYU : w_YES ≠ w_UNKNOWN := (own_ne F_YES_ordinal F_UNKNOWN_ordinal (by decide))
  show Go p.tables e below (Fin s below (LQ n0) room_1.cells room_1.slots) (s₁.setTop (entryFrame m #[(.int p1), (.int p2)] maxLocals))
  refine own_go (fun t k => castTop (ef_rm_law_01 m p1 p2) k) ?_
  show Go p.tables e below _ (s₁.setTop (mkF m 0 #[.val (.int p1), .val (.int p2), .unset, .unset, .unset, .unset, .unset, .unset, .unset, .unset, .unset, .unset, .unset, .unset] []))
  refine own_go (fun t k => XS.iconst X0.here hx rfl (hb hby at_0) k) ?_
  show Go p.tables e below _ (s₁.setTop (mkF m 1 #[.val (.int p1), .val (.int p2), .unset, .unset, .unset, .unset, .unset, .unset, .unset, .unset, .unset, .unset, .unset, .unset] [(.int (3 : Int32))]))
  obtain ⟨T1, h1, kA, X1, e1, Ex1, A1, O1, st1⟩ := newR X0 hx hZ hown (hw _ (List.mem_of_getElem? (i := 0) rfl)) (hw _ (List.mem_of_getElem? (i := 1) rfl)) e0 (g := (mkF m 1 #[.val (.int p1), .val (.int p2), .unset, .unset, .unset, .unset, .unset, .unset, .unset, .unset, .unset, .unset, .unset, .unset] [(.int (3 : Int32))])) rfl (hb hby at_1) rfl (by decide) (cap := 3) (by decide) (by decide) (by decide) (by decide)
  obtain ⟨b, gb⟩ : ∃ z, z = h0.size := ⟨_, rfl⟩
  rw [← gb] at A1 st1
  have hb0 : n0 ≤ b := Nat.le_trans Z0 (Nat.le_of_eq gb.symm)
  have S1_YES := S_YES.ext Ex1
  have E1_YES := E_YES.ext Ex1
  have S1_NO := S_NO.ext Ex1
  have E1_NO := E_NO.ext Ex1
  have S1_UNKNOWN := S_UNKNOWN.ext Ex1
  have E1_UNKNOWN := E_UNKNOWN.ext Ex1
  refine own_go (fun t k => st1 t k) ?_
  show Go p.tables e below _ (T1.setTop (mkF m 4 #[.val (.int p1), .val (.int p2), .unset, .unset, .unset, .unset, .unset, .unset, .unset, .unset, .unset, .unset, .unset, .unset] [(.ref b)]))
  refine own_go (fun t k => XS.dup X1.here hx rfl (hb hby at_4) rfl rfl k) ?_
  show Go p.tables e below _ (T1.setTop (mkF m 5 #[.val (.int p1), .val (.int p2), .unset, .unset, .unset, .unset, .unset, .unset, .unset, .unset, .unset, .unset, .unset, .unset] [(.ref b), (.ref b)]))
  refine own_go (fun t k => XS.iconst X1.here hx rfl (hb hby at_5) k) ?_
  show Go p.tables e below _ (T1.setTop (mkF m 6 #[.val (.int p1), .val (.int p2), .unset, .unset, .unset, .unset, .unset, .unset, .unset, .unset, .unset, .unset, .unset, .unset] [(.int (0 : Int32)), (.ref b), (.ref b)]))
  obtain ⟨T11, X11, e11, st11⟩ := getS2 X1 hx hZ hown (host := "") (Or.inl (hw _ (List.mem_of_getElem? (i := 2) rfl))) Via.refl e1 S1_YES (g := (mkF m 6 #[.val (.int p1), .val (.int p2), .unset, .unset, .unset, .unset, .unset, .unset, .unset, .unset, .unset, .unset, .unset, .unset] [(.int (0 : Int32)), (.ref b), (.ref b)])) rfl (hb hby at_6)
  refine own_go (fun t k => st11 t k) ?_
  show Go p.tables e below _ (T11.setTop (mkF m 9 #[.val (.int p1), .val (.int p2), .unset, .unset, .unset, .unset, .unset, .unset, .unset, .unset, .unset, .unset, .unset, .unset] [(.ref w_YES), (.int (0 : Int32)), (.ref b), (.ref b)]))
  obtain ⟨T2w, h2, X2w, e2w, W2, stw2⟩ := stR X11 hx hZ e11 A1 (j := (0 : Int32)) (by rw [sz_new]; decide) rfl (Sto.of A1 O1 (Ins.self E1_YES)) (g := (mkF m 9 #[.val (.int p1), .val (.int p2), .unset, .unset, .unset, .unset, .unset, .unset, .unset, .unset, .unset, .unset, .unset, .unset] [(.ref w_YES), (.int (0 : Int32)), (.ref b), (.ref b)])) rfl rfl (hb hby at_9)
  have N2w := Fr.snoc X2w N0 hb0
  have A2 := A1.same W2
  have S2_YES := S1_YES.wr W2
  have E2_YES := E1_YES.wr W2
  have S2_NO := S1_NO.wr W2
  have E2_NO := E1_NO.wr W2
  have S2_UNKNOWN := S1_UNKNOWN.wr W2
  have E2_UNKNOWN := E1_UNKNOWN.wr W2
  refine own_go (fun t k => stw2 t k) ?_
  show Go p.tables e below _ (T2w.setTop (mkF m 10 #[.val (.int p1), .val (.int p2), .unset, .unset, .unset, .unset, .unset, .unset, .unset, .unset, .unset, .unset, .unset, .unset] [(.ref b)]))
  refine own_go (fun t k => XS.dup X2w.here hx rfl (hb hby at_10) rfl rfl k) ?_
  show Go p.tables e below _ (T2w.setTop (mkF m 11 #[.val (.int p1), .val (.int p2), .unset, .unset, .unset, .unset, .unset, .unset, .unset, .unset, .unset, .unset, .unset, .unset] [(.ref b), (.ref b)]))
  refine own_go (fun t k => XS.iconst X2w.here hx rfl (hb hby at_11) k) ?_
  show Go p.tables e below _ (T2w.setTop (mkF m 12 #[.val (.int p1), .val (.int p2), .unset, .unset, .unset, .unset, .unset, .unset, .unset, .unset, .unset, .unset, .unset, .unset] [(.int (1 : Int32)), (.ref b), (.ref b)]))
  obtain ⟨T51, X51, e51, st51⟩ := getS2 X2w hx hZ hown (host := "") (Or.inl (hw _ (List.mem_of_getElem? (i := 6) rfl))) Via.refl e2w S2_NO (g := (mkF m 12 #[.val (.int p1), .val (.int p2), .unset, .unset, .unset, .unset, .unset, .unset, .unset, .unset, .unset, .unset, .unset, .unset] [(.int (1 : Int32)), (.ref b), (.ref b)])) rfl (hb hby at_12)
  refine own_go (fun t k => st51 t k) ?_
  show Go p.tables e below _ (T51.setTop (mkF m 15 #[.val (.int p1), .val (.int p2), .unset, .unset, .unset, .unset, .unset, .unset, .unset, .unset, .unset, .unset, .unset, .unset] [(.ref w_NO), (.int (1 : Int32)), (.ref b), (.ref b)]))
  obtain ⟨T3w, h3, X3w, e3w, W3, stw3⟩ := stR X51 hx hZ e51 A2 (j := (1 : Int32)) (by rw [sz_set]; rw [sz_new]; decide) rfl (Sto.of A2 O1 (Ins.self E2_NO)) (g := (mkF m 15 #[.val (.int p1), .val (.int p2), .unset, .unset, .unset, .unset, .unset, .unset, .unset, .unset, .unset, .unset, .unset, .unset] [(.ref w_NO), (.int (1 : Int32)), (.ref b), (.ref b)])) rfl rfl (hb hby at_15)
  have N3w := Fr.snoc X3w N2w hb0
  have A3 := A2.same W3
  have S3_YES := S2_YES.wr W3
  have E3_YES := E2_YES.wr W3
  have S3_NO := S2_NO.wr W3
  have E3_NO := E2_NO.wr W3
  have S3_UNKNOWN := S2_UNKNOWN.wr W3
  have E3_UNKNOWN := E2_UNKNOWN.wr W3
  refine own_go (fun t k => stw3 t k) ?_
  show Go p.tables e below _ (T3w.setTop (mkF m 16 #[.val (.int p1), .val (.int p2), .unset, .unset, .unset, .unset, .unset, .unset, .unset, .unset, .unset, .unset, .unset, .unset] [(.ref b)]))
  refine own_go (fun t k => XS.dup X3w.here hx rfl (hb hby at_16) rfl rfl k) ?_
  show Go p.tables e below _ (T3w.setTop (mkF m 17 #[.val (.int p1), .val (.int p2), .unset, .unset, .unset, .unset, .unset, .unset, .unset, .unset, .unset, .unset, .unset, .unset] [(.ref b), (.ref b)]))
  refine own_go (fun t k => XS.iconst X3w.here hx rfl (hb hby at_17) k) ?_
  show Go p.tables e below _ (T3w.setTop (mkF m 18 #[.val (.int p1), .val (.int p2), .unset, .unset, .unset, .unset, .unset, .unset, .unset, .unset, .unset, .unset, .unset, .unset] [(.int (2 : Int32)), (.ref b), (.ref b)]))
  obtain ⟨T52, X52, e52, st52⟩ := getS2 X3w hx hZ hown (host := "") (Or.inl (hw _ (List.mem_of_getElem? (i := 8) rfl))) Via.refl e3w S3_UNKNOWN (g := (mkF m 18 #[.val (.int p1), .val (.int p2), .unset, .unset, .unset, .unset, .unset, .unset, .unset, .unset, .unset, .unset, .unset, .unset] [(.int (2 : Int32)), (.ref b), (.ref b)])) rfl (hb hby at_18)
  refine own_go (fun t k => st52 t k) ?_
  show Go p.tables e below _ (T52.setTop (mkF m 21 #[.val (.int p1), .val (.int p2), .unset, .unset, .unset, .unset, .unset, .unset, .unset, .unset, .unset, .unset, .unset, .unset] [(.ref w_UNKNOWN), (.int (2 : Int32)), (.ref b), (.ref b)]))
  obtain ⟨T4w, h4, X4w, e4w, W4, stw4⟩ := stR X52 hx hZ e52 A3 (j := (2 : Int32)) (by rw [sz_set]; rw [sz_set]; rw [sz_new]; decide) rfl (Sto.of A3 O1 (Ins.self E3_UNKNOWN)) (g := (mkF m 21 #[.val (.int p1), .val (.int p2), .unset, .unset, .unset, .unset, .unset, .unset, .unset, .unset, .unset, .unset, .unset, .unset] [(.ref w_UNKNOWN), (.int (2 : Int32)), (.ref b), (.ref b)])) rfl rfl (hb hby at_21)
  have N4w := Fr.snoc X4w N3w hb0
  have A4 := A3.same W4
  have S4_YES := S3_YES.wr W4
  have E4_YES := E3_YES.wr W4
  have S4_NO := S3_NO.wr W4
  have E4_NO := E3_NO.wr W4
  have S4_UNKNOWN := S3_UNKNOWN.wr W4
  have E4_UNKNOWN := E3_UNKNOWN.wr W4
  refine own_go (fun t k => stw4 t k) ?_
  show Go p.tables e below _ (T4w.setTop (mkF m 22 #[.val (.int p1), .val (.int p2), .unset, .unset, .unset, .unset, .unset, .unset, .unset, .unset, .unset, .unset, .unset, .unset] [(.ref b)]))
  have SSh : own_S Z h4 w_YES w_NO w_UNKNOWN := ⟨S4_YES, S4_NO, S4_UNKNOWN⟩
  have EH_YES := E4_YES
  have EH_NO := E4_NO
  have EH_UNKNOWN := E4_UNKNOWN
  refine own_go (fun t k => XS.astoreN X4w.here hx rfl (hb hby at_22) rfl rfl (l' := #[.val (.int p1), .val (.int p2), .val (.ref b), .unset, .unset, .unset, .unset, .unset, .unset, .unset, .unset, .unset, .unset, .unset]) rfl k) ?_
  show Go p.tables e below _ (T4w.setTop (mkF m 23 #[.val (.int p1), .val (.int p2), .val (.ref b), .unset, .unset, .unset, .unset, .unset, .unset, .unset, .unset, .unset, .unset, .unset] []))
  refine own_go (fun t k => XS.iloadN X4w.here hx rfl (hb hby at_23) rfl k) ?_
  show Go p.tables e below _ (T4w.setTop (mkF m 24 #[.val (.int p1), .val (.int p2), .val (.ref b), .unset, .unset, .unset, .unset, .unset, .unset, .unset, .unset, .unset, .unset, .unset] [(.int p1)]))
  refine own_go (fun t k => Jvm.Stand.ldcI X4w hx hown (mvT hZ (hw _ (List.mem_of_getElem? (i := 10) rfl))) rfl (hb hby at_24) k) ?_
  show Go p.tables e below _ (T4w.setTop (mkF m 26 #[.val (.int p1), .val (.int p2), .val (.ref b), .unset, .unset, .unset, .unset, .unset, .unset, .unset, .unset, .unset, .unset, .unset] [(.int (2147483647 : Int32)), (.int p1)]))
  refine own_go (fun t k => XS.iand X4w.here hx rfl (hb hby at_26) rfl k) ?_
  show Go p.tables e below _ (T4w.setTop (mkF m 27 #[.val (.int p1), .val (.int p2), .val (.ref b), .unset, .unset, .unset, .unset, .unset, .unset, .unset, .unset, .unset, .unset, .unset] [(.int (p1 &&& (2147483647 : Int32)))]))
  refine own_go (fun t k => XS.iconst X4w.here hx rfl (hb hby at_27) k) ?_
  show Go p.tables e below _ (T4w.setTop (mkF m 28 #[.val (.int p1), .val (.int p2), .val (.ref b), .unset, .unset, .unset, .unset, .unset, .unset, .unset, .unset, .unset, .unset, .unset] [(.int (3 : Int32)), (.int (p1 &&& (2147483647 : Int32)))]))
  refine own_go (fun t k => iremM (g := (mkF m 28 #[.val (.int p1), .val (.int p2), .val (.ref b), .unset, .unset, .unset, .unset, .unset, .unset, .unset, .unset, .unset, .unset, .unset] [(.int (3 : Int32)), (.int (p1 &&& (2147483647 : Int32)))])) X4w hx rfl (hb hby at_28) rfl (by decide) k) ?_
  show Go p.tables e below _ (T4w.setTop (mkF m 29 #[.val (.int p1), .val (.int p2), .val (.ref b), .unset, .unset, .unset, .unset, .unset, .unset, .unset, .unset, .unset, .unset, .unset] [(.int ((p1 &&& (2147483647 : Int32)) % (3 : Int32)))]))
  rw [q1]
  show Go p.tables e below _ (T4w.setTop (mkF m 29 #[.val (.int p1), .val (.int p2), .val (.ref b), .unset, .unset, .unset, .unset, .unset, .unset, .unset, .unset, .unset, .unset, .unset] [(.int (0 : Int32))]))
  refine own_go (fun t k => XS.istoreN X4w.here hx rfl (hb hby at_29) rfl (l' := #[.val (.int p1), .val (.int p2), .val (.ref b), .val (.int (0 : Int32)), .unset, .unset, .unset, .unset, .unset, .unset, .unset, .unset, .unset, .unset]) rfl k) ?_
  show Go p.tables e below _ (T4w.setTop (mkF m 30 #[.val (.int p1), .val (.int p2), .val (.ref b), .val (.int (0 : Int32)), .unset, .unset, .unset, .unset, .unset, .unset, .unset, .unset, .unset, .unset] []))
  refine own_go (fun t k => XS.iloadN X4w.here hx rfl (hb hby at_30) rfl k) ?_
  show Go p.tables e below _ (T4w.setTop (mkF m 31 #[.val (.int p1), .val (.int p2), .val (.ref b), .val (.int (0 : Int32)), .unset, .unset, .unset, .unset, .unset, .unset, .unset, .unset, .unset, .unset] [(.int p2)]))
  refine own_go (fun t k => Jvm.Stand.ldcI X4w hx hown (mvT hZ (hw _ (List.mem_of_getElem? (i := 10) rfl))) rfl (hb hby at_31) k) ?_
  show Go p.tables e below _ (T4w.setTop (mkF m 33 #[.val (.int p1), .val (.int p2), .val (.ref b), .val (.int (0 : Int32)), .unset, .unset, .unset, .unset, .unset, .unset, .unset, .unset, .unset, .unset] [(.int (2147483647 : Int32)), (.int p2)]))
  refine own_go (fun t k => XS.iand X4w.here hx rfl (hb hby at_33) rfl k) ?_
  show Go p.tables e below _ (T4w.setTop (mkF m 34 #[.val (.int p1), .val (.int p2), .val (.ref b), .val (.int (0 : Int32)), .unset, .unset, .unset, .unset, .unset, .unset, .unset, .unset, .unset, .unset] [(.int (p2 &&& (2147483647 : Int32)))]))
  refine own_go (fun t k => XS.iconst X4w.here hx rfl (hb hby at_34) k) ?_
  show Go p.tables e below _ (T4w.setTop (mkF m 35 #[.val (.int p1), .val (.int p2), .val (.ref b), .val (.int (0 : Int32)), .unset, .unset, .unset, .unset, .unset, .unset, .unset, .unset, .unset, .unset] [(.int (3 : Int32)), (.int (p2 &&& (2147483647 : Int32)))]))
  refine own_go (fun t k => iremM (g := (mkF m 35 #[.val (.int p1), .val (.int p2), .val (.ref b), .val (.int (0 : Int32)), .unset, .unset, .unset, .unset, .unset, .unset, .unset, .unset, .unset, .unset] [(.int (3 : Int32)), (.int (p2 &&& (2147483647 : Int32)))])) X4w hx rfl (hb hby at_35) rfl (by decide) k) ?_
  show Go p.tables e below _ (T4w.setTop (mkF m 36 #[.val (.int p1), .val (.int p2), .val (.ref b), .val (.int (0 : Int32)), .unset, .unset, .unset, .unset, .unset, .unset, .unset, .unset, .unset, .unset] [(.int ((p2 &&& (2147483647 : Int32)) % (3 : Int32)))]))
  rw [q2]
  show Go p.tables e below _ (T4w.setTop (mkF m 36 #[.val (.int p1), .val (.int p2), .val (.ref b), .val (.int (0 : Int32)), .unset, .unset, .unset, .unset, .unset, .unset, .unset, .unset, .unset, .unset] [(.int (1 : Int32))]))
  refine own_go (fun t k => XS.istore X4w.here hx rfl (hb hby at_36) rfl (l' := #[.val (.int p1), .val (.int p2), .val (.ref b), .val (.int (0 : Int32)), .val (.int (1 : Int32)), .unset, .unset, .unset, .unset, .unset, .unset, .unset, .unset, .unset]) rfl k) ?_
  show Go p.tables e below _ (T4w.setTop (mkF m 38 #[.val (.int p1), .val (.int p2), .val (.ref b), .val (.int (0 : Int32)), .val (.int (1 : Int32)), .unset, .unset, .unset, .unset, .unset, .unset, .unset, .unset, .unset] []))
  refine own_go (fun t k => XS.aloadN X4w.here hx rfl (hb hby at_38) rfl rfl k) ?_
  show Go p.tables e below _ (T4w.setTop (mkF m 39 #[.val (.int p1), .val (.int p2), .val (.ref b), .val (.int (0 : Int32)), .val (.int (1 : Int32)), .unset, .unset, .unset, .unset, .unset, .unset, .unset, .unset, .unset] [(.ref b)]))
  refine own_go (fun t k => XS.iloadN X4w.here hx rfl (hb hby at_39) rfl k) ?_
  show Go p.tables e below _ (T4w.setTop (mkF m 40 #[.val (.int p1), .val (.int p2), .val (.ref b), .val (.int (0 : Int32)), .val (.int (1 : Int32)), .unset, .unset, .unset, .unset, .unset, .unset, .unset, .unset, .unset] [(.int (0 : Int32)), (.ref b)]))
  refine own_go (fun t k => X4w.aaload hx (j := (0 : Int32)) (v := (.ref w_YES)) (by rw [e4w]; exact A4.1) (State.isArrayOf_alike hZ.alike A4.2.1) rfl A4.2.2 (by rw [sz_set, sz_set, sz_set, sz_new]; decide) rfl (g := (mkF m 40 #[.val (.int p1), .val (.int p2), .val (.ref b), .val (.int (0 : Int32)), .val (.int (1 : Int32)), .unset, .unset, .unset, .unset, .unset, .unset, .unset, .unset, .unset] [(.int (0 : Int32)), (.ref b)])) rfl rfl (hb hby at_40) t k) ?_
  show Go p.tables e below _ (T4w.setTop (mkF m 41 #[.val (.int p1), .val (.int p2), .val (.ref b), .val (.int (0 : Int32)), .val (.int (1 : Int32)), .unset, .unset, .unset, .unset, .unset, .unset, .unset, .unset, .unset] [(.ref w_YES)]))
  refine own_go (fun t k => XS.astore X4w.here hx rfl (hb hby at_41) rfl rfl (l' := #[.val (.int p1), .val (.int p2), .val (.ref b), .val (.int (0 : Int32)), .val (.int (1 : Int32)), .val (.ref w_YES), .unset, .unset, .unset, .unset, .unset, .unset, .unset, .unset]) rfl k) ?_
  show Go p.tables e below _ (T4w.setTop (mkF m 43 #[.val (.int p1), .val (.int p2), .val (.ref b), .val (.int (0 : Int32)), .val (.int (1 : Int32)), .val (.ref w_YES), .unset, .unset, .unset, .unset, .unset, .unset, .unset, .unset] []))
  refine own_go (fun t k => XS.aloadN X4w.here hx rfl (hb hby at_43) rfl rfl k) ?_
  show Go p.tables e below _ (T4w.setTop (mkF m 44 #[.val (.int p1), .val (.int p2), .val (.ref b), .val (.int (0 : Int32)), .val (.int (1 : Int32)), .val (.ref w_YES), .unset, .unset, .unset, .unset, .unset, .unset, .unset, .unset] [(.ref b)]))
  refine own_go (fun t k => XS.iload X4w.here hx rfl (hb hby at_44) rfl k) ?_
  show Go p.tables e below _ (T4w.setTop (mkF m 46 #[.val (.int p1), .val (.int p2), .val (.ref b), .val (.int (0 : Int32)), .val (.int (1 : Int32)), .val (.ref w_YES), .unset, .unset, .unset, .unset, .unset, .unset, .unset, .unset] [(.int (1 : Int32)), (.ref b)]))
  refine own_go (fun t k => X4w.aaload hx (j := (1 : Int32)) (v := (.ref w_NO)) (by rw [e4w]; exact A4.1) (State.isArrayOf_alike hZ.alike A4.2.1) rfl A4.2.2 (by rw [sz_set, sz_set, sz_set, sz_new]; decide) rfl (g := (mkF m 46 #[.val (.int p1), .val (.int p2), .val (.ref b), .val (.int (0 : Int32)), .val (.int (1 : Int32)), .val (.ref w_YES), .unset, .unset, .unset, .unset, .unset, .unset, .unset, .unset] [(.int (1 : Int32)), (.ref b)])) rfl rfl (hb hby at_46) t k) ?_
  show Go p.tables e below _ (T4w.setTop (mkF m 47 #[.val (.int p1), .val (.int p2), .val (.ref b), .val (.int (0 : Int32)), .val (.int (1 : Int32)), .val (.ref w_YES), .unset, .unset, .unset, .unset, .unset, .unset, .unset, .unset] [(.ref w_NO)]))
  refine own_go (fun t k => XS.astore X4w.here hx rfl (hb hby at_47) rfl rfl (l' := #[.val (.int p1), .val (.int p2), .val (.ref b), .val (.int (0 : Int32)), .val (.int (1 : Int32)), .val (.ref w_YES), .val (.ref w_NO), .unset, .unset, .unset, .unset, .unset, .unset, .unset]) rfl k) ?_
  show Go p.tables e below _ (T4w.setTop (mkF m 49 #[.val (.int p1), .val (.int p2), .val (.ref b), .val (.int (0 : Int32)), .val (.int (1 : Int32)), .val (.ref w_YES), .val (.ref w_NO), .unset, .unset, .unset, .unset, .unset, .unset, .unset] []))
  refine own_go (fun t k => XS.iloadN X4w.here hx rfl (hb hby at_49) rfl k) ?_
  show Go p.tables e below _ (T4w.setTop (mkF m 50 #[.val (.int p1), .val (.int p2), .val (.ref b), .val (.int (0 : Int32)), .val (.int (1 : Int32)), .val (.ref w_YES), .val (.ref w_NO), .unset, .unset, .unset, .unset, .unset, .unset, .unset] [(.int (0 : Int32))]))
  refine own_go (fun t k => XS.iconst X4w.here hx rfl (hb hby at_50) k) ?_
  show Go p.tables e below _ (T4w.setTop (mkF m 51 #[.val (.int p1), .val (.int p2), .val (.ref b), .val (.int (0 : Int32)), .val (.int (1 : Int32)), .val (.ref w_YES), .val (.ref w_NO), .unset, .unset, .unset, .unset, .unset, .unset, .unset] [(.int (2 : Int32)), (.int (0 : Int32))]))
  refine own_go (fun t k => XS.icmpYes X4w.here hx rfl (pc0 := 51) (pc' := 62) rfl (hb hby at_51) rfl (XT.ii_ne_t (by decide)) (by decide) (by decide) k) ?_
  show Go p.tables e below _ (T4w.setTop (mkF m 62 #[.val (.int p1), .val (.int p2), .val (.ref b), .val (.int (0 : Int32)), .val (.int (1 : Int32)), .val (.ref w_YES), .val (.ref w_NO), .unset, .unset, .unset, .unset, .unset, .unset, .unset] []))
  refine own_go (fun t k => XS.aloadN X4w.here hx rfl (hb hby at_62) rfl rfl k) ?_
  show Go p.tables e below _ (T4w.setTop (mkF m 63 #[.val (.int p1), .val (.int p2), .val (.ref b), .val (.int (0 : Int32)), .val (.int (1 : Int32)), .val (.ref w_YES), .val (.ref w_NO), .unset, .unset, .unset, .unset, .unset, .unset, .unset] [(.ref b)]))
  refine own_go (fun t k => XS.iconst X4w.here hx rfl (hb hby at_63) k) ?_
  show Go p.tables e below _ (T4w.setTop (mkF m 64 #[.val (.int p1), .val (.int p2), .val (.ref b), .val (.int (0 : Int32)), .val (.int (1 : Int32)), .val (.ref w_YES), .val (.ref w_NO), .unset, .unset, .unset, .unset, .unset, .unset, .unset] [(.int (1 : Int32)), (.ref b)]))
  refine own_go (fun t k => XS.iloadN X4w.here hx rfl (hb hby at_64) rfl k) ?_
  show Go p.tables e below _ (T4w.setTop (mkF m 65 #[.val (.int p1), .val (.int p2), .val (.ref b), .val (.int (0 : Int32)), .val (.int (1 : Int32)), .val (.ref w_YES), .val (.ref w_NO), .unset, .unset, .unset, .unset, .unset, .unset, .unset] [(.int (0 : Int32)), (.int (1 : Int32)), (.ref b)]))
  refine own_go (fun t k => XS.isub X4w.here hx rfl (hb hby at_65) rfl k) ?_
  show Go p.tables e below _ (T4w.setTop (mkF m 66 #[.val (.int p1), .val (.int p2), .val (.ref b), .val (.int (0 : Int32)), .val (.int (1 : Int32)), .val (.ref w_YES), .val (.ref w_NO), .unset, .unset, .unset, .unset, .unset, .unset, .unset] [(.int (1 : Int32)), (.ref b)]))
  refine own_go (fun t k => X4w.aaload hx (j := (1 : Int32)) (v := (.ref w_NO)) (by rw [e4w]; exact A4.1) (State.isArrayOf_alike hZ.alike A4.2.1) rfl A4.2.2 (by rw [sz_set, sz_set, sz_set, sz_new]; decide) rfl (g := (mkF m 66 #[.val (.int p1), .val (.int p2), .val (.ref b), .val (.int (0 : Int32)), .val (.int (1 : Int32)), .val (.ref w_YES), .val (.ref w_NO), .unset, .unset, .unset, .unset, .unset, .unset, .unset] [(.int (1 : Int32)), (.ref b)])) rfl rfl (hb hby at_66) t k) ?_
  show Go p.tables e below _ (T4w.setTop (mkF m 67 #[.val (.int p1), .val (.int p2), .val (.ref b), .val (.int (0 : Int32)), .val (.int (1 : Int32)), .val (.ref w_YES), .val (.ref w_NO), .unset, .unset, .unset, .unset, .unset, .unset, .unset] [(.ref w_NO)]))
  refine own_go (fun t k => XS.astore X4w.here hx rfl (hb hby at_67) rfl rfl (l' := #[.val (.int p1), .val (.int p2), .val (.ref b), .val (.int (0 : Int32)), .val (.int (1 : Int32)), .val (.ref w_YES), .val (.ref w_NO), .val (.ref w_NO), .unset, .unset, .unset, .unset, .unset, .unset]) rfl k) ?_
  show Go p.tables e below _ (T4w.setTop (mkF m 69 #[.val (.int p1), .val (.int p2), .val (.ref b), .val (.int (0 : Int32)), .val (.int (1 : Int32)), .val (.ref w_YES), .val (.ref w_NO), .val (.ref w_NO), .unset, .unset, .unset, .unset, .unset, .unset] []))
  refine own_go (fun t k => XS.aload X4w.here hx rfl (hb hby at_69) rfl rfl k) ?_
  show Go p.tables e below _ (T4w.setTop (mkF m 71 #[.val (.int p1), .val (.int p2), .val (.ref b), .val (.int (0 : Int32)), .val (.int (1 : Int32)), .val (.ref w_YES), .val (.ref w_NO), .val (.ref w_NO), .unset, .unset, .unset, .unset, .unset, .unset] [(.ref w_YES)]))
  obtain ⟨cq53, kq53, q53a, q53b, q53c⟩ := isOf hZ e4w EH_YES
  obtain ⟨v53, _, ⟨T53, L53, k53, n53⟩, -, X53, ⟨Lc53, hQ53, l53, y53, z53⟩, st53⟩ := X4w.virtualBack hx (y := (⟨"com/example/casewright/casewright/types/Answer", "not", "()Lcom/example/casewright/casewright/types/Answer;"⟩ : MethodName)) (z := (⟨"com/example/casewright/casewright/types/Answer", "not", "()Lcom/example/casewright/casewright/types/Answer;"⟩ : MethodName)) hown (mvT hZ (hw _ (List.mem_of_getElem? (i := 11) rfl))) (mvT hZ (hw _ (List.mem_of_getElem? (i := 12) rfl))) (notFace_of_selects (args := #[]) (mvT hZ (hw _ (List.mem_of_getElem? (i := 14) rfl)))) (mvT hZ (hw _ (List.mem_of_getElem? (i := 14) rfl))) (mvT hZ (hw _ (List.mem_of_getElem? (i := 13) rfl))) (by decide) (backOf (W := 0) (rm_not l Z a0 hw [] w_YES w_YES w_NO w_UNKNOWN h4 n0 SSh) hZ (hw _ (List.mem_of_getElem? (i := 15) rfl)) (hw _ (List.mem_of_getElem? (i := 3) rfl)) (by decide) (by decide)) q53a q53c (g := (mkF m 71 #[.val (.int p1), .val (.int p2), .val (.ref b), .val (.int (0 : Int32)), .val (.int (1 : Int32)), .val (.ref w_YES), .val (.ref w_NO), .val (.ref w_NO), .unset, .unset, .unset, .unset, .unset, .unset] [(.ref w_YES)])) rfl (by rw [hml]; rfl) (Steps.refl _) (argsL := []) (rest := []) (lenOf pd_0 rfl) rfl (by show 2 * 0 + _ ≤ _; exact Nat.le_of_eq rfl) (hb hby at_71) (fun _ _ => ⟨rfl, e4w, (by decide : 0 + 1 + 0 ≤ _), (by decide : 0 + 3 + 0 ≤ _)⟩)
  dsimp only [Pt.U, Pt.locs, Pt.cells, Pt.slots] at X53 l53 y53 z53 st53 hQ53
  subst l53 y53 z53
  obtain ⟨hv53, N53q, e53⟩ := hQ53
  rw [show ((.ref (own_not w_NO w_UNKNOWN w_YES w_YES)) : Value) = (.ref w_NO) from by simp [own_not, nUN, nYN, nYU, nUN.symm, nYN.symm, nYU.symm]] at hv53
  subst hv53
  have N53 := Fr.app N4w N53q
  refine own_go (fun t k => st53.trans k) ?_
  show Go p.tables e below _ (T53.setTop (mkF m 74 #[.val (.int p1), .val (.int p2), .val (.ref b), .val (.int (0 : Int32)), .val (.int (1 : Int32)), .val (.ref w_YES), .val (.ref w_NO), .val (.ref w_NO), .unset, .unset, .unset, .unset, .unset, .unset] [(.ref w_NO)]))
  refine own_go (fun t k => XS.astore X53.here hx rfl (hb hby at_74) rfl rfl (l' := #[.val (.int p1), .val (.int p2), .val (.ref b), .val (.int (0 : Int32)), .val (.int (1 : Int32)), .val (.ref w_YES), .val (.ref w_NO), .val (.ref w_NO), .val (.ref w_NO), .unset, .unset, .unset, .unset, .unset]) rfl k) ?_
  show Go p.tables e below _ (T53.setTop (mkF m 76 #[.val (.int p1), .val (.int p2), .val (.ref b), .val (.int (0 : Int32)), .val (.int (1 : Int32)), .val (.ref w_YES), .val (.ref w_NO), .val (.ref w_NO), .val (.ref w_NO), .unset, .unset, .unset, .unset, .unset] []))
  refine own_go (fun t k => XS.aload X53.here hx rfl (hb hby at_76) rfl rfl k) ?_
  show Go p.tables e below _ (T53.setTop (mkF m 78 #[.val (.int p1), .val (.int p2), .val (.ref b), .val (.int (0 : Int32)), .val (.int (1 : Int32)), .val (.ref w_YES), .val (.ref w_NO), .val (.ref w_NO), .val (.ref w_NO), .unset, .unset, .unset, .unset, .unset] [(.ref w_NO)]))
  obtain ⟨cq54, kq54, q54a, q54b, q54c⟩ := isOf hZ e53 EH_NO
  obtain ⟨v54, _, ⟨T54, L54, k54, n54⟩, -, X54, ⟨Lc54, hQ54, l54, y54, z54⟩, st54⟩ := X53.virtualBack hx (y := (⟨"com/example/casewright/casewright/types/Answer", "not", "()Lcom/example/casewright/casewright/types/Answer;"⟩ : MethodName)) (z := (⟨"com/example/casewright/casewright/types/Answer", "not", "()Lcom/example/casewright/casewright/types/Answer;"⟩ : MethodName)) hown (mvT hZ (hw _ (List.mem_of_getElem? (i := 11) rfl))) (mvT hZ (hw _ (List.mem_of_getElem? (i := 12) rfl))) (notFace_of_selects (args := #[]) (mvT hZ (hw _ (List.mem_of_getElem? (i := 14) rfl)))) (mvT hZ (hw _ (List.mem_of_getElem? (i := 14) rfl))) (mvT hZ (hw _ (List.mem_of_getElem? (i := 13) rfl))) (by decide) (backOf (W := 0) (rm_not l Z a0 hw [] w_NO w_YES w_NO w_UNKNOWN h4 n0 SSh) hZ (hw _ (List.mem_of_getElem? (i := 15) rfl)) (hw _ (List.mem_of_getElem? (i := 3) rfl)) (by decide) (by decide)) q54a q54c (g := (mkF m 78 #[.val (.int p1), .val (.int p2), .val (.ref b), .val (.int (0 : Int32)), .val (.int (1 : Int32)), .val (.ref w_YES), .val (.ref w_NO), .val (.ref w_NO), .val (.ref w_NO), .unset, .unset, .unset, .unset, .unset] [(.ref w_NO)])) rfl (by rw [hml]; rfl) (Steps.refl _) (argsL := []) (rest := []) (lenOf pd_0 rfl) rfl (by show 2 * 0 + _ ≤ _; exact Nat.le_of_eq rfl) (hb hby at_78) (fun _ _ => ⟨rfl, e53, (by decide : 0 + 1 + 0 ≤ _), (by decide : 0 + 3 + 0 ≤ _)⟩)
  dsimp only [Pt.U, Pt.locs, Pt.cells, Pt.slots] at X54 l54 y54 z54 st54 hQ54
  subst l54 y54 z54
  obtain ⟨hv54, N54q, e54⟩ := hQ54
  rw [show ((.ref (own_not w_NO w_UNKNOWN w_YES w_NO)) : Value) = (.ref w_YES) from by simp [own_not, nUN, nYN, nYU, nUN.symm, nYN.symm, nYU.symm]] at hv54
  subst hv54
  have N54 := Fr.app N53 N54q
  refine own_go (fun t k => st54.trans k) ?_
  show Go p.tables e below _ (T54.setTop (mkF m 81 #[.val (.int p1), .val (.int p2), .val (.ref b), .val (.int (0 : Int32)), .val (.int (1 : Int32)), .val (.ref w_YES), .val (.ref w_NO), .val (.ref w_NO), .val (.ref w_NO), .unset, .unset, .unset, .unset, .unset] [(.ref w_YES)]))
  refine own_go (fun t k => XS.astore X54.here hx rfl (hb hby at_81) rfl rfl (l' := #[.val (.int p1), .val (.int p2), .val (.ref b), .val (.int (0 : Int32)), .val (.int (1 : Int32)), .val (.ref w_YES), .val (.ref w_NO), .val (.ref w_NO), .val (.ref w_NO), .val (.ref w_YES), .unset, .unset, .unset, .unset]) rfl k) ?_
  show Go p.tables e below _ (T54.setTop (mkF m 83 #[.val (.int p1), .val (.int p2), .val (.ref b), .val (.int (0 : Int32)), .val (.int (1 : Int32)), .val (.ref w_YES), .val (.ref w_NO), .val (.ref w_NO), .val (.ref w_NO), .val (.ref w_YES), .unset, .unset, .unset, .unset] []))
  refine own_go (fun t k => XS.aload X54.here hx rfl (hb hby at_83) rfl rfl k) ?_
  show Go p.tables e below _ (T54.setTop (mkF m 85 #[.val (.int p1), .val (.int p2), .val (.ref b), .val (.int (0 : Int32)), .val (.int (1 : Int32)), .val (.ref w_YES), .val (.ref w_NO), .val (.ref w_NO), .val (.ref w_NO), .val (.ref w_YES), .unset, .unset, .unset, .unset] [(.ref w_NO)]))
  refine own_go (fun t k => XS.aload X54.here hx rfl (hb hby at_85) rfl rfl k) ?_
  show Go p.tables e below _ (T54.setTop (mkF m 87 #[.val (.int p1), .val (.int p2), .val (.ref b), .val (.int (0 : Int32)), .val (.int (1 : Int32)), .val (.ref w_YES), .val (.ref w_NO), .val (.ref w_NO), .val (.ref w_NO), .val (.ref w_YES), .unset, .unset, .unset, .unset] [(.ref w_NO), (.ref w_NO)]))
  refine own_go (fun t k => XT.acmpNo X54.here hx rfl (hb hby at_87) rfl rfl rfl (XT.aa_ne_f (congrArg Value.ref rfl)) k) ?_
  show Go p.tables e below _ (T54.setTop (mkF m 90 #[.val (.int p1), .val (.int p2), .val (.ref b), .val (.int (0 : Int32)), .val (.int (1 : Int32)), .val (.ref w_YES), .val (.ref w_NO), .val (.ref w_NO), .val (.ref w_NO), .val (.ref w_YES), .unset, .unset, .unset, .unset] []))
  refine own_go (fun t k => XS.iconst X54.here hx rfl (hb hby at_90) k) ?_
  show Go p.tables e below _ (T54.setTop (mkF m 91 #[.val (.int p1), .val (.int p2), .val (.ref b), .val (.int (0 : Int32)), .val (.int (1 : Int32)), .val (.ref w_YES), .val (.ref w_NO), .val (.ref w_NO), .val (.ref w_NO), .val (.ref w_YES), .unset, .unset, .unset, .unset] [(.int (1 : Int32))]))
  refine own_go (fun t k => XS.goto X54.here hx rfl (pc0 := 91) (pc' := 95) rfl (hb hby at_91) (by decide) (by decide) k) ?_
  show Go p.tables e below _ (T54.setTop (mkF m 95 #[.val (.int p1), .val (.int p2), .val (.ref b), .val (.int (0 : Int32)), .val (.int (1 : Int32)), .val (.ref w_YES), .val (.ref w_NO), .val (.ref w_NO), .val (.ref w_NO), .val (.ref w_YES), .unset, .unset, .unset, .unset] [(.int (1 : Int32))]))
  refine own_go (fun t k => XS.istore X54.here hx rfl (hb hby at_95) rfl (l' := #[.val (.int p1), .val (.int p2), .val (.ref b), .val (.int (0 : Int32)), .val (.int (1 : Int32)), .val (.ref w_YES), .val (.ref w_NO), .val (.ref w_NO), .val (.ref w_NO), .val (.ref w_YES), .val (.int (1 : Int32)), .unset, .unset, .unset]) rfl k) ?_
  show Go p.tables e below _ (T54.setTop (mkF m 97 #[.val (.int p1), .val (.int p2), .val (.ref b), .val (.int (0 : Int32)), .val (.int (1 : Int32)), .val (.ref w_YES), .val (.ref w_NO), .val (.ref w_NO), .val (.ref w_NO), .val (.ref w_YES), .val (.int (1 : Int32)), .unset, .unset, .unset] []))
  refine own_go (fun t k => XS.aload X54.here hx rfl (hb hby at_97) rfl rfl k) ?_
  show Go p.tables e below _ (T54.setTop (mkF m 99 #[.val (.int p1), .val (.int p2), .val (.ref b), .val (.int (0 : Int32)), .val (.int (1 : Int32)), .val (.ref w_YES), .val (.ref w_NO), .val (.ref w_NO), .val (.ref w_NO), .val (.ref w_YES), .val (.int (1 : Int32)), .unset, .unset, .unset] [(.ref w_NO)]))
  obtain ⟨cq55, kq55, q55a, q55b, q55c⟩ := isOf hZ e54 EH_NO
  obtain ⟨v55, _, ⟨T55, L55, k55, n55⟩, -, X55, ⟨Lc55, hQ55, l55, y55, z55⟩, st55⟩ := X54.virtualBack hx (y := (⟨"com/example/casewright/casewright/types/Answer", "not", "()Lcom/example/casewright/casewright/types/Answer;"⟩ : MethodName)) (z := (⟨"com/example/casewright/casewright/types/Answer", "not", "()Lcom/example/casewright/casewright/types/Answer;"⟩ : MethodName)) hown (mvT hZ (hw _ (List.mem_of_getElem? (i := 11) rfl))) (mvT hZ (hw _ (List.mem_of_getElem? (i := 12) rfl))) (notFace_of_selects (args := #[]) (mvT hZ (hw _ (List.mem_of_getElem? (i := 14) rfl)))) (mvT hZ (hw _ (List.mem_of_getElem? (i := 14) rfl))) (mvT hZ (hw _ (List.mem_of_getElem? (i := 13) rfl))) (by decide) (backOf (W := 0) (rm_not l Z a0 hw [] w_NO w_YES w_NO w_UNKNOWN h4 n0 SSh) hZ (hw _ (List.mem_of_getElem? (i := 15) rfl)) (hw _ (List.mem_of_getElem? (i := 3) rfl)) (by decide) (by decide)) q55a q55c (g := (mkF m 99 #[.val (.int p1), .val (.int p2), .val (.ref b), .val (.int (0 : Int32)), .val (.int (1 : Int32)), .val (.ref w_YES), .val (.ref w_NO), .val (.ref w_NO), .val (.ref w_NO), .val (.ref w_YES), .val (.int (1 : Int32)), .unset, .unset, .unset] [(.ref w_NO)])) rfl (by rw [hml]; rfl) (Steps.refl _) (argsL := []) (rest := []) (lenOf pd_0 rfl) rfl (by show 2 * 0 + _ ≤ _; exact Nat.le_of_eq rfl) (hb hby at_99) (fun _ _ => ⟨rfl, e54, (by decide : 0 + 1 + 0 ≤ _), (by decide : 0 + 3 + 0 ≤ _)⟩)
  dsimp only [Pt.U, Pt.locs, Pt.cells, Pt.slots] at X55 l55 y55 z55 st55 hQ55
  subst l55 y55 z55
  obtain ⟨hv55, N55q, e55⟩ := hQ55
  rw [show ((.ref (own_not w_NO w_UNKNOWN w_YES w_NO)) : Value) = (.ref w_YES) from by simp [own_not, nUN, nYN, nYU, nUN.symm, nYN.symm, nYU.symm]] at hv55
  subst hv55
  have N55 := Fr.app N54 N55q
  refine own_go (fun t k => st55.trans k) ?_
  show Go p.tables e below _ (T55.setTop (mkF m 102 #[.val (.int p1), .val (.int p2), .val (.ref b), .val (.int (0 : Int32)), .val (.int (1 : Int32)), .val (.ref w_YES), .val (.ref w_NO), .val (.ref w_NO), .val (.ref w_NO), .val (.ref w_YES), .val (.int (1 : Int32)), .unset, .unset, .unset] [(.ref w_YES)]))
  refine own_go (fun t k => XS.aload X55.here hx rfl (hb hby at_102) rfl rfl k) ?_
  show Go p.tables e below _ (T55.setTop (mkF m 104 #[.val (.int p1), .val (.int p2), .val (.ref b), .val (.int (0 : Int32)), .val (.int (1 : Int32)), .val (.ref w_YES), .val (.ref w_NO), .val (.ref w_NO), .val (.ref w_NO), .val (.ref w_YES), .val (.int (1 : Int32)), .unset, .unset, .unset] [(.ref w_YES), (.ref w_YES)]))
  refine own_go (fun t k => XT.acmpNo X55.here hx rfl (hb hby at_104) rfl rfl rfl (XT.aa_ne_f (congrArg Value.ref rfl)) k) ?_
  show Go p.tables e below _ (T55.setTop (mkF m 107 #[.val (.int p1), .val (.int p2), .val (.ref b), .val (.int (0 : Int32)), .val (.int (1 : Int32)), .val (.ref w_YES), .val (.ref w_NO), .val (.ref w_NO), .val (.ref w_NO), .val (.ref w_YES), .val (.int (1 : Int32)), .unset, .unset, .unset] []))
  refine own_go (fun t k => XS.iconst X55.here hx rfl (hb hby at_107) k) ?_
  show Go p.tables e below _ (T55.setTop (mkF m 108 #[.val (.int p1), .val (.int p2), .val (.ref b), .val (.int (0 : Int32)), .val (.int (1 : Int32)), .val (.ref w_YES), .val (.ref w_NO), .val (.ref w_NO), .val (.ref w_NO), .val (.ref w_YES), .val (.int (1 : Int32)), .unset, .unset, .unset] [(.int (1 : Int32))]))
  refine own_go (fun t k => XS.goto X55.here hx rfl (pc0 := 108) (pc' := 112) rfl (hb hby at_108) (by decide) (by decide) k) ?_
  show Go p.tables e below _ (T55.setTop (mkF m 112 #[.val (.int p1), .val (.int p2), .val (.ref b), .val (.int (0 : Int32)), .val (.int (1 : Int32)), .val (.ref w_YES), .val (.ref w_NO), .val (.ref w_NO), .val (.ref w_NO), .val (.ref w_YES), .val (.int (1 : Int32)), .unset, .unset, .unset] [(.int (1 : Int32))]))
  refine own_go (fun t k => XS.istore X55.here hx rfl (hb hby at_112) rfl (l' := #[.val (.int p1), .val (.int p2), .val (.ref b), .val (.int (0 : Int32)), .val (.int (1 : Int32)), .val (.ref w_YES), .val (.ref w_NO), .val (.ref w_NO), .val (.ref w_NO), .val (.ref w_YES), .val (.int (1 : Int32)), .val (.int (1 : Int32)), .unset, .unset]) rfl k) ?_
  show Go p.tables e below _ (T55.setTop (mkF m 114 #[.val (.int p1), .val (.int p2), .val (.ref b), .val (.int (0 : Int32)), .val (.int (1 : Int32)), .val (.ref w_YES), .val (.ref w_NO), .val (.ref w_NO), .val (.ref w_NO), .val (.ref w_YES), .val (.int (1 : Int32)), .val (.int (1 : Int32)), .unset, .unset] []))
  refine own_go (fun t k => XS.aload X55.here hx rfl (hb hby at_114) rfl rfl k) ?_
  show Go p.tables e below _ (T55.setTop (mkF m 116 #[.val (.int p1), .val (.int p2), .val (.ref b), .val (.int (0 : Int32)), .val (.int (1 : Int32)), .val (.ref w_YES), .val (.ref w_NO), .val (.ref w_NO), .val (.ref w_NO), .val (.ref w_YES), .val (.int (1 : Int32)), .val (.int (1 : Int32)), .unset, .unset] [(.ref w_YES)]))
  refine own_go (fun t k => XS.aload X55.here hx rfl (hb hby at_116) rfl rfl k) ?_
  show Go p.tables e below _ (T55.setTop (mkF m 118 #[.val (.int p1), .val (.int p2), .val (.ref b), .val (.int (0 : Int32)), .val (.int (1 : Int32)), .val (.ref w_YES), .val (.ref w_NO), .val (.ref w_NO), .val (.ref w_NO), .val (.ref w_YES), .val (.int (1 : Int32)), .val (.int (1 : Int32)), .unset, .unset] [(.ref w_NO), (.ref w_YES)]))
  obtain ⟨cq56, kq56, q56a, q56b, q56c⟩ := isOf hZ e55 EH_YES
  obtain ⟨v56, _, ⟨T56, L56, k56, n56⟩, -, X56, ⟨Lc56, hQ56, l56, y56, z56⟩, st56⟩ := X55.virtualBack hx (y := (⟨"com/example/casewright/casewright/types/Answer", "and", "(Lcom/example/casewright/casewright/types/Answer;)Lcom/example/casewright/casewright/types/Answer;"⟩ : MethodName)) (z := (⟨"com/example/casewright/casewright/types/Answer", "and", "(Lcom/example/casewright/casewright/types/Answer;)Lcom/example/casewright/casewright/types/Answer;"⟩ : MethodName)) hown (mvT hZ (hw _ (List.mem_of_getElem? (i := 18) rfl))) (mvT hZ (hw _ (List.mem_of_getElem? (i := 19) rfl))) (notFace_of_selects (args := #[]) (mvT hZ (hw _ (List.mem_of_getElem? (i := 21) rfl)))) (mvT hZ (hw _ (List.mem_of_getElem? (i := 21) rfl))) (mvT hZ (hw _ (List.mem_of_getElem? (i := 20) rfl))) (by decide) (backOf (W := 0) (rm_and l Z a0 hw [] w_YES w_NO w_YES w_NO w_UNKNOWN h4 n0 SSh) hZ (hw _ (List.mem_of_getElem? (i := 22) rfl)) (hw _ (List.mem_of_getElem? (i := 3) rfl)) (by decide) (by decide)) q56a q56c (g := (mkF m 118 #[.val (.int p1), .val (.int p2), .val (.ref b), .val (.int (0 : Int32)), .val (.int (1 : Int32)), .val (.ref w_YES), .val (.ref w_NO), .val (.ref w_NO), .val (.ref w_NO), .val (.ref w_YES), .val (.int (1 : Int32)), .val (.int (1 : Int32)), .unset, .unset] [(.ref w_NO), (.ref w_YES)])) rfl (by rw [hml]; rfl) (Steps.refl _) (argsL := [(.ref w_NO)]) (rest := []) (lenOf pd_1 rfl) rfl (by show 2 * 0 + _ ≤ _; exact Nat.le_of_eq rfl) (hb hby at_118) (fun _ _ => ⟨rfl, e55, (by decide : 0 + 1 + 0 ≤ _), (by decide : 0 + 3 + 0 ≤ _)⟩)
  dsimp only [Pt.U, Pt.locs, Pt.cells, Pt.slots] at X56 l56 y56 z56 st56 hQ56
  subst l56 y56 z56
  obtain ⟨hv56, N56q, e56⟩ := hQ56
  rw [show ((.ref (own_and w_NO w_UNKNOWN w_YES w_YES w_NO)) : Value) = (.ref w_NO) from by simp [own_and, nUN, nYN, nYU, nUN.symm, nYN.symm, nYU.symm]] at hv56
  subst hv56
  have N56 := Fr.app N55 N56q
  refine own_go (fun t k => st56.trans k) ?_
  show Go p.tables e below _ (T56.setTop (mkF m 121 #[.val (.int p1), .val (.int p2), .val (.ref b), .val (.int (0 : Int32)), .val (.int (1 : Int32)), .val (.ref w_YES), .val (.ref w_NO), .val (.ref w_NO), .val (.ref w_NO), .val (.ref w_YES), .val (.int (1 : Int32)), .val (.int (1 : Int32)), .unset, .unset] [(.ref w_NO)]))
  obtain ⟨cq57, kq57, q57a, q57b, q57c⟩ := isOf hZ e56 EH_NO
  obtain ⟨v57, _, ⟨T57, L57, k57, n57⟩, -, X57, ⟨Lc57, hQ57, l57, y57, z57⟩, st57⟩ := X56.virtualBack hx (y := (⟨"com/example/casewright/casewright/types/Answer", "not", "()Lcom/example/casewright/casewright/types/Answer;"⟩ : MethodName)) (z := (⟨"com/example/casewright/casewright/types/Answer", "not", "()Lcom/example/casewright/casewright/types/Answer;"⟩ : MethodName)) hown (mvT hZ (hw _ (List.mem_of_getElem? (i := 11) rfl))) (mvT hZ (hw _ (List.mem_of_getElem? (i := 12) rfl))) (notFace_of_selects (args := #[]) (mvT hZ (hw _ (List.mem_of_getElem? (i := 14) rfl)))) (mvT hZ (hw _ (List.mem_of_getElem? (i := 14) rfl))) (mvT hZ (hw _ (List.mem_of_getElem? (i := 13) rfl))) (by decide) (backOf (W := 0) (rm_not l Z a0 hw [] w_NO w_YES w_NO w_UNKNOWN h4 n0 SSh) hZ (hw _ (List.mem_of_getElem? (i := 15) rfl)) (hw _ (List.mem_of_getElem? (i := 3) rfl)) (by decide) (by decide)) q57a q57c (g := (mkF m 121 #[.val (.int p1), .val (.int p2), .val (.ref b), .val (.int (0 : Int32)), .val (.int (1 : Int32)), .val (.ref w_YES), .val (.ref w_NO), .val (.ref w_NO), .val (.ref w_NO), .val (.ref w_YES), .val (.int (1 : Int32)), .val (.int (1 : Int32)), .unset, .unset] [(.ref w_NO)])) rfl (by rw [hml]; rfl) (Steps.refl _) (argsL := []) (rest := []) (lenOf pd_0 rfl) rfl (by show 2 * 0 + _ ≤ _; exact Nat.le_of_eq rfl) (hb hby at_121) (fun _ _ => ⟨rfl, e56, (by decide : 0 + 1 + 0 ≤ _), (by decide : 0 + 3 + 0 ≤ _)⟩)
  dsimp only [Pt.U, Pt.locs, Pt.cells, Pt.slots] at X57 l57 y57 z57 st57 hQ57
  subst l57 y57 z57
  obtain ⟨hv57, N57q, e57⟩ := hQ57
  rw [show ((.ref (own_not w_NO w_UNKNOWN w_YES w_NO)) : Value) = (.ref w_YES) from by simp [own_not, nUN, nYN, nYU, nUN.symm, nYN.symm, nYU.symm]] at hv57
  subst hv57
  have N57 := Fr.app N56 N57q
  refine own_go (fun t k => st57.trans k) ?_
  show Go p.tables e below _ (T57.setTop (mkF m 124 #[.val (.int p1), .val (.int p2), .val (.ref b), .val (.int (0 : Int32)), .val (.int (1 : Int32)), .val (.ref w_YES), .val (.ref w_NO), .val (.ref w_NO), .val (.ref w_NO), .val (.ref w_YES), .val (.int (1 : Int32)), .val (.int (1 : Int32)), .unset, .unset] [(.ref w_YES)]))
  refine own_go (fun t k => XS.aload X57.here hx rfl (hb hby at_124) rfl rfl k) ?_
  show Go p.tables e below _ (T57.setTop (mkF m 126 #[.val (.int p1), .val (.int p2), .val (.ref b), .val (.int (0 : Int32)), .val (.int (1 : Int32)), .val (.ref w_YES), .val (.ref w_NO), .val (.ref w_NO), .val (.ref w_NO), .val (.ref w_YES), .val (.int (1 : Int32)), .val (.int (1 : Int32)), .unset, .unset] [(.ref w_NO), (.ref w_YES)]))
  refine own_go (fun t k => XS.aload X57.here hx rfl (hb hby at_126) rfl rfl k) ?_
  show Go p.tables e below _ (T57.setTop (mkF m 128 #[.val (.int p1), .val (.int p2), .val (.ref b), .val (.int (0 : Int32)), .val (.int (1 : Int32)), .val (.ref w_YES), .val (.ref w_NO), .val (.ref w_NO), .val (.ref w_NO), .val (.ref w_YES), .val (.int (1 : Int32)), .val (.int (1 : Int32)), .unset, .unset] [(.ref w_YES), (.ref w_NO), (.ref w_YES)]))
  obtain ⟨cq58, kq58, q58a, q58b, q58c⟩ := isOf hZ e57 EH_NO
  obtain ⟨v58, _, ⟨T58, L58, k58, n58⟩, -, X58, ⟨Lc58, hQ58, l58, y58, z58⟩, st58⟩ := X57.virtualBack hx (y := (⟨"com/example/casewright/casewright/types/Answer", "or", "(Lcom/example/casewright/casewright/types/Answer;)Lcom/example/casewright/casewright/types/Answer;"⟩ : MethodName)) (z := (⟨"com/example/casewright/casewright/types/Answer", "or", "(Lcom/example/casewright/casewright/types/Answer;)Lcom/example/casewright/casewright/types/Answer;"⟩ : MethodName)) hown (mvT hZ (hw _ (List.mem_of_getElem? (i := 24) rfl))) (mvT hZ (hw _ (List.mem_of_getElem? (i := 25) rfl))) (notFace_of_selects (args := #[]) (mvT hZ (hw _ (List.mem_of_getElem? (i := 27) rfl)))) (mvT hZ (hw _ (List.mem_of_getElem? (i := 27) rfl))) (mvT hZ (hw _ (List.mem_of_getElem? (i := 26) rfl))) (by decide) (backOf (W := 1) (rm_or l Z a0 hw [] w_NO w_YES w_YES w_NO w_UNKNOWN h4 n0 SSh) hZ (hw _ (List.mem_of_getElem? (i := 28) rfl)) (hw _ (List.mem_of_getElem? (i := 3) rfl)) (by decide) (by decide)) q58a q58c (g := (mkF m 128 #[.val (.int p1), .val (.int p2), .val (.ref b), .val (.int (0 : Int32)), .val (.int (1 : Int32)), .val (.ref w_YES), .val (.ref w_NO), .val (.ref w_NO), .val (.ref w_NO), .val (.ref w_YES), .val (.int (1 : Int32)), .val (.int (1 : Int32)), .unset, .unset] [(.ref w_YES), (.ref w_NO), (.ref w_YES)])) rfl (by rw [hml]; rfl) (Steps.refl _) (argsL := [(.ref w_YES)]) (rest := [(.ref w_YES)]) (lenOf pd_1 rfl) rfl (by show 2 * 0 + _ ≤ _; exact Nat.le_of_eq rfl) (hb hby at_128) (fun _ _ => ⟨rfl, e57, (by decide : 0 + 1 + 0 ≤ _), (by decide : 0 + 3 + 0 ≤ _)⟩)
  dsimp only [Pt.U, Pt.locs, Pt.cells, Pt.slots] at X58 l58 y58 z58 st58 hQ58
  subst l58 y58 z58
  obtain ⟨hv58, N58q, e58⟩ := hQ58
  rw [show ((.ref (own_or w_NO w_UNKNOWN w_YES w_NO w_YES)) : Value) = (.ref w_YES) from by simp [own_or, nUN, nYN, nYU, nUN.symm, nYN.symm, nYU.symm]] at hv58
  subst hv58
  have N58 := Fr.app N57 N58q
  refine own_go (fun t k => st58.trans k) ?_
  show Go p.tables e below _ (T58.setTop (mkF m 131 #[.val (.int p1), .val (.int p2), .val (.ref b), .val (.int (0 : Int32)), .val (.int (1 : Int32)), .val (.ref w_YES), .val (.ref w_NO), .val (.ref w_NO), .val (.ref w_NO), .val (.ref w_YES), .val (.int (1 : Int32)), .val (.int (1 : Int32)), .unset, .unset] [(.ref w_YES), (.ref w_YES)]))
  refine own_go (fun t k => XT.acmpNo X58.here hx rfl (hb hby at_131) rfl rfl rfl (XT.aa_ne_f (congrArg Value.ref rfl)) k) ?_
  show Go p.tables e below _ (T58.setTop (mkF m 134 #[.val (.int p1), .val (.int p2), .val (.ref b), .val (.int (0 : Int32)), .val (.int (1 : Int32)), .val (.ref w_YES), .val (.ref w_NO), .val (.ref w_NO), .val (.ref w_NO), .val (.ref w_YES), .val (.int (1 : Int32)), .val (.int (1 : Int32)), .unset, .unset] []))
  refine own_go (fun t k => XS.iconst X58.here hx rfl (hb hby at_134) k) ?_
  show Go p.tables e below _ (T58.setTop (mkF m 135 #[.val (.int p1), .val (.int p2), .val (.ref b), .val (.int (0 : Int32)), .val (.int (1 : Int32)), .val (.ref w_YES), .val (.ref w_NO), .val (.ref w_NO), .val (.ref w_NO), .val (.ref w_YES), .val (.int (1 : Int32)), .val (.int (1 : Int32)), .unset, .unset] [(.int (1 : Int32))]))
  refine own_go (fun t k => XS.goto X58.here hx rfl (pc0 := 135) (pc' := 139) rfl (hb hby at_135) (by decide) (by decide) k) ?_
  show Go p.tables e below _ (T58.setTop (mkF m 139 #[.val (.int p1), .val (.int p2), .val (.ref b), .val (.int (0 : Int32)), .val (.int (1 : Int32)), .val (.ref w_YES), .val (.ref w_NO), .val (.ref w_NO), .val (.ref w_NO), .val (.ref w_YES), .val (.int (1 : Int32)), .val (.int (1 : Int32)), .unset, .unset] [(.int (1 : Int32))]))
  refine own_go (fun t k => XS.istore X58.here hx rfl (hb hby at_139) rfl (l' := #[.val (.int p1), .val (.int p2), .val (.ref b), .val (.int (0 : Int32)), .val (.int (1 : Int32)), .val (.ref w_YES), .val (.ref w_NO), .val (.ref w_NO), .val (.ref w_NO), .val (.ref w_YES), .val (.int (1 : Int32)), .val (.int (1 : Int32)), .val (.int (1 : Int32)), .unset]) rfl k) ?_
  show Go p.tables e below _ (T58.setTop (mkF m 141 #[.val (.int p1), .val (.int p2), .val (.ref b), .val (.int (0 : Int32)), .val (.int (1 : Int32)), .val (.ref w_YES), .val (.ref w_NO), .val (.ref w_NO), .val (.ref w_NO), .val (.ref w_YES), .val (.int (1 : Int32)), .val (.int (1 : Int32)), .val (.int (1 : Int32)), .unset] []))
  refine own_go (fun t k => XS.aload X58.here hx rfl (hb hby at_141) rfl rfl k) ?_
  show Go p.tables e below _ (T58.setTop (mkF m 143 #[.val (.int p1), .val (.int p2), .val (.ref b), .val (.int (0 : Int32)), .val (.int (1 : Int32)), .val (.ref w_YES), .val (.ref w_NO), .val (.ref w_NO), .val (.ref w_NO), .val (.ref w_YES), .val (.int (1 : Int32)), .val (.int (1 : Int32)), .val (.int (1 : Int32)), .unset] [(.ref w_YES)]))
  refine own_go (fun t k => XS.aload X58.here hx rfl (hb hby at_143) rfl rfl k) ?_
  show Go p.tables e below _ (T58.setTop (mkF m 145 #[.val (.int p1), .val (.int p2), .val (.ref b), .val (.int (0 : Int32)), .val (.int (1 : Int32)), .val (.ref w_YES), .val (.ref w_NO), .val (.ref w_NO), .val (.ref w_NO), .val (.ref w_YES), .val (.int (1 : Int32)), .val (.int (1 : Int32)), .val (.int (1 : Int32)), .unset] [(.ref w_NO), (.ref w_YES)]))
  obtain ⟨cq59, kq59, q59a, q59b, q59c⟩ := isOf hZ e58 EH_YES
  obtain ⟨v59, _, ⟨T59, L59, k59, n59⟩, -, X59, ⟨Lc59, hQ59, l59, y59, z59⟩, st59⟩ := X58.virtualBack hx (y := (⟨"com/example/casewright/casewright/types/Answer", "or", "(Lcom/example/casewright/casewright/types/Answer;)Lcom/example/casewright/casewright/types/Answer;"⟩ : MethodName)) (z := (⟨"com/example/casewright/casewright/types/Answer", "or", "(Lcom/example/casewright/casewright/types/Answer;)Lcom/example/casewright/casewright/types/Answer;"⟩ : MethodName)) hown (mvT hZ (hw _ (List.mem_of_getElem? (i := 24) rfl))) (mvT hZ (hw _ (List.mem_of_getElem? (i := 25) rfl))) (notFace_of_selects (args := #[]) (mvT hZ (hw _ (List.mem_of_getElem? (i := 27) rfl)))) (mvT hZ (hw _ (List.mem_of_getElem? (i := 27) rfl))) (mvT hZ (hw _ (List.mem_of_getElem? (i := 26) rfl))) (by decide) (backOf (W := 0) (rm_or l Z a0 hw [] w_YES w_NO w_YES w_NO w_UNKNOWN h4 n0 SSh) hZ (hw _ (List.mem_of_getElem? (i := 28) rfl)) (hw _ (List.mem_of_getElem? (i := 3) rfl)) (by decide) (by decide)) q59a q59c (g := (mkF m 145 #[.val (.int p1), .val (.int p2), .val (.ref b), .val (.int (0 : Int32)), .val (.int (1 : Int32)), .val (.ref w_YES), .val (.ref w_NO), .val (.ref w_NO), .val (.ref w_NO), .val (.ref w_YES), .val (.int (1 : Int32)), .val (.int (1 : Int32)), .val (.int (1 : Int32)), .unset] [(.ref w_NO), (.ref w_YES)])) rfl (by rw [hml]; rfl) (Steps.refl _) (argsL := [(.ref w_NO)]) (rest := []) (lenOf pd_1 rfl) rfl (by show 2 * 0 + _ ≤ _; exact Nat.le_of_eq rfl) (hb hby at_145) (fun _ _ => ⟨rfl, e58, (by decide : 0 + 1 + 0 ≤ _), (by decide : 0 + 3 + 0 ≤ _)⟩)
  dsimp only [Pt.U, Pt.locs, Pt.cells, Pt.slots] at X59 l59 y59 z59 st59 hQ59
  subst l59 y59 z59
  obtain ⟨hv59, N59q, e59⟩ := hQ59
  rw [show ((.ref (own_or w_NO w_UNKNOWN w_YES w_YES w_NO)) : Value) = (.ref w_YES) from by simp [own_or, nUN, nYN, nYU, nUN.symm, nYN.symm, nYU.symm]] at hv59
  subst hv59
  have N59 := Fr.app N58 N59q
  refine own_go (fun t k => st59.trans k) ?_
  show Go p.tables e below _ (T59.setTop (mkF m 148 #[.val (.int p1), .val (.int p2), .val (.ref b), .val (.int (0 : Int32)), .val (.int (1 : Int32)), .val (.ref w_YES), .val (.ref w_NO), .val (.ref w_NO), .val (.ref w_NO), .val (.ref w_YES), .val (.int (1 : Int32)), .val (.int (1 : Int32)), .val (.int (1 : Int32)), .unset] [(.ref w_YES)]))
  obtain ⟨cq60, kq60, q60a, q60b, q60c⟩ := isOf hZ e59 EH_YES
  obtain ⟨v60, _, ⟨T60, L60, k60, n60⟩, -, X60, ⟨Lc60, hQ60, l60, y60, z60⟩, st60⟩ := X59.virtualBack hx (y := (⟨"com/example/casewright/casewright/types/Answer", "not", "()Lcom/example/casewright/casewright/types/Answer;"⟩ : MethodName)) (z := (⟨"com/example/casewright/casewright/types/Answer", "not", "()Lcom/example/casewright/casewright/types/Answer;"⟩ : MethodName)) hown (mvT hZ (hw _ (List.mem_of_getElem? (i := 11) rfl))) (mvT hZ (hw _ (List.mem_of_getElem? (i := 12) rfl))) (notFace_of_selects (args := #[]) (mvT hZ (hw _ (List.mem_of_getElem? (i := 14) rfl)))) (mvT hZ (hw _ (List.mem_of_getElem? (i := 14) rfl))) (mvT hZ (hw _ (List.mem_of_getElem? (i := 13) rfl))) (by decide) (backOf (W := 0) (rm_not l Z a0 hw [] w_YES w_YES w_NO w_UNKNOWN h4 n0 SSh) hZ (hw _ (List.mem_of_getElem? (i := 15) rfl)) (hw _ (List.mem_of_getElem? (i := 3) rfl)) (by decide) (by decide)) q60a q60c (g := (mkF m 148 #[.val (.int p1), .val (.int p2), .val (.ref b), .val (.int (0 : Int32)), .val (.int (1 : Int32)), .val (.ref w_YES), .val (.ref w_NO), .val (.ref w_NO), .val (.ref w_NO), .val (.ref w_YES), .val (.int (1 : Int32)), .val (.int (1 : Int32)), .val (.int (1 : Int32)), .unset] [(.ref w_YES)])) rfl (by rw [hml]; rfl) (Steps.refl _) (argsL := []) (rest := []) (lenOf pd_0 rfl) rfl (by show 2 * 0 + _ ≤ _; exact Nat.le_of_eq rfl) (hb hby at_148) (fun _ _ => ⟨rfl, e59, (by decide : 0 + 1 + 0 ≤ _), (by decide : 0 + 3 + 0 ≤ _)⟩)
  dsimp only [Pt.U, Pt.locs, Pt.cells, Pt.slots] at X60 l60 y60 z60 st60 hQ60
  subst l60 y60 z60
  obtain ⟨hv60, N60q, e60⟩ := hQ60
  rw [show ((.ref (own_not w_NO w_UNKNOWN w_YES w_YES)) : Value) = (.ref w_NO) from by simp [own_not, nUN, nYN, nYU, nUN.symm, nYN.symm, nYU.symm]] at hv60
  subst hv60
  have N60 := Fr.app N59 N60q
  refine own_go (fun t k => st60.trans k) ?_
  show Go p.tables e below _ (T60.setTop (mkF m 151 #[.val (.int p1), .val (.int p2), .val (.ref b), .val (.int (0 : Int32)), .val (.int (1 : Int32)), .val (.ref w_YES), .val (.ref w_NO), .val (.ref w_NO), .val (.ref w_NO), .val (.ref w_YES), .val (.int (1 : Int32)), .val (.int (1 : Int32)), .val (.int (1 : Int32)), .unset] [(.ref w_NO)]))
  refine own_go (fun t k => XS.aload X60.here hx rfl (hb hby at_151) rfl rfl k) ?_
  show Go p.tables e below _ (T60.setTop (mkF m 153 #[.val (.int p1), .val (.int p2), .val (.ref b), .val (.int (0 : Int32)), .val (.int (1 : Int32)), .val (.ref w_YES), .val (.ref w_NO), .val (.ref w_NO), .val (.ref w_NO), .val (.ref w_YES), .val (.int (1 : Int32)), .val (.int (1 : Int32)), .val (.int (1 : Int32)), .unset] [(.ref w_NO), (.ref w_NO)]))
  refine own_go (fun t k => XS.aload X60.here hx rfl (hb hby at_153) rfl rfl k) ?_
  show Go p.tables e below _ (T60.setTop (mkF m 155 #[.val (.int p1), .val (.int p2), .val (.ref b), .val (.int (0 : Int32)), .val (.int (1 : Int32)), .val (.ref w_YES), .val (.ref w_NO), .val (.ref w_NO), .val (.ref w_NO), .val (.ref w_YES), .val (.int (1 : Int32)), .val (.int (1 : Int32)), .val (.int (1 : Int32)), .unset] [(.ref w_YES), (.ref w_NO), (.ref w_NO)]))
  obtain ⟨cq61, kq61, q61a, q61b, q61c⟩ := isOf hZ e60 EH_NO
  obtain ⟨v61, _, ⟨T61, L61, k61, n61⟩, -, X61, ⟨Lc61, hQ61, l61, y61, z61⟩, st61⟩ := X60.virtualBack hx (y := (⟨"com/example/casewright/casewright/types/Answer", "and", "(Lcom/example/casewright/casewright/types/Answer;)Lcom/example/casewright/casewright/types/Answer;"⟩ : MethodName)) (z := (⟨"com/example/casewright/casewright/types/Answer", "and", "(Lcom/example/casewright/casewright/types/Answer;)Lcom/example/casewright/casewright/types/Answer;"⟩ : MethodName)) hown (mvT hZ (hw _ (List.mem_of_getElem? (i := 18) rfl))) (mvT hZ (hw _ (List.mem_of_getElem? (i := 19) rfl))) (notFace_of_selects (args := #[]) (mvT hZ (hw _ (List.mem_of_getElem? (i := 21) rfl)))) (mvT hZ (hw _ (List.mem_of_getElem? (i := 21) rfl))) (mvT hZ (hw _ (List.mem_of_getElem? (i := 20) rfl))) (by decide) (backOf (W := 1) (rm_and l Z a0 hw [] w_NO w_YES w_YES w_NO w_UNKNOWN h4 n0 SSh) hZ (hw _ (List.mem_of_getElem? (i := 22) rfl)) (hw _ (List.mem_of_getElem? (i := 3) rfl)) (by decide) (by decide)) q61a q61c (g := (mkF m 155 #[.val (.int p1), .val (.int p2), .val (.ref b), .val (.int (0 : Int32)), .val (.int (1 : Int32)), .val (.ref w_YES), .val (.ref w_NO), .val (.ref w_NO), .val (.ref w_NO), .val (.ref w_YES), .val (.int (1 : Int32)), .val (.int (1 : Int32)), .val (.int (1 : Int32)), .unset] [(.ref w_YES), (.ref w_NO), (.ref w_NO)])) rfl (by rw [hml]; rfl) (Steps.refl _) (argsL := [(.ref w_YES)]) (rest := [(.ref w_NO)]) (lenOf pd_1 rfl) rfl (by show 2 * 0 + _ ≤ _; exact Nat.le_of_eq rfl) (hb hby at_155) (fun _ _ => ⟨rfl, e60, (by decide : 0 + 1 + 0 ≤ _), (by decide : 0 + 3 + 0 ≤ _)⟩)
  dsimp only [Pt.U, Pt.locs, Pt.cells, Pt.slots] at X61 l61 y61 z61 st61 hQ61
  subst l61 y61 z61
  obtain ⟨hv61, N61q, e61⟩ := hQ61
  rw [show ((.ref (own_and w_NO w_UNKNOWN w_YES w_NO w_YES)) : Value) = (.ref w_NO) from by simp [own_and, nUN, nYN, nYU, nUN.symm, nYN.symm, nYU.symm]] at hv61
  subst hv61
  have N61 := Fr.app N60 N61q
  refine own_go (fun t k => st61.trans k) ?_
  show Go p.tables e below _ (T61.setTop (mkF m 158 #[.val (.int p1), .val (.int p2), .val (.ref b), .val (.int (0 : Int32)), .val (.int (1 : Int32)), .val (.ref w_YES), .val (.ref w_NO), .val (.ref w_NO), .val (.ref w_NO), .val (.ref w_YES), .val (.int (1 : Int32)), .val (.int (1 : Int32)), .val (.int (1 : Int32)), .unset] [(.ref w_NO), (.ref w_NO)]))
  refine own_go (fun t k => XT.acmpNo X61.here hx rfl (hb hby at_158) rfl rfl rfl (XT.aa_ne_f (congrArg Value.ref rfl)) k) ?_
  show Go p.tables e below _ (T61.setTop (mkF m 161 #[.val (.int p1), .val (.int p2), .val (.ref b), .val (.int (0 : Int32)), .val (.int (1 : Int32)), .val (.ref w_YES), .val (.ref w_NO), .val (.ref w_NO), .val (.ref w_NO), .val (.ref w_YES), .val (.int (1 : Int32)), .val (.int (1 : Int32)), .val (.int (1 : Int32)), .unset] []))
  refine own_go (fun t k => XS.iconst X61.here hx rfl (hb hby at_161) k) ?_
  show Go p.tables e below _ (T61.setTop (mkF m 162 #[.val (.int p1), .val (.int p2), .val (.ref b), .val (.int (0 : Int32)), .val (.int (1 : Int32)), .val (.ref w_YES), .val (.ref w_NO), .val (.ref w_NO), .val (.ref w_NO), .val (.ref w_YES), .val (.int (1 : Int32)), .val (.int (1 : Int32)), .val (.int (1 : Int32)), .unset] [(.int (1 : Int32))]))
  refine own_go (fun t k => XS.goto X61.here hx rfl (pc0 := 162) (pc' := 166) rfl (hb hby at_162) (by decide) (by decide) k) ?_
  show Go p.tables e below _ (T61.setTop (mkF m 166 #[.val (.int p1), .val (.int p2), .val (.ref b), .val (.int (0 : Int32)), .val (.int (1 : Int32)), .val (.ref w_YES), .val (.ref w_NO), .val (.ref w_NO), .val (.ref w_NO), .val (.ref w_YES), .val (.int (1 : Int32)), .val (.int (1 : Int32)), .val (.int (1 : Int32)), .unset] [(.int (1 : Int32))]))
  refine own_go (fun t k => XS.istore X61.here hx rfl (hb hby at_166) rfl (l' := #[.val (.int p1), .val (.int p2), .val (.ref b), .val (.int (0 : Int32)), .val (.int (1 : Int32)), .val (.ref w_YES), .val (.ref w_NO), .val (.ref w_NO), .val (.ref w_NO), .val (.ref w_YES), .val (.int (1 : Int32)), .val (.int (1 : Int32)), .val (.int (1 : Int32)), .val (.int (1 : Int32))]) rfl k) ?_
  show Go p.tables e below _ (T61.setTop (mkF m 168 #[.val (.int p1), .val (.int p2), .val (.ref b), .val (.int (0 : Int32)), .val (.int (1 : Int32)), .val (.ref w_YES), .val (.ref w_NO), .val (.ref w_NO), .val (.ref w_NO), .val (.ref w_YES), .val (.int (1 : Int32)), .val (.int (1 : Int32)), .val (.int (1 : Int32)), .val (.int (1 : Int32))] []))
  refine own_go (fun t k => XS.iload X61.here hx rfl (hb hby at_168) rfl k) ?_
  show Go p.tables e below _ (T61.setTop (mkF m 170 #[.val (.int p1), .val (.int p2), .val (.ref b), .val (.int (0 : Int32)), .val (.int (1 : Int32)), .val (.ref w_YES), .val (.ref w_NO), .val (.ref w_NO), .val (.ref w_NO), .val (.ref w_YES), .val (.int (1 : Int32)), .val (.int (1 : Int32)), .val (.int (1 : Int32)), .val (.int (1 : Int32))] [(.int (1 : Int32))]))
  refine own_go (fun t k => XS.ifNo X61.here hx rfl (hb hby at_170) rfl (XT.i0_eq_f (by decide)) k) ?_
  show Go p.tables e below _ (T61.setTop (mkF m 173 #[.val (.int p1), .val (.int p2), .val (.ref b), .val (.int (0 : Int32)), .val (.int (1 : Int32)), .val (.ref w_YES), .val (.ref w_NO), .val (.ref w_NO), .val (.ref w_NO), .val (.ref w_YES), .val (.int (1 : Int32)), .val (.int (1 : Int32)), .val (.int (1 : Int32)), .val (.int (1 : Int32))] []))
  refine own_go (fun t k => XS.iload X61.here hx rfl (hb hby at_173) rfl k) ?_
  show Go p.tables e below _ (T61.setTop (mkF m 175 #[.val (.int p1), .val (.int p2), .val (.ref b), .val (.int (0 : Int32)), .val (.int (1 : Int32)), .val (.ref w_YES), .val (.ref w_NO), .val (.ref w_NO), .val (.ref w_NO), .val (.ref w_YES), .val (.int (1 : Int32)), .val (.int (1 : Int32)), .val (.int (1 : Int32)), .val (.int (1 : Int32))] [(.int (1 : Int32))]))
  refine own_go (fun t k => XS.ifNo X61.here hx rfl (hb hby at_175) rfl (XT.i0_eq_f (by decide)) k) ?_
  show Go p.tables e below _ (T61.setTop (mkF m 178 #[.val (.int p1), .val (.int p2), .val (.ref b), .val (.int (0 : Int32)), .val (.int (1 : Int32)), .val (.ref w_YES), .val (.ref w_NO), .val (.ref w_NO), .val (.ref w_NO), .val (.ref w_YES), .val (.int (1 : Int32)), .val (.int (1 : Int32)), .val (.int (1 : Int32)), .val (.int (1 : Int32))] []))
  refine own_go (fun t k => XS.iload X61.here hx rfl (hb hby at_178) rfl k) ?_
  show Go p.tables e below _ (T61.setTop (mkF m 180 #[.val (.int p1), .val (.int p2), .val (.ref b), .val (.int (0 : Int32)), .val (.int (1 : Int32)), .val (.ref w_YES), .val (.ref w_NO), .val (.ref w_NO), .val (.ref w_NO), .val (.ref w_YES), .val (.int (1 : Int32)), .val (.int (1 : Int32)), .val (.int (1 : Int32)), .val (.int (1 : Int32))] [(.int (1 : Int32))]))
  refine own_go (fun t k => XS.ifNo X61.here hx rfl (hb hby at_180) rfl (XT.i0_eq_f (by decide)) k) ?_
  show Go p.tables e below _ (T61.setTop (mkF m 183 #[.val (.int p1), .val (.int p2), .val (.ref b), .val (.int (0 : Int32)), .val (.int (1 : Int32)), .val (.ref w_YES), .val (.ref w_NO), .val (.ref w_NO), .val (.ref w_NO), .val (.ref w_YES), .val (.int (1 : Int32)), .val (.int (1 : Int32)), .val (.int (1 : Int32)), .val (.int (1 : Int32))] []))
  refine own_go (fun t k => XS.iload X61.here hx rfl (hb hby at_183) rfl k) ?_
  show Go p.tables e below _ (T61.setTop (mkF m 185 #[.val (.int p1), .val (.int p2), .val (.ref b), .val (.int (0 : Int32)), .val (.int (1 : Int32)), .val (.ref w_YES), .val (.ref w_NO), .val (.ref w_NO), .val (.ref w_NO), .val (.ref w_YES), .val (.int (1 : Int32)), .val (.int (1 : Int32)), .val (.int (1 : Int32)), .val (.int (1 : Int32))] [(.int (1 : Int32))]))
  refine own_go (fun t k => XS.ifNo X61.here hx rfl (hb hby at_185) rfl (XT.i0_eq_f (by decide)) k) ?_
  show Go p.tables e below _ (T61.setTop (mkF m 188 #[.val (.int p1), .val (.int p2), .val (.ref b), .val (.int (0 : Int32)), .val (.int (1 : Int32)), .val (.ref w_YES), .val (.ref w_NO), .val (.ref w_NO), .val (.ref w_NO), .val (.ref w_YES), .val (.int (1 : Int32)), .val (.int (1 : Int32)), .val (.int (1 : Int32)), .val (.int (1 : Int32))] []))
  refine own_go (fun t k => XS.iconst X61.here hx rfl (hb hby at_188) k) ?_
  show Go p.tables e below _ (T61.setTop (mkF m 189 #[.val (.int p1), .val (.int p2), .val (.ref b), .val (.int (0 : Int32)), .val (.int (1 : Int32)), .val (.ref w_YES), .val (.ref w_NO), .val (.ref w_NO), .val (.ref w_NO), .val (.ref w_YES), .val (.int (1 : Int32)), .val (.int (1 : Int32)), .val (.int (1 : Int32)), .val (.int (1 : Int32))] [(.int (1 : Int32))]))
  refine own_go (fun t k => XS.goto X61.here hx rfl (pc0 := 189) (pc' := 193) rfl (hb hby at_189) (by decide) (by decide) k) ?_
  show Go p.tables e below _ (T61.setTop (mkF m 193 #[.val (.int p1), .val (.int p2), .val (.ref b), .val (.int (0 : Int32)), .val (.int (1 : Int32)), .val (.ref w_YES), .val (.ref w_NO), .val (.ref w_NO), .val (.ref w_NO), .val (.ref w_YES), .val (.int (1 : Int32)), .val (.int (1 : Int32)), .val (.int (1 : Int32)), .val (.int (1 : Int32))] [(.int (1 : Int32))]))
  exact own_ret X61 hx hlk Bd.returns rfl (Or.inl ⟨rfl, Or.inr (Or.inl rfl), _, rfl⟩) (hb hby at_193) ⟨rfl, N61⟩ (by decide) (by decide)
theorem ef_rm_law_02 (m : MethodId) (x0 : Int32) (x1 : Int32) : entryFrame m #[(.int x0), (.int x1)] maxLocals = mkF m 0 #[.val (.int x0), .val (.int x1), .unset, .unset, .unset, .unset, .unset, .unset, .unset, .unset, .unset, .unset, .unset, .unset] [] := by first | (simp [entryFrame, mkF, argsToLocals, Value.category, maxLocals]; done) | rfl
set_option maxRecDepth 65536 in
set_option maxHeartbeats 40000000 in
theorem rm_law_02 (l : Launch) (Z : State) (a0 : Array Value) (hw : ∀ d ∈ tables_1, d.before a0 Z = true) (ws : List Jvm.Cond) (p1 p2 : Int32) (w_YES w_NO w_UNKNOWN : Addr) (h0 : Heap) (n0 : Nat) (SS : own_S Z h0 w_YES w_NO w_UNKNOWN) (EE : own_E Z h0 w_YES w_NO w_UNKNOWN) (OO : own_O Z h0 w_YES w_NO w_UNKNOWN) (Z0 : n0 ≤ h0.size) (q1 : (p1 &&& 2147483647) % 3 = 0) (q2 : (p2 &&& 2147483647) % 3 = 2) :
    MetFree l x (head1 (Jvm.Cond.code x code maxLocals ret :: ws) room_1) (fun aa U => aa = #[(.int p1), (.int p2)] ∧ Z.Warmed39 U.vm ∧ U.heap = h0) (fun _ _ _ _ _ => True) (fun _ U o U' => ∃ v L, o = .returned v ∧ LQ n0 v U'.heap L ∧ FrameEnd U o U' L room_1.cells room_1.slots) := by
  refine MetFree.of_bodySF (plainFor_of_name pn_1) hisR ?_
  intro p e s m args below meth c s₁ Bd hml0 hP hK
  obtain ⟨rfl, hZ, hh⟩ := hP
  have hx := Bd.exec
  have hby := Bd.bytes
  have hlk := Bd.notSynchronized
  have hml : c.maxLocals = 14 := hml0
  have hown : s.vm.findClass "com/example/casewright/casewright/types/AnswerNotPinLaw" = some m.cls := findClass_of_methodNamed Bd.named
  have X0 : Stand p l e room_1 s m #[(.int p1), (.int p2)] below meth c s₁ [] 0 0 := Stand.of_body Bd
  have e0 : s₁.heap = h0 := by rw [← hh, Bd.state]; rfl
  have N0 := Fr.nil n0
  have SS' := SS
  obtain ⟨S_YES, S_NO, S_UNKNOWN⟩ := SS'
  obtain ⟨E_YES, E_NO, E_UNKNOWN⟩ := EE
  obtain ⟨F_NO_ordinal, F_YES_ordinal, F_UNKNOWN_ordinal⟩ := OO
  have nUN : w_UNKNOWN ≠ w_NO := (own_ne F_UNKNOWN_ordinal F_NO_ordinal (by decide))
  have nYN : w_YES ≠ w_NO := (own_ne F_YES_ordinal F_NO_ordinal (by decide))
  have nYU : w_YES ≠ w_UNKNOWN := (own_ne F_YES_ordinal F_UNKNOWN_ordinal (by decide))
  show Go p.tables e below (Fin s below (LQ n0) room_1.cells room_1.slots) (s₁.setTop (entryFrame m #[(.int p1), (.int p2)] maxLocals))
  refine own_go (fun t k => castTop (ef_rm_law_02 m p1 p2) k) ?_
  show Go p.tables e below _ (s₁.setTop (mkF m 0 #[.val (.int p1), .val (.int p2), .unset, .unset, .unset, .unset, .unset, .unset, .unset, .unset, .unset, .unset, .unset, .unset] []))
  refine own_go (fun t k => XS.iconst X0.here hx rfl (hb hby at_0) k) ?_
  show Go p.tables e below _ (s₁.setTop (mkF m 1 #[.val (.int p1), .val (.int p2), .unset, .unset, .unset, .unset, .unset, .unset, .unset, .unset, .unset, .unset, .unset, .unset] [(.int (3 : Int32))]))
  obtain ⟨T1, h1, kA, X1, e1, Ex1, A1, O1, st1⟩ := newR X0 hx hZ hown (hw _ (List.mem_of_getElem? (i := 0) rfl)) (hw _ (List.mem_of_getElem? (i := 1) rfl)) e0 (g := (mkF m 1 #[.val (.int p1), .val (.int p2), .unset, .unset, .unset, .unset, .unset, .unset, .unset, .unset, .unset, .unset, .unset, .unset] [(.int (3 : Int32))])) rfl (hb hby at_1) rfl (by decide) (cap := 3) (by decide) (by decide) (by decide) (by decide)
  obtain ⟨b, gb⟩ : ∃ z, z = h0.size := ⟨_, rfl⟩
  rw [← gb] at A1 st1
  have hb0 : n0 ≤ b := Nat.le_trans Z0 (Nat.le_of_eq gb.symm)
  have S1_YES := S_YES.ext Ex1
  have E1_YES := E_YES.ext Ex1
  have S1_NO := S_NO.ext Ex1
  have E1_NO := E_NO.ext Ex1
  have S1_UNKNOWN := S_UNKNOWN.ext Ex1
  have E1_UNKNOWN := E_UNKNOWN.ext Ex1
  refine own_go (fun t k => st1 t k) ?_
  show Go p.tables e below _ (T1.setTop (mkF m 4 #[.val (.int p1), .val (.int p2), .unset, .unset, .unset, .unset, .unset, .unset, .unset, .unset, .unset, .unset, .unset, .unset] [(.ref b)]))
  refine own_go (fun t k => XS.dup X1.here hx rfl (hb hby at_4) rfl rfl k) ?_
  show Go p.tables e below _ (T1.setTop (mkF m 5 #[.val (.int p1), .val (.int p2), .unset, .unset, .unset, .unset, .unset, .unset, .unset, .unset, .unset, .unset, .unset, .unset] [(.ref b), (.ref b)]))
  refine own_go (fun t k => XS.iconst X1.here hx rfl (hb hby at_5) k) ?_
  show Go p.tables e below _ (T1.setTop (mkF m 6 #[.val (.int p1), .val (.int p2), .unset, .unset, .unset, .unset, .unset, .unset, .unset, .unset, .unset, .unset, .unset, .unset] [(.int (0 : Int32)), (.ref b), (.ref b)]))
  obtain ⟨T11, X11, e11, st11⟩ := getS2 X1 hx hZ hown (host := "") (Or.inl (hw _ (List.mem_of_getElem? (i := 2) rfl))) Via.refl e1 S1_YES (g := (mkF m 6 #[.val (.int p1), .val (.int p2), .unset, .unset, .unset, .unset, .unset, .unset, .unset, .unset, .unset, .unset, .unset, .unset] [(.int (0 : Int32)), (.ref b), (.ref b)])) rfl (hb hby at_6)
  refine own_go (fun t k => st11 t k) ?_
  show Go p.tables e below _ (T11.setTop (mkF m 9 #[.val (.int p1), .val (.int p2), .unset, .unset, .unset, .unset, .unset, .unset, .unset, .unset, .unset, .unset, .unset, .unset] [(.ref w_YES), (.int (0 : Int32)), (.ref b), (.ref b)]))
  obtain ⟨T2w, h2, X2w, e2w, W2, stw2⟩ := stR X11 hx hZ e11 A1 (j := (0 : Int32)) (by rw [sz_new]; decide) rfl (Sto.of A1 O1 (Ins.self E1_YES)) (g := (mkF m 9 #[.val (.int p1), .val (.int p2), .unset, .unset, .unset, .unset, .unset, .unset, .unset, .unset, .unset, .unset, .unset, .unset] [(.ref w_YES), (.int (0 : Int32)), (.ref b), (.ref b)])) rfl rfl (hb hby at_9)
  have N2w := Fr.snoc X2w N0 hb0
  have A2 := A1.same W2
  have S2_YES := S1_YES.wr W2
  have E2_YES := E1_YES.wr W2
  have S2_NO := S1_NO.wr W2
  have E2_NO := E1_NO.wr W2
  have S2_UNKNOWN := S1_UNKNOWN.wr W2
  have E2_UNKNOWN := E1_UNKNOWN.wr W2
  refine own_go (fun t k => stw2 t k) ?_
  show Go p.tables e below _ (T2w.setTop (mkF m 10 #[.val (.int p1), .val (.int p2), .unset, .unset, .unset, .unset, .unset, .unset, .unset, .unset, .unset, .unset, .unset, .unset] [(.ref b)]))
  refine own_go (fun t k => XS.dup X2w.here hx rfl (hb hby at_10) rfl rfl k) ?_
  show Go p.tables e below _ (T2w.setTop (mkF m 11 #[.val (.int p1), .val (.int p2), .unset, .unset, .unset, .unset, .unset, .unset, .unset, .unset, .unset, .unset, .unset, .unset] [(.ref b), (.ref b)]))
  refine own_go (fun t k => XS.iconst X2w.here hx rfl (hb hby at_11) k) ?_
  show Go p.tables e below _ (T2w.setTop (mkF m 12 #[.val (.int p1), .val (.int p2), .unset, .unset, .unset, .unset, .unset, .unset, .unset, .unset, .unset, .unset, .unset, .unset] [(.int (1 : Int32)), (.ref b), (.ref b)]))
  obtain ⟨T51, X51, e51, st51⟩ := getS2 X2w hx hZ hown (host := "") (Or.inl (hw _ (List.mem_of_getElem? (i := 6) rfl))) Via.refl e2w S2_NO (g := (mkF m 12 #[.val (.int p1), .val (.int p2), .unset, .unset, .unset, .unset, .unset, .unset, .unset, .unset, .unset, .unset, .unset, .unset] [(.int (1 : Int32)), (.ref b), (.ref b)])) rfl (hb hby at_12)
  refine own_go (fun t k => st51 t k) ?_
  show Go p.tables e below _ (T51.setTop (mkF m 15 #[.val (.int p1), .val (.int p2), .unset, .unset, .unset, .unset, .unset, .unset, .unset, .unset, .unset, .unset, .unset, .unset] [(.ref w_NO), (.int (1 : Int32)), (.ref b), (.ref b)]))
  obtain ⟨T3w, h3, X3w, e3w, W3, stw3⟩ := stR X51 hx hZ e51 A2 (j := (1 : Int32)) (by rw [sz_set]; rw [sz_new]; decide) rfl (Sto.of A2 O1 (Ins.self E2_NO)) (g := (mkF m 15 #[.val (.int p1), .val (.int p2), .unset, .unset, .unset, .unset, .unset, .unset, .unset, .unset, .unset, .unset, .unset, .unset] [(.ref w_NO), (.int (1 : Int32)), (.ref b), (.ref b)])) rfl rfl (hb hby at_15)
  have N3w := Fr.snoc X3w N2w hb0
  have A3 := A2.same W3
  have S3_YES := S2_YES.wr W3
  have E3_YES := E2_YES.wr W3
  have S3_NO := S2_NO.wr W3
  have E3_NO := E2_NO.wr W3
  have S3_UNKNOWN := S2_UNKNOWN.wr W3
  have E3_UNKNOWN := E2_UNKNOWN.wr W3
  refine own_go (fun t k => stw3 t k) ?_
  show Go p.tables e below _ (T3w.setTop (mkF m 16 #[.val (.int p1), .val (.int p2), .unset, .unset, .unset, .unset, .unset, .unset, .unset, .unset, .unset, .unset, .unset, .unset] [(.ref b)]))
  refine own_go (fun t k => XS.dup X3w.here hx rfl (hb hby at_16) rfl rfl k) ?_
  show Go p.tables e below _ (T3w.setTop (mkF m 17 #[.val (.int p1), .val (.int p2), .unset, .unset, .unset, .unset, .unset, .unset, .unset, .unset, .unset, .unset, .unset, .unset] [(.ref b), (.ref b)]))
  refine own_go (fun t k => XS.iconst X3w.here hx rfl (hb hby at_17) k) ?_
  show Go p.tables e below _ (T3w.setTop (mkF m 18 #[.val (.int p1), .val (.int p2), .unset, .unset, .unset, .unset, .unset, .unset, .unset, .unset, .unset, .unset, .unset, .unset] [(.int (2 : Int32)), (.ref b), (.ref b)]))
  obtain ⟨T52, X52, e52, st52⟩ := getS2 X3w hx hZ hown (host := "") (Or.inl (hw _ (List.mem_of_getElem? (i := 8) rfl))) Via.refl e3w S3_UNKNOWN (g := (mkF m 18 #[.val (.int p1), .val (.int p2), .unset, .unset, .unset, .unset, .unset, .unset, .unset, .unset, .unset, .unset, .unset, .unset] [(.int (2 : Int32)), (.ref b), (.ref b)])) rfl (hb hby at_18)
  refine own_go (fun t k => st52 t k) ?_
  show Go p.tables e below _ (T52.setTop (mkF m 21 #[.val (.int p1), .val (.int p2), .unset, .unset, .unset, .unset, .unset, .unset, .unset, .unset, .unset, .unset, .unset, .unset] [(.ref w_UNKNOWN), (.int (2 : Int32)), (.ref b), (.ref b)]))
  obtain ⟨T4w, h4, X4w, e4w, W4, stw4⟩ := stR X52 hx hZ e52 A3 (j := (2 : Int32)) (by rw [sz_set]; rw [sz_set]; rw [sz_new]; decide) rfl (Sto.of A3 O1 (Ins.self E3_UNKNOWN)) (g := (mkF m 21 #[.val (.int p1), .val (.int p2), .unset, .unset, .unset, .unset, .unset, .unset, .unset, .unset, .unset, .unset, .unset, .unset] [(.ref w_UNKNOWN), (.int (2 : Int32)), (.ref b), (.ref b)])) rfl rfl (hb hby at_21)
  have N4w := Fr.snoc X4w N3w hb0
  have A4 := A3.same W4
  have S4_YES := S3_YES.wr W4
  have E4_YES := E3_YES.wr W4
  have S4_NO := S3_NO.wr W4
  have E4_NO := E3_NO.wr W4
  have S4_UNKNOWN := S3_UNKNOWN.wr W4
  have E4_UNKNOWN := E3_UNKNOWN.wr W4
  refine own_go (fun t k => stw4 t k) ?_
  show Go p.tables e below _ (T4w.setTop (mkF m 22 #[.val (.int p1), .val (.int p2), .unset, .unset, .unset, .unset, .unset, .unset, .unset, .unset, .unset, .unset, .unset, .unset] [(.ref b)]))
  have SSh : own_S Z h4 w_YES w_NO w_UNKNOWN := ⟨S4_YES, S4_NO, S4_UNKNOWN⟩
  have EH_YES := E4_YES
  have EH_NO := E4_NO
  have EH_UNKNOWN := E4_UNKNOWN
  refine own_go (fun t k => XS.astoreN X4w.here hx rfl (hb hby at_22) rfl rfl (l' := #[.val (.int p1), .val (.int p2), .val (.ref b), .unset, .unset, .unset, .unset, .unset, .unset, .unset, .unset, .unset, .unset, .unset]) rfl k) ?_
  show Go p.tables e below _ (T4w.setTop (mkF m 23 #[.val (.int p1), .val (.int p2), .val (.ref b), .unset, .unset, .unset, .unset, .unset, .unset, .unset, .unset, .unset, .unset, .unset] []))
  refine own_go (fun t k => XS.iloadN X4w.here hx rfl (hb hby at_23) rfl k) ?_
  show Go p.tables e below _ (T4w.setTop (mkF m 24 #[.val (.int p1), .val (.int p2), .val (.ref b), .unset, .unset, .unset, .unset, .unset, .unset, .unset, .unset, .unset, .unset, .unset] [(.int p1)]))
  refine own_go (fun t k => Jvm.Stand.ldcI X4w hx hown (mvT hZ (hw _ (List.mem_of_getElem? (i := 10) rfl))) rfl (hb hby at_24) k) ?_
  show Go p.tables e below _ (T4w.setTop (mkF m 26 #[.val (.int p1), .val (.int p2), .val (.ref b), .unset, .unset, .unset, .unset, .unset, .unset, .unset, .unset, .unset, .unset, .unset] [(.int (2147483647 : Int32)), (.int p1)]))
  refine own_go (fun t k => XS.iand X4w.here hx rfl (hb hby at_26) rfl k) ?_
  show Go p.tables e below _ (T4w.setTop (mkF m 27 #[.val (.int p1), .val (.int p2), .val (.ref b), .unset, .unset, .unset, .unset, .unset, .unset, .unset, .unset, .unset, .unset, .unset] [(.int (p1 &&& (2147483647 : Int32)))]))
  refine own_go (fun t k => XS.iconst X4w.here hx rfl (hb hby at_27) k) ?_
  show Go p.tables e below _ (T4w.setTop (mkF m 28 #[.val (.int p1), .val (.int p2), .val (.ref b), .unset, .unset, .unset, .unset, .unset, .unset, .unset, .unset, .unset, .unset, .unset] [(.int (3 : Int32)), (.int (p1 &&& (2147483647 : Int32)))]))
  refine own_go (fun t k => iremM (g := (mkF m 28 #[.val (.int p1), .val (.int p2), .val (.ref b), .unset, .unset, .unset, .unset, .unset, .unset, .unset, .unset, .unset, .unset, .unset] [(.int (3 : Int32)), (.int (p1 &&& (2147483647 : Int32)))])) X4w hx rfl (hb hby at_28) rfl (by decide) k) ?_
  show Go p.tables e below _ (T4w.setTop (mkF m 29 #[.val (.int p1), .val (.int p2), .val (.ref b), .unset, .unset, .unset, .unset, .unset, .unset, .unset, .unset, .unset, .unset, .unset] [(.int ((p1 &&& (2147483647 : Int32)) % (3 : Int32)))]))
  rw [q1]
  show Go p.tables e below _ (T4w.setTop (mkF m 29 #[.val (.int p1), .val (.int p2), .val (.ref b), .unset, .unset, .unset, .unset, .unset, .unset, .unset, .unset, .unset, .unset, .unset] [(.int (0 : Int32))]))
  refine own_go (fun t k => XS.istoreN X4w.here hx rfl (hb hby at_29) rfl (l' := #[.val (.int p1), .val (.int p2), .val (.ref b), .val (.int (0 : Int32)), .unset, .unset, .unset, .unset, .unset, .unset, .unset, .unset, .unset, .unset]) rfl k) ?_
  show Go p.tables e below _ (T4w.setTop (mkF m 30 #[.val (.int p1), .val (.int p2), .val (.ref b), .val (.int (0 : Int32)), .unset, .unset, .unset, .unset, .unset, .unset, .unset, .unset, .unset, .unset] []))
  refine own_go (fun t k => XS.iloadN X4w.here hx rfl (hb hby at_30) rfl k) ?_
  show Go p.tables e below _ (T4w.setTop (mkF m 31 #[.val (.int p1), .val (.int p2), .val (.ref b), .val (.int (0 : Int32)), .unset, .unset, .unset, .unset, .unset, .unset, .unset, .unset, .unset, .unset] [(.int p2)]))
  refine own_go (fun t k => Jvm.Stand.ldcI X4w hx hown (mvT hZ (hw _ (List.mem_of_getElem? (i := 10) rfl))) rfl (hb hby at_31) k) ?_
  show Go p.tables e below _ (T4w.setTop (mkF m 33 #[.val (.int p1), .val (.int p2), .val (.ref b), .val (.int (0 : Int32)), .unset, .unset, .unset, .unset, .unset, .unset, .unset, .unset, .unset, .unset] [(.int (2147483647 : Int32)), (.int p2)]))
  refine own_go (fun t k => XS.iand X4w.here hx rfl (hb hby at_33) rfl k) ?_
  show Go p.tables e below _ (T4w.setTop (mkF m 34 #[.val (.int p1), .val (.int p2), .val (.ref b), .val (.int (0 : Int32)), .unset, .unset, .unset, .unset, .unset, .unset, .unset, .unset, .unset, .unset] [(.int (p2 &&& (2147483647 : Int32)))]))
  refine own_go (fun t k => XS.iconst X4w.here hx rfl (hb hby at_34) k) ?_
  show Go p.tables e below _ (T4w.setTop (mkF m 35 #[.val (.int p1), .val (.int p2), .val (.ref b), .val (.int (0 : Int32)), .unset, .unset, .unset, .unset, .unset, .unset, .unset, .unset, .unset, .unset] [(.int (3 : Int32)), (.int (p2 &&& (2147483647 : Int32)))]))
  refine own_go (fun t k => iremM (g := (mkF m 35 #[.val (.int p1), .val (.int p2), .val (.ref b), .val (.int (0 : Int32)), .unset, .unset, .unset, .unset, .unset, .unset, .unset, .unset, .unset, .unset] [(.int (3 : Int32)), (.int (p2 &&& (2147483647 : Int32)))])) X4w hx rfl (hb hby at_35) rfl (by decide) k) ?_
  show Go p.tables e below _ (T4w.setTop (mkF m 36 #[.val (.int p1), .val (.int p2), .val (.ref b), .val (.int (0 : Int32)), .unset, .unset, .unset, .unset, .unset, .unset, .unset, .unset, .unset, .unset] [(.int ((p2 &&& (2147483647 : Int32)) % (3 : Int32)))]))
  rw [q2]
  show Go p.tables e below _ (T4w.setTop (mkF m 36 #[.val (.int p1), .val (.int p2), .val (.ref b), .val (.int (0 : Int32)), .unset, .unset, .unset, .unset, .unset, .unset, .unset, .unset, .unset, .unset] [(.int (2 : Int32))]))
  refine own_go (fun t k => XS.istore X4w.here hx rfl (hb hby at_36) rfl (l' := #[.val (.int p1), .val (.int p2), .val (.ref b), .val (.int (0 : Int32)), .val (.int (2 : Int32)), .unset, .unset, .unset, .unset, .unset, .unset, .unset, .unset, .unset]) rfl k) ?_
  show Go p.tables e below _ (T4w.setTop (mkF m 38 #[.val (.int p1), .val (.int p2), .val (.ref b), .val (.int (0 : Int32)), .val (.int (2 : Int32)), .unset, .unset, .unset, .unset, .unset, .unset, .unset, .unset, .unset] []))
  refine own_go (fun t k => XS.aloadN X4w.here hx rfl (hb hby at_38) rfl rfl k) ?_
  show Go p.tables e below _ (T4w.setTop (mkF m 39 #[.val (.int p1), .val (.int p2), .val (.ref b), .val (.int (0 : Int32)), .val (.int (2 : Int32)), .unset, .unset, .unset, .unset, .unset, .unset, .unset, .unset, .unset] [(.ref b)]))
  refine own_go (fun t k => XS.iloadN X4w.here hx rfl (hb hby at_39) rfl k) ?_
  show Go p.tables e below _ (T4w.setTop (mkF m 40 #[.val (.int p1), .val (.int p2), .val (.ref b), .val (.int (0 : Int32)), .val (.int (2 : Int32)), .unset, .unset, .unset, .unset, .unset, .unset, .unset, .unset, .unset] [(.int (0 : Int32)), (.ref b)]))
  refine own_go (fun t k => X4w.aaload hx (j := (0 : Int32)) (v := (.ref w_YES)) (by rw [e4w]; exact A4.1) (State.isArrayOf_alike hZ.alike A4.2.1) rfl A4.2.2 (by rw [sz_set, sz_set, sz_set, sz_new]; decide) rfl (g := (mkF m 40 #[.val (.int p1), .val (.int p2), .val (.ref b), .val (.int (0 : Int32)), .val (.int (2 : Int32)), .unset, .unset, .unset, .unset, .unset, .unset, .unset, .unset, .unset] [(.int (0 : Int32)), (.ref b)])) rfl rfl (hb hby at_40) t k) ?_
  show Go p.tables e below _ (T4w.setTop (mkF m 41 #[.val (.int p1), .val (.int p2), .val (.ref b), .val (.int (0 : Int32)), .val (.int (2 : Int32)), .unset, .unset, .unset, .unset, .unset, .unset, .unset, .unset, .unset] [(.ref w_YES)]))
  refine own_go (fun t k => XS.astore X4w.here hx rfl (hb hby at_41) rfl rfl (l' := #[.val (.int p1), .val (.int p2), .val (.ref b), .val (.int (0 : Int32)), .val (.int (2 : Int32)), .val (.ref w_YES), .unset, .unset, .unset, .unset, .unset, .unset, .unset, .unset]) rfl k) ?_
  show Go p.tables e below _ (T4w.setTop (mkF m 43 #[.val (.int p1), .val (.int p2), .val (.ref b), .val (.int (0 : Int32)), .val (.int (2 : Int32)), .val (.ref w_YES), .unset, .unset, .unset, .unset, .unset, .unset, .unset, .unset] []))
  refine own_go (fun t k => XS.aloadN X4w.here hx rfl (hb hby at_43) rfl rfl k) ?_
  show Go p.tables e below _ (T4w.setTop (mkF m 44 #[.val (.int p1), .val (.int p2), .val (.ref b), .val (.int (0 : Int32)), .val (.int (2 : Int32)), .val (.ref w_YES), .unset, .unset, .unset, .unset, .unset, .unset, .unset, .unset] [(.ref b)]))
  refine own_go (fun t k => XS.iload X4w.here hx rfl (hb hby at_44) rfl k) ?_
  show Go p.tables e below _ (T4w.setTop (mkF m 46 #[.val (.int p1), .val (.int p2), .val (.ref b), .val (.int (0 : Int32)), .val (.int (2 : Int32)), .val (.ref w_YES), .unset, .unset, .unset, .unset, .unset, .unset, .unset, .unset] [(.int (2 : Int32)), (.ref b)]))
  refine own_go (fun t k => X4w.aaload hx (j := (2 : Int32)) (v := (.ref w_UNKNOWN)) (by rw [e4w]; exact A4.1) (State.isArrayOf_alike hZ.alike A4.2.1) rfl A4.2.2 (by rw [sz_set, sz_set, sz_set, sz_new]; decide) rfl (g := (mkF m 46 #[.val (.int p1), .val (.int p2), .val (.ref b), .val (.int (0 : Int32)), .val (.int (2 : Int32)), .val (.ref w_YES), .unset, .unset, .unset, .unset, .unset, .unset, .unset, .unset] [(.int (2 : Int32)), (.ref b)])) rfl rfl (hb hby at_46) t k) ?_
  show Go p.tables e below _ (T4w.setTop (mkF m 47 #[.val (.int p1), .val (.int p2), .val (.ref b), .val (.int (0 : Int32)), .val (.int (2 : Int32)), .val (.ref w_YES), .unset, .unset, .unset, .unset, .unset, .unset, .unset, .unset] [(.ref w_UNKNOWN)]))
  refine own_go (fun t k => XS.astore X4w.here hx rfl (hb hby at_47) rfl rfl (l' := #[.val (.int p1), .val (.int p2), .val (.ref b), .val (.int (0 : Int32)), .val (.int (2 : Int32)), .val (.ref w_YES), .val (.ref w_UNKNOWN), .unset, .unset, .unset, .unset, .unset, .unset, .unset]) rfl k) ?_
  show Go p.tables e below _ (T4w.setTop (mkF m 49 #[.val (.int p1), .val (.int p2), .val (.ref b), .val (.int (0 : Int32)), .val (.int (2 : Int32)), .val (.ref w_YES), .val (.ref w_UNKNOWN), .unset, .unset, .unset, .unset, .unset, .unset, .unset] []))
  refine own_go (fun t k => XS.iloadN X4w.here hx rfl (hb hby at_49) rfl k) ?_
  show Go p.tables e below _ (T4w.setTop (mkF m 50 #[.val (.int p1), .val (.int p2), .val (.ref b), .val (.int (0 : Int32)), .val (.int (2 : Int32)), .val (.ref w_YES), .val (.ref w_UNKNOWN), .unset, .unset, .unset, .unset, .unset, .unset, .unset] [(.int (0 : Int32))]))
  refine own_go (fun t k => XS.iconst X4w.here hx rfl (hb hby at_50) k) ?_
  show Go p.tables e below _ (T4w.setTop (mkF m 51 #[.val (.int p1), .val (.int p2), .val (.ref b), .val (.int (0 : Int32)), .val (.int (2 : Int32)), .val (.ref w_YES), .val (.ref w_UNKNOWN), .unset, .unset, .unset, .unset, .unset, .unset, .unset] [(.int (2 : Int32)), (.int (0 : Int32))]))
  refine own_go (fun t k => XS.icmpYes X4w.here hx rfl (pc0 := 51) (pc' := 62) rfl (hb hby at_51) rfl (XT.ii_ne_t (by decide)) (by decide) (by decide) k) ?_
  show Go p.tables e below _ (T4w.setTop (mkF m 62 #[.val (.int p1), .val (.int p2), .val (.ref b), .val (.int (0 : Int32)), .val (.int (2 : Int32)), .val (.ref w_YES), .val (.ref w_UNKNOWN), .unset, .unset, .unset, .unset, .unset, .unset, .unset] []))
  refine own_go (fun t k => XS.aloadN X4w.here hx rfl (hb hby at_62) rfl rfl k) ?_
  show Go p.tables e below _ (T4w.setTop (mkF m 63 #[.val (.int p1), .val (.int p2), .val (.ref b), .val (.int (0 : Int32)), .val (.int (2 : Int32)), .val (.ref w_YES), .val (.ref w_UNKNOWN), .unset, .unset, .unset, .unset, .unset, .unset, .unset] [(.ref b)]))
  refine own_go (fun t k => XS.iconst X4w.here hx rfl (hb hby at_63) k) ?_
  show Go p.tables e below _ (T4w.setTop (mkF m 64 #[.val (.int p1), .val (.int p2), .val (.ref b), .val (.int (0 : Int32)), .val (.int (2 : Int32)), .val (.ref w_YES), .val (.ref w_UNKNOWN), .unset, .unset, .unset, .unset, .unset, .unset, .unset] [(.int (1 : Int32)), (.ref b)]))
  refine own_go (fun t k => XS.iloadN X4w.here hx rfl (hb hby at_64) rfl k) ?_
  show Go p.tables e below _ (T4w.setTop (mkF m 65 #[.val (.int p1), .val (.int p2), .val (.ref b), .val (.int (0 : Int32)), .val (.int (2 : Int32)), .val (.ref w_YES), .val (.ref w_UNKNOWN), .unset, .unset, .unset, .unset, .unset, .unset, .unset] [(.int (0 : Int32)), (.int (1 : Int32)), (.ref b)]))
  refine own_go (fun t k => XS.isub X4w.here hx rfl (hb hby at_65) rfl k) ?_
  show Go p.tables e below _ (T4w.setTop (mkF m 66 #[.val (.int p1), .val (.int p2), .val (.ref b), .val (.int (0 : Int32)), .val (.int (2 : Int32)), .val (.ref w_YES), .val (.ref w_UNKNOWN), .unset, .unset, .unset, .unset, .unset, .unset, .unset] [(.int (1 : Int32)), (.ref b)]))
  refine own_go (fun t k => X4w.aaload hx (j := (1 : Int32)) (v := (.ref w_NO)) (by rw [e4w]; exact A4.1) (State.isArrayOf_alike hZ.alike A4.2.1) rfl A4.2.2 (by rw [sz_set, sz_set, sz_set, sz_new]; decide) rfl (g := (mkF m 66 #[.val (.int p1), .val (.int p2), .val (.ref b), .val (.int (0 : Int32)), .val (.int (2 : Int32)), .val (.ref w_YES), .val (.ref w_UNKNOWN), .unset, .unset, .unset, .unset, .unset, .unset, .unset] [(.int (1 : Int32)), (.ref b)])) rfl rfl (hb hby at_66) t k) ?_
  show Go p.tables e below _ (T4w.setTop (mkF m 67 #[.val (.int p1), .val (.int p2), .val (.ref b), .val (.int (0 : Int32)), .val (.int (2 : Int32)), .val (.ref w_YES), .val (.ref w_UNKNOWN), .unset, .unset, .unset, .unset, .unset, .unset, .unset] [(.ref w_NO)]))
  refine own_go (fun t k => XS.astore X4w.here hx rfl (hb hby at_67) rfl rfl (l' := #[.val (.int p1), .val (.int p2), .val (.ref b), .val (.int (0 : Int32)), .val (.int (2 : Int32)), .val (.ref w_YES), .val (.ref w_UNKNOWN), .val (.ref w_NO), .unset, .unset, .unset, .unset, .unset, .unset]) rfl k) ?_
  show Go p.tables e below _ (T4w.setTop (mkF m 69 #[.val (.int p1), .val (.int p2), .val (.ref b), .val (.int (0 : Int32)), .val (.int (2 : Int32)), .val (.ref w_YES), .val (.ref w_UNKNOWN), .val (.ref w_NO), .unset, .unset, .unset, .unset, .unset, .unset] []))
  refine own_go (fun t k => XS.aload X4w.here hx rfl (hb hby at_69) rfl rfl k) ?_
  show Go p.tables e below _ (T4w.setTop (mkF m 71 #[.val (.int p1), .val (.int p2), .val (.ref b), .val (.int (0 : Int32)), .val (.int (2 : Int32)), .val (.ref w_YES), .val (.ref w_UNKNOWN), .val (.ref w_NO), .unset, .unset, .unset, .unset, .unset, .unset] [(.ref w_YES)]))
  obtain ⟨cq53, kq53, q53a, q53b, q53c⟩ := isOf hZ e4w EH_YES
  obtain ⟨v53, _, ⟨T53, L53, k53, n53⟩, -, X53, ⟨Lc53, hQ53, l53, y53, z53⟩, st53⟩ := X4w.virtualBack hx (y := (⟨"com/example/casewright/casewright/types/Answer", "not", "()Lcom/example/casewright/casewright/types/Answer;"⟩ : MethodName)) (z := (⟨"com/example/casewright/casewright/types/Answer", "not", "()Lcom/example/casewright/casewright/types/Answer;"⟩ : MethodName)) hown (mvT hZ (hw _ (List.mem_of_getElem? (i := 11) rfl))) (mvT hZ (hw _ (List.mem_of_getElem? (i := 12) rfl))) (notFace_of_selects (args := #[]) (mvT hZ (hw _ (List.mem_of_getElem? (i := 14) rfl)))) (mvT hZ (hw _ (List.mem_of_getElem? (i := 14) rfl))) (mvT hZ (hw _ (List.mem_of_getElem? (i := 13) rfl))) (by decide) (backOf (W := 0) (rm_not l Z a0 hw [] w_YES w_YES w_NO w_UNKNOWN h4 n0 SSh) hZ (hw _ (List.mem_of_getElem? (i := 15) rfl)) (hw _ (List.mem_of_getElem? (i := 3) rfl)) (by decide) (by decide)) q53a q53c (g := (mkF m 71 #[.val (.int p1), .val (.int p2), .val (.ref b), .val (.int (0 : Int32)), .val (.int (2 : Int32)), .val (.ref w_YES), .val (.ref w_UNKNOWN), .val (.ref w_NO), .unset, .unset, .unset, .unset, .unset, .unset] [(.ref w_YES)])) rfl (by rw [hml]; rfl) (Steps.refl _) (argsL := []) (rest := []) (lenOf pd_0 rfl) rfl (by show 2 * 0 + _ ≤ _; exact Nat.le_of_eq rfl) (hb hby at_71) (fun _ _ => ⟨rfl, e4w, (by decide : 0 + 1 + 0 ≤ _), (by decide : 0 + 3 + 0 ≤ _)⟩)
  dsimp only [Pt.U, Pt.locs, Pt.cells, Pt.slots] at X53 l53 y53 z53 st53 hQ53
  subst l53 y53 z53
  obtain ⟨hv53, N53q, e53⟩ := hQ53
  rw [show ((.ref (own_not w_NO w_UNKNOWN w_YES w_YES)) : Value) = (.ref w_NO) from by simp [own_not, nUN, nYN, nYU, nUN.symm, nYN.symm, nYU.symm]] at hv53
  subst hv53
  have N53 := Fr.app N4w N53q
  refine own_go (fun t k => st53.trans k) ?_
  show Go p.tables e below _ (T53.setTop (mkF m 74 #[.val (.int p1), .val (.int p2), .val (.ref b), .val (.int (0 : Int32)), .val (.int (2 : Int32)), .val (.ref w_YES), .val (.ref w_UNKNOWN), .val (.ref w_NO), .unset, .unset, .unset, .unset, .unset, .unset] [(.ref w_NO)]))
  refine own_go (fun t k => XS.astore X53.here hx rfl (hb hby at_74) rfl rfl (l' := #[.val (.int p1), .val (.int p2), .val (.ref b), .val (.int (0 : Int32)), .val (.int (2 : Int32)), .val (.ref w_YES), .val (.ref w_UNKNOWN), .val (.ref w_NO), .val (.ref w_NO), .unset, .unset, .unset, .unset, .unset]) rfl k) ?_
  show Go p.tables e below _ (T53.setTop (mkF m 76 #[.val (.int p1), .val (.int p2), .val (.ref b), .val (.int (0 : Int32)), .val (.int (2 : Int32)), .val (.ref w_YES), .val (.ref w_UNKNOWN), .val (.ref w_NO), .val (.ref w_NO), .unset, .unset, .unset, .unset, .unset] []))
  refine own_go (fun t k => XS.aload X53.here hx rfl (hb hby at_76) rfl rfl k) ?_
  show Go p.tables e below _ (T53.setTop (mkF m 78 #[.val (.int p1), .val (.int p2), .val (.ref b), .val (.int (0 : Int32)), .val (.int (2 : Int32)), .val (.ref w_YES), .val (.ref w_UNKNOWN), .val (.ref w_NO), .val (.ref w_NO), .unset, .unset, .unset, .unset, .unset] [(.ref w_UNKNOWN)]))
  obtain ⟨cq54, kq54, q54a, q54b, q54c⟩ := isOf hZ e53 EH_UNKNOWN
  obtain ⟨v54, _, ⟨T54, L54, k54, n54⟩, -, X54, ⟨Lc54, hQ54, l54, y54, z54⟩, st54⟩ := X53.virtualBack hx (y := (⟨"com/example/casewright/casewright/types/Answer", "not", "()Lcom/example/casewright/casewright/types/Answer;"⟩ : MethodName)) (z := (⟨"com/example/casewright/casewright/types/Answer", "not", "()Lcom/example/casewright/casewright/types/Answer;"⟩ : MethodName)) hown (mvT hZ (hw _ (List.mem_of_getElem? (i := 11) rfl))) (mvT hZ (hw _ (List.mem_of_getElem? (i := 12) rfl))) (notFace_of_selects (args := #[]) (mvT hZ (hw _ (List.mem_of_getElem? (i := 14) rfl)))) (mvT hZ (hw _ (List.mem_of_getElem? (i := 14) rfl))) (mvT hZ (hw _ (List.mem_of_getElem? (i := 13) rfl))) (by decide) (backOf (W := 0) (rm_not l Z a0 hw [] w_UNKNOWN w_YES w_NO w_UNKNOWN h4 n0 SSh) hZ (hw _ (List.mem_of_getElem? (i := 15) rfl)) (hw _ (List.mem_of_getElem? (i := 3) rfl)) (by decide) (by decide)) q54a q54c (g := (mkF m 78 #[.val (.int p1), .val (.int p2), .val (.ref b), .val (.int (0 : Int32)), .val (.int (2 : Int32)), .val (.ref w_YES), .val (.ref w_UNKNOWN), .val (.ref w_NO), .val (.ref w_NO), .unset, .unset, .unset, .unset, .unset] [(.ref w_UNKNOWN)])) rfl (by rw [hml]; rfl) (Steps.refl _) (argsL := []) (rest := []) (lenOf pd_0 rfl) rfl (by show 2 * 0 + _ ≤ _; exact Nat.le_of_eq rfl) (hb hby at_78) (fun _ _ => ⟨rfl, e53, (by decide : 0 + 1 + 0 ≤ _), (by decide : 0 + 3 + 0 ≤ _)⟩)
  dsimp only [Pt.U, Pt.locs, Pt.cells, Pt.slots] at X54 l54 y54 z54 st54 hQ54
  subst l54 y54 z54
  obtain ⟨hv54, N54q, e54⟩ := hQ54
  rw [show ((.ref (own_not w_NO w_UNKNOWN w_YES w_UNKNOWN)) : Value) = (.ref w_UNKNOWN) from by simp [own_not, nUN, nYN, nYU, nUN.symm, nYN.symm, nYU.symm]] at hv54
  subst hv54
  have N54 := Fr.app N53 N54q
  refine own_go (fun t k => st54.trans k) ?_
  show Go p.tables e below _ (T54.setTop (mkF m 81 #[.val (.int p1), .val (.int p2), .val (.ref b), .val (.int (0 : Int32)), .val (.int (2 : Int32)), .val (.ref w_YES), .val (.ref w_UNKNOWN), .val (.ref w_NO), .val (.ref w_NO), .unset, .unset, .unset, .unset, .unset] [(.ref w_UNKNOWN)]))
  refine own_go (fun t k => XS.astore X54.here hx rfl (hb hby at_81) rfl rfl (l' := #[.val (.int p1), .val (.int p2), .val (.ref b), .val (.int (0 : Int32)), .val (.int (2 : Int32)), .val (.ref w_YES), .val (.ref w_UNKNOWN), .val (.ref w_NO), .val (.ref w_NO), .val (.ref w_UNKNOWN), .unset, .unset, .unset, .unset]) rfl k) ?_
  show Go p.tables e below _ (T54.setTop (mkF m 83 #[.val (.int p1), .val (.int p2), .val (.ref b), .val (.int (0 : Int32)), .val (.int (2 : Int32)), .val (.ref w_YES), .val (.ref w_UNKNOWN), .val (.ref w_NO), .val (.ref w_NO), .val (.ref w_UNKNOWN), .unset, .unset, .unset, .unset] []))
  refine own_go (fun t k => XS.aload X54.here hx rfl (hb hby at_83) rfl rfl k) ?_
  show Go p.tables e below _ (T54.setTop (mkF m 85 #[.val (.int p1), .val (.int p2), .val (.ref b), .val (.int (0 : Int32)), .val (.int (2 : Int32)), .val (.ref w_YES), .val (.ref w_UNKNOWN), .val (.ref w_NO), .val (.ref w_NO), .val (.ref w_UNKNOWN), .unset, .unset, .unset, .unset] [(.ref w_NO)]))
  refine own_go (fun t k => XS.aload X54.here hx rfl (hb hby at_85) rfl rfl k) ?_
  show Go p.tables e below _ (T54.setTop (mkF m 87 #[.val (.int p1), .val (.int p2), .val (.ref b), .val (.int (0 : Int32)), .val (.int (2 : Int32)), .val (.ref w_YES), .val (.ref w_UNKNOWN), .val (.ref w_NO), .val (.ref w_NO), .val (.ref w_UNKNOWN), .unset, .unset, .unset, .unset] [(.ref w_NO), (.ref w_NO)]))
  refine own_go (fun t k => XT.acmpNo X54.here hx rfl (hb hby at_87) rfl rfl rfl (XT.aa_ne_f (congrArg Value.ref rfl)) k) ?_
  show Go p.tables e below _ (T54.setTop (mkF m 90 #[.val (.int p1), .val (.int p2), .val (.ref b), .val (.int (0 : Int32)), .val (.int (2 : Int32)), .val (.ref w_YES), .val (.ref w_UNKNOWN), .val (.ref w_NO), .val (.ref w_NO), .val (.ref w_UNKNOWN), .unset, .unset, .unset, .unset] []))
  refine own_go (fun t k => XS.iconst X54.here hx rfl (hb hby at_90) k) ?_
  show Go p.tables e below _ (T54.setTop (mkF m 91 #[.val (.int p1), .val (.int p2), .val (.ref b), .val (.int (0 : Int32)), .val (.int (2 : Int32)), .val (.ref w_YES), .val (.ref w_UNKNOWN), .val (.ref w_NO), .val (.ref w_NO), .val (.ref w_UNKNOWN), .unset, .unset, .unset, .unset] [(.int (1 : Int32))]))
  refine own_go (fun t k => XS.goto X54.here hx rfl (pc0 := 91) (pc' := 95) rfl (hb hby at_91) (by decide) (by decide) k) ?_
  show Go p.tables e below _ (T54.setTop (mkF m 95 #[.val (.int p1), .val (.int p2), .val (.ref b), .val (.int (0 : Int32)), .val (.int (2 : Int32)), .val (.ref w_YES), .val (.ref w_UNKNOWN), .val (.ref w_NO), .val (.ref w_NO), .val (.ref w_UNKNOWN), .unset, .unset, .unset, .unset] [(.int (1 : Int32))]))
  refine own_go (fun t k => XS.istore X54.here hx rfl (hb hby at_95) rfl (l' := #[.val (.int p1), .val (.int p2), .val (.ref b), .val (.int (0 : Int32)), .val (.int (2 : Int32)), .val (.ref w_YES), .val (.ref w_UNKNOWN), .val (.ref w_NO), .val (.ref w_NO), .val (.ref w_UNKNOWN), .val (.int (1 : Int32)), .unset, .unset, .unset]) rfl k) ?_
  show Go p.tables e below _ (T54.setTop (mkF m 97 #[.val (.int p1), .val (.int p2), .val (.ref b), .val (.int (0 : Int32)), .val (.int (2 : Int32)), .val (.ref w_YES), .val (.ref w_UNKNOWN), .val (.ref w_NO), .val (.ref w_NO), .val (.ref w_UNKNOWN), .val (.int (1 : Int32)), .unset, .unset, .unset] []))
  refine own_go (fun t k => XS.aload X54.here hx rfl (hb hby at_97) rfl rfl k) ?_
  show Go p.tables e below _ (T54.setTop (mkF m 99 #[.val (.int p1), .val (.int p2), .val (.ref b), .val (.int (0 : Int32)), .val (.int (2 : Int32)), .val (.ref w_YES), .val (.ref w_UNKNOWN), .val (.ref w_NO), .val (.ref w_NO), .val (.ref w_UNKNOWN), .val (.int (1 : Int32)), .unset, .unset, .unset] [(.ref w_NO)]))
  obtain ⟨cq55, kq55, q55a, q55b, q55c⟩ := isOf hZ e54 EH_NO
  obtain ⟨v55, _, ⟨T55, L55, k55, n55⟩, -, X55, ⟨Lc55, hQ55, l55, y55, z55⟩, st55⟩ := X54.virtualBack hx (y := (⟨"com/example/casewright/casewright/types/Answer", "not", "()Lcom/example/casewright/casewright/types/Answer;"⟩ : MethodName)) (z := (⟨"com/example/casewright/casewright/types/Answer", "not", "()Lcom/example/casewright/casewright/types/Answer;"⟩ : MethodName)) hown (mvT hZ (hw _ (List.mem_of_getElem? (i := 11) rfl))) (mvT hZ (hw _ (List.mem_of_getElem? (i := 12) rfl))) (notFace_of_selects (args := #[]) (mvT hZ (hw _ (List.mem_of_getElem? (i := 14) rfl)))) (mvT hZ (hw _ (List.mem_of_getElem? (i := 14) rfl))) (mvT hZ (hw _ (List.mem_of_getElem? (i := 13) rfl))) (by decide) (backOf (W := 0) (rm_not l Z a0 hw [] w_NO w_YES w_NO w_UNKNOWN h4 n0 SSh) hZ (hw _ (List.mem_of_getElem? (i := 15) rfl)) (hw _ (List.mem_of_getElem? (i := 3) rfl)) (by decide) (by decide)) q55a q55c (g := (mkF m 99 #[.val (.int p1), .val (.int p2), .val (.ref b), .val (.int (0 : Int32)), .val (.int (2 : Int32)), .val (.ref w_YES), .val (.ref w_UNKNOWN), .val (.ref w_NO), .val (.ref w_NO), .val (.ref w_UNKNOWN), .val (.int (1 : Int32)), .unset, .unset, .unset] [(.ref w_NO)])) rfl (by rw [hml]; rfl) (Steps.refl _) (argsL := []) (rest := []) (lenOf pd_0 rfl) rfl (by show 2 * 0 + _ ≤ _; exact Nat.le_of_eq rfl) (hb hby at_99) (fun _ _ => ⟨rfl, e54, (by decide : 0 + 1 + 0 ≤ _), (by decide : 0 + 3 + 0 ≤ _)⟩)
  dsimp only [Pt.U, Pt.locs, Pt.cells, Pt.slots] at X55 l55 y55 z55 st55 hQ55
  subst l55 y55 z55
  obtain ⟨hv55, N55q, e55⟩ := hQ55
  rw [show ((.ref (own_not w_NO w_UNKNOWN w_YES w_NO)) : Value) = (.ref w_YES) from by simp [own_not, nUN, nYN, nYU, nUN.symm, nYN.symm, nYU.symm]] at hv55
  subst hv55
  have N55 := Fr.app N54 N55q
  refine own_go (fun t k => st55.trans k) ?_
  show Go p.tables e below _ (T55.setTop (mkF m 102 #[.val (.int p1), .val (.int p2), .val (.ref b), .val (.int (0 : Int32)), .val (.int (2 : Int32)), .val (.ref w_YES), .val (.ref w_UNKNOWN), .val (.ref w_NO), .val (.ref w_NO), .val (.ref w_UNKNOWN), .val (.int (1 : Int32)), .unset, .unset, .unset] [(.ref w_YES)]))
  refine own_go (fun t k => XS.aload X55.here hx rfl (hb hby at_102) rfl rfl k) ?_
  show Go p.tables e below _ (T55.setTop (mkF m 104 #[.val (.int p1), .val (.int p2), .val (.ref b), .val (.int (0 : Int32)), .val (.int (2 : Int32)), .val (.ref w_YES), .val (.ref w_UNKNOWN), .val (.ref w_NO), .val (.ref w_NO), .val (.ref w_UNKNOWN), .val (.int (1 : Int32)), .unset, .unset, .unset] [(.ref w_YES), (.ref w_YES)]))
  refine own_go (fun t k => XT.acmpNo X55.here hx rfl (hb hby at_104) rfl rfl rfl (XT.aa_ne_f (congrArg Value.ref rfl)) k) ?_
  show Go p.tables e below _ (T55.setTop (mkF m 107 #[.val (.int p1), .val (.int p2), .val (.ref b), .val (.int (0 : Int32)), .val (.int (2 : Int32)), .val (.ref w_YES), .val (.ref w_UNKNOWN), .val (.ref w_NO), .val (.ref w_NO), .val (.ref w_UNKNOWN), .val (.int (1 : Int32)), .unset, .unset, .unset] []))
  refine own_go (fun t k => XS.iconst X55.here hx rfl (hb hby at_107) k) ?_
  show Go p.tables e below _ (T55.setTop (mkF m 108 #[.val (.int p1), .val (.int p2), .val (.ref b), .val (.int (0 : Int32)), .val (.int (2 : Int32)), .val (.ref w_YES), .val (.ref w_UNKNOWN), .val (.ref w_NO), .val (.ref w_NO), .val (.ref w_UNKNOWN), .val (.int (1 : Int32)), .unset, .unset, .unset] [(.int (1 : Int32))]))
  refine own_go (fun t k => XS.goto X55.here hx rfl (pc0 := 108) (pc' := 112) rfl (hb hby at_108) (by decide) (by decide) k) ?_
  show Go p.tables e below _ (T55.setTop (mkF m 112 #[.val (.int p1), .val (.int p2), .val (.ref b), .val (.int (0 : Int32)), .val (.int (2 : Int32)), .val (.ref w_YES), .val (.ref w_UNKNOWN), .val (.ref w_NO), .val (.ref w_NO), .val (.ref w_UNKNOWN), .val (.int (1 : Int32)), .unset, .unset, .unset] [(.int (1 : Int32))]))
  refine own_go (fun t k => XS.istore X55.here hx rfl (hb hby at_112) rfl (l' := #[.val (.int p1), .val (.int p2), .val (.ref b), .val (.int (0 : Int32)), .val (.int (2 : Int32)), .val (.ref w_YES), .val (.ref w_UNKNOWN), .val (.ref w_NO), .val (.ref w_NO), .val (.ref w_UNKNOWN), .val (.int (1 : Int32)), .val (.int (1 : Int32)), .unset, .unset]) rfl k) ?_
  show Go p.tables e below _ (T55.setTop (mkF m 114 #[.val (.int p1), .val (.int p2), .val (.ref b), .val (.int (0 : Int32)), .val (.int (2 : Int32)), .val (.ref w_YES), .val (.ref w_UNKNOWN), .val (.ref w_NO), .val (.ref w_NO), .val (.ref w_UNKNOWN), .val (.int (1 : Int32)), .val (.int (1 : Int32)), .unset, .unset] []))
  refine own_go (fun t k => XS.aload X55.here hx rfl (hb hby at_114) rfl rfl k) ?_
  show Go p.tables e below _ (T55.setTop (mkF m 116 #[.val (.int p1), .val (.int p2), .val (.ref b), .val (.int (0 : Int32)), .val (.int (2 : Int32)), .val (.ref w_YES), .val (.ref w_UNKNOWN), .val (.ref w_NO), .val (.ref w_NO), .val (.ref w_UNKNOWN), .val (.int (1 : Int32)), .val (.int (1 : Int32)), .unset, .unset] [(.ref w_YES)]))
  refine own_go (fun t k => XS.aload X55.here hx rfl (hb hby at_116) rfl rfl k) ?_
  show Go p.tables e below _ (T55.setTop (mkF m 118 #[.val (.int p1), .val (.int p2), .val (.ref b), .val (.int (0 : Int32)), .val (.int (2 : Int32)), .val (.ref w_YES), .val (.ref w_UNKNOWN), .val (.ref w_NO), .val (.ref w_NO), .val (.ref w_UNKNOWN), .val (.int (1 : Int32)), .val (.int (1 : Int32)), .unset, .unset] [(.ref w_UNKNOWN), (.ref w_YES)]))
  obtain ⟨cq56, kq56, q56a, q56b, q56c⟩ := isOf hZ e55 EH_YES
  obtain ⟨v56, _, ⟨T56, L56, k56, n56⟩, -, X56, ⟨Lc56, hQ56, l56, y56, z56⟩, st56⟩ := X55.virtualBack hx (y := (⟨"com/example/casewright/casewright/types/Answer", "and", "(Lcom/example/casewright/casewright/types/Answer;)Lcom/example/casewright/casewright/types/Answer;"⟩ : MethodName)) (z := (⟨"com/example/casewright/casewright/types/Answer", "and", "(Lcom/example/casewright/casewright/types/Answer;)Lcom/example/casewright/casewright/types/Answer;"⟩ : MethodName)) hown (mvT hZ (hw _ (List.mem_of_getElem? (i := 18) rfl))) (mvT hZ (hw _ (List.mem_of_getElem? (i := 19) rfl))) (notFace_of_selects (args := #[]) (mvT hZ (hw _ (List.mem_of_getElem? (i := 21) rfl)))) (mvT hZ (hw _ (List.mem_of_getElem? (i := 21) rfl))) (mvT hZ (hw _ (List.mem_of_getElem? (i := 20) rfl))) (by decide) (backOf (W := 0) (rm_and l Z a0 hw [] w_YES w_UNKNOWN w_YES w_NO w_UNKNOWN h4 n0 SSh) hZ (hw _ (List.mem_of_getElem? (i := 22) rfl)) (hw _ (List.mem_of_getElem? (i := 3) rfl)) (by decide) (by decide)) q56a q56c (g := (mkF m 118 #[.val (.int p1), .val (.int p2), .val (.ref b), .val (.int (0 : Int32)), .val (.int (2 : Int32)), .val (.ref w_YES), .val (.ref w_UNKNOWN), .val (.ref w_NO), .val (.ref w_NO), .val (.ref w_UNKNOWN), .val (.int (1 : Int32)), .val (.int (1 : Int32)), .unset, .unset] [(.ref w_UNKNOWN), (.ref w_YES)])) rfl (by rw [hml]; rfl) (Steps.refl _) (argsL := [(.ref w_UNKNOWN)]) (rest := []) (lenOf pd_1 rfl) rfl (by show 2 * 0 + _ ≤ _; exact Nat.le_of_eq rfl) (hb hby at_118) (fun _ _ => ⟨rfl, e55, (by decide : 0 + 1 + 0 ≤ _), (by decide : 0 + 3 + 0 ≤ _)⟩)
  dsimp only [Pt.U, Pt.locs, Pt.cells, Pt.slots] at X56 l56 y56 z56 st56 hQ56
  subst l56 y56 z56
  obtain ⟨hv56, N56q, e56⟩ := hQ56
  rw [show ((.ref (own_and w_NO w_UNKNOWN w_YES w_YES w_UNKNOWN)) : Value) = (.ref w_UNKNOWN) from by simp [own_and, nUN, nYN, nYU, nUN.symm, nYN.symm, nYU.symm]] at hv56
  subst hv56
  have N56 := Fr.app N55 N56q
  refine own_go (fun t k => st56.trans k) ?_
  show Go p.tables e below _ (T56.setTop (mkF m 121 #[.val (.int p1), .val (.int p2), .val (.ref b), .val (.int (0 : Int32)), .val (.int (2 : Int32)), .val (.ref w_YES), .val (.ref w_UNKNOWN), .val (.ref w_NO), .val (.ref w_NO), .val (.ref w_UNKNOWN), .val (.int (1 : Int32)), .val (.int (1 : Int32)), .unset, .unset] [(.ref w_UNKNOWN)]))
  obtain ⟨cq57, kq57, q57a, q57b, q57c⟩ := isOf hZ e56 EH_UNKNOWN
  obtain ⟨v57, _, ⟨T57, L57, k57, n57⟩, -, X57, ⟨Lc57, hQ57, l57, y57, z57⟩, st57⟩ := X56.virtualBack hx (y := (⟨"com/example/casewright/casewright/types/Answer", "not", "()Lcom/example/casewright/casewright/types/Answer;"⟩ : MethodName)) (z := (⟨"com/example/casewright/casewright/types/Answer", "not", "()Lcom/example/casewright/casewright/types/Answer;"⟩ : MethodName)) hown (mvT hZ (hw _ (List.mem_of_getElem? (i := 11) rfl))) (mvT hZ (hw _ (List.mem_of_getElem? (i := 12) rfl))) (notFace_of_selects (args := #[]) (mvT hZ (hw _ (List.mem_of_getElem? (i := 14) rfl)))) (mvT hZ (hw _ (List.mem_of_getElem? (i := 14) rfl))) (mvT hZ (hw _ (List.mem_of_getElem? (i := 13) rfl))) (by decide) (backOf (W := 0) (rm_not l Z a0 hw [] w_UNKNOWN w_YES w_NO w_UNKNOWN h4 n0 SSh) hZ (hw _ (List.mem_of_getElem? (i := 15) rfl)) (hw _ (List.mem_of_getElem? (i := 3) rfl)) (by decide) (by decide)) q57a q57c (g := (mkF m 121 #[.val (.int p1), .val (.int p2), .val (.ref b), .val (.int (0 : Int32)), .val (.int (2 : Int32)), .val (.ref w_YES), .val (.ref w_UNKNOWN), .val (.ref w_NO), .val (.ref w_NO), .val (.ref w_UNKNOWN), .val (.int (1 : Int32)), .val (.int (1 : Int32)), .unset, .unset] [(.ref w_UNKNOWN)])) rfl (by rw [hml]; rfl) (Steps.refl _) (argsL := []) (rest := []) (lenOf pd_0 rfl) rfl (by show 2 * 0 + _ ≤ _; exact Nat.le_of_eq rfl) (hb hby at_121) (fun _ _ => ⟨rfl, e56, (by decide : 0 + 1 + 0 ≤ _), (by decide : 0 + 3 + 0 ≤ _)⟩)
  dsimp only [Pt.U, Pt.locs, Pt.cells, Pt.slots] at X57 l57 y57 z57 st57 hQ57
  subst l57 y57 z57
  obtain ⟨hv57, N57q, e57⟩ := hQ57
  rw [show ((.ref (own_not w_NO w_UNKNOWN w_YES w_UNKNOWN)) : Value) = (.ref w_UNKNOWN) from by simp [own_not, nUN, nYN, nYU, nUN.symm, nYN.symm, nYU.symm]] at hv57
  subst hv57
  have N57 := Fr.app N56 N57q
  refine own_go (fun t k => st57.trans k) ?_
  show Go p.tables e below _ (T57.setTop (mkF m 124 #[.val (.int p1), .val (.int p2), .val (.ref b), .val (.int (0 : Int32)), .val (.int (2 : Int32)), .val (.ref w_YES), .val (.ref w_UNKNOWN), .val (.ref w_NO), .val (.ref w_NO), .val (.ref w_UNKNOWN), .val (.int (1 : Int32)), .val (.int (1 : Int32)), .unset, .unset] [(.ref w_UNKNOWN)]))
  refine own_go (fun t k => XS.aload X57.here hx rfl (hb hby at_124) rfl rfl k) ?_
  show Go p.tables e below _ (T57.setTop (mkF m 126 #[.val (.int p1), .val (.int p2), .val (.ref b), .val (.int (0 : Int32)), .val (.int (2 : Int32)), .val (.ref w_YES), .val (.ref w_UNKNOWN), .val (.ref w_NO), .val (.ref w_NO), .val (.ref w_UNKNOWN), .val (.int (1 : Int32)), .val (.int (1 : Int32)), .unset, .unset] [(.ref w_NO), (.ref w_UNKNOWN)]))
  refine own_go (fun t k => XS.aload X57.here hx rfl (hb hby at_126) rfl rfl k) ?_
  show Go p.tables e below _ (T57.setTop (mkF m 128 #[.val (.int p1), .val (.int p2), .val (.ref b), .val (.int (0 : Int32)), .val (.int (2 : Int32)), .val (.ref w_YES), .val (.ref w_UNKNOWN), .val (.ref w_NO), .val (.ref w_NO), .val (.ref w_UNKNOWN), .val (.int (1 : Int32)), .val (.int (1 : Int32)), .unset, .unset] [(.ref w_UNKNOWN), (.ref w_NO), (.ref w_UNKNOWN)]))
  obtain ⟨cq58, kq58, q58a, q58b, q58c⟩ := isOf hZ e57 EH_NO
  obtain ⟨v58, _, ⟨T58, L58, k58, n58⟩, -, X58, ⟨Lc58, hQ58, l58, y58, z58⟩, st58⟩ := X57.virtualBack hx (y := (⟨"com/example/casewright/casewright/types/Answer", "or", "(Lcom/example/casewright/casewright/types/Answer;)Lcom/example/casewright/casewright/types/Answer;"⟩ : MethodName)) (z := (⟨"com/example/casewright/casewright/types/Answer", "or", "(Lcom/example/casewright/casewright/types/Answer;)Lcom/example/casewright/casewright/types/Answer;"⟩ : MethodName)) hown (mvT hZ (hw _ (List.mem_of_getElem? (i := 24) rfl))) (mvT hZ (hw _ (List.mem_of_getElem? (i := 25) rfl))) (notFace_of_selects (args := #[]) (mvT hZ (hw _ (List.mem_of_getElem? (i := 27) rfl)))) (mvT hZ (hw _ (List.mem_of_getElem? (i := 27) rfl))) (mvT hZ (hw _ (List.mem_of_getElem? (i := 26) rfl))) (by decide) (backOf (W := 1) (rm_or l Z a0 hw [] w_NO w_UNKNOWN w_YES w_NO w_UNKNOWN h4 n0 SSh) hZ (hw _ (List.mem_of_getElem? (i := 28) rfl)) (hw _ (List.mem_of_getElem? (i := 3) rfl)) (by decide) (by decide)) q58a q58c (g := (mkF m 128 #[.val (.int p1), .val (.int p2), .val (.ref b), .val (.int (0 : Int32)), .val (.int (2 : Int32)), .val (.ref w_YES), .val (.ref w_UNKNOWN), .val (.ref w_NO), .val (.ref w_NO), .val (.ref w_UNKNOWN), .val (.int (1 : Int32)), .val (.int (1 : Int32)), .unset, .unset] [(.ref w_UNKNOWN), (.ref w_NO), (.ref w_UNKNOWN)])) rfl (by rw [hml]; rfl) (Steps.refl _) (argsL := [(.ref w_UNKNOWN)]) (rest := [(.ref w_UNKNOWN)]) (lenOf pd_1 rfl) rfl (by show 2 * 0 + _ ≤ _; exact Nat.le_of_eq rfl) (hb hby at_128) (fun _ _ => ⟨rfl, e57, (by decide : 0 + 1 + 0 ≤ _), (by decide : 0 + 3 + 0 ≤ _)⟩)
  dsimp only [Pt.U, Pt.locs, Pt.cells, Pt.slots] at X58 l58 y58 z58 st58 hQ58
  subst l58 y58 z58
  obtain ⟨hv58, N58q, e58⟩ := hQ58
  rw [show ((.ref (own_or w_NO w_UNKNOWN w_YES w_NO w_UNKNOWN)) : Value) = (.ref w_UNKNOWN) from by simp [own_or, nUN, nYN, nYU, nUN.symm, nYN.symm, nYU.symm]] at hv58
  subst hv58
  have N58 := Fr.app N57 N58q
  refine own_go (fun t k => st58.trans k) ?_
  show Go p.tables e below _ (T58.setTop (mkF m 131 #[.val (.int p1), .val (.int p2), .val (.ref b), .val (.int (0 : Int32)), .val (.int (2 : Int32)), .val (.ref w_YES), .val (.ref w_UNKNOWN), .val (.ref w_NO), .val (.ref w_NO), .val (.ref w_UNKNOWN), .val (.int (1 : Int32)), .val (.int (1 : Int32)), .unset, .unset] [(.ref w_UNKNOWN), (.ref w_UNKNOWN)]))
  refine own_go (fun t k => XT.acmpNo X58.here hx rfl (hb hby at_131) rfl rfl rfl (XT.aa_ne_f (congrArg Value.ref rfl)) k) ?_
  show Go p.tables e below _ (T58.setTop (mkF m 134 #[.val (.int p1), .val (.int p2), .val (.ref b), .val (.int (0 : Int32)), .val (.int (2 : Int32)), .val (.ref w_YES), .val (.ref w_UNKNOWN), .val (.ref w_NO), .val (.ref w_NO), .val (.ref w_UNKNOWN), .val (.int (1 : Int32)), .val (.int (1 : Int32)), .unset, .unset] []))
  refine own_go (fun t k => XS.iconst X58.here hx rfl (hb hby at_134) k) ?_
  show Go p.tables e below _ (T58.setTop (mkF m 135 #[.val (.int p1), .val (.int p2), .val (.ref b), .val (.int (0 : Int32)), .val (.int (2 : Int32)), .val (.ref w_YES), .val (.ref w_UNKNOWN), .val (.ref w_NO), .val (.ref w_NO), .val (.ref w_UNKNOWN), .val (.int (1 : Int32)), .val (.int (1 : Int32)), .unset, .unset] [(.int (1 : Int32))]))
  refine own_go (fun t k => XS.goto X58.here hx rfl (pc0 := 135) (pc' := 139) rfl (hb hby at_135) (by decide) (by decide) k) ?_
  show Go p.tables e below _ (T58.setTop (mkF m 139 #[.val (.int p1), .val (.int p2), .val (.ref b), .val (.int (0 : Int32)), .val (.int (2 : Int32)), .val (.ref w_YES), .val (.ref w_UNKNOWN), .val (.ref w_NO), .val (.ref w_NO), .val (.ref w_UNKNOWN), .val (.int (1 : Int32)), .val (.int (1 : Int32)), .unset, .unset] [(.int (1 : Int32))]))
  refine own_go (fun t k => XS.istore X58.here hx rfl (hb hby at_139) rfl (l' := #[.val (.int p1), .val (.int p2), .val (.ref b), .val (.int (0 : Int32)), .val (.int (2 : Int32)), .val (.ref w_YES), .val (.ref w_UNKNOWN), .val (.ref w_NO), .val (.ref w_NO), .val (.ref w_UNKNOWN), .val (.int (1 : Int32)), .val (.int (1 : Int32)), .val (.int (1 : Int32)), .unset]) rfl k) ?_
  show Go p.tables e below _ (T58.setTop (mkF m 141 #[.val (.int p1), .val (.int p2), .val (.ref b), .val (.int (0 : Int32)), .val (.int (2 : Int32)), .val (.ref w_YES), .val (.ref w_UNKNOWN), .val (.ref w_NO), .val (.ref w_NO), .val (.ref w_UNKNOWN), .val (.int (1 : Int32)), .val (.int (1 : Int32)), .val (.int (1 : Int32)), .unset] []))
  refine own_go (fun t k => XS.aload X58.here hx rfl (hb hby at_141) rfl rfl k) ?_
  show Go p.tables e below _ (T58.setTop (mkF m 143 #[.val (.int p1), .val (.int p2), .val (.ref b), .val (.int (0 : Int32)), .val (.int (2 : Int32)), .val (.ref w_YES), .val (.ref w_UNKNOWN), .val (.ref w_NO), .val (.ref w_NO), .val (.ref w_UNKNOWN), .val (.int (1 : Int32)), .val (.int (1 : Int32)), .val (.int (1 : Int32)), .unset] [(.ref w_YES)]))
  refine own_go (fun t k => XS.aload X58.here hx rfl (hb hby at_143) rfl rfl k) ?_
  show Go p.tables e below _ (T58.setTop (mkF m 145 #[.val (.int p1), .val (.int p2), .val (.ref b), .val (.int (0 : Int32)), .val (.int (2 : Int32)), .val (.ref w_YES), .val (.ref w_UNKNOWN), .val (.ref w_NO), .val (.ref w_NO), .val (.ref w_UNKNOWN), .val (.int (1 : Int32)), .val (.int (1 : Int32)), .val (.int (1 : Int32)), .unset] [(.ref w_UNKNOWN), (.ref w_YES)]))
  obtain ⟨cq59, kq59, q59a, q59b, q59c⟩ := isOf hZ e58 EH_YES
  obtain ⟨v59, _, ⟨T59, L59, k59, n59⟩, -, X59, ⟨Lc59, hQ59, l59, y59, z59⟩, st59⟩ := X58.virtualBack hx (y := (⟨"com/example/casewright/casewright/types/Answer", "or", "(Lcom/example/casewright/casewright/types/Answer;)Lcom/example/casewright/casewright/types/Answer;"⟩ : MethodName)) (z := (⟨"com/example/casewright/casewright/types/Answer", "or", "(Lcom/example/casewright/casewright/types/Answer;)Lcom/example/casewright/casewright/types/Answer;"⟩ : MethodName)) hown (mvT hZ (hw _ (List.mem_of_getElem? (i := 24) rfl))) (mvT hZ (hw _ (List.mem_of_getElem? (i := 25) rfl))) (notFace_of_selects (args := #[]) (mvT hZ (hw _ (List.mem_of_getElem? (i := 27) rfl)))) (mvT hZ (hw _ (List.mem_of_getElem? (i := 27) rfl))) (mvT hZ (hw _ (List.mem_of_getElem? (i := 26) rfl))) (by decide) (backOf (W := 0) (rm_or l Z a0 hw [] w_YES w_UNKNOWN w_YES w_NO w_UNKNOWN h4 n0 SSh) hZ (hw _ (List.mem_of_getElem? (i := 28) rfl)) (hw _ (List.mem_of_getElem? (i := 3) rfl)) (by decide) (by decide)) q59a q59c (g := (mkF m 145 #[.val (.int p1), .val (.int p2), .val (.ref b), .val (.int (0 : Int32)), .val (.int (2 : Int32)), .val (.ref w_YES), .val (.ref w_UNKNOWN), .val (.ref w_NO), .val (.ref w_NO), .val (.ref w_UNKNOWN), .val (.int (1 : Int32)), .val (.int (1 : Int32)), .val (.int (1 : Int32)), .unset] [(.ref w_UNKNOWN), (.ref w_YES)])) rfl (by rw [hml]; rfl) (Steps.refl _) (argsL := [(.ref w_UNKNOWN)]) (rest := []) (lenOf pd_1 rfl) rfl (by show 2 * 0 + _ ≤ _; exact Nat.le_of_eq rfl) (hb hby at_145) (fun _ _ => ⟨rfl, e58, (by decide : 0 + 1 + 0 ≤ _), (by decide : 0 + 3 + 0 ≤ _)⟩)
  dsimp only [Pt.U, Pt.locs, Pt.cells, Pt.slots] at X59 l59 y59 z59 st59 hQ59
  subst l59 y59 z59
  obtain ⟨hv59, N59q, e59⟩ := hQ59
  rw [show ((.ref (own_or w_NO w_UNKNOWN w_YES w_YES w_UNKNOWN)) : Value) = (.ref w_YES) from by simp [own_or, nUN, nYN, nYU, nUN.symm, nYN.symm, nYU.symm]] at hv59
  subst hv59
  have N59 := Fr.app N58 N59q
  refine own_go (fun t k => st59.trans k) ?_
  show Go p.tables e below _ (T59.setTop (mkF m 148 #[.val (.int p1), .val (.int p2), .val (.ref b), .val (.int (0 : Int32)), .val (.int (2 : Int32)), .val (.ref w_YES), .val (.ref w_UNKNOWN), .val (.ref w_NO), .val (.ref w_NO), .val (.ref w_UNKNOWN), .val (.int (1 : Int32)), .val (.int (1 : Int32)), .val (.int (1 : Int32)), .unset] [(.ref w_YES)]))
  obtain ⟨cq60, kq60, q60a, q60b, q60c⟩ := isOf hZ e59 EH_YES
  obtain ⟨v60, _, ⟨T60, L60, k60, n60⟩, -, X60, ⟨Lc60, hQ60, l60, y60, z60⟩, st60⟩ := X59.virtualBack hx (y := (⟨"com/example/casewright/casewright/types/Answer", "not", "()Lcom/example/casewright/casewright/types/Answer;"⟩ : MethodName)) (z := (⟨"com/example/casewright/casewright/types/Answer", "not", "()Lcom/example/casewright/casewright/types/Answer;"⟩ : MethodName)) hown (mvT hZ (hw _ (List.mem_of_getElem? (i := 11) rfl))) (mvT hZ (hw _ (List.mem_of_getElem? (i := 12) rfl))) (notFace_of_selects (args := #[]) (mvT hZ (hw _ (List.mem_of_getElem? (i := 14) rfl)))) (mvT hZ (hw _ (List.mem_of_getElem? (i := 14) rfl))) (mvT hZ (hw _ (List.mem_of_getElem? (i := 13) rfl))) (by decide) (backOf (W := 0) (rm_not l Z a0 hw [] w_YES w_YES w_NO w_UNKNOWN h4 n0 SSh) hZ (hw _ (List.mem_of_getElem? (i := 15) rfl)) (hw _ (List.mem_of_getElem? (i := 3) rfl)) (by decide) (by decide)) q60a q60c (g := (mkF m 148 #[.val (.int p1), .val (.int p2), .val (.ref b), .val (.int (0 : Int32)), .val (.int (2 : Int32)), .val (.ref w_YES), .val (.ref w_UNKNOWN), .val (.ref w_NO), .val (.ref w_NO), .val (.ref w_UNKNOWN), .val (.int (1 : Int32)), .val (.int (1 : Int32)), .val (.int (1 : Int32)), .unset] [(.ref w_YES)])) rfl (by rw [hml]; rfl) (Steps.refl _) (argsL := []) (rest := []) (lenOf pd_0 rfl) rfl (by show 2 * 0 + _ ≤ _; exact Nat.le_of_eq rfl) (hb hby at_148) (fun _ _ => ⟨rfl, e59, (by decide : 0 + 1 + 0 ≤ _), (by decide : 0 + 3 + 0 ≤ _)⟩)
  dsimp only [Pt.U, Pt.locs, Pt.cells, Pt.slots] at X60 l60 y60 z60 st60 hQ60
  subst l60 y60 z60
  obtain ⟨hv60, N60q, e60⟩ := hQ60
  rw [show ((.ref (own_not w_NO w_UNKNOWN w_YES w_YES)) : Value) = (.ref w_NO) from by simp [own_not, nUN, nYN, nYU, nUN.symm, nYN.symm, nYU.symm]] at hv60
  subst hv60
  have N60 := Fr.app N59 N60q
  refine own_go (fun t k => st60.trans k) ?_
  show Go p.tables e below _ (T60.setTop (mkF m 151 #[.val (.int p1), .val (.int p2), .val (.ref b), .val (.int (0 : Int32)), .val (.int (2 : Int32)), .val (.ref w_YES), .val (.ref w_UNKNOWN), .val (.ref w_NO), .val (.ref w_NO), .val (.ref w_UNKNOWN), .val (.int (1 : Int32)), .val (.int (1 : Int32)), .val (.int (1 : Int32)), .unset] [(.ref w_NO)]))
  refine own_go (fun t k => XS.aload X60.here hx rfl (hb hby at_151) rfl rfl k) ?_
  show Go p.tables e below _ (T60.setTop (mkF m 153 #[.val (.int p1), .val (.int p2), .val (.ref b), .val (.int (0 : Int32)), .val (.int (2 : Int32)), .val (.ref w_YES), .val (.ref w_UNKNOWN), .val (.ref w_NO), .val (.ref w_NO), .val (.ref w_UNKNOWN), .val (.int (1 : Int32)), .val (.int (1 : Int32)), .val (.int (1 : Int32)), .unset] [(.ref w_NO), (.ref w_NO)]))
  refine own_go (fun t k => XS.aload X60.here hx rfl (hb hby at_153) rfl rfl k) ?_
  show Go p.tables e below _ (T60.setTop (mkF m 155 #[.val (.int p1), .val (.int p2), .val (.ref b), .val (.int (0 : Int32)), .val (.int (2 : Int32)), .val (.ref w_YES), .val (.ref w_UNKNOWN), .val (.ref w_NO), .val (.ref w_NO), .val (.ref w_UNKNOWN), .val (.int (1 : Int32)), .val (.int (1 : Int32)), .val (.int (1 : Int32)), .unset] [(.ref w_UNKNOWN), (.ref w_NO), (.ref w_NO)]))
  obtain ⟨cq61, kq61, q61a, q61b, q61c⟩ := isOf hZ e60 EH_NO
  obtain ⟨v61, _, ⟨T61, L61, k61, n61⟩, -, X61, ⟨Lc61, hQ61, l61, y61, z61⟩, st61⟩ := X60.virtualBack hx (y := (⟨"com/example/casewright/casewright/types/Answer", "and", "(Lcom/example/casewright/casewright/types/Answer;)Lcom/example/casewright/casewright/types/Answer;"⟩ : MethodName)) (z := (⟨"com/example/casewright/casewright/types/Answer", "and", "(Lcom/example/casewright/casewright/types/Answer;)Lcom/example/casewright/casewright/types/Answer;"⟩ : MethodName)) hown (mvT hZ (hw _ (List.mem_of_getElem? (i := 18) rfl))) (mvT hZ (hw _ (List.mem_of_getElem? (i := 19) rfl))) (notFace_of_selects (args := #[]) (mvT hZ (hw _ (List.mem_of_getElem? (i := 21) rfl)))) (mvT hZ (hw _ (List.mem_of_getElem? (i := 21) rfl))) (mvT hZ (hw _ (List.mem_of_getElem? (i := 20) rfl))) (by decide) (backOf (W := 1) (rm_and l Z a0 hw [] w_NO w_UNKNOWN w_YES w_NO w_UNKNOWN h4 n0 SSh) hZ (hw _ (List.mem_of_getElem? (i := 22) rfl)) (hw _ (List.mem_of_getElem? (i := 3) rfl)) (by decide) (by decide)) q61a q61c (g := (mkF m 155 #[.val (.int p1), .val (.int p2), .val (.ref b), .val (.int (0 : Int32)), .val (.int (2 : Int32)), .val (.ref w_YES), .val (.ref w_UNKNOWN), .val (.ref w_NO), .val (.ref w_NO), .val (.ref w_UNKNOWN), .val (.int (1 : Int32)), .val (.int (1 : Int32)), .val (.int (1 : Int32)), .unset] [(.ref w_UNKNOWN), (.ref w_NO), (.ref w_NO)])) rfl (by rw [hml]; rfl) (Steps.refl _) (argsL := [(.ref w_UNKNOWN)]) (rest := [(.ref w_NO)]) (lenOf pd_1 rfl) rfl (by show 2 * 0 + _ ≤ _; exact Nat.le_of_eq rfl) (hb hby at_155) (fun _ _ => ⟨rfl, e60, (by decide : 0 + 1 + 0 ≤ _), (by decide : 0 + 3 + 0 ≤ _)⟩)
  dsimp only [Pt.U, Pt.locs, Pt.cells, Pt.slots] at X61 l61 y61 z61 st61 hQ61
  subst l61 y61 z61
  obtain ⟨hv61, N61q, e61⟩ := hQ61
  rw [show ((.ref (own_and w_NO w_UNKNOWN w_YES w_NO w_UNKNOWN)) : Value) = (.ref w_NO) from by simp [own_and, nUN, nYN, nYU, nUN.symm, nYN.symm, nYU.symm]] at hv61
  subst hv61
  have N61 := Fr.app N60 N61q
  refine own_go (fun t k => st61.trans k) ?_
  show Go p.tables e below _ (T61.setTop (mkF m 158 #[.val (.int p1), .val (.int p2), .val (.ref b), .val (.int (0 : Int32)), .val (.int (2 : Int32)), .val (.ref w_YES), .val (.ref w_UNKNOWN), .val (.ref w_NO), .val (.ref w_NO), .val (.ref w_UNKNOWN), .val (.int (1 : Int32)), .val (.int (1 : Int32)), .val (.int (1 : Int32)), .unset] [(.ref w_NO), (.ref w_NO)]))
  refine own_go (fun t k => XT.acmpNo X61.here hx rfl (hb hby at_158) rfl rfl rfl (XT.aa_ne_f (congrArg Value.ref rfl)) k) ?_
  show Go p.tables e below _ (T61.setTop (mkF m 161 #[.val (.int p1), .val (.int p2), .val (.ref b), .val (.int (0 : Int32)), .val (.int (2 : Int32)), .val (.ref w_YES), .val (.ref w_UNKNOWN), .val (.ref w_NO), .val (.ref w_NO), .val (.ref w_UNKNOWN), .val (.int (1 : Int32)), .val (.int (1 : Int32)), .val (.int (1 : Int32)), .unset] []))
  refine own_go (fun t k => XS.iconst X61.here hx rfl (hb hby at_161) k) ?_
  show Go p.tables e below _ (T61.setTop (mkF m 162 #[.val (.int p1), .val (.int p2), .val (.ref b), .val (.int (0 : Int32)), .val (.int (2 : Int32)), .val (.ref w_YES), .val (.ref w_UNKNOWN), .val (.ref w_NO), .val (.ref w_NO), .val (.ref w_UNKNOWN), .val (.int (1 : Int32)), .val (.int (1 : Int32)), .val (.int (1 : Int32)), .unset] [(.int (1 : Int32))]))
  refine own_go (fun t k => XS.goto X61.here hx rfl (pc0 := 162) (pc' := 166) rfl (hb hby at_162) (by decide) (by decide) k) ?_
  show Go p.tables e below _ (T61.setTop (mkF m 166 #[.val (.int p1), .val (.int p2), .val (.ref b), .val (.int (0 : Int32)), .val (.int (2 : Int32)), .val (.ref w_YES), .val (.ref w_UNKNOWN), .val (.ref w_NO), .val (.ref w_NO), .val (.ref w_UNKNOWN), .val (.int (1 : Int32)), .val (.int (1 : Int32)), .val (.int (1 : Int32)), .unset] [(.int (1 : Int32))]))
  refine own_go (fun t k => XS.istore X61.here hx rfl (hb hby at_166) rfl (l' := #[.val (.int p1), .val (.int p2), .val (.ref b), .val (.int (0 : Int32)), .val (.int (2 : Int32)), .val (.ref w_YES), .val (.ref w_UNKNOWN), .val (.ref w_NO), .val (.ref w_NO), .val (.ref w_UNKNOWN), .val (.int (1 : Int32)), .val (.int (1 : Int32)), .val (.int (1 : Int32)), .val (.int (1 : Int32))]) rfl k) ?_
  show Go p.tables e below _ (T61.setTop (mkF m 168 #[.val (.int p1), .val (.int p2), .val (.ref b), .val (.int (0 : Int32)), .val (.int (2 : Int32)), .val (.ref w_YES), .val (.ref w_UNKNOWN), .val (.ref w_NO), .val (.ref w_NO), .val (.ref w_UNKNOWN), .val (.int (1 : Int32)), .val (.int (1 : Int32)), .val (.int (1 : Int32)), .val (.int (1 : Int32))] []))
  refine own_go (fun t k => XS.iload X61.here hx rfl (hb hby at_168) rfl k) ?_
  show Go p.tables e below _ (T61.setTop (mkF m 170 #[.val (.int p1), .val (.int p2), .val (.ref b), .val (.int (0 : Int32)), .val (.int (2 : Int32)), .val (.ref w_YES), .val (.ref w_UNKNOWN), .val (.ref w_NO), .val (.ref w_NO), .val (.ref w_UNKNOWN), .val (.int (1 : Int32)), .val (.int (1 : Int32)), .val (.int (1 : Int32)), .val (.int (1 : Int32))] [(.int (1 : Int32))]))
  refine own_go (fun t k => XS.ifNo X61.here hx rfl (hb hby at_170) rfl (XT.i0_eq_f (by decide)) k) ?_
  show Go p.tables e below _ (T61.setTop (mkF m 173 #[.val (.int p1), .val (.int p2), .val (.ref b), .val (.int (0 : Int32)), .val (.int (2 : Int32)), .val (.ref w_YES), .val (.ref w_UNKNOWN), .val (.ref w_NO), .val (.ref w_NO), .val (.ref w_UNKNOWN), .val (.int (1 : Int32)), .val (.int (1 : Int32)), .val (.int (1 : Int32)), .val (.int (1 : Int32))] []))
  refine own_go (fun t k => XS.iload X61.here hx rfl (hb hby at_173) rfl k) ?_
  show Go p.tables e below _ (T61.setTop (mkF m 175 #[.val (.int p1), .val (.int p2), .val (.ref b), .val (.int (0 : Int32)), .val (.int (2 : Int32)), .val (.ref w_YES), .val (.ref w_UNKNOWN), .val (.ref w_NO), .val (.ref w_NO), .val (.ref w_UNKNOWN), .val (.int (1 : Int32)), .val (.int (1 : Int32)), .val (.int (1 : Int32)), .val (.int (1 : Int32))] [(.int (1 : Int32))]))
  refine own_go (fun t k => XS.ifNo X61.here hx rfl (hb hby at_175) rfl (XT.i0_eq_f (by decide)) k) ?_
  show Go p.tables e below _ (T61.setTop (mkF m 178 #[.val (.int p1), .val (.int p2), .val (.ref b), .val (.int (0 : Int32)), .val (.int (2 : Int32)), .val (.ref w_YES), .val (.ref w_UNKNOWN), .val (.ref w_NO), .val (.ref w_NO), .val (.ref w_UNKNOWN), .val (.int (1 : Int32)), .val (.int (1 : Int32)), .val (.int (1 : Int32)), .val (.int (1 : Int32))] []))
  refine own_go (fun t k => XS.iload X61.here hx rfl (hb hby at_178) rfl k) ?_
  show Go p.tables e below _ (T61.setTop (mkF m 180 #[.val (.int p1), .val (.int p2), .val (.ref b), .val (.int (0 : Int32)), .val (.int (2 : Int32)), .val (.ref w_YES), .val (.ref w_UNKNOWN), .val (.ref w_NO), .val (.ref w_NO), .val (.ref w_UNKNOWN), .val (.int (1 : Int32)), .val (.int (1 : Int32)), .val (.int (1 : Int32)), .val (.int (1 : Int32))] [(.int (1 : Int32))]))
  refine own_go (fun t k => XS.ifNo X61.here hx rfl (hb hby at_180) rfl (XT.i0_eq_f (by decide)) k) ?_
  show Go p.tables e below _ (T61.setTop (mkF m 183 #[.val (.int p1), .val (.int p2), .val (.ref b), .val (.int (0 : Int32)), .val (.int (2 : Int32)), .val (.ref w_YES), .val (.ref w_UNKNOWN), .val (.ref w_NO), .val (.ref w_NO), .val (.ref w_UNKNOWN), .val (.int (1 : Int32)), .val (.int (1 : Int32)), .val (.int (1 : Int32)), .val (.int (1 : Int32))] []))
  refine own_go (fun t k => XS.iload X61.here hx rfl (hb hby at_183) rfl k) ?_
  show Go p.tables e below _ (T61.setTop (mkF m 185 #[.val (.int p1), .val (.int p2), .val (.ref b), .val (.int (0 : Int32)), .val (.int (2 : Int32)), .val (.ref w_YES), .val (.ref w_UNKNOWN), .val (.ref w_NO), .val (.ref w_NO), .val (.ref w_UNKNOWN), .val (.int (1 : Int32)), .val (.int (1 : Int32)), .val (.int (1 : Int32)), .val (.int (1 : Int32))] [(.int (1 : Int32))]))
  refine own_go (fun t k => XS.ifNo X61.here hx rfl (hb hby at_185) rfl (XT.i0_eq_f (by decide)) k) ?_
  show Go p.tables e below _ (T61.setTop (mkF m 188 #[.val (.int p1), .val (.int p2), .val (.ref b), .val (.int (0 : Int32)), .val (.int (2 : Int32)), .val (.ref w_YES), .val (.ref w_UNKNOWN), .val (.ref w_NO), .val (.ref w_NO), .val (.ref w_UNKNOWN), .val (.int (1 : Int32)), .val (.int (1 : Int32)), .val (.int (1 : Int32)), .val (.int (1 : Int32))] []))
  refine own_go (fun t k => XS.iconst X61.here hx rfl (hb hby at_188) k) ?_
  show Go p.tables e below _ (T61.setTop (mkF m 189 #[.val (.int p1), .val (.int p2), .val (.ref b), .val (.int (0 : Int32)), .val (.int (2 : Int32)), .val (.ref w_YES), .val (.ref w_UNKNOWN), .val (.ref w_NO), .val (.ref w_NO), .val (.ref w_UNKNOWN), .val (.int (1 : Int32)), .val (.int (1 : Int32)), .val (.int (1 : Int32)), .val (.int (1 : Int32))] [(.int (1 : Int32))]))
  refine own_go (fun t k => XS.goto X61.here hx rfl (pc0 := 189) (pc' := 193) rfl (hb hby at_189) (by decide) (by decide) k) ?_
  show Go p.tables e below _ (T61.setTop (mkF m 193 #[.val (.int p1), .val (.int p2), .val (.ref b), .val (.int (0 : Int32)), .val (.int (2 : Int32)), .val (.ref w_YES), .val (.ref w_UNKNOWN), .val (.ref w_NO), .val (.ref w_NO), .val (.ref w_UNKNOWN), .val (.int (1 : Int32)), .val (.int (1 : Int32)), .val (.int (1 : Int32)), .val (.int (1 : Int32))] [(.int (1 : Int32))]))
  exact own_ret X61 hx hlk Bd.returns rfl (Or.inl ⟨rfl, Or.inr (Or.inl rfl), _, rfl⟩) (hb hby at_193) ⟨rfl, N61⟩ (by decide) (by decide)
theorem ef_rm_law_10 (m : MethodId) (x0 : Int32) (x1 : Int32) : entryFrame m #[(.int x0), (.int x1)] maxLocals = mkF m 0 #[.val (.int x0), .val (.int x1), .unset, .unset, .unset, .unset, .unset, .unset, .unset, .unset, .unset, .unset, .unset, .unset] [] := by first | (simp [entryFrame, mkF, argsToLocals, Value.category, maxLocals]; done) | rfl
set_option maxRecDepth 65536 in
set_option maxHeartbeats 40000000 in
theorem rm_law_10 (l : Launch) (Z : State) (a0 : Array Value) (hw : ∀ d ∈ tables_1, d.before a0 Z = true) (ws : List Jvm.Cond) (p1 p2 : Int32) (w_YES w_NO w_UNKNOWN : Addr) (h0 : Heap) (n0 : Nat) (SS : own_S Z h0 w_YES w_NO w_UNKNOWN) (EE : own_E Z h0 w_YES w_NO w_UNKNOWN) (OO : own_O Z h0 w_YES w_NO w_UNKNOWN) (Z0 : n0 ≤ h0.size) (q1 : (p1 &&& 2147483647) % 3 = 1) (q2 : (p2 &&& 2147483647) % 3 = 0) :
    MetFree l x (head1 (Jvm.Cond.code x code maxLocals ret :: ws) room_1) (fun aa U => aa = #[(.int p1), (.int p2)] ∧ Z.Warmed39 U.vm ∧ U.heap = h0) (fun _ _ _ _ _ => True) (fun _ U o U' => ∃ v L, o = .returned v ∧ LQ n0 v U'.heap L ∧ FrameEnd U o U' L room_1.cells room_1.slots) := by
  refine MetFree.of_bodySF (plainFor_of_name pn_1) hisR ?_
  intro p e s m args below meth c s₁ Bd hml0 hP hK
  obtain ⟨rfl, hZ, hh⟩ := hP
  have hx := Bd.exec
  have hby := Bd.bytes
  have hlk := Bd.notSynchronized
  have hml : c.maxLocals = 14 := hml0
  have hown : s.vm.findClass "com/example/casewright/casewright/types/AnswerNotPinLaw" = some m.cls := findClass_of_methodNamed Bd.named
  have X0 : Stand p l e room_1 s m #[(.int p1), (.int p2)] below meth c s₁ [] 0 0 := Stand.of_body Bd
  have e0 : s₁.heap = h0 := by rw [← hh, Bd.state]; rfl
  have N0 := Fr.nil n0
  have SS' := SS
  obtain ⟨S_YES, S_NO, S_UNKNOWN⟩ := SS'
  obtain ⟨E_YES, E_NO, E_UNKNOWN⟩ := EE
  obtain ⟨F_NO_ordinal, F_YES_ordinal, F_UNKNOWN_ordinal⟩ := OO
  have nUN : w_UNKNOWN ≠ w_NO := (own_ne F_UNKNOWN_ordinal F_NO_ordinal (by decide))
  have nYN : w_YES ≠ w_NO := (own_ne F_YES_ordinal F_NO_ordinal (by decide))
  have nYU : w_YES ≠ w_UNKNOWN := (own_ne F_YES_ordinal F_UNKNOWN_ordinal (by decide))
  show Go p.tables e below (Fin s below (LQ n0) room_1.cells room_1.slots) (s₁.setTop (entryFrame m #[(.int p1), (.int p2)] maxLocals))
  refine own_go (fun t k => castTop (ef_rm_law_10 m p1 p2) k) ?_
  show Go p.tables e below _ (s₁.setTop (mkF m 0 #[.val (.int p1), .val (.int p2), .unset, .unset, .unset, .unset, .unset, .unset, .unset, .unset, .unset, .unset, .unset, .unset] []))
  refine own_go (fun t k => XS.iconst X0.here hx rfl (hb hby at_0) k) ?_
  show Go p.tables e below _ (s₁.setTop (mkF m 1 #[.val (.int p1), .val (.int p2), .unset, .unset, .unset, .unset, .unset, .unset, .unset, .unset, .unset, .unset, .unset, .unset] [(.int (3 : Int32))]))
  obtain ⟨T1, h1, kA, X1, e1, Ex1, A1, O1, st1⟩ := newR X0 hx hZ hown (hw _ (List.mem_of_getElem? (i := 0) rfl)) (hw _ (List.mem_of_getElem? (i := 1) rfl)) e0 (g := (mkF m 1 #[.val (.int p1), .val (.int p2), .unset, .unset, .unset, .unset, .unset, .unset, .unset, .unset, .unset, .unset, .unset, .unset] [(.int (3 : Int32))])) rfl (hb hby at_1) rfl (by decide) (cap := 3) (by decide) (by decide) (by decide) (by decide)
  obtain ⟨b, gb⟩ : ∃ z, z = h0.size := ⟨_, rfl⟩
  rw [← gb] at A1 st1
  have hb0 : n0 ≤ b := Nat.le_trans Z0 (Nat.le_of_eq gb.symm)
  have S1_YES := S_YES.ext Ex1
  have E1_YES := E_YES.ext Ex1
  have S1_NO := S_NO.ext Ex1
  have E1_NO := E_NO.ext Ex1
  have S1_UNKNOWN := S_UNKNOWN.ext Ex1
  have E1_UNKNOWN := E_UNKNOWN.ext Ex1
  refine own_go (fun t k => st1 t k) ?_
  show Go p.tables e below _ (T1.setTop (mkF m 4 #[.val (.int p1), .val (.int p2), .unset, .unset, .unset, .unset, .unset, .unset, .unset, .unset, .unset, .unset, .unset, .unset] [(.ref b)]))
  refine own_go (fun t k => XS.dup X1.here hx rfl (hb hby at_4) rfl rfl k) ?_
  show Go p.tables e below _ (T1.setTop (mkF m 5 #[.val (.int p1), .val (.int p2), .unset, .unset, .unset, .unset, .unset, .unset, .unset, .unset, .unset, .unset, .unset, .unset] [(.ref b), (.ref b)]))
  refine own_go (fun t k => XS.iconst X1.here hx rfl (hb hby at_5) k) ?_
  show Go p.tables e below _ (T1.setTop (mkF m 6 #[.val (.int p1), .val (.int p2), .unset, .unset, .unset, .unset, .unset, .unset, .unset, .unset, .unset, .unset, .unset, .unset] [(.int (0 : Int32)), (.ref b), (.ref b)]))
  obtain ⟨T11, X11, e11, st11⟩ := getS2 X1 hx hZ hown (host := "") (Or.inl (hw _ (List.mem_of_getElem? (i := 2) rfl))) Via.refl e1 S1_YES (g := (mkF m 6 #[.val (.int p1), .val (.int p2), .unset, .unset, .unset, .unset, .unset, .unset, .unset, .unset, .unset, .unset, .unset, .unset] [(.int (0 : Int32)), (.ref b), (.ref b)])) rfl (hb hby at_6)
  refine own_go (fun t k => st11 t k) ?_
  show Go p.tables e below _ (T11.setTop (mkF m 9 #[.val (.int p1), .val (.int p2), .unset, .unset, .unset, .unset, .unset, .unset, .unset, .unset, .unset, .unset, .unset, .unset] [(.ref w_YES), (.int (0 : Int32)), (.ref b), (.ref b)]))
  obtain ⟨T2w, h2, X2w, e2w, W2, stw2⟩ := stR X11 hx hZ e11 A1 (j := (0 : Int32)) (by rw [sz_new]; decide) rfl (Sto.of A1 O1 (Ins.self E1_YES)) (g := (mkF m 9 #[.val (.int p1), .val (.int p2), .unset, .unset, .unset, .unset, .unset, .unset, .unset, .unset, .unset, .unset, .unset, .unset] [(.ref w_YES), (.int (0 : Int32)), (.ref b), (.ref b)])) rfl rfl (hb hby at_9)
  have N2w := Fr.snoc X2w N0 hb0
  have A2 := A1.same W2
  have S2_YES := S1_YES.wr W2
  have E2_YES := E1_YES.wr W2
  have S2_NO := S1_NO.wr W2
  have E2_NO := E1_NO.wr W2
  have S2_UNKNOWN := S1_UNKNOWN.wr W2
  have E2_UNKNOWN := E1_UNKNOWN.wr W2
  refine own_go (fun t k => stw2 t k) ?_
  show Go p.tables e below _ (T2w.setTop (mkF m 10 #[.val (.int p1), .val (.int p2), .unset, .unset, .unset, .unset, .unset, .unset, .unset, .unset, .unset, .unset, .unset, .unset] [(.ref b)]))
  refine own_go (fun t k => XS.dup X2w.here hx rfl (hb hby at_10) rfl rfl k) ?_
  show Go p.tables e below _ (T2w.setTop (mkF m 11 #[.val (.int p1), .val (.int p2), .unset, .unset, .unset, .unset, .unset, .unset, .unset, .unset, .unset, .unset, .unset, .unset] [(.ref b), (.ref b)]))
  refine own_go (fun t k => XS.iconst X2w.here hx rfl (hb hby at_11) k) ?_
  show Go p.tables e below _ (T2w.setTop (mkF m 12 #[.val (.int p1), .val (.int p2), .unset, .unset, .unset, .unset, .unset, .unset, .unset, .unset, .unset, .unset, .unset, .unset] [(.int (1 : Int32)), (.ref b), (.ref b)]))
  obtain ⟨T51, X51, e51, st51⟩ := getS2 X2w hx hZ hown (host := "") (Or.inl (hw _ (List.mem_of_getElem? (i := 6) rfl))) Via.refl e2w S2_NO (g := (mkF m 12 #[.val (.int p1), .val (.int p2), .unset, .unset, .unset, .unset, .unset, .unset, .unset, .unset, .unset, .unset, .unset, .unset] [(.int (1 : Int32)), (.ref b), (.ref b)])) rfl (hb hby at_12)
  refine own_go (fun t k => st51 t k) ?_
  show Go p.tables e below _ (T51.setTop (mkF m 15 #[.val (.int p1), .val (.int p2), .unset, .unset, .unset, .unset, .unset, .unset, .unset, .unset, .unset, .unset, .unset, .unset] [(.ref w_NO), (.int (1 : Int32)), (.ref b), (.ref b)]))
  obtain ⟨T3w, h3, X3w, e3w, W3, stw3⟩ := stR X51 hx hZ e51 A2 (j := (1 : Int32)) (by rw [sz_set]; rw [sz_new]; decide) rfl (Sto.of A2 O1 (Ins.self E2_NO)) (g := (mkF m 15 #[.val (.int p1), .val (.int p2), .unset, .unset, .unset, .unset, .unset, .unset, .unset, .unset, .unset, .unset, .unset, .unset] [(.ref w_NO), (.int (1 : Int32)), (.ref b), (.ref b)])) rfl rfl (hb hby at_15)
  have N3w := Fr.snoc X3w N2w hb0
  have A3 := A2.same W3
  have S3_YES := S2_YES.wr W3
  have E3_YES := E2_YES.wr W3
  have S3_NO := S2_NO.wr W3
  have E3_NO := E2_NO.wr W3
  have S3_UNKNOWN := S2_UNKNOWN.wr W3
  have E3_UNKNOWN := E2_UNKNOWN.wr W3
  refine own_go (fun t k => stw3 t k) ?_
  show Go p.tables e below _ (T3w.setTop (mkF m 16 #[.val (.int p1), .val (.int p2), .unset, .unset, .unset, .unset, .unset, .unset, .unset, .unset, .unset, .unset, .unset, .unset] [(.ref b)]))
  refine own_go (fun t k => XS.dup X3w.here hx rfl (hb hby at_16) rfl rfl k) ?_
  show Go p.tables e below _ (T3w.setTop (mkF m 17 #[.val (.int p1), .val (.int p2), .unset, .unset, .unset, .unset, .unset, .unset, .unset, .unset, .unset, .unset, .unset, .unset] [(.ref b), (.ref b)]))
  refine own_go (fun t k => XS.iconst X3w.here hx rfl (hb hby at_17) k) ?_
  show Go p.tables e below _ (T3w.setTop (mkF m 18 #[.val (.int p1), .val (.int p2), .unset, .unset, .unset, .unset, .unset, .unset, .unset, .unset, .unset, .unset, .unset, .unset] [(.int (2 : Int32)), (.ref b), (.ref b)]))
  obtain ⟨T52, X52, e52, st52⟩ := getS2 X3w hx hZ hown (host := "") (Or.inl (hw _ (List.mem_of_getElem? (i := 8) rfl))) Via.refl e3w S3_UNKNOWN (g := (mkF m 18 #[.val (.int p1), .val (.int p2), .unset, .unset, .unset, .unset, .unset, .unset, .unset, .unset, .unset, .unset, .unset, .unset] [(.int (2 : Int32)), (.ref b), (.ref b)])) rfl (hb hby at_18)
  refine own_go (fun t k => st52 t k) ?_
  show Go p.tables e below _ (T52.setTop (mkF m 21 #[.val (.int p1), .val (.int p2), .unset, .unset, .unset, .unset, .unset, .unset, .unset, .unset, .unset, .unset, .unset, .unset] [(.ref w_UNKNOWN), (.int (2 : Int32)), (.ref b), (.ref b)]))
  obtain ⟨T4w, h4, X4w, e4w, W4, stw4⟩ := stR X52 hx hZ e52 A3 (j := (2 : Int32)) (by rw [sz_set]; rw [sz_set]; rw [sz_new]; decide) rfl (Sto.of A3 O1 (Ins.self E3_UNKNOWN)) (g := (mkF m 21 #[.val (.int p1), .val (.int p2), .unset, .unset, .unset, .unset, .unset, .unset, .unset, .unset, .unset, .unset, .unset, .unset] [(.ref w_UNKNOWN), (.int (2 : Int32)), (.ref b), (.ref b)])) rfl rfl (hb hby at_21)
  have N4w := Fr.snoc X4w N3w hb0
  have A4 := A3.same W4
  have S4_YES := S3_YES.wr W4
  have E4_YES := E3_YES.wr W4
  have S4_NO := S3_NO.wr W4
  have E4_NO := E3_NO.wr W4
  have S4_UNKNOWN := S3_UNKNOWN.wr W4
  have E4_UNKNOWN := E3_UNKNOWN.wr W4
  refine own_go (fun t k => stw4 t k) ?_
  show Go p.tables e below _ (T4w.setTop (mkF m 22 #[.val (.int p1), .val (.int p2), .unset, .unset, .unset, .unset, .unset, .unset, .unset, .unset, .unset, .unset, .unset, .unset] [(.ref b)]))
  have SSh : own_S Z h4 w_YES w_NO w_UNKNOWN := ⟨S4_YES, S4_NO, S4_UNKNOWN⟩
  have EH_YES := E4_YES
  have EH_NO := E4_NO
  have EH_UNKNOWN := E4_UNKNOWN
  refine own_go (fun t k => XS.astoreN X4w.here hx rfl (hb hby at_22) rfl rfl (l' := #[.val (.int p1), .val (.int p2), .val (.ref b), .unset, .unset, .unset, .unset, .unset, .unset, .unset, .unset, .unset, .unset, .unset]) rfl k) ?_
  show Go p.tables e below _ (T4w.setTop (mkF m 23 #[.val (.int p1), .val (.int p2), .val (.ref b), .unset, .unset, .unset, .unset, .unset, .unset, .unset, .unset, .unset, .unset, .unset] []))
  refine own_go (fun t k => XS.iloadN X4w.here hx rfl (hb hby at_23) rfl k) ?_
  show Go p.tables e below _ (T4w.setTop (mkF m 24 #[.val (.int p1), .val (.int p2), .val (.ref b), .unset, .unset, .unset, .unset, .unset, .unset, .unset, .unset, .unset, .unset, .unset] [(.int p1)]))
  refine own_go (fun t k => Jvm.Stand.ldcI X4w hx hown (mvT hZ (hw _ (List.mem_of_getElem? (i := 10) rfl))) rfl (hb hby at_24) k) ?_
  show Go p.tables e below _ (T4w.setTop (mkF m 26 #[.val (.int p1), .val (.int p2), .val (.ref b), .unset, .unset, .unset, .unset, .unset, .unset, .unset, .unset, .unset, .unset, .unset] [(.int (2147483647 : Int32)), (.int p1)]))
  refine own_go (fun t k => XS.iand X4w.here hx rfl (hb hby at_26) rfl k) ?_
  show Go p.tables e below _ (T4w.setTop (mkF m 27 #[.val (.int p1), .val (.int p2), .val (.ref b), .unset, .unset, .unset, .unset, .unset, .unset, .unset, .unset, .unset, .unset, .unset] [(.int (p1 &&& (2147483647 : Int32)))]))
  refine own_go (fun t k => XS.iconst X4w.here hx rfl (hb hby at_27) k) ?_
  show Go p.tables e below _ (T4w.setTop (mkF m 28 #[.val (.int p1), .val (.int p2), .val (.ref b), .unset, .unset, .unset, .unset, .unset, .unset, .unset, .unset, .unset, .unset, .unset] [(.int (3 : Int32)), (.int (p1 &&& (2147483647 : Int32)))]))
  refine own_go (fun t k => iremM (g := (mkF m 28 #[.val (.int p1), .val (.int p2), .val (.ref b), .unset, .unset, .unset, .unset, .unset, .unset, .unset, .unset, .unset, .unset, .unset] [(.int (3 : Int32)), (.int (p1 &&& (2147483647 : Int32)))])) X4w hx rfl (hb hby at_28) rfl (by decide) k) ?_
  show Go p.tables e below _ (T4w.setTop (mkF m 29 #[.val (.int p1), .val (.int p2), .val (.ref b), .unset, .unset, .unset, .unset, .unset, .unset, .unset, .unset, .unset, .unset, .unset] [(.int ((p1 &&& (2147483647 : Int32)) % (3 : Int32)))]))
  rw [q1]
  show Go p.tables e below _ (T4w.setTop (mkF m 29 #[.val (.int p1), .val (.int p2), .val (.ref b), .unset, .unset, .unset, .unset, .unset, .unset, .unset, .unset, .unset, .unset, .unset] [(.int (1 : Int32))]))
  refine own_go (fun t k => XS.istoreN X4w.here hx rfl (hb hby at_29) rfl (l' := #[.val (.int p1), .val (.int p2), .val (.ref b), .val (.int (1 : Int32)), .unset, .unset, .unset, .unset, .unset, .unset, .unset, .unset, .unset, .unset]) rfl k) ?_
  show Go p.tables e below _ (T4w.setTop (mkF m 30 #[.val (.int p1), .val (.int p2), .val (.ref b), .val (.int (1 : Int32)), .unset, .unset, .unset, .unset, .unset, .unset, .unset, .unset, .unset, .unset] []))
  refine own_go (fun t k => XS.iloadN X4w.here hx rfl (hb hby at_30) rfl k) ?_
  show Go p.tables e below _ (T4w.setTop (mkF m 31 #[.val (.int p1), .val (.int p2), .val (.ref b), .val (.int (1 : Int32)), .unset, .unset, .unset, .unset, .unset, .unset, .unset, .unset, .unset, .unset] [(.int p2)]))
  refine own_go (fun t k => Jvm.Stand.ldcI X4w hx hown (mvT hZ (hw _ (List.mem_of_getElem? (i := 10) rfl))) rfl (hb hby at_31) k) ?_
  show Go p.tables e below _ (T4w.setTop (mkF m 33 #[.val (.int p1), .val (.int p2), .val (.ref b), .val (.int (1 : Int32)), .unset, .unset, .unset, .unset, .unset, .unset, .unset, .unset, .unset, .unset] [(.int (2147483647 : Int32)), (.int p2)]))
  refine own_go (fun t k => XS.iand X4w.here hx rfl (hb hby at_33) rfl k) ?_
  show Go p.tables e below _ (T4w.setTop (mkF m 34 #[.val (.int p1), .val (.int p2), .val (.ref b), .val (.int (1 : Int32)), .unset, .unset, .unset, .unset, .unset, .unset, .unset, .unset, .unset, .unset] [(.int (p2 &&& (2147483647 : Int32)))]))
  refine own_go (fun t k => XS.iconst X4w.here hx rfl (hb hby at_34) k) ?_
  show Go p.tables e below _ (T4w.setTop (mkF m 35 #[.val (.int p1), .val (.int p2), .val (.ref b), .val (.int (1 : Int32)), .unset, .unset, .unset, .unset, .unset, .unset, .unset, .unset, .unset, .unset] [(.int (3 : Int32)), (.int (p2 &&& (2147483647 : Int32)))]))
  refine own_go (fun t k => iremM (g := (mkF m 35 #[.val (.int p1), .val (.int p2), .val (.ref b), .val (.int (1 : Int32)), .unset, .unset, .unset, .unset, .unset, .unset, .unset, .unset, .unset, .unset] [(.int (3 : Int32)), (.int (p2 &&& (2147483647 : Int32)))])) X4w hx rfl (hb hby at_35) rfl (by decide) k) ?_
  show Go p.tables e below _ (T4w.setTop (mkF m 36 #[.val (.int p1), .val (.int p2), .val (.ref b), .val (.int (1 : Int32)), .unset, .unset, .unset, .unset, .unset, .unset, .unset, .unset, .unset, .unset] [(.int ((p2 &&& (2147483647 : Int32)) % (3 : Int32)))]))
  rw [q2]
  show Go p.tables e below _ (T4w.setTop (mkF m 36 #[.val (.int p1), .val (.int p2), .val (.ref b), .val (.int (1 : Int32)), .unset, .unset, .unset, .unset, .unset, .unset, .unset, .unset, .unset, .unset] [(.int (0 : Int32))]))
  refine own_go (fun t k => XS.istore X4w.here hx rfl (hb hby at_36) rfl (l' := #[.val (.int p1), .val (.int p2), .val (.ref b), .val (.int (1 : Int32)), .val (.int (0 : Int32)), .unset, .unset, .unset, .unset, .unset, .unset, .unset, .unset, .unset]) rfl k) ?_
  show Go p.tables e below _ (T4w.setTop (mkF m 38 #[.val (.int p1), .val (.int p2), .val (.ref b), .val (.int (1 : Int32)), .val (.int (0 : Int32)), .unset, .unset, .unset, .unset, .unset, .unset, .unset, .unset, .unset] []))
  refine own_go (fun t k => XS.aloadN X4w.here hx rfl (hb hby at_38) rfl rfl k) ?_
  show Go p.tables e below _ (T4w.setTop (mkF m 39 #[.val (.int p1), .val (.int p2), .val (.ref b), .val (.int (1 : Int32)), .val (.int (0 : Int32)), .unset, .unset, .unset, .unset, .unset, .unset, .unset, .unset, .unset] [(.ref b)]))
  refine own_go (fun t k => XS.iloadN X4w.here hx rfl (hb hby at_39) rfl k) ?_
  show Go p.tables e below _ (T4w.setTop (mkF m 40 #[.val (.int p1), .val (.int p2), .val (.ref b), .val (.int (1 : Int32)), .val (.int (0 : Int32)), .unset, .unset, .unset, .unset, .unset, .unset, .unset, .unset, .unset] [(.int (1 : Int32)), (.ref b)]))
  refine own_go (fun t k => X4w.aaload hx (j := (1 : Int32)) (v := (.ref w_NO)) (by rw [e4w]; exact A4.1) (State.isArrayOf_alike hZ.alike A4.2.1) rfl A4.2.2 (by rw [sz_set, sz_set, sz_set, sz_new]; decide) rfl (g := (mkF m 40 #[.val (.int p1), .val (.int p2), .val (.ref b), .val (.int (1 : Int32)), .val (.int (0 : Int32)), .unset, .unset, .unset, .unset, .unset, .unset, .unset, .unset, .unset] [(.int (1 : Int32)), (.ref b)])) rfl rfl (hb hby at_40) t k) ?_
  show Go p.tables e below _ (T4w.setTop (mkF m 41 #[.val (.int p1), .val (.int p2), .val (.ref b), .val (.int (1 : Int32)), .val (.int (0 : Int32)), .unset, .unset, .unset, .unset, .unset, .unset, .unset, .unset, .unset] [(.ref w_NO)]))
  refine own_go (fun t k => XS.astore X4w.here hx rfl (hb hby at_41) rfl rfl (l' := #[.val (.int p1), .val (.int p2), .val (.ref b), .val (.int (1 : Int32)), .val (.int (0 : Int32)), .val (.ref w_NO), .unset, .unset, .unset, .unset, .unset, .unset, .unset, .unset]) rfl k) ?_
  show Go p.tables e below _ (T4w.setTop (mkF m 43 #[.val (.int p1), .val (.int p2), .val (.ref b), .val (.int (1 : Int32)), .val (.int (0 : Int32)), .val (.ref w_NO), .unset, .unset, .unset, .unset, .unset, .unset, .unset, .unset] []))
  refine own_go (fun t k => XS.aloadN X4w.here hx rfl (hb hby at_43) rfl rfl k) ?_
  show Go p.tables e below _ (T4w.setTop (mkF m 44 #[.val (.int p1), .val (.int p2), .val (.ref b), .val (.int (1 : Int32)), .val (.int (0 : Int32)), .val (.ref w_NO), .unset, .unset, .unset, .unset, .unset, .unset, .unset, .unset] [(.ref b)]))
  refine own_go (fun t k => XS.iload X4w.here hx rfl (hb hby at_44) rfl k) ?_
  show Go p.tables e below _ (T4w.setTop (mkF m 46 #[.val (.int p1), .val (.int p2), .val (.ref b), .val (.int (1 : Int32)), .val (.int (0 : Int32)), .val (.ref w_NO), .unset, .unset, .unset, .unset, .unset, .unset, .unset, .unset] [(.int (0 : Int32)), (.ref b)]))
  refine own_go (fun t k => X4w.aaload hx (j := (0 : Int32)) (v := (.ref w_YES)) (by rw [e4w]; exact A4.1) (State.isArrayOf_alike hZ.alike A4.2.1) rfl A4.2.2 (by rw [sz_set, sz_set, sz_set, sz_new]; decide) rfl (g := (mkF m 46 #[.val (.int p1), .val (.int p2), .val (.ref b), .val (.int (1 : Int32)), .val (.int (0 : Int32)), .val (.ref w_NO), .unset, .unset, .unset, .unset, .unset, .unset, .unset, .unset] [(.int (0 : Int32)), (.ref b)])) rfl rfl (hb hby at_46) t k) ?_
  show Go p.tables e below _ (T4w.setTop (mkF m 47 #[.val (.int p1), .val (.int p2), .val (.ref b), .val (.int (1 : Int32)), .val (.int (0 : Int32)), .val (.ref w_NO), .unset, .unset, .unset, .unset, .unset, .unset, .unset, .unset] [(.ref w_YES)]))
  refine own_go (fun t k => XS.astore X4w.here hx rfl (hb hby at_47) rfl rfl (l' := #[.val (.int p1), .val (.int p2), .val (.ref b), .val (.int (1 : Int32)), .val (.int (0 : Int32)), .val (.ref w_NO), .val (.ref w_YES), .unset, .unset, .unset, .unset, .unset, .unset, .unset]) rfl k) ?_
  show Go p.tables e below _ (T4w.setTop (mkF m 49 #[.val (.int p1), .val (.int p2), .val (.ref b), .val (.int (1 : Int32)), .val (.int (0 : Int32)), .val (.ref w_NO), .val (.ref w_YES), .unset, .unset, .unset, .unset, .unset, .unset, .unset] []))
  refine own_go (fun t k => XS.iloadN X4w.here hx rfl (hb hby at_49) rfl k) ?_
  show Go p.tables e below _ (T4w.setTop (mkF m 50 #[.val (.int p1), .val (.int p2), .val (.ref b), .val (.int (1 : Int32)), .val (.int (0 : Int32)), .val (.ref w_NO), .val (.ref w_YES), .unset, .unset, .unset, .unset, .unset, .unset, .unset] [(.int (1 : Int32))]))
  refine own_go (fun t k => XS.iconst X4w.here hx rfl (hb hby at_50) k) ?_
  show Go p.tables e below _ (T4w.setTop (mkF m 51 #[.val (.int p1), .val (.int p2), .val (.ref b), .val (.int (1 : Int32)), .val (.int (0 : Int32)), .val (.ref w_NO), .val (.ref w_YES), .unset, .unset, .unset, .unset, .unset, .unset, .unset] [(.int (2 : Int32)), (.int (1 : Int32))]))
  refine own_go (fun t k => XS.icmpYes X4w.here hx rfl (pc0 := 51) (pc' := 62) rfl (hb hby at_51) rfl (XT.ii_ne_t (by decide)) (by decide) (by decide) k) ?_
  show Go p.tables e below _ (T4w.setTop (mkF m 62 #[.val (.int p1), .val (.int p2), .val (.ref b), .val (.int (1 : Int32)), .val (.int (0 : Int32)), .val (.ref w_NO), .val (.ref w_YES), .unset, .unset, .unset, .unset, .unset, .unset, .unset] []))
  refine own_go (fun t k => XS.aloadN X4w.here hx rfl (hb hby at_62) rfl rfl k) ?_
  show Go p.tables e below _ (T4w.setTop (mkF m 63 #[.val (.int p1), .val (.int p2), .val (.ref b), .val (.int (1 : Int32)), .val (.int (0 : Int32)), .val (.ref w_NO), .val (.ref w_YES), .unset, .unset, .unset, .unset, .unset, .unset, .unset] [(.ref b)]))
  refine own_go (fun t k => XS.iconst X4w.here hx rfl (hb hby at_63) k) ?_
  show Go p.tables e below _ (T4w.setTop (mkF m 64 #[.val (.int p1), .val (.int p2), .val (.ref b), .val (.int (1 : Int32)), .val (.int (0 : Int32)), .val (.ref w_NO), .val (.ref w_YES), .unset, .unset, .unset, .unset, .unset, .unset, .unset] [(.int (1 : Int32)), (.ref b)]))
  refine own_go (fun t k => XS.iloadN X4w.here hx rfl (hb hby at_64) rfl k) ?_
  show Go p.tables e below _ (T4w.setTop (mkF m 65 #[.val (.int p1), .val (.int p2), .val (.ref b), .val (.int (1 : Int32)), .val (.int (0 : Int32)), .val (.ref w_NO), .val (.ref w_YES), .unset, .unset, .unset, .unset, .unset, .unset, .unset] [(.int (1 : Int32)), (.int (1 : Int32)), (.ref b)]))
  refine own_go (fun t k => XS.isub X4w.here hx rfl (hb hby at_65) rfl k) ?_
  show Go p.tables e below _ (T4w.setTop (mkF m 66 #[.val (.int p1), .val (.int p2), .val (.ref b), .val (.int (1 : Int32)), .val (.int (0 : Int32)), .val (.ref w_NO), .val (.ref w_YES), .unset, .unset, .unset, .unset, .unset, .unset, .unset] [(.int (0 : Int32)), (.ref b)]))
  refine own_go (fun t k => X4w.aaload hx (j := (0 : Int32)) (v := (.ref w_YES)) (by rw [e4w]; exact A4.1) (State.isArrayOf_alike hZ.alike A4.2.1) rfl A4.2.2 (by rw [sz_set, sz_set, sz_set, sz_new]; decide) rfl (g := (mkF m 66 #[.val (.int p1), .val (.int p2), .val (.ref b), .val (.int (1 : Int32)), .val (.int (0 : Int32)), .val (.ref w_NO), .val (.ref w_YES), .unset, .unset, .unset, .unset, .unset, .unset, .unset] [(.int (0 : Int32)), (.ref b)])) rfl rfl (hb hby at_66) t k) ?_
  show Go p.tables e below _ (T4w.setTop (mkF m 67 #[.val (.int p1), .val (.int p2), .val (.ref b), .val (.int (1 : Int32)), .val (.int (0 : Int32)), .val (.ref w_NO), .val (.ref w_YES), .unset, .unset, .unset, .unset, .unset, .unset, .unset] [(.ref w_YES)]))
  refine own_go (fun t k => XS.astore X4w.here hx rfl (hb hby at_67) rfl rfl (l' := #[.val (.int p1), .val (.int p2), .val (.ref b), .val (.int (1 : Int32)), .val (.int (0 : Int32)), .val (.ref w_NO), .val (.ref w_YES), .val (.ref w_YES), .unset, .unset, .unset, .unset, .unset, .unset]) rfl k) ?_
  show Go p.tables e below _ (T4w.setTop (mkF m 69 #[.val (.int p1), .val (.int p2), .val (.ref b), .val (.int (1 : Int32)), .val (.int (0 : Int32)), .val (.ref w_NO), .val (.ref w_YES), .val (.ref w_YES), .unset, .unset, .unset, .unset, .unset, .unset] []))
  refine own_go (fun t k => XS.aload X4w.here hx rfl (hb hby at_69) rfl rfl k) ?_
  show Go p.tables e below _ (T4w.setTop (mkF m 71 #[.val (.int p1), .val (.int p2), .val (.ref b), .val (.int (1 : Int32)), .val (.int (0 : Int32)), .val (.ref w_NO), .val (.ref w_YES), .val (.ref w_YES), .unset, .unset, .unset, .unset, .unset, .unset] [(.ref w_NO)]))
  obtain ⟨cq53, kq53, q53a, q53b, q53c⟩ := isOf hZ e4w EH_NO
  obtain ⟨v53, _, ⟨T53, L53, k53, n53⟩, -, X53, ⟨Lc53, hQ53, l53, y53, z53⟩, st53⟩ := X4w.virtualBack hx (y := (⟨"com/example/casewright/casewright/types/Answer", "not", "()Lcom/example/casewright/casewright/types/Answer;"⟩ : MethodName)) (z := (⟨"com/example/casewright/casewright/types/Answer", "not", "()Lcom/example/casewright/casewright/types/Answer;"⟩ : MethodName)) hown (mvT hZ (hw _ (List.mem_of_getElem? (i := 11) rfl))) (mvT hZ (hw _ (List.mem_of_getElem? (i := 12) rfl))) (notFace_of_selects (args := #[]) (mvT hZ (hw _ (List.mem_of_getElem? (i := 14) rfl)))) (mvT hZ (hw _ (List.mem_of_getElem? (i := 14) rfl))) (mvT hZ (hw _ (List.mem_of_getElem? (i := 13) rfl))) (by decide) (backOf (W := 0) (rm_not l Z a0 hw [] w_NO w_YES w_NO w_UNKNOWN h4 n0 SSh) hZ (hw _ (List.mem_of_getElem? (i := 15) rfl)) (hw _ (List.mem_of_getElem? (i := 3) rfl)) (by decide) (by decide)) q53a q53c (g := (mkF m 71 #[.val (.int p1), .val (.int p2), .val (.ref b), .val (.int (1 : Int32)), .val (.int (0 : Int32)), .val (.ref w_NO), .val (.ref w_YES), .val (.ref w_YES), .unset, .unset, .unset, .unset, .unset, .unset] [(.ref w_NO)])) rfl (by rw [hml]; rfl) (Steps.refl _) (argsL := []) (rest := []) (lenOf pd_0 rfl) rfl (by show 2 * 0 + _ ≤ _; exact Nat.le_of_eq rfl) (hb hby at_71) (fun _ _ => ⟨rfl, e4w, (by decide : 0 + 1 + 0 ≤ _), (by decide : 0 + 3 + 0 ≤ _)⟩)
  dsimp only [Pt.U, Pt.locs, Pt.cells, Pt.slots] at X53 l53 y53 z53 st53 hQ53
  subst l53 y53 z53
  obtain ⟨hv53, N53q, e53⟩ := hQ53
  rw [show ((.ref (own_not w_NO w_UNKNOWN w_YES w_NO)) : Value) = (.ref w_YES) from by simp [own_not, nUN, nYN, nYU, nUN.symm, nYN.symm, nYU.symm]] at hv53
  subst hv53
  have N53 := Fr.app N4w N53q
  refine own_go (fun t k => st53.trans k) ?_
  show Go p.tables e below _ (T53.setTop (mkF m 74 #[.val (.int p1), .val (.int p2), .val (.ref b), .val (.int (1 : Int32)), .val (.int (0 : Int32)), .val (.ref w_NO), .val (.ref w_YES), .val (.ref w_YES), .unset, .unset, .unset, .unset, .unset, .unset] [(.ref w_YES)]))
  refine own_go (fun t k => XS.astore X53.here hx rfl (hb hby at_74) rfl rfl (l' := #[.val (.int p1), .val (.int p2), .val (.ref b), .val (.int (1 : Int32)), .val (.int (0 : Int32)), .val (.ref w_NO), .val (.ref w_YES), .val (.ref w_YES), .val (.ref w_YES), .unset, .unset, .unset, .unset, .unset]) rfl k) ?_
  show Go p.tables e below _ (T53.setTop (mkF m 76 #[.val (.int p1), .val (.int p2), .val (.ref b), .val (.int (1 : Int32)), .val (.int (0 : Int32)), .val (.ref w_NO), .val (.ref w_YES), .val (.ref w_YES), .val (.ref w_YES), .unset, .unset, .unset, .unset, .unset] []))
  refine own_go (fun t k => XS.aload X53.here hx rfl (hb hby at_76) rfl rfl k) ?_
  show Go p.tables e below _ (T53.setTop (mkF m 78 #[.val (.int p1), .val (.int p2), .val (.ref b), .val (.int (1 : Int32)), .val (.int (0 : Int32)), .val (.ref w_NO), .val (.ref w_YES), .val (.ref w_YES), .val (.ref w_YES), .unset, .unset, .unset, .unset, .unset] [(.ref w_YES)]))
  obtain ⟨cq54, kq54, q54a, q54b, q54c⟩ := isOf hZ e53 EH_YES
  obtain ⟨v54, _, ⟨T54, L54, k54, n54⟩, -, X54, ⟨Lc54, hQ54, l54, y54, z54⟩, st54⟩ := X53.virtualBack hx (y := (⟨"com/example/casewright/casewright/types/Answer", "not", "()Lcom/example/casewright/casewright/types/Answer;"⟩ : MethodName)) (z := (⟨"com/example/casewright/casewright/types/Answer", "not", "()Lcom/example/casewright/casewright/types/Answer;"⟩ : MethodName)) hown (mvT hZ (hw _ (List.mem_of_getElem? (i := 11) rfl))) (mvT hZ (hw _ (List.mem_of_getElem? (i := 12) rfl))) (notFace_of_selects (args := #[]) (mvT hZ (hw _ (List.mem_of_getElem? (i := 14) rfl)))) (mvT hZ (hw _ (List.mem_of_getElem? (i := 14) rfl))) (mvT hZ (hw _ (List.mem_of_getElem? (i := 13) rfl))) (by decide) (backOf (W := 0) (rm_not l Z a0 hw [] w_YES w_YES w_NO w_UNKNOWN h4 n0 SSh) hZ (hw _ (List.mem_of_getElem? (i := 15) rfl)) (hw _ (List.mem_of_getElem? (i := 3) rfl)) (by decide) (by decide)) q54a q54c (g := (mkF m 78 #[.val (.int p1), .val (.int p2), .val (.ref b), .val (.int (1 : Int32)), .val (.int (0 : Int32)), .val (.ref w_NO), .val (.ref w_YES), .val (.ref w_YES), .val (.ref w_YES), .unset, .unset, .unset, .unset, .unset] [(.ref w_YES)])) rfl (by rw [hml]; rfl) (Steps.refl _) (argsL := []) (rest := []) (lenOf pd_0 rfl) rfl (by show 2 * 0 + _ ≤ _; exact Nat.le_of_eq rfl) (hb hby at_78) (fun _ _ => ⟨rfl, e53, (by decide : 0 + 1 + 0 ≤ _), (by decide : 0 + 3 + 0 ≤ _)⟩)
  dsimp only [Pt.U, Pt.locs, Pt.cells, Pt.slots] at X54 l54 y54 z54 st54 hQ54
  subst l54 y54 z54
  obtain ⟨hv54, N54q, e54⟩ := hQ54
  rw [show ((.ref (own_not w_NO w_UNKNOWN w_YES w_YES)) : Value) = (.ref w_NO) from by simp [own_not, nUN, nYN, nYU, nUN.symm, nYN.symm, nYU.symm]] at hv54
  subst hv54
  have N54 := Fr.app N53 N54q
  refine own_go (fun t k => st54.trans k) ?_
  show Go p.tables e below _ (T54.setTop (mkF m 81 #[.val (.int p1), .val (.int p2), .val (.ref b), .val (.int (1 : Int32)), .val (.int (0 : Int32)), .val (.ref w_NO), .val (.ref w_YES), .val (.ref w_YES), .val (.ref w_YES), .unset, .unset, .unset, .unset, .unset] [(.ref w_NO)]))
  refine own_go (fun t k => XS.astore X54.here hx rfl (hb hby at_81) rfl rfl (l' := #[.val (.int p1), .val (.int p2), .val (.ref b), .val (.int (1 : Int32)), .val (.int (0 : Int32)), .val (.ref w_NO), .val (.ref w_YES), .val (.ref w_YES), .val (.ref w_YES), .val (.ref w_NO), .unset, .unset, .unset, .unset]) rfl k) ?_
  show Go p.tables e below _ (T54.setTop (mkF m 83 #[.val (.int p1), .val (.int p2), .val (.ref b), .val (.int (1 : Int32)), .val (.int (0 : Int32)), .val (.ref w_NO), .val (.ref w_YES), .val (.ref w_YES), .val (.ref w_YES), .val (.ref w_NO), .unset, .unset, .unset, .unset] []))
  refine own_go (fun t k => XS.aload X54.here hx rfl (hb hby at_83) rfl rfl k) ?_
  show Go p.tables e below _ (T54.setTop (mkF m 85 #[.val (.int p1), .val (.int p2), .val (.ref b), .val (.int (1 : Int32)), .val (.int (0 : Int32)), .val (.ref w_NO), .val (.ref w_YES), .val (.ref w_YES), .val (.ref w_YES), .val (.ref w_NO), .unset, .unset, .unset, .unset] [(.ref w_YES)]))
  refine own_go (fun t k => XS.aload X54.here hx rfl (hb hby at_85) rfl rfl k) ?_
  show Go p.tables e below _ (T54.setTop (mkF m 87 #[.val (.int p1), .val (.int p2), .val (.ref b), .val (.int (1 : Int32)), .val (.int (0 : Int32)), .val (.ref w_NO), .val (.ref w_YES), .val (.ref w_YES), .val (.ref w_YES), .val (.ref w_NO), .unset, .unset, .unset, .unset] [(.ref w_YES), (.ref w_YES)]))
  refine own_go (fun t k => XT.acmpNo X54.here hx rfl (hb hby at_87) rfl rfl rfl (XT.aa_ne_f (congrArg Value.ref rfl)) k) ?_
  show Go p.tables e below _ (T54.setTop (mkF m 90 #[.val (.int p1), .val (.int p2), .val (.ref b), .val (.int (1 : Int32)), .val (.int (0 : Int32)), .val (.ref w_NO), .val (.ref w_YES), .val (.ref w_YES), .val (.ref w_YES), .val (.ref w_NO), .unset, .unset, .unset, .unset] []))
  refine own_go (fun t k => XS.iconst X54.here hx rfl (hb hby at_90) k) ?_
  show Go p.tables e below _ (T54.setTop (mkF m 91 #[.val (.int p1), .val (.int p2), .val (.ref b), .val (.int (1 : Int32)), .val (.int (0 : Int32)), .val (.ref w_NO), .val (.ref w_YES), .val (.ref w_YES), .val (.ref w_YES), .val (.ref w_NO), .unset, .unset, .unset, .unset] [(.int (1 : Int32))]))
  refine own_go (fun t k => XS.goto X54.here hx rfl (pc0 := 91) (pc' := 95) rfl (hb hby at_91) (by decide) (by decide) k) ?_
  show Go p.tables e below _ (T54.setTop (mkF m 95 #[.val (.int p1), .val (.int p2), .val (.ref b), .val (.int (1 : Int32)), .val (.int (0 : Int32)), .val (.ref w_NO), .val (.ref w_YES), .val (.ref w_YES), .val (.ref w_YES), .val (.ref w_NO), .unset, .unset, .unset, .unset] [(.int (1 : Int32))]))
  refine own_go (fun t k => XS.istore X54.here hx rfl (hb hby at_95) rfl (l' := #[.val (.int p1), .val (.int p2), .val (.ref b), .val (.int (1 : Int32)), .val (.int (0 : Int32)), .val (.ref w_NO), .val (.ref w_YES), .val (.ref w_YES), .val (.ref w_YES), .val (.ref w_NO), .val (.int (1 : Int32)), .unset, .unset, .unset]) rfl k) ?_
  show Go p.tables e below _ (T54.setTop (mkF m 97 #[.val (.int p1), .val (.int p2), .val (.ref b), .val (.int (1 : Int32)), .val (.int (0 : Int32)), .val (.ref w_NO), .val (.ref w_YES), .val (.ref w_YES), .val (.ref w_YES), .val (.ref w_NO), .val (.int (1 : Int32)), .unset, .unset, .unset] []))
  refine own_go (fun t k => XS.aload X54.here hx rfl (hb hby at_97) rfl rfl k) ?_
  show Go p.tables e below _ (T54.setTop (mkF m 99 #[.val (.int p1), .val (.int p2), .val (.ref b), .val (.int (1 : Int32)), .val (.int (0 : Int32)), .val (.ref w_NO), .val (.ref w_YES), .val (.ref w_YES), .val (.ref w_YES), .val (.ref w_NO), .val (.int (1 : Int32)), .unset, .unset, .unset] [(.ref w_YES)]))
  obtain ⟨cq55, kq55, q55a, q55b, q55c⟩ := isOf hZ e54 EH_YES
  obtain ⟨v55, _, ⟨T55, L55, k55, n55⟩, -, X55, ⟨Lc55, hQ55, l55, y55, z55⟩, st55⟩ := X54.virtualBack hx (y := (⟨"com/example/casewright/casewright/types/Answer", "not", "()Lcom/example/casewright/casewright/types/Answer;"⟩ : MethodName)) (z := (⟨"com/example/casewright/casewright/types/Answer", "not", "()Lcom/example/casewright/casewright/types/Answer;"⟩ : MethodName)) hown (mvT hZ (hw _ (List.mem_of_getElem? (i := 11) rfl))) (mvT hZ (hw _ (List.mem_of_getElem? (i := 12) rfl))) (notFace_of_selects (args := #[]) (mvT hZ (hw _ (List.mem_of_getElem? (i := 14) rfl)))) (mvT hZ (hw _ (List.mem_of_getElem? (i := 14) rfl))) (mvT hZ (hw _ (List.mem_of_getElem? (i := 13) rfl))) (by decide) (backOf (W := 0) (rm_not l Z a0 hw [] w_YES w_YES w_NO w_UNKNOWN h4 n0 SSh) hZ (hw _ (List.mem_of_getElem? (i := 15) rfl)) (hw _ (List.mem_of_getElem? (i := 3) rfl)) (by decide) (by decide)) q55a q55c (g := (mkF m 99 #[.val (.int p1), .val (.int p2), .val (.ref b), .val (.int (1 : Int32)), .val (.int (0 : Int32)), .val (.ref w_NO), .val (.ref w_YES), .val (.ref w_YES), .val (.ref w_YES), .val (.ref w_NO), .val (.int (1 : Int32)), .unset, .unset, .unset] [(.ref w_YES)])) rfl (by rw [hml]; rfl) (Steps.refl _) (argsL := []) (rest := []) (lenOf pd_0 rfl) rfl (by show 2 * 0 + _ ≤ _; exact Nat.le_of_eq rfl) (hb hby at_99) (fun _ _ => ⟨rfl, e54, (by decide : 0 + 1 + 0 ≤ _), (by decide : 0 + 3 + 0 ≤ _)⟩)
  dsimp only [Pt.U, Pt.locs, Pt.cells, Pt.slots] at X55 l55 y55 z55 st55 hQ55
  subst l55 y55 z55
  obtain ⟨hv55, N55q, e55⟩ := hQ55
  rw [show ((.ref (own_not w_NO w_UNKNOWN w_YES w_YES)) : Value) = (.ref w_NO) from by simp [own_not, nUN, nYN, nYU, nUN.symm, nYN.symm, nYU.symm]] at hv55
  subst hv55
  have N55 := Fr.app N54 N55q
  refine own_go (fun t k => st55.trans k) ?_
  show Go p.tables e below _ (T55.setTop (mkF m 102 #[.val (.int p1), .val (.int p2), .val (.ref b), .val (.int (1 : Int32)), .val (.int (0 : Int32)), .val (.ref w_NO), .val (.ref w_YES), .val (.ref w_YES), .val (.ref w_YES), .val (.ref w_NO), .val (.int (1 : Int32)), .unset, .unset, .unset] [(.ref w_NO)]))
  refine own_go (fun t k => XS.aload X55.here hx rfl (hb hby at_102) rfl rfl k) ?_
  show Go p.tables e below _ (T55.setTop (mkF m 104 #[.val (.int p1), .val (.int p2), .val (.ref b), .val (.int (1 : Int32)), .val (.int (0 : Int32)), .val (.ref w_NO), .val (.ref w_YES), .val (.ref w_YES), .val (.ref w_YES), .val (.ref w_NO), .val (.int (1 : Int32)), .unset, .unset, .unset] [(.ref w_NO), (.ref w_NO)]))
  refine own_go (fun t k => XT.acmpNo X55.here hx rfl (hb hby at_104) rfl rfl rfl (XT.aa_ne_f (congrArg Value.ref rfl)) k) ?_
  show Go p.tables e below _ (T55.setTop (mkF m 107 #[.val (.int p1), .val (.int p2), .val (.ref b), .val (.int (1 : Int32)), .val (.int (0 : Int32)), .val (.ref w_NO), .val (.ref w_YES), .val (.ref w_YES), .val (.ref w_YES), .val (.ref w_NO), .val (.int (1 : Int32)), .unset, .unset, .unset] []))
  refine own_go (fun t k => XS.iconst X55.here hx rfl (hb hby at_107) k) ?_
  show Go p.tables e below _ (T55.setTop (mkF m 108 #[.val (.int p1), .val (.int p2), .val (.ref b), .val (.int (1 : Int32)), .val (.int (0 : Int32)), .val (.ref w_NO), .val (.ref w_YES), .val (.ref w_YES), .val (.ref w_YES), .val (.ref w_NO), .val (.int (1 : Int32)), .unset, .unset, .unset] [(.int (1 : Int32))]))
  refine own_go (fun t k => XS.goto X55.here hx rfl (pc0 := 108) (pc' := 112) rfl (hb hby at_108) (by decide) (by decide) k) ?_
  show Go p.tables e below _ (T55.setTop (mkF m 112 #[.val (.int p1), .val (.int p2), .val (.ref b), .val (.int (1 : Int32)), .val (.int (0 : Int32)), .val (.ref w_NO), .val (.ref w_YES), .val (.ref w_YES), .val (.ref w_YES), .val (.ref w_NO), .val (.int (1 : Int32)), .unset, .unset, .unset] [(.int (1 : Int32))]))
  refine own_go (fun t k => XS.istore X55.here hx rfl (hb hby at_112) rfl (l' := #[.val (.int p1), .val (.int p2), .val (.ref b), .val (.int (1 : Int32)), .val (.int (0 : Int32)), .val (.ref w_NO), .val (.ref w_YES), .val (.ref w_YES), .val (.ref w_YES), .val (.ref w_NO), .val (.int (1 : Int32)), .val (.int (1 : Int32)), .unset, .unset]) rfl k) ?_
  show Go p.tables e below _ (T55.setTop (mkF m 114 #[.val (.int p1), .val (.int p2), .val (.ref b), .val (.int (1 : Int32)), .val (.int (0 : Int32)), .val (.ref w_NO), .val (.ref w_YES), .val (.ref w_YES), .val (.ref w_YES), .val (.ref w_NO), .val (.int (1 : Int32)), .val (.int (1 : Int32)), .unset, .unset] []))
  refine own_go (fun t k => XS.aload X55.here hx rfl (hb hby at_114) rfl rfl k) ?_
  show Go p.tables e below _ (T55.setTop (mkF m 116 #[.val (.int p1), .val (.int p2), .val (.ref b), .val (.int (1 : Int32)), .val (.int (0 : Int32)), .val (.ref w_NO), .val (.ref w_YES), .val (.ref w_YES), .val (.ref w_YES), .val (.ref w_NO), .val (.int (1 : Int32)), .val (.int (1 : Int32)), .unset, .unset] [(.ref w_NO)]))
  refine own_go (fun t k => XS.aload X55.here hx rfl (hb hby at_116) rfl rfl k) ?_
  show Go p.tables e below _ (T55.setTop (mkF m 118 #[.val (.int p1), .val (.int p2), .val (.ref b), .val (.int (1 : Int32)), .val (.int (0 : Int32)), .val (.ref w_NO), .val (.ref w_YES), .val (.ref w_YES), .val (.ref w_YES), .val (.ref w_NO), .val (.int (1 : Int32)), .val (.int (1 : Int32)), .unset, .unset] [(.ref w_YES), (.ref w_NO)]))
  obtain ⟨cq56, kq56, q56a, q56b, q56c⟩ := isOf hZ e55 EH_NO
  obtain ⟨v56, _, ⟨T56, L56, k56, n56⟩, -, X56, ⟨Lc56, hQ56, l56, y56, z56⟩, st56⟩ := X55.virtualBack hx (y := (⟨"com/example/casewright/casewright/types/Answer", "and", "(Lcom/example/casewright/casewright/types/Answer;)Lcom/example/casewright/casewright/types/Answer;"⟩ : MethodName)) (z := (⟨"com/example/casewright/casewright/types/Answer", "and", "(Lcom/example/casewright/casewright/types/Answer;)Lcom/example/casewright/casewright/types/Answer;"⟩ : MethodName)) hown (mvT hZ (hw _ (List.mem_of_getElem? (i := 18) rfl))) (mvT hZ (hw _ (List.mem_of_getElem? (i := 19) rfl))) (notFace_of_selects (args := #[]) (mvT hZ (hw _ (List.mem_of_getElem? (i := 21) rfl)))) (mvT hZ (hw _ (List.mem_of_getElem? (i := 21) rfl))) (mvT hZ (hw _ (List.mem_of_getElem? (i := 20) rfl))) (by decide) (backOf (W := 0) (rm_and l Z a0 hw [] w_NO w_YES w_YES w_NO w_UNKNOWN h4 n0 SSh) hZ (hw _ (List.mem_of_getElem? (i := 22) rfl)) (hw _ (List.mem_of_getElem? (i := 3) rfl)) (by decide) (by decide)) q56a q56c (g := (mkF m 118 #[.val (.int p1), .val (.int p2), .val (.ref b), .val (.int (1 : Int32)), .val (.int (0 : Int32)), .val (.ref w_NO), .val (.ref w_YES), .val (.ref w_YES), .val (.ref w_YES), .val (.ref w_NO), .val (.int (1 : Int32)), .val (.int (1 : Int32)), .unset, .unset] [(.ref w_YES), (.ref w_NO)])) rfl (by rw [hml]; rfl) (Steps.refl _) (argsL := [(.ref w_YES)]) (rest := []) (lenOf pd_1 rfl) rfl (by show 2 * 0 + _ ≤ _; exact Nat.le_of_eq rfl) (hb hby at_118) (fun _ _ => ⟨rfl, e55, (by decide : 0 + 1 + 0 ≤ _), (by decide : 0 + 3 + 0 ≤ _)⟩)
  dsimp only [Pt.U, Pt.locs, Pt.cells, Pt.slots] at X56 l56 y56 z56 st56 hQ56
  subst l56 y56 z56
  obtain ⟨hv56, N56q, e56⟩ := hQ56
  rw [show ((.ref (own_and w_NO w_UNKNOWN w_YES w_NO w_YES)) : Value) = (.ref w_NO) from by simp [own_and, nUN, nYN, nYU, nUN.symm, nYN.symm, nYU.symm]] at hv56
  subst hv56
  have N56 := Fr.app N55 N56q
  refine own_go (fun t k => st56.trans k) ?_
  show Go p.tables e below _ (T56.setTop (mkF m 121 #[.val (.int p1), .val (.int p2), .val (.ref b), .val (.int (1 : Int32)), .val (.int (0 : Int32)), .val (.ref w_NO), .val (.ref w_YES), .val (.ref w_YES), .val (.ref w_YES), .val (.ref w_NO), .val (.int (1 : Int32)), .val (.int (1 : Int32)), .unset, .unset] [(.ref w_NO)]))
  obtain ⟨cq57, kq57, q57a, q57b, q57c⟩ := isOf hZ e56 EH_NO
  obtain ⟨v57, _, ⟨T57, L57, k57, n57⟩, -, X57, ⟨Lc57, hQ57, l57, y57, z57⟩, st57⟩ := X56.virtualBack hx (y := (⟨"com/example/casewright/casewright/types/Answer", "not", "()Lcom/example/casewright/casewright/types/Answer;"⟩ : MethodName)) (z := (⟨"com/example/casewright/casewright/types/Answer", "not", "()Lcom/example/casewright/casewright/types/Answer;"⟩ : MethodName)) hown (mvT hZ (hw _ (List.mem_of_getElem? (i := 11) rfl))) (mvT hZ (hw _ (List.mem_of_getElem? (i := 12) rfl))) (notFace_of_selects (args := #[]) (mvT hZ (hw _ (List.mem_of_getElem? (i := 14) rfl)))) (mvT hZ (hw _ (List.mem_of_getElem? (i := 14) rfl))) (mvT hZ (hw _ (List.mem_of_getElem? (i := 13) rfl))) (by decide) (backOf (W := 0) (rm_not l Z a0 hw [] w_NO w_YES w_NO w_UNKNOWN h4 n0 SSh) hZ (hw _ (List.mem_of_getElem? (i := 15) rfl)) (hw _ (List.mem_of_getElem? (i := 3) rfl)) (by decide) (by decide)) q57a q57c (g := (mkF m 121 #[.val (.int p1), .val (.int p2), .val (.ref b), .val (.int (1 : Int32)), .val (.int (0 : Int32)), .val (.ref w_NO), .val (.ref w_YES), .val (.ref w_YES), .val (.ref w_YES), .val (.ref w_NO), .val (.int (1 : Int32)), .val (.int (1 : Int32)), .unset, .unset] [(.ref w_NO)])) rfl (by rw [hml]; rfl) (Steps.refl _) (argsL := []) (rest := []) (lenOf pd_0 rfl) rfl (by show 2 * 0 + _ ≤ _; exact Nat.le_of_eq rfl) (hb hby at_121) (fun _ _ => ⟨rfl, e56, (by decide : 0 + 1 + 0 ≤ _), (by decide : 0 + 3 + 0 ≤ _)⟩)
  dsimp only [Pt.U, Pt.locs, Pt.cells, Pt.slots] at X57 l57 y57 z57 st57 hQ57
  subst l57 y57 z57
  obtain ⟨hv57, N57q, e57⟩ := hQ57
  rw [show ((.ref (own_not w_NO w_UNKNOWN w_YES w_NO)) : Value) = (.ref w_YES) from by simp [own_not, nUN, nYN, nYU, nUN.symm, nYN.symm, nYU.symm]] at hv57
  subst hv57
  have N57 := Fr.app N56 N57q
  refine own_go (fun t k => st57.trans k) ?_
  show Go p.tables e below _ (T57.setTop (mkF m 124 #[.val (.int p1), .val (.int p2), .val (.ref b), .val (.int (1 : Int32)), .val (.int (0 : Int32)), .val (.ref w_NO), .val (.ref w_YES), .val (.ref w_YES), .val (.ref w_YES), .val (.ref w_NO), .val (.int (1 : Int32)), .val (.int (1 : Int32)), .unset, .unset] [(.ref w_YES)]))
  refine own_go (fun t k => XS.aload X57.here hx rfl (hb hby at_124) rfl rfl k) ?_
  show Go p.tables e below _ (T57.setTop (mkF m 126 #[.val (.int p1), .val (.int p2), .val (.ref b), .val (.int (1 : Int32)), .val (.int (0 : Int32)), .val (.ref w_NO), .val (.ref w_YES), .val (.ref w_YES), .val (.ref w_YES), .val (.ref w_NO), .val (.int (1 : Int32)), .val (.int (1 : Int32)), .unset, .unset] [(.ref w_YES), (.ref w_YES)]))
  refine own_go (fun t k => XS.aload X57.here hx rfl (hb hby at_126) rfl rfl k) ?_
  show Go p.tables e below _ (T57.setTop (mkF m 128 #[.val (.int p1), .val (.int p2), .val (.ref b), .val (.int (1 : Int32)), .val (.int (0 : Int32)), .val (.ref w_NO), .val (.ref w_YES), .val (.ref w_YES), .val (.ref w_YES), .val (.ref w_NO), .val (.int (1 : Int32)), .val (.int (1 : Int32)), .unset, .unset] [(.ref w_NO), (.ref w_YES), (.ref w_YES)]))
  obtain ⟨cq58, kq58, q58a, q58b, q58c⟩ := isOf hZ e57 EH_YES
  obtain ⟨v58, _, ⟨T58, L58, k58, n58⟩, -, X58, ⟨Lc58, hQ58, l58, y58, z58⟩, st58⟩ := X57.virtualBack hx (y := (⟨"com/example/casewright/casewright/types/Answer", "or", "(Lcom/example/casewright/casewright/types/Answer;)Lcom/example/casewright/casewright/types/Answer;"⟩ : MethodName)) (z := (⟨"com/example/casewright/casewright/types/Answer", "or", "(Lcom/example/casewright/casewright/types/Answer;)Lcom/example/casewright/casewright/types/Answer;"⟩ : MethodName)) hown (mvT hZ (hw _ (List.mem_of_getElem? (i := 24) rfl))) (mvT hZ (hw _ (List.mem_of_getElem? (i := 25) rfl))) (notFace_of_selects (args := #[]) (mvT hZ (hw _ (List.mem_of_getElem? (i := 27) rfl)))) (mvT hZ (hw _ (List.mem_of_getElem? (i := 27) rfl))) (mvT hZ (hw _ (List.mem_of_getElem? (i := 26) rfl))) (by decide) (backOf (W := 1) (rm_or l Z a0 hw [] w_YES w_NO w_YES w_NO w_UNKNOWN h4 n0 SSh) hZ (hw _ (List.mem_of_getElem? (i := 28) rfl)) (hw _ (List.mem_of_getElem? (i := 3) rfl)) (by decide) (by decide)) q58a q58c (g := (mkF m 128 #[.val (.int p1), .val (.int p2), .val (.ref b), .val (.int (1 : Int32)), .val (.int (0 : Int32)), .val (.ref w_NO), .val (.ref w_YES), .val (.ref w_YES), .val (.ref w_YES), .val (.ref w_NO), .val (.int (1 : Int32)), .val (.int (1 : Int32)), .unset, .unset] [(.ref w_NO), (.ref w_YES), (.ref w_YES)])) rfl (by rw [hml]; rfl) (Steps.refl _) (argsL := [(.ref w_NO)]) (rest := [(.ref w_YES)]) (lenOf pd_1 rfl) rfl (by show 2 * 0 + _ ≤ _; exact Nat.le_of_eq rfl) (hb hby at_128) (fun _ _ => ⟨rfl, e57, (by decide : 0 + 1 + 0 ≤ _), (by decide : 0 + 3 + 0 ≤ _)⟩)
  dsimp only [Pt.U, Pt.locs, Pt.cells, Pt.slots] at X58 l58 y58 z58 st58 hQ58
  subst l58 y58 z58
  obtain ⟨hv58, N58q, e58⟩ := hQ58
  rw [show ((.ref (own_or w_NO w_UNKNOWN w_YES w_YES w_NO)) : Value) = (.ref w_YES) from by simp [own_or, nUN, nYN, nYU, nUN.symm, nYN.symm, nYU.symm]] at hv58
  subst hv58
  have N58 := Fr.app N57 N58q
  refine own_go (fun t k => st58.trans k) ?_
  show Go p.tables e below _ (T58.setTop (mkF m 131 #[.val (.int p1), .val (.int p2), .val (.ref b), .val (.int (1 : Int32)), .val (.int (0 : Int32)), .val (.ref w_NO), .val (.ref w_YES), .val (.ref w_YES), .val (.ref w_YES), .val (.ref w_NO), .val (.int (1 : Int32)), .val (.int (1 : Int32)), .unset, .unset] [(.ref w_YES), (.ref w_YES)]))
  refine own_go (fun t k => XT.acmpNo X58.here hx rfl (hb hby at_131) rfl rfl rfl (XT.aa_ne_f (congrArg Value.ref rfl)) k) ?_
  show Go p.tables e below _ (T58.setTop (mkF m 134 #[.val (.int p1), .val (.int p2), .val (.ref b), .val (.int (1 : Int32)), .val (.int (0 : Int32)), .val (.ref w_NO), .val (.ref w_YES), .val (.ref w_YES), .val (.ref w_YES), .val (.ref w_NO), .val (.int (1 : Int32)), .val (.int (1 : Int32)), .unset, .unset] []))
  refine own_go (fun t k => XS.iconst X58.here hx rfl (hb hby at_134) k) ?_
  show Go p.tables e below _ (T58.setTop (mkF m 135 #[.val (.int p1), .val (.int p2), .val (.ref b), .val (.int (1 : Int32)), .val (.int (0 : Int32)), .val (.ref w_NO), .val (.ref w_YES), .val (.ref w_YES), .val (.ref w_YES), .val (.ref w_NO), .val (.int (1 : Int32)), .val (.int (1 : Int32)), .unset, .unset] [(.int (1 : Int32))]))
  refine own_go (fun t k => XS.goto X58.here hx rfl (pc0 := 135) (pc' := 139) rfl (hb hby at_135) (by decide) (by decide) k) ?_
  show Go p.tables e below _ (T58.setTop (mkF m 139 #[.val (.int p1), .val (.int p2), .val (.ref b), .val (.int (1 : Int32)), .val (.int (0 : Int32)), .val (.ref w_NO), .val (.ref w_YES), .val (.ref w_YES), .val (.ref w_YES), .val (.ref w_NO), .val (.int (1 : Int32)), .val (.int (1 : Int32)), .unset, .unset] [(.int (1 : Int32))]))
  refine own_go (fun t k => XS.istore X58.here hx rfl (hb hby at_139) rfl (l' := #[.val (.int p1), .val (.int p2), .val (.ref b), .val (.int (1 : Int32)), .val (.int (0 : Int32)), .val (.ref w_NO), .val (.ref w_YES), .val (.ref w_YES), .val (.ref w_YES), .val (.ref w_NO), .val (.int (1 : Int32)), .val (.int (1 : Int32)), .val (.int (1 : Int32)), .unset]) rfl k) ?_
  show Go p.tables e below _ (T58.setTop (mkF m 141 #[.val (.int p1), .val (.int p2), .val (.ref b), .val (.int (1 : Int32)), .val (.int (0 : Int32)), .val (.ref w_NO), .val (.ref w_YES), .val (.ref w_YES), .val (.ref w_YES), .val (.ref w_NO), .val (.int (1 : Int32)), .val (.int (1 : Int32)), .val (.int (1 : Int32)), .unset] []))
  refine own_go (fun t k => XS.aload X58.here hx rfl (hb hby at_141) rfl rfl k) ?_
  show Go p.tables e below _ (T58.setTop (mkF m 143 #[.val (.int p1), .val (.int p2), .val (.ref b), .val (.int (1 : Int32)), .val (.int (0 : Int32)), .val (.ref w_NO), .val (.ref w_YES), .val (.ref w_YES), .val (.ref w_YES), .val (.ref w_NO), .val (.int (1 : Int32)), .val (.int (1 : Int32)), .val (.int (1 : Int32)), .unset] [(.ref w_NO)]))
  refine own_go (fun t k => XS.aload X58.here hx rfl (hb hby at_143) rfl rfl k) ?_
  show Go p.tables e below _ (T58.setTop (mkF m 145 #[.val (.int p1), .val (.int p2), .val (.ref b), .val (.int (1 : Int32)), .val (.int (0 : Int32)), .val (.ref w_NO), .val (.ref w_YES), .val (.ref w_YES), .val (.ref w_YES), .val (.ref w_NO), .val (.int (1 : Int32)), .val (.int (1 : Int32)), .val (.int (1 : Int32)), .unset] [(.ref w_YES), (.ref w_NO)]))
  obtain ⟨cq59, kq59, q59a, q59b, q59c⟩ := isOf hZ e58 EH_NO
  obtain ⟨v59, _, ⟨T59, L59, k59, n59⟩, -, X59, ⟨Lc59, hQ59, l59, y59, z59⟩, st59⟩ := X58.virtualBack hx (y := (⟨"com/example/casewright/casewright/types/Answer", "or", "(Lcom/example/casewright/casewright/types/Answer;)Lcom/example/casewright/casewright/types/Answer;"⟩ : MethodName)) (z := (⟨"com/example/casewright/casewright/types/Answer", "or", "(Lcom/example/casewright/casewright/types/Answer;)Lcom/example/casewright/casewright/types/Answer;"⟩ : MethodName)) hown (mvT hZ (hw _ (List.mem_of_getElem? (i := 24) rfl))) (mvT hZ (hw _ (List.mem_of_getElem? (i := 25) rfl))) (notFace_of_selects (args := #[]) (mvT hZ (hw _ (List.mem_of_getElem? (i := 27) rfl)))) (mvT hZ (hw _ (List.mem_of_getElem? (i := 27) rfl))) (mvT hZ (hw _ (List.mem_of_getElem? (i := 26) rfl))) (by decide) (backOf (W := 0) (rm_or l Z a0 hw [] w_NO w_YES w_YES w_NO w_UNKNOWN h4 n0 SSh) hZ (hw _ (List.mem_of_getElem? (i := 28) rfl)) (hw _ (List.mem_of_getElem? (i := 3) rfl)) (by decide) (by decide)) q59a q59c (g := (mkF m 145 #[.val (.int p1), .val (.int p2), .val (.ref b), .val (.int (1 : Int32)), .val (.int (0 : Int32)), .val (.ref w_NO), .val (.ref w_YES), .val (.ref w_YES), .val (.ref w_YES), .val (.ref w_NO), .val (.int (1 : Int32)), .val (.int (1 : Int32)), .val (.int (1 : Int32)), .unset] [(.ref w_YES), (.ref w_NO)])) rfl (by rw [hml]; rfl) (Steps.refl _) (argsL := [(.ref w_YES)]) (rest := []) (lenOf pd_1 rfl) rfl (by show 2 * 0 + _ ≤ _; exact Nat.le_of_eq rfl) (hb hby at_145) (fun _ _ => ⟨rfl, e58, (by decide : 0 + 1 + 0 ≤ _), (by decide : 0 + 3 + 0 ≤ _)⟩)
  dsimp only [Pt.U, Pt.locs, Pt.cells, Pt.slots] at X59 l59 y59 z59 st59 hQ59
  subst l59 y59 z59
  obtain ⟨hv59, N59q, e59⟩ := hQ59
  rw [show ((.ref (own_or w_NO w_UNKNOWN w_YES w_NO w_YES)) : Value) = (.ref w_YES) from by simp [own_or, nUN, nYN, nYU, nUN.symm, nYN.symm, nYU.symm]] at hv59
  subst hv59
  have N59 := Fr.app N58 N59q
  refine own_go (fun t k => st59.trans k) ?_
  show Go p.tables e below _ (T59.setTop (mkF m 148 #[.val (.int p1), .val (.int p2), .val (.ref b), .val (.int (1 : Int32)), .val (.int (0 : Int32)), .val (.ref w_NO), .val (.ref w_YES), .val (.ref w_YES), .val (.ref w_YES), .val (.ref w_NO), .val (.int (1 : Int32)), .val (.int (1 : Int32)), .val (.int (1 : Int32)), .unset] [(.ref w_YES)]))
  obtain ⟨cq60, kq60, q60a, q60b, q60c⟩ := isOf hZ e59 EH_YES
  obtain ⟨v60, _, ⟨T60, L60, k60, n60⟩, -, X60, ⟨Lc60, hQ60, l60, y60, z60⟩, st60⟩ := X59.virtualBack hx (y := (⟨"com/example/casewright/casewright/types/Answer", "not", "()Lcom/example/casewright/casewright/types/Answer;"⟩ : MethodName)) (z := (⟨"com/example/casewright/casewright/types/Answer", "not", "()Lcom/example/casewright/casewright/types/Answer;"⟩ : MethodName)) hown (mvT hZ (hw _ (List.mem_of_getElem? (i := 11) rfl))) (mvT hZ (hw _ (List.mem_of_getElem? (i := 12) rfl))) (notFace_of_selects (args := #[]) (mvT hZ (hw _ (List.mem_of_getElem? (i := 14) rfl)))) (mvT hZ (hw _ (List.mem_of_getElem? (i := 14) rfl))) (mvT hZ (hw _ (List.mem_of_getElem? (i := 13) rfl))) (by decide) (backOf (W := 0) (rm_not l Z a0 hw [] w_YES w_YES w_NO w_UNKNOWN h4 n0 SSh) hZ (hw _ (List.mem_of_getElem? (i := 15) rfl)) (hw _ (List.mem_of_getElem? (i := 3) rfl)) (by decide) (by decide)) q60a q60c (g := (mkF m 148 #[.val (.int p1), .val (.int p2), .val (.ref b), .val (.int (1 : Int32)), .val (.int (0 : Int32)), .val (.ref w_NO), .val (.ref w_YES), .val (.ref w_YES), .val (.ref w_YES), .val (.ref w_NO), .val (.int (1 : Int32)), .val (.int (1 : Int32)), .val (.int (1 : Int32)), .unset] [(.ref w_YES)])) rfl (by rw [hml]; rfl) (Steps.refl _) (argsL := []) (rest := []) (lenOf pd_0 rfl) rfl (by show 2 * 0 + _ ≤ _; exact Nat.le_of_eq rfl) (hb hby at_148) (fun _ _ => ⟨rfl, e59, (by decide : 0 + 1 + 0 ≤ _), (by decide : 0 + 3 + 0 ≤ _)⟩)
  dsimp only [Pt.U, Pt.locs, Pt.cells, Pt.slots] at X60 l60 y60 z60 st60 hQ60
  subst l60 y60 z60
  obtain ⟨hv60, N60q, e60⟩ := hQ60
  rw [show ((.ref (own_not w_NO w_UNKNOWN w_YES w_YES)) : Value) = (.ref w_NO) from by simp [own_not, nUN, nYN, nYU, nUN.symm, nYN.symm, nYU.symm]] at hv60
  subst hv60
  have N60 := Fr.app N59 N60q
  refine own_go (fun t k => st60.trans k) ?_
  show Go p.tables e below _ (T60.setTop (mkF m 151 #[.val (.int p1), .val (.int p2), .val (.ref b), .val (.int (1 : Int32)), .val (.int (0 : Int32)), .val (.ref w_NO), .val (.ref w_YES), .val (.ref w_YES), .val (.ref w_YES), .val (.ref w_NO), .val (.int (1 : Int32)), .val (.int (1 : Int32)), .val (.int (1 : Int32)), .unset] [(.ref w_NO)]))
  refine own_go (fun t k => XS.aload X60.here hx rfl (hb hby at_151) rfl rfl k) ?_
  show Go p.tables e below _ (T60.setTop (mkF m 153 #[.val (.int p1), .val (.int p2), .val (.ref b), .val (.int (1 : Int32)), .val (.int (0 : Int32)), .val (.ref w_NO), .val (.ref w_YES), .val (.ref w_YES), .val (.ref w_YES), .val (.ref w_NO), .val (.int (1 : Int32)), .val (.int (1 : Int32)), .val (.int (1 : Int32)), .unset] [(.ref w_YES), (.ref w_NO)]))
  refine own_go (fun t k => XS.aload X60.here hx rfl (hb hby at_153) rfl rfl k) ?_
  show Go p.tables e below _ (T60.setTop (mkF m 155 #[.val (.int p1), .val (.int p2), .val (.ref b), .val (.int (1 : Int32)), .val (.int (0 : Int32)), .val (.ref w_NO), .val (.ref w_YES), .val (.ref w_YES), .val (.ref w_YES), .val (.ref w_NO), .val (.int (1 : Int32)), .val (.int (1 : Int32)), .val (.int (1 : Int32)), .unset] [(.ref w_NO), (.ref w_YES), (.ref w_NO)]))
  obtain ⟨cq61, kq61, q61a, q61b, q61c⟩ := isOf hZ e60 EH_YES
  obtain ⟨v61, _, ⟨T61, L61, k61, n61⟩, -, X61, ⟨Lc61, hQ61, l61, y61, z61⟩, st61⟩ := X60.virtualBack hx (y := (⟨"com/example/casewright/casewright/types/Answer", "and", "(Lcom/example/casewright/casewright/types/Answer;)Lcom/example/casewright/casewright/types/Answer;"⟩ : MethodName)) (z := (⟨"com/example/casewright/casewright/types/Answer", "and", "(Lcom/example/casewright/casewright/types/Answer;)Lcom/example/casewright/casewright/types/Answer;"⟩ : MethodName)) hown (mvT hZ (hw _ (List.mem_of_getElem? (i := 18) rfl))) (mvT hZ (hw _ (List.mem_of_getElem? (i := 19) rfl))) (notFace_of_selects (args := #[]) (mvT hZ (hw _ (List.mem_of_getElem? (i := 21) rfl)))) (mvT hZ (hw _ (List.mem_of_getElem? (i := 21) rfl))) (mvT hZ (hw _ (List.mem_of_getElem? (i := 20) rfl))) (by decide) (backOf (W := 1) (rm_and l Z a0 hw [] w_YES w_NO w_YES w_NO w_UNKNOWN h4 n0 SSh) hZ (hw _ (List.mem_of_getElem? (i := 22) rfl)) (hw _ (List.mem_of_getElem? (i := 3) rfl)) (by decide) (by decide)) q61a q61c (g := (mkF m 155 #[.val (.int p1), .val (.int p2), .val (.ref b), .val (.int (1 : Int32)), .val (.int (0 : Int32)), .val (.ref w_NO), .val (.ref w_YES), .val (.ref w_YES), .val (.ref w_YES), .val (.ref w_NO), .val (.int (1 : Int32)), .val (.int (1 : Int32)), .val (.int (1 : Int32)), .unset] [(.ref w_NO), (.ref w_YES), (.ref w_NO)])) rfl (by rw [hml]; rfl) (Steps.refl _) (argsL := [(.ref w_NO)]) (rest := [(.ref w_NO)]) (lenOf pd_1 rfl) rfl (by show 2 * 0 + _ ≤ _; exact Nat.le_of_eq rfl) (hb hby at_155) (fun _ _ => ⟨rfl, e60, (by decide : 0 + 1 + 0 ≤ _), (by decide : 0 + 3 + 0 ≤ _)⟩)
  dsimp only [Pt.U, Pt.locs, Pt.cells, Pt.slots] at X61 l61 y61 z61 st61 hQ61
  subst l61 y61 z61
  obtain ⟨hv61, N61q, e61⟩ := hQ61
  rw [show ((.ref (own_and w_NO w_UNKNOWN w_YES w_YES w_NO)) : Value) = (.ref w_NO) from by simp [own_and, nUN, nYN, nYU, nUN.symm, nYN.symm, nYU.symm]] at hv61
  subst hv61
  have N61 := Fr.app N60 N61q
  refine own_go (fun t k => st61.trans k) ?_
  show Go p.tables e below _ (T61.setTop (mkF m 158 #[.val (.int p1), .val (.int p2), .val (.ref b), .val (.int (1 : Int32)), .val (.int (0 : Int32)), .val (.ref w_NO), .val (.ref w_YES), .val (.ref w_YES), .val (.ref w_YES), .val (.ref w_NO), .val (.int (1 : Int32)), .val (.int (1 : Int32)), .val (.int (1 : Int32)), .unset] [(.ref w_NO), (.ref w_NO)]))
  refine own_go (fun t k => XT.acmpNo X61.here hx rfl (hb hby at_158) rfl rfl rfl (XT.aa_ne_f (congrArg Value.ref rfl)) k) ?_
  show Go p.tables e below _ (T61.setTop (mkF m 161 #[.val (.int p1), .val (.int p2), .val (.ref b), .val (.int (1 : Int32)), .val (.int (0 : Int32)), .val (.ref w_NO), .val (.ref w_YES), .val (.ref w_YES), .val (.ref w_YES), .val (.ref w_NO), .val (.int (1 : Int32)), .val (.int (1 : Int32)), .val (.int (1 : Int32)), .unset] []))
  refine own_go (fun t k => XS.iconst X61.here hx rfl (hb hby at_161) k) ?_
  show Go p.tables e below _ (T61.setTop (mkF m 162 #[.val (.int p1), .val (.int p2), .val (.ref b), .val (.int (1 : Int32)), .val (.int (0 : Int32)), .val (.ref w_NO), .val (.ref w_YES), .val (.ref w_YES), .val (.ref w_YES), .val (.ref w_NO), .val (.int (1 : Int32)), .val (.int (1 : Int32)), .val (.int (1 : Int32)), .unset] [(.int (1 : Int32))]))
  refine own_go (fun t k => XS.goto X61.here hx rfl (pc0 := 162) (pc' := 166) rfl (hb hby at_162) (by decide) (by decide) k) ?_
  show Go p.tables e below _ (T61.setTop (mkF m 166 #[.val (.int p1), .val (.int p2), .val (.ref b), .val (.int (1 : Int32)), .val (.int (0 : Int32)), .val (.ref w_NO), .val (.ref w_YES), .val (.ref w_YES), .val (.ref w_YES), .val (.ref w_NO), .val (.int (1 : Int32)), .val (.int (1 : Int32)), .val (.int (1 : Int32)), .unset] [(.int (1 : Int32))]))
  refine own_go (fun t k => XS.istore X61.here hx rfl (hb hby at_166) rfl (l' := #[.val (.int p1), .val (.int p2), .val (.ref b), .val (.int (1 : Int32)), .val (.int (0 : Int32)), .val (.ref w_NO), .val (.ref w_YES), .val (.ref w_YES), .val (.ref w_YES), .val (.ref w_NO), .val (.int (1 : Int32)), .val (.int (1 : Int32)), .val (.int (1 : Int32)), .val (.int (1 : Int32))]) rfl k) ?_
  show Go p.tables e below _ (T61.setTop (mkF m 168 #[.val (.int p1), .val (.int p2), .val (.ref b), .val (.int (1 : Int32)), .val (.int (0 : Int32)), .val (.ref w_NO), .val (.ref w_YES), .val (.ref w_YES), .val (.ref w_YES), .val (.ref w_NO), .val (.int (1 : Int32)), .val (.int (1 : Int32)), .val (.int (1 : Int32)), .val (.int (1 : Int32))] []))
  refine own_go (fun t k => XS.iload X61.here hx rfl (hb hby at_168) rfl k) ?_
  show Go p.tables e below _ (T61.setTop (mkF m 170 #[.val (.int p1), .val (.int p2), .val (.ref b), .val (.int (1 : Int32)), .val (.int (0 : Int32)), .val (.ref w_NO), .val (.ref w_YES), .val (.ref w_YES), .val (.ref w_YES), .val (.ref w_NO), .val (.int (1 : Int32)), .val (.int (1 : Int32)), .val (.int (1 : Int32)), .val (.int (1 : Int32))] [(.int (1 : Int32))]))
  refine own_go (fun t k => XS.ifNo X61.here hx rfl (hb hby at_170) rfl (XT.i0_eq_f (by decide)) k) ?_
  show Go p.tables e below _ (T61.setTop (mkF m 173 #[.val (.int p1), .val (.int p2), .val (.ref b), .val (.int (1 : Int32)), .val (.int (0 : Int32)), .val (.ref w_NO), .val (.ref w_YES), .val (.ref w_YES), .val (.ref w_YES), .val (.ref w_NO), .val (.int (1 : Int32)), .val (.int (1 : Int32)), .val (.int (1 : Int32)), .val (.int (1 : Int32))] []))
  refine own_go (fun t k => XS.iload X61.here hx rfl (hb hby at_173) rfl k) ?_
  show Go p.tables e below _ (T61.setTop (mkF m 175 #[.val (.int p1), .val (.int p2), .val (.ref b), .val (.int (1 : Int32)), .val (.int (0 : Int32)), .val (.ref w_NO), .val (.ref w_YES), .val (.ref w_YES), .val (.ref w_YES), .val (.ref w_NO), .val (.int (1 : Int32)), .val (.int (1 : Int32)), .val (.int (1 : Int32)), .val (.int (1 : Int32))] [(.int (1 : Int32))]))
  refine own_go (fun t k => XS.ifNo X61.here hx rfl (hb hby at_175) rfl (XT.i0_eq_f (by decide)) k) ?_
  show Go p.tables e below _ (T61.setTop (mkF m 178 #[.val (.int p1), .val (.int p2), .val (.ref b), .val (.int (1 : Int32)), .val (.int (0 : Int32)), .val (.ref w_NO), .val (.ref w_YES), .val (.ref w_YES), .val (.ref w_YES), .val (.ref w_NO), .val (.int (1 : Int32)), .val (.int (1 : Int32)), .val (.int (1 : Int32)), .val (.int (1 : Int32))] []))
  refine own_go (fun t k => XS.iload X61.here hx rfl (hb hby at_178) rfl k) ?_
  show Go p.tables e below _ (T61.setTop (mkF m 180 #[.val (.int p1), .val (.int p2), .val (.ref b), .val (.int (1 : Int32)), .val (.int (0 : Int32)), .val (.ref w_NO), .val (.ref w_YES), .val (.ref w_YES), .val (.ref w_YES), .val (.ref w_NO), .val (.int (1 : Int32)), .val (.int (1 : Int32)), .val (.int (1 : Int32)), .val (.int (1 : Int32))] [(.int (1 : Int32))]))
  refine own_go (fun t k => XS.ifNo X61.here hx rfl (hb hby at_180) rfl (XT.i0_eq_f (by decide)) k) ?_
  show Go p.tables e below _ (T61.setTop (mkF m 183 #[.val (.int p1), .val (.int p2), .val (.ref b), .val (.int (1 : Int32)), .val (.int (0 : Int32)), .val (.ref w_NO), .val (.ref w_YES), .val (.ref w_YES), .val (.ref w_YES), .val (.ref w_NO), .val (.int (1 : Int32)), .val (.int (1 : Int32)), .val (.int (1 : Int32)), .val (.int (1 : Int32))] []))
  refine own_go (fun t k => XS.iload X61.here hx rfl (hb hby at_183) rfl k) ?_
  show Go p.tables e below _ (T61.setTop (mkF m 185 #[.val (.int p1), .val (.int p2), .val (.ref b), .val (.int (1 : Int32)), .val (.int (0 : Int32)), .val (.ref w_NO), .val (.ref w_YES), .val (.ref w_YES), .val (.ref w_YES), .val (.ref w_NO), .val (.int (1 : Int32)), .val (.int (1 : Int32)), .val (.int (1 : Int32)), .val (.int (1 : Int32))] [(.int (1 : Int32))]))
  refine own_go (fun t k => XS.ifNo X61.here hx rfl (hb hby at_185) rfl (XT.i0_eq_f (by decide)) k) ?_
  show Go p.tables e below _ (T61.setTop (mkF m 188 #[.val (.int p1), .val (.int p2), .val (.ref b), .val (.int (1 : Int32)), .val (.int (0 : Int32)), .val (.ref w_NO), .val (.ref w_YES), .val (.ref w_YES), .val (.ref w_YES), .val (.ref w_NO), .val (.int (1 : Int32)), .val (.int (1 : Int32)), .val (.int (1 : Int32)), .val (.int (1 : Int32))] []))
  refine own_go (fun t k => XS.iconst X61.here hx rfl (hb hby at_188) k) ?_
  show Go p.tables e below _ (T61.setTop (mkF m 189 #[.val (.int p1), .val (.int p2), .val (.ref b), .val (.int (1 : Int32)), .val (.int (0 : Int32)), .val (.ref w_NO), .val (.ref w_YES), .val (.ref w_YES), .val (.ref w_YES), .val (.ref w_NO), .val (.int (1 : Int32)), .val (.int (1 : Int32)), .val (.int (1 : Int32)), .val (.int (1 : Int32))] [(.int (1 : Int32))]))
  refine own_go (fun t k => XS.goto X61.here hx rfl (pc0 := 189) (pc' := 193) rfl (hb hby at_189) (by decide) (by decide) k) ?_
  show Go p.tables e below _ (T61.setTop (mkF m 193 #[.val (.int p1), .val (.int p2), .val (.ref b), .val (.int (1 : Int32)), .val (.int (0 : Int32)), .val (.ref w_NO), .val (.ref w_YES), .val (.ref w_YES), .val (.ref w_YES), .val (.ref w_NO), .val (.int (1 : Int32)), .val (.int (1 : Int32)), .val (.int (1 : Int32)), .val (.int (1 : Int32))] [(.int (1 : Int32))]))
  exact own_ret X61 hx hlk Bd.returns rfl (Or.inl ⟨rfl, Or.inr (Or.inl rfl), _, rfl⟩) (hb hby at_193) ⟨rfl, N61⟩ (by decide) (by decide)
theorem ef_rm_law_11 (m : MethodId) (x0 : Int32) (x1 : Int32) : entryFrame m #[(.int x0), (.int x1)] maxLocals = mkF m 0 #[.val (.int x0), .val (.int x1), .unset, .unset, .unset, .unset, .unset, .unset, .unset, .unset, .unset, .unset, .unset, .unset] [] := by first | (simp [entryFrame, mkF, argsToLocals, Value.category, maxLocals]; done) | rfl
set_option maxRecDepth 65536 in
set_option maxHeartbeats 40000000 in
theorem rm_law_11 (l : Launch) (Z : State) (a0 : Array Value) (hw : ∀ d ∈ tables_1, d.before a0 Z = true) (ws : List Jvm.Cond) (p1 p2 : Int32) (w_YES w_NO w_UNKNOWN : Addr) (h0 : Heap) (n0 : Nat) (SS : own_S Z h0 w_YES w_NO w_UNKNOWN) (EE : own_E Z h0 w_YES w_NO w_UNKNOWN) (OO : own_O Z h0 w_YES w_NO w_UNKNOWN) (Z0 : n0 ≤ h0.size) (q1 : (p1 &&& 2147483647) % 3 = 1) (q2 : (p2 &&& 2147483647) % 3 = 1) :
    MetFree l x (head1 (Jvm.Cond.code x code maxLocals ret :: ws) room_1) (fun aa U => aa = #[(.int p1), (.int p2)] ∧ Z.Warmed39 U.vm ∧ U.heap = h0) (fun _ _ _ _ _ => True) (fun _ U o U' => ∃ v L, o = .returned v ∧ LQ n0 v U'.heap L ∧ FrameEnd U o U' L room_1.cells room_1.slots) := by
  refine MetFree.of_bodySF (plainFor_of_name pn_1) hisR ?_
  intro p e s m args below meth c s₁ Bd hml0 hP hK
  obtain ⟨rfl, hZ, hh⟩ := hP
  have hx := Bd.exec
  have hby := Bd.bytes
  have hlk := Bd.notSynchronized
  have hml : c.maxLocals = 14 := hml0
  have hown : s.vm.findClass "com/example/casewright/casewright/types/AnswerNotPinLaw" = some m.cls := findClass_of_methodNamed Bd.named
  have X0 : Stand p l e room_1 s m #[(.int p1), (.int p2)] below meth c s₁ [] 0 0 := Stand.of_body Bd
  have e0 : s₁.heap = h0 := by rw [← hh, Bd.state]; rfl
  have N0 := Fr.nil n0
  have SS' := SS
  obtain ⟨S_YES, S_NO, S_UNKNOWN⟩ := SS'
  obtain ⟨E_YES, E_NO, E_UNKNOWN⟩ := EE
  obtain ⟨F_NO_ordinal, F_YES_ordinal, F_UNKNOWN_ordinal⟩ := OO
  have nUN : w_UNKNOWN ≠ w_NO := (own_ne F_UNKNOWN_ordinal F_NO_ordinal (by decide))
  have nYN : w_YES ≠ w_NO := (own_ne F_YES_ordinal F_NO_ordinal (by decide))
  have nYU : w_YES ≠ w_UNKNOWN := (own_ne F_YES_ordinal F_UNKNOWN_ordinal (by decide))
  show Go p.tables e below (Fin s below (LQ n0) room_1.cells room_1.slots) (s₁.setTop (entryFrame m #[(.int p1), (.int p2)] maxLocals))
  refine own_go (fun t k => castTop (ef_rm_law_11 m p1 p2) k) ?_
  show Go p.tables e below _ (s₁.setTop (mkF m 0 #[.val (.int p1), .val (.int p2), .unset, .unset, .unset, .unset, .unset, .unset, .unset, .unset, .unset, .unset, .unset, .unset] []))
  refine own_go (fun t k => XS.iconst X0.here hx rfl (hb hby at_0) k) ?_
  show Go p.tables e below _ (s₁.setTop (mkF m 1 #[.val (.int p1), .val (.int p2), .unset, .unset, .unset, .unset, .unset, .unset, .unset, .unset, .unset, .unset, .unset, .unset] [(.int (3 : Int32))]))
  obtain ⟨T1, h1, kA, X1, e1, Ex1, A1, O1, st1⟩ := newR X0 hx hZ hown (hw _ (List.mem_of_getElem? (i := 0) rfl)) (hw _ (List.mem_of_getElem? (i := 1) rfl)) e0 (g := (mkF m 1 #[.val (.int p1), .val (.int p2), .unset, .unset, .unset, .unset, .unset, .unset, .unset, .unset, .unset, .unset, .unset, .unset] [(.int (3 : Int32))])) rfl (hb hby at_1) rfl (by decide) (cap := 3) (by decide) (by decide) (by decide) (by decide)
  obtain ⟨b, gb⟩ : ∃ z, z = h0.size := ⟨_, rfl⟩
  rw [← gb] at A1 st1
  have hb0 : n0 ≤ b := Nat.le_trans Z0 (Nat.le_of_eq gb.symm)
  have S1_YES := S_YES.ext Ex1
  have E1_YES := E_YES.ext Ex1
  have S1_NO := S_NO.ext Ex1
  have E1_NO := E_NO.ext Ex1
  have S1_UNKNOWN := S_UNKNOWN.ext Ex1
  have E1_UNKNOWN := E_UNKNOWN.ext Ex1
  refine own_go (fun t k => st1 t k) ?_
  show Go p.tables e below _ (T1.setTop (mkF m 4 #[.val (.int p1), .val (.int p2), .unset, .unset, .unset, .unset, .unset, .unset, .unset, .unset, .unset, .unset, .unset, .unset] [(.ref b)]))
  refine own_go (fun t k => XS.dup X1.here hx rfl (hb hby at_4) rfl rfl k) ?_
  show Go p.tables e below _ (T1.setTop (mkF m 5 #[.val (.int p1), .val (.int p2), .unset, .unset, .unset, .unset, .unset, .unset, .unset, .unset, .unset, .unset, .unset, .unset] [(.ref b), (.ref b)]))
  refine own_go (fun t k => XS.iconst X1.here hx rfl (hb hby at_5) k) ?_
  show Go p.tables e below _ (T1.setTop (mkF m 6 #[.val (.int p1), .val (.int p2), .unset, .unset, .unset, .unset, .unset, .unset, .unset, .unset, .unset, .unset, .unset, .unset] [(.int (0 : Int32)), (.ref b), (.ref b)]))
  obtain ⟨T11, X11, e11, st11⟩ := getS2 X1 hx hZ hown (host := "") (Or.inl (hw _ (List.mem_of_getElem? (i := 2) rfl))) Via.refl e1 S1_YES (g := (mkF m 6 #[.val (.int p1), .val (.int p2), .unset, .unset, .unset, .unset, .unset, .unset, .unset, .unset, .unset, .unset, .unset, .unset] [(.int (0 : Int32)), (.ref b), (.ref b)])) rfl (hb hby at_6)
  refine own_go (fun t k => st11 t k) ?_
  show Go p.tables e below _ (T11.setTop (mkF m 9 #[.val (.int p1), .val (.int p2), .unset, .unset, .unset, .unset, .unset, .unset, .unset, .unset, .unset, .unset, .unset, .unset] [(.ref w_YES), (.int (0 : Int32)), (.ref b), (.ref b)]))
  obtain ⟨T2w, h2, X2w, e2w, W2, stw2⟩ := stR X11 hx hZ e11 A1 (j := (0 : Int32)) (by rw [sz_new]; decide) rfl (Sto.of A1 O1 (Ins.self E1_YES)) (g := (mkF m 9 #[.val (.int p1), .val (.int p2), .unset, .unset, .unset, .unset, .unset, .unset, .unset, .unset, .unset, .unset, .unset, .unset] [(.ref w_YES), (.int (0 : Int32)), (.ref b), (.ref b)])) rfl rfl (hb hby at_9)
  have N2w := Fr.snoc X2w N0 hb0
  have A2 := A1.same W2
  have S2_YES := S1_YES.wr W2
  have E2_YES := E1_YES.wr W2
  have S2_NO := S1_NO.wr W2
  have E2_NO := E1_NO.wr W2
  have S2_UNKNOWN := S1_UNKNOWN.wr W2
  have E2_UNKNOWN := E1_UNKNOWN.wr W2
  refine own_go (fun t k => stw2 t k) ?_
  show Go p.tables e below _ (T2w.setTop (mkF m 10 #[.val (.int p1), .val (.int p2), .unset, .unset, .unset, .unset, .unset, .unset, .unset, .unset, .unset, .unset, .unset, .unset] [(.ref b)]))
  refine own_go (fun t k => XS.dup X2w.here hx rfl (hb hby at_10) rfl rfl k) ?_
  show Go p.tables e below _ (T2w.setTop (mkF m 11 #[.val (.int p1), .val (.int p2), .unset, .unset, .unset, .unset, .unset, .unset, .unset, .unset, .unset, .unset, .unset, .unset] [(.ref b), (.ref b)]))
  refine own_go (fun t k => XS.iconst X2w.here hx rfl (hb hby at_11) k) ?_
  show Go p.tables e below _ (T2w.setTop (mkF m 12 #[.val (.int p1), .val (.int p2), .unset, .unset, .unset, .unset, .unset, .unset, .unset, .unset, .unset, .unset, .unset, .unset] [(.int (1 : Int32)), (.ref b), (.ref b)]))
  obtain ⟨T51, X51, e51, st51⟩ := getS2 X2w hx hZ hown (host := "") (Or.inl (hw _ (List.mem_of_getElem? (i := 6) rfl))) Via.refl e2w S2_NO (g := (mkF m 12 #[.val (.int p1), .val (.int p2), .unset, .unset, .unset, .unset, .unset, .unset, .unset, .unset, .unset, .unset, .unset, .unset] [(.int (1 : Int32)), (.ref b), (.ref b)])) rfl (hb hby at_12)
  refine own_go (fun t k => st51 t k) ?_
  show Go p.tables e below _ (T51.setTop (mkF m 15 #[.val (.int p1), .val (.int p2), .unset, .unset, .unset, .unset, .unset, .unset, .unset, .unset, .unset, .unset, .unset, .unset] [(.ref w_NO), (.int (1 : Int32)), (.ref b), (.ref b)]))
  obtain ⟨T3w, h3, X3w, e3w, W3, stw3⟩ := stR X51 hx hZ e51 A2 (j := (1 : Int32)) (by rw [sz_set]; rw [sz_new]; decide) rfl (Sto.of A2 O1 (Ins.self E2_NO)) (g := (mkF m 15 #[.val (.int p1), .val (.int p2), .unset, .unset, .unset, .unset, .unset, .unset, .unset, .unset, .unset, .unset, .unset, .unset] [(.ref w_NO), (.int (1 : Int32)), (.ref b), (.ref b)])) rfl rfl (hb hby at_15)
  have N3w := Fr.snoc X3w N2w hb0
  have A3 := A2.same W3
  have S3_YES := S2_YES.wr W3
  have E3_YES := E2_YES.wr W3
  have S3_NO := S2_NO.wr W3
  have E3_NO := E2_NO.wr W3
  have S3_UNKNOWN := S2_UNKNOWN.wr W3
  have E3_UNKNOWN := E2_UNKNOWN.wr W3
  refine own_go (fun t k => stw3 t k) ?_
  show Go p.tables e below _ (T3w.setTop (mkF m 16 #[.val (.int p1), .val (.int p2), .unset, .unset, .unset, .unset, .unset, .unset, .unset, .unset, .unset, .unset, .unset, .unset] [(.ref b)]))
  refine own_go (fun t k => XS.dup X3w.here hx rfl (hb hby at_16) rfl rfl k) ?_
  show Go p.tables e below _ (T3w.setTop (mkF m 17 #[.val (.int p1), .val (.int p2), .unset, .unset, .unset, .unset, .unset, .unset, .unset, .unset, .unset, .unset, .unset, .unset] [(.ref b), (.ref b)]))
  refine own_go (fun t k => XS.iconst X3w.here hx rfl (hb hby at_17) k) ?_
  show Go p.tables e below _ (T3w.setTop (mkF m 18 #[.val (.int p1), .val (.int p2), .unset, .unset, .unset, .unset, .unset, .unset, .unset, .unset, .unset, .unset, .unset, .unset] [(.int (2 : Int32)), (.ref b), (.ref b)]))
  obtain ⟨T52, X52, e52, st52⟩ := getS2 X3w hx hZ hown (host := "") (Or.inl (hw _ (List.mem_of_getElem? (i := 8) rfl))) Via.refl e3w S3_UNKNOWN (g := (mkF m 18 #[.val (.int p1), .val (.int p2), .unset, .unset, .unset, .unset, .unset, .unset, .unset, .unset, .unset, .unset, .unset, .unset] [(.int (2 : Int32)), (.ref b), (.ref b)])) rfl (hb hby at_18)
  refine own_go (fun t k => st52 t k) ?_
  show Go p.tables e below _ (T52.setTop (mkF m 21 #[.val (.int p1), .val (.int p2), .unset, .unset, .unset, .unset, .unset, .unset, .unset, .unset, .unset, .unset, .unset, .unset] [(.ref w_UNKNOWN), (.int (2 : Int32)), (.ref b), (.ref b)]))
  obtain ⟨T4w, h4, X4w, e4w, W4, stw4⟩ := stR X52 hx hZ e52 A3 (j := (2 : Int32)) (by rw [sz_set]; rw [sz_set]; rw [sz_new]; decide) rfl (Sto.of A3 O1 (Ins.self E3_UNKNOWN)) (g := (mkF m 21 #[.val (.int p1), .val (.int p2), .unset, .unset, .unset, .unset, .unset, .unset, .unset, .unset, .unset, .unset, .unset, .unset] [(.ref w_UNKNOWN), (.int (2 : Int32)), (.ref b), (.ref b)])) rfl rfl (hb hby at_21)
  have N4w := Fr.snoc X4w N3w hb0
  have A4 := A3.same W4
  have S4_YES := S3_YES.wr W4
  have E4_YES := E3_YES.wr W4
  have S4_NO := S3_NO.wr W4
  have E4_NO := E3_NO.wr W4
  have S4_UNKNOWN := S3_UNKNOWN.wr W4
  have E4_UNKNOWN := E3_UNKNOWN.wr W4
  refine own_go (fun t k => stw4 t k) ?_
  show Go p.tables e below _ (T4w.setTop (mkF m 22 #[.val (.int p1), .val (.int p2), .unset, .unset, .unset, .unset, .unset, .unset, .unset, .unset, .unset, .unset, .unset, .unset] [(.ref b)]))
  have SSh : own_S Z h4 w_YES w_NO w_UNKNOWN := ⟨S4_YES, S4_NO, S4_UNKNOWN⟩
  have EH_YES := E4_YES
  have EH_NO := E4_NO
  have EH_UNKNOWN := E4_UNKNOWN
  refine own_go (fun t k => XS.astoreN X4w.here hx rfl (hb hby at_22) rfl rfl (l' := #[.val (.int p1), .val (.int p2), .val (.ref b), .unset, .unset, .unset, .unset, .unset, .unset, .unset, .unset, .unset, .unset, .unset]) rfl k) ?_
  show Go p.tables e below _ (T4w.setTop (mkF m 23 #[.val (.int p1), .val (.int p2), .val (.ref b), .unset, .unset, .unset, .unset, .unset, .unset, .unset, .unset, .unset, .unset, .unset] []))
  refine own_go (fun t k => XS.iloadN X4w.here hx rfl (hb hby at_23) rfl k) ?_
  show Go p.tables e below _ (T4w.setTop (mkF m 24 #[.val (.int p1), .val (.int p2), .val (.ref b), .unset, .unset, .unset, .unset, .unset, .unset, .unset, .unset, .unset, .unset, .unset] [(.int p1)]))
  refine own_go (fun t k => Jvm.Stand.ldcI X4w hx hown (mvT hZ (hw _ (List.mem_of_getElem? (i := 10) rfl))) rfl (hb hby at_24) k) ?_
  show Go p.tables e below _ (T4w.setTop (mkF m 26 #[.val (.int p1), .val (.int p2), .val (.ref b), .unset, .unset, .unset, .unset, .unset, .unset, .unset, .unset, .unset, .unset, .unset] [(.int (2147483647 : Int32)), (.int p1)]))
  refine own_go (fun t k => XS.iand X4w.here hx rfl (hb hby at_26) rfl k) ?_
  show Go p.tables e below _ (T4w.setTop (mkF m 27 #[.val (.int p1), .val (.int p2), .val (.ref b), .unset, .unset, .unset, .unset, .unset, .unset, .unset, .unset, .unset, .unset, .unset] [(.int (p1 &&& (2147483647 : Int32)))]))
  refine own_go (fun t k => XS.iconst X4w.here hx rfl (hb hby at_27) k) ?_
  show Go p.tables e below _ (T4w.setTop (mkF m 28 #[.val (.int p1), .val (.int p2), .val (.ref b), .unset, .unset, .unset, .unset, .unset, .unset, .unset, .unset, .unset, .unset, .unset] [(.int (3 : Int32)), (.int (p1 &&& (2147483647 : Int32)))]))
  refine own_go (fun t k => iremM (g := (mkF m 28 #[.val (.int p1), .val (.int p2), .val (.ref b), .unset, .unset, .unset, .unset, .unset, .unset, .unset, .unset, .unset, .unset, .unset] [(.int (3 : Int32)), (.int (p1 &&& (2147483647 : Int32)))])) X4w hx rfl (hb hby at_28) rfl (by decide) k) ?_
  show Go p.tables e below _ (T4w.setTop (mkF m 29 #[.val (.int p1), .val (.int p2), .val (.ref b), .unset, .unset, .unset, .unset, .unset, .unset, .unset, .unset, .unset, .unset, .unset] [(.int ((p1 &&& (2147483647 : Int32)) % (3 : Int32)))]))
  rw [q1]
  show Go p.tables e below _ (T4w.setTop (mkF m 29 #[.val (.int p1), .val (.int p2), .val (.ref b), .unset, .unset, .unset, .unset, .unset, .unset, .unset, .unset, .unset, .unset, .unset] [(.int (1 : Int32))]))
  refine own_go (fun t k => XS.istoreN X4w.here hx rfl (hb hby at_29) rfl (l' := #[.val (.int p1), .val (.int p2), .val (.ref b), .val (.int (1 : Int32)), .unset, .unset, .unset, .unset, .unset, .unset, .unset, .unset, .unset, .unset]) rfl k) ?_
  show Go p.tables e below _ (T4w.setTop (mkF m 30 #[.val (.int p1), .val (.int p2), .val (.ref b), .val (.int (1 : Int32)), .unset, .unset, .unset, .unset, .unset, .unset, .unset, .unset, .unset, .unset] []))
  refine own_go (fun t k => XS.iloadN X4w.here hx rfl (hb hby at_30) rfl k) ?_
  show Go p.tables e below _ (T4w.setTop (mkF m 31 #[.val (.int p1), .val (.int p2), .val (.ref b), .val (.int (1 : Int32)), .unset, .unset, .unset, .unset, .unset, .unset, .unset, .unset, .unset, .unset] [(.int p2)]))
  refine own_go (fun t k => Jvm.Stand.ldcI X4w hx hown (mvT hZ (hw _ (List.mem_of_getElem? (i := 10) rfl))) rfl (hb hby at_31) k) ?_
  show Go p.tables e below _ (T4w.setTop (mkF m 33 #[.val (.int p1), .val (.int p2), .val (.ref b), .val (.int (1 : Int32)), .unset, .unset, .unset, .unset, .unset, .unset, .unset, .unset, .unset, .unset] [(.int (2147483647 : Int32)), (.int p2)]))
  refine own_go (fun t k => XS.iand X4w.here hx rfl (hb hby at_33) rfl k) ?_
  show Go p.tables e below _ (T4w.setTop (mkF m 34 #[.val (.int p1), .val (.int p2), .val (.ref b), .val (.int (1 : Int32)), .unset, .unset, .unset, .unset, .unset, .unset, .unset, .unset, .unset, .unset] [(.int (p2 &&& (2147483647 : Int32)))]))
  refine own_go (fun t k => XS.iconst X4w.here hx rfl (hb hby at_34) k) ?_
  show Go p.tables e below _ (T4w.setTop (mkF m 35 #[.val (.int p1), .val (.int p2), .val (.ref b), .val (.int (1 : Int32)), .unset, .unset, .unset, .unset, .unset, .unset, .unset, .unset, .unset, .unset] [(.int (3 : Int32)), (.int (p2 &&& (2147483647 : Int32)))]))
  refine own_go (fun t k => iremM (g := (mkF m 35 #[.val (.int p1), .val (.int p2), .val (.ref b), .val (.int (1 : Int32)), .unset, .unset, .unset, .unset, .unset, .unset, .unset, .unset, .unset, .unset] [(.int (3 : Int32)), (.int (p2 &&& (2147483647 : Int32)))])) X4w hx rfl (hb hby at_35) rfl (by decide) k) ?_
  show Go p.tables e below _ (T4w.setTop (mkF m 36 #[.val (.int p1), .val (.int p2), .val (.ref b), .val (.int (1 : Int32)), .unset, .unset, .unset, .unset, .unset, .unset, .unset, .unset, .unset, .unset] [(.int ((p2 &&& (2147483647 : Int32)) % (3 : Int32)))]))
  rw [q2]
  show Go p.tables e below _ (T4w.setTop (mkF m 36 #[.val (.int p1), .val (.int p2), .val (.ref b), .val (.int (1 : Int32)), .unset, .unset, .unset, .unset, .unset, .unset, .unset, .unset, .unset, .unset] [(.int (1 : Int32))]))
  refine own_go (fun t k => XS.istore X4w.here hx rfl (hb hby at_36) rfl (l' := #[.val (.int p1), .val (.int p2), .val (.ref b), .val (.int (1 : Int32)), .val (.int (1 : Int32)), .unset, .unset, .unset, .unset, .unset, .unset, .unset, .unset, .unset]) rfl k) ?_
  show Go p.tables e below _ (T4w.setTop (mkF m 38 #[.val (.int p1), .val (.int p2), .val (.ref b), .val (.int (1 : Int32)), .val (.int (1 : Int32)), .unset, .unset, .unset, .unset, .unset, .unset, .unset, .unset, .unset] []))
  refine own_go (fun t k => XS.aloadN X4w.here hx rfl (hb hby at_38) rfl rfl k) ?_
  show Go p.tables e below _ (T4w.setTop (mkF m 39 #[.val (.int p1), .val (.int p2), .val (.ref b), .val (.int (1 : Int32)), .val (.int (1 : Int32)), .unset, .unset, .unset, .unset, .unset, .unset, .unset, .unset, .unset] [(.ref b)]))
  refine own_go (fun t k => XS.iloadN X4w.here hx rfl (hb hby at_39) rfl k) ?_
  show Go p.tables e below _ (T4w.setTop (mkF m 40 #[.val (.int p1), .val (.int p2), .val (.ref b), .val (.int (1 : Int32)), .val (.int (1 : Int32)), .unset, .unset, .unset, .unset, .unset, .unset, .unset, .unset, .unset] [(.int (1 : Int32)), (.ref b)]))
  refine own_go (fun t k => X4w.aaload hx (j := (1 : Int32)) (v := (.ref w_NO)) (by rw [e4w]; exact A4.1) (State.isArrayOf_alike hZ.alike A4.2.1) rfl A4.2.2 (by rw [sz_set, sz_set, sz_set, sz_new]; decide) rfl (g := (mkF m 40 #[.val (.int p1), .val (.int p2), .val (.ref b), .val (.int (1 : Int32)), .val (.int (1 : Int32)), .unset, .unset, .unset, .unset, .unset, .unset, .unset, .unset, .unset] [(.int (1 : Int32)), (.ref b)])) rfl rfl (hb hby at_40) t k) ?_
  show Go p.tables e below _ (T4w.setTop (mkF m 41 #[.val (.int p1), .val (.int p2), .val (.ref b), .val (.int (1 : Int32)), .val (.int (1 : Int32)), .unset, .unset, .unset, .unset, .unset, .unset, .unset, .unset, .unset] [(.ref w_NO)]))
  refine own_go (fun t k => XS.astore X4w.here hx rfl (hb hby at_41) rfl rfl (l' := #[.val (.int p1), .val (.int p2), .val (.ref b), .val (.int (1 : Int32)), .val (.int (1 : Int32)), .val (.ref w_NO), .unset, .unset, .unset, .unset, .unset, .unset, .unset, .unset]) rfl k) ?_
  show Go p.tables e below _ (T4w.setTop (mkF m 43 #[.val (.int p1), .val (.int p2), .val (.ref b), .val (.int (1 : Int32)), .val (.int (1 : Int32)), .val (.ref w_NO), .unset, .unset, .unset, .unset, .unset, .unset, .unset, .unset] []))
  refine own_go (fun t k => XS.aloadN X4w.here hx rfl (hb hby at_43) rfl rfl k) ?_
  show Go p.tables e below _ (T4w.setTop (mkF m 44 #[.val (.int p1), .val (.int p2), .val (.ref b), .val (.int (1 : Int32)), .val (.int (1 : Int32)), .val (.ref w_NO), .unset, .unset, .unset, .unset, .unset, .unset, .unset, .unset] [(.ref b)]))
  refine own_go (fun t k => XS.iload X4w.here hx rfl (hb hby at_44) rfl k) ?_
  show Go p.tables e below _ (T4w.setTop (mkF m 46 #[.val (.int p1), .val (.int p2), .val (.ref b), .val (.int (1 : Int32)), .val (.int (1 : Int32)), .val (.ref w_NO), .unset, .unset, .unset, .unset, .unset, .unset, .unset, .unset] [(.int (1 : Int32)), (.ref b)]))
  refine own_go (fun t k => X4w.aaload hx (j := (1 : Int32)) (v := (.ref w_NO)) (by rw [e4w]; exact A4.1) (State.isArrayOf_alike hZ.alike A4.2.1) rfl A4.2.2 (by rw [sz_set, sz_set, sz_set, sz_new]; decide) rfl (g := (mkF m 46 #[.val (.int p1), .val (.int p2), .val (.ref b), .val (.int (1 : Int32)), .val (.int (1 : Int32)), .val (.ref w_NO), .unset, .unset, .unset, .unset, .unset, .unset, .unset, .unset] [(.int (1 : Int32)), (.ref b)])) rfl rfl (hb hby at_46) t k) ?_
  show Go p.tables e below _ (T4w.setTop (mkF m 47 #[.val (.int p1), .val (.int p2), .val (.ref b), .val (.int (1 : Int32)), .val (.int (1 : Int32)), .val (.ref w_NO), .unset, .unset, .unset, .unset, .unset, .unset, .unset, .unset] [(.ref w_NO)]))
  refine own_go (fun t k => XS.astore X4w.here hx rfl (hb hby at_47) rfl rfl (l' := #[.val (.int p1), .val (.int p2), .val (.ref b), .val (.int (1 : Int32)), .val (.int (1 : Int32)), .val (.ref w_NO), .val (.ref w_NO), .unset, .unset, .unset, .unset, .unset, .unset, .unset]) rfl k) ?_
  show Go p.tables e below _ (T4w.setTop (mkF m 49 #[.val (.int p1), .val (.int p2), .val (.ref b), .val (.int (1 : Int32)), .val (.int (1 : Int32)), .val (.ref w_NO), .val (.ref w_NO), .unset, .unset, .unset, .unset, .unset, .unset, .unset] []))
  refine own_go (fun t k => XS.iloadN X4w.here hx rfl (hb hby at_49) rfl k) ?_
  show Go p.tables e below _ (T4w.setTop (mkF m 50 #[.val (.int p1), .val (.int p2), .val (.ref b), .val (.int (1 : Int32)), .val (.int (1 : Int32)), .val (.ref w_NO), .val (.ref w_NO), .unset, .unset, .unset, .unset, .unset, .unset, .unset] [(.int (1 : Int32))]))
  refine own_go (fun t k => XS.iconst X4w.here hx rfl (hb hby at_50) k) ?_
  show Go p.tables e below _ (T4w.setTop (mkF m 51 #[.val (.int p1), .val (.int p2), .val (.ref b), .val (.int (1 : Int32)), .val (.int (1 : Int32)), .val (.ref w_NO), .val (.ref w_NO), .unset, .unset, .unset, .unset, .unset, .unset, .unset] [(.int (2 : Int32)), (.int (1 : Int32))]))
  refine own_go (fun t k => XS.icmpYes X4w.here hx rfl (pc0 := 51) (pc' := 62) rfl (hb hby at_51) rfl (XT.ii_ne_t (by decide)) (by decide) (by decide) k) ?_
  show Go p.tables e below _ (T4w.setTop (mkF m 62 #[.val (.int p1), .val (.int p2), .val (.ref b), .val (.int (1 : Int32)), .val (.int (1 : Int32)), .val (.ref w_NO), .val (.ref w_NO), .unset, .unset, .unset, .unset, .unset, .unset, .unset] []))
  refine own_go (fun t k => XS.aloadN X4w.here hx rfl (hb hby at_62) rfl rfl k) ?_
  show Go p.tables e below _ (T4w.setTop (mkF m 63 #[.val (.int p1), .val (.int p2), .val (.ref b), .val (.int (1 : Int32)), .val (.int (1 : Int32)), .val (.ref w_NO), .val (.ref w_NO), .unset, .unset, .unset, .unset, .unset, .unset, .unset] [(.ref b)]))
  refine own_go (fun t k => XS.iconst X4w.here hx rfl (hb hby at_63) k) ?_
  show Go p.tables e below _ (T4w.setTop (mkF m 64 #[.val (.int p1), .val (.int p2), .val (.ref b), .val (.int (1 : Int32)), .val (.int (1 : Int32)), .val (.ref w_NO), .val (.ref w_NO), .unset, .unset, .unset, .unset, .unset, .unset, .unset] [(.int (1 : Int32)), (.ref b)]))
  refine own_go (fun t k => XS.iloadN X4w.here hx rfl (hb hby at_64) rfl k) ?_
  show Go p.tables e below _ (T4w.setTop (mkF m 65 #[.val (.int p1), .val (.int p2), .val (.ref b), .val (.int (1 : Int32)), .val (.int (1 : Int32)), .val (.ref w_NO), .val (.ref w_NO), .unset, .unset, .unset, .unset, .unset, .unset, .unset] [(.int (1 : Int32)), (.int (1 : Int32)), (.ref b)]))
  refine own_go (fun t k => XS.isub X4w.here hx rfl (hb hby at_65) rfl k) ?_
  show Go p.tables e below _ (T4w.setTop (mkF m 66 #[.val (.int p1), .val (.int p2), .val (.ref b), .val (.int (1 : Int32)), .val (.int (1 : Int32)), .val (.ref w_NO), .val (.ref w_NO), .unset, .unset, .unset, .unset, .unset, .unset, .unset] [(.int (0 : Int32)), (.ref b)]))
  refine own_go (fun t k => X4w.aaload hx (j := (0 : Int32)) (v := (.ref w_YES)) (by rw [e4w]; exact A4.1) (State.isArrayOf_alike hZ.alike A4.2.1) rfl A4.2.2 (by rw [sz_set, sz_set, sz_set, sz_new]; decide) rfl (g := (mkF m 66 #[.val (.int p1), .val (.int p2), .val (.ref b), .val (.int (1 : Int32)), .val (.int (1 : Int32)), .val (.ref w_NO), .val (.ref w_NO), .unset, .unset, .unset, .unset, .unset, .unset, .unset] [(.int (0 : Int32)), (.ref b)])) rfl rfl (hb hby at_66) t k) ?_
  show Go p.tables e below _ (T4w.setTop (mkF m 67 #[.val (.int p1), .val (.int p2), .val (.ref b), .val (.int (1 : Int32)), .val (.int (1 : Int32)), .val (.ref w_NO), .val (.ref w_NO), .unset, .unset, .unset, .unset, .unset, .unset, .unset] [(.ref w_YES)]))
  refine own_go (fun t k => XS.astore X4w.here hx rfl (hb hby at_67) rfl rfl (l' := #[.val (.int p1), .val (.int p2), .val (.ref b), .val (.int (1 : Int32)), .val (.int (1 : Int32)), .val (.ref w_NO), .val (.ref w_NO), .val (.ref w_YES), .unset, .unset, .unset, .unset, .unset, .unset]) rfl k) ?_
  show Go p.tables e below _ (T4w.setTop (mkF m 69 #[.val (.int p1), .val (.int p2), .val (.ref b), .val (.int (1 : Int32)), .val (.int (1 : Int32)), .val (.ref w_NO), .val (.ref w_NO), .val (.ref w_YES), .unset, .unset, .unset, .unset, .unset, .unset] []))
  refine own_go (fun t k => XS.aload X4w.here hx rfl (hb hby at_69) rfl rfl k) ?_
  show Go p.tables e below _ (T4w.setTop (mkF m 71 #[.val (.int p1), .val (.int p2), .val (.ref b), .val (.int (1 : Int32)), .val (.int (1 : Int32)), .val (.ref w_NO), .val (.ref w_NO), .val (.ref w_YES), .unset, .unset, .unset, .unset, .unset, .unset] [(.ref w_NO)]))
  obtain ⟨cq53, kq53, q53a, q53b, q53c⟩ := isOf hZ e4w EH_NO
  obtain ⟨v53, _, ⟨T53, L53, k53, n53⟩, -, X53, ⟨Lc53, hQ53, l53, y53, z53⟩, st53⟩ := X4w.virtualBack hx (y := (⟨"com/example/casewright/casewright/types/Answer", "not", "()Lcom/example/casewright/casewright/types/Answer;"⟩ : MethodName)) (z := (⟨"com/example/casewright/casewright/types/Answer", "not", "()Lcom/example/casewright/casewright/types/Answer;"⟩ : MethodName)) hown (mvT hZ (hw _ (List.mem_of_getElem? (i := 11) rfl))) (mvT hZ (hw _ (List.mem_of_getElem? (i := 12) rfl))) (notFace_of_selects (args := #[]) (mvT hZ (hw _ (List.mem_of_getElem? (i := 14) rfl)))) (mvT hZ (hw _ (List.mem_of_getElem? (i := 14) rfl))) (mvT hZ (hw _ (List.mem_of_getElem? (i := 13) rfl))) (by decide) (backOf (W := 0) (rm_not l Z a0 hw [] w_NO w_YES w_NO w_UNKNOWN h4 n0 SSh) hZ (hw _ (List.mem_of_getElem? (i := 15) rfl)) (hw _ (List.mem_of_getElem? (i := 3) rfl)) (by decide) (by decide)) q53a q53c (g := (mkF m 71 #[.val (.int p1), .val (.int p2), .val (.ref b), .val (.int (1 : Int32)), .val (.int (1 : Int32)), .val (.ref w_NO), .val (.ref w_NO), .val (.ref w_YES), .unset, .unset, .unset, .unset, .unset, .unset] [(.ref w_NO)])) rfl (by rw [hml]; rfl) (Steps.refl _) (argsL := []) (rest := []) (lenOf pd_0 rfl) rfl (by show 2 * 0 + _ ≤ _; exact Nat.le_of_eq rfl) (hb hby at_71) (fun _ _ => ⟨rfl, e4w, (by decide : 0 + 1 + 0 ≤ _), (by decide : 0 + 3 + 0 ≤ _)⟩)
  dsimp only [Pt.U, Pt.locs, Pt.cells, Pt.slots] at X53 l53 y53 z53 st53 hQ53
  subst l53 y53 z53
  obtain ⟨hv53, N53q, e53⟩ := hQ53
  rw [show ((.ref (own_not w_NO w_UNKNOWN w_YES w_NO)) : Value) = (.ref w_YES) from by simp [own_not, nUN, nYN, nYU, nUN.symm, nYN.symm, nYU.symm]] at hv53
  subst hv53
  have N53 := Fr.app N4w N53q
  refine own_go (fun t k => st53.trans k) ?_
  show Go p.tables e below _ (T53.setTop (mkF m 74 #[.val (.int p1), .val (.int p2), .val (.ref b), .val (.int (1 : Int32)), .val (.int (1 : Int32)), .val (.ref w_NO), .val (.ref w_NO), .val (.ref w_YES), .unset, .unset, .unset, .unset, .unset, .unset] [(.ref w_YES)]))
  refine own_go (fun t k => XS.astore X53.here hx rfl (hb hby at_74) rfl rfl (l' := #[.val (.int p1), .val (.int p2), .val (.ref b), .val (.int (1 : Int32)), .val (.int (1 : Int32)), .val (.ref w_NO), .val (.ref w_NO), .val (.ref w_YES), .val (.ref w_YES), .unset, .unset, .unset, .unset, .unset]) rfl k) ?_
  show Go p.tables e below _ (T53.setTop (mkF m 76 #[.val (.int p1), .val (.int p2), .val (.ref b), .val (.int (1 : Int32)), .val (.int (1 : Int32)), .val (.ref w_NO), .val (.ref w_NO), .val (.ref w_YES), .val (.ref w_YES), .unset, .unset, .unset, .unset, .unset] []))
  refine own_go (fun t k => XS.aload X53.here hx rfl (hb hby at_76) rfl rfl k) ?_
  show Go p.tables e below _ (T53.setTop (mkF m 78 #[.val (.int p1), .val (.int p2), .val (.ref b), .val (.int (1 : Int32)), .val (.int (1 : Int32)), .val (.ref w_NO), .val (.ref w_NO), .val (.ref w_YES), .val (.ref w_YES), .unset, .unset, .unset, .unset, .unset] [(.ref w_NO)]))
  obtain ⟨cq54, kq54, q54a, q54b, q54c⟩ := isOf hZ e53 EH_NO
  obtain ⟨v54, _, ⟨T54, L54, k54, n54⟩, -, X54, ⟨Lc54, hQ54, l54, y54, z54⟩, st54⟩ := X53.virtualBack hx (y := (⟨"com/example/casewright/casewright/types/Answer", "not", "()Lcom/example/casewright/casewright/types/Answer;"⟩ : MethodName)) (z := (⟨"com/example/casewright/casewright/types/Answer", "not", "()Lcom/example/casewright/casewright/types/Answer;"⟩ : MethodName)) hown (mvT hZ (hw _ (List.mem_of_getElem? (i := 11) rfl))) (mvT hZ (hw _ (List.mem_of_getElem? (i := 12) rfl))) (notFace_of_selects (args := #[]) (mvT hZ (hw _ (List.mem_of_getElem? (i := 14) rfl)))) (mvT hZ (hw _ (List.mem_of_getElem? (i := 14) rfl))) (mvT hZ (hw _ (List.mem_of_getElem? (i := 13) rfl))) (by decide) (backOf (W := 0) (rm_not l Z a0 hw [] w_NO w_YES w_NO w_UNKNOWN h4 n0 SSh) hZ (hw _ (List.mem_of_getElem? (i := 15) rfl)) (hw _ (List.mem_of_getElem? (i := 3) rfl)) (by decide) (by decide)) q54a q54c (g := (mkF m 78 #[.val (.int p1), .val (.int p2), .val (.ref b), .val (.int (1 : Int32)), .val (.int (1 : Int32)), .val (.ref w_NO), .val (.ref w_NO), .val (.ref w_YES), .val (.ref w_YES), .unset, .unset, .unset, .unset, .unset] [(.ref w_NO)])) rfl (by rw [hml]; rfl) (Steps.refl _) (argsL := []) (rest := []) (lenOf pd_0 rfl) rfl (by show 2 * 0 + _ ≤ _; exact Nat.le_of_eq rfl) (hb hby at_78) (fun _ _ => ⟨rfl, e53, (by decide : 0 + 1 + 0 ≤ _), (by decide : 0 + 3 + 0 ≤ _)⟩)
  dsimp only [Pt.U, Pt.locs, Pt.cells, Pt.slots] at X54 l54 y54 z54 st54 hQ54
  subst l54 y54 z54
  obtain ⟨hv54, N54q, e54⟩ := hQ54
  rw [show ((.ref (own_not w_NO w_UNKNOWN w_YES w_NO)) : Value) = (.ref w_YES) from by simp [own_not, nUN, nYN, nYU, nUN.symm, nYN.symm, nYU.symm]] at hv54
  subst hv54
  have N54 := Fr.app N53 N54q
  refine own_go (fun t k => st54.trans k) ?_
  show Go p.tables e below _ (T54.setTop (mkF m 81 #[.val (.int p1), .val (.int p2), .val (.ref b), .val (.int (1 : Int32)), .val (.int (1 : Int32)), .val (.ref w_NO), .val (.ref w_NO), .val (.ref w_YES), .val (.ref w_YES), .unset, .unset, .unset, .unset, .unset] [(.ref w_YES)]))
  refine own_go (fun t k => XS.astore X54.here hx rfl (hb hby at_81) rfl rfl (l' := #[.val (.int p1), .val (.int p2), .val (.ref b), .val (.int (1 : Int32)), .val (.int (1 : Int32)), .val (.ref w_NO), .val (.ref w_NO), .val (.ref w_YES), .val (.ref w_YES), .val (.ref w_YES), .unset, .unset, .unset, .unset]) rfl k) ?_
  show Go p.tables e below _ (T54.setTop (mkF m 83 #[.val (.int p1), .val (.int p2), .val (.ref b), .val (.int (1 : Int32)), .val (.int (1 : Int32)), .val (.ref w_NO), .val (.ref w_NO), .val (.ref w_YES), .val (.ref w_YES), .val (.ref w_YES), .unset, .unset, .unset, .unset] []))
  refine own_go (fun t k => XS.aload X54.here hx rfl (hb hby at_83) rfl rfl k) ?_
  show Go p.tables e below _ (T54.setTop (mkF m 85 #[.val (.int p1), .val (.int p2), .val (.ref b), .val (.int (1 : Int32)), .val (.int (1 : Int32)), .val (.ref w_NO), .val (.ref w_NO), .val (.ref w_YES), .val (.ref w_YES), .val (.ref w_YES), .unset, .unset, .unset, .unset] [(.ref w_YES)]))
  refine own_go (fun t k => XS.aload X54.here hx rfl (hb hby at_85) rfl rfl k) ?_
  show Go p.tables e below _ (T54.setTop (mkF m 87 #[.val (.int p1), .val (.int p2), .val (.ref b), .val (.int (1 : Int32)), .val (.int (1 : Int32)), .val (.ref w_NO), .val (.ref w_NO), .val (.ref w_YES), .val (.ref w_YES), .val (.ref w_YES), .unset, .unset, .unset, .unset] [(.ref w_YES), (.ref w_YES)]))
  refine own_go (fun t k => XT.acmpNo X54.here hx rfl (hb hby at_87) rfl rfl rfl (XT.aa_ne_f (congrArg Value.ref rfl)) k) ?_
  show Go p.tables e below _ (T54.setTop (mkF m 90 #[.val (.int p1), .val (.int p2), .val (.ref b), .val (.int (1 : Int32)), .val (.int (1 : Int32)), .val (.ref w_NO), .val (.ref w_NO), .val (.ref w_YES), .val (.ref w_YES), .val (.ref w_YES), .unset, .unset, .unset, .unset] []))
  refine own_go (fun t k => XS.iconst X54.here hx rfl (hb hby at_90) k) ?_
  show Go p.tables e below _ (T54.setTop (mkF m 91 #[.val (.int p1), .val (.int p2), .val (.ref b), .val (.int (1 : Int32)), .val (.int (1 : Int32)), .val (.ref w_NO), .val (.ref w_NO), .val (.ref w_YES), .val (.ref w_YES), .val (.ref w_YES), .unset, .unset, .unset, .unset] [(.int (1 : Int32))]))
  refine own_go (fun t k => XS.goto X54.here hx rfl (pc0 := 91) (pc' := 95) rfl (hb hby at_91) (by decide) (by decide) k) ?_
  show Go p.tables e below _ (T54.setTop (mkF m 95 #[.val (.int p1), .val (.int p2), .val (.ref b), .val (.int (1 : Int32)), .val (.int (1 : Int32)), .val (.ref w_NO), .val (.ref w_NO), .val (.ref w_YES), .val (.ref w_YES), .val (.ref w_YES), .unset, .unset, .unset, .unset] [(.int (1 : Int32))]))
  refine own_go (fun t k => XS.istore X54.here hx rfl (hb hby at_95) rfl (l' := #[.val (.int p1), .val (.int p2), .val (.ref b), .val (.int (1 : Int32)), .val (.int (1 : Int32)), .val (.ref w_NO), .val (.ref w_NO), .val (.ref w_YES), .val (.ref w_YES), .val (.ref w_YES), .val (.int (1 : Int32)), .unset, .unset, .unset]) rfl k) ?_
  show Go p.tables e below _ (T54.setTop (mkF m 97 #[.val (.int p1), .val (.int p2), .val (.ref b), .val (.int (1 : Int32)), .val (.int (1 : Int32)), .val (.ref w_NO), .val (.ref w_NO), .val (.ref w_YES), .val (.ref w_YES), .val (.ref w_YES), .val (.int (1 : Int32)), .unset, .unset, .unset] []))
  refine own_go (fun t k => XS.aload X54.here hx rfl (hb hby at_97) rfl rfl k) ?_
  show Go p.tables e below _ (T54.setTop (mkF m 99 #[.val (.int p1), .val (.int p2), .val (.ref b), .val (.int (1 : Int32)), .val (.int (1 : Int32)), .val (.ref w_NO), .val (.ref w_NO), .val (.ref w_YES), .val (.ref w_YES), .val (.ref w_YES), .val (.int (1 : Int32)), .unset, .unset, .unset] [(.ref w_YES)]))
  obtain ⟨cq55, kq55, q55a, q55b, q55c⟩ := isOf hZ e54 EH_YES
  obtain ⟨v55, _, ⟨T55, L55, k55, n55⟩, -, X55, ⟨Lc55, hQ55, l55, y55, z55⟩, st55⟩ := X54.virtualBack hx (y := (⟨"com/example/casewright/casewright/types/Answer", "not", "()Lcom/example/casewright/casewright/types/Answer;"⟩ : MethodName)) (z := (⟨"com/example/casewright/casewright/types/Answer", "not", "()Lcom/example/casewright/casewright/types/Answer;"⟩ : MethodName)) hown (mvT hZ (hw _ (List.mem_of_getElem? (i := 11) rfl))) (mvT hZ (hw _ (List.mem_of_getElem? (i := 12) rfl))) (notFace_of_selects (args := #[]) (mvT hZ (hw _ (List.mem_of_getElem? (i := 14) rfl)))) (mvT hZ (hw _ (List.mem_of_getElem? (i := 14) rfl))) (mvT hZ (hw _ (List.mem_of_getElem? (i := 13) rfl))) (by decide) (backOf (W := 0) (rm_not l Z a0 hw [] w_YES w_YES w_NO w_UNKNOWN h4 n0 SSh) hZ (hw _ (List.mem_of_getElem? (i := 15) rfl)) (hw _ (List.mem_of_getElem? (i := 3) rfl)) (by decide) (by decide)) q55a q55c (g := (mkF m 99 #[.val (.int p1), .val (.int p2), .val (.ref b), .val (.int (1 : Int32)), .val (.int (1 : Int32)), .val (.ref w_NO), .val (.ref w_NO), .val (.ref w_YES), .val (.ref w_YES), .val (.ref w_YES), .val (.int (1 : Int32)), .unset, .unset, .unset] [(.ref w_YES)])) rfl (by rw [hml]; rfl) (Steps.refl _) (argsL := []) (rest := []) (lenOf pd_0 rfl) rfl (by show 2 * 0 + _ ≤ _; exact Nat.le_of_eq rfl) (hb hby at_99) (fun _ _ => ⟨rfl, e54, (by decide : 0 + 1 + 0 ≤ _), (by decide : 0 + 3 + 0 ≤ _)⟩)
  dsimp only [Pt.U, Pt.locs, Pt.cells, Pt.slots] at X55 l55 y55 z55 st55 hQ55
  subst l55 y55 z55
  obtain ⟨hv55, N55q, e55⟩ := hQ55
  rw [show ((.ref (own_not w_NO w_UNKNOWN w_YES w_YES)) : Value) = (.ref w_NO) from by simp [own_not, nUN, nYN, nYU, nUN.symm, nYN.symm, nYU.symm]] at hv55
  subst hv55
  have N55 := Fr.app N54 N55q
  refine own_go (fun t k => st55.trans k) ?_
  show Go p.tables e below _ (T55.setTop (mkF m 102 #[.val (.int p1), .val (.int p2), .val (.ref b), .val (.int (1 : Int32)), .val (.int (1 : Int32)), .val (.ref w_NO), .val (.ref w_NO), .val (.ref w_YES), .val (.ref w_YES), .val (.ref w_YES), .val (.int (1 : Int32)), .unset, .unset, .unset] [(.ref w_NO)]))
  refine own_go (fun t k => XS.aload X55.here hx rfl (hb hby at_102) rfl rfl k) ?_
  show Go p.tables e below _ (T55.setTop (mkF m 104 #[.val (.int p1), .val (.int p2), .val (.ref b), .val (.int (1 : Int32)), .val (.int (1 : Int32)), .val (.ref w_NO), .val (.ref w_NO), .val (.ref w_YES), .val (.ref w_YES), .val (.ref w_YES), .val (.int (1 : Int32)), .unset, .unset, .unset] [(.ref w_NO), (.ref w_NO)]))
  refine own_go (fun t k => XT.acmpNo X55.here hx rfl (hb hby at_104) rfl rfl rfl (XT.aa_ne_f (congrArg Value.ref rfl)) k) ?_
  show Go p.tables e below _ (T55.setTop (mkF m 107 #[.val (.int p1), .val (.int p2), .val (.ref b), .val (.int (1 : Int32)), .val (.int (1 : Int32)), .val (.ref w_NO), .val (.ref w_NO), .val (.ref w_YES), .val (.ref w_YES), .val (.ref w_YES), .val (.int (1 : Int32)), .unset, .unset, .unset] []))
  refine own_go (fun t k => XS.iconst X55.here hx rfl (hb hby at_107) k) ?_
  show Go p.tables e below _ (T55.setTop (mkF m 108 #[.val (.int p1), .val (.int p2), .val (.ref b), .val (.int (1 : Int32)), .val (.int (1 : Int32)), .val (.ref w_NO), .val (.ref w_NO), .val (.ref w_YES), .val (.ref w_YES), .val (.ref w_YES), .val (.int (1 : Int32)), .unset, .unset, .unset] [(.int (1 : Int32))]))
  refine own_go (fun t k => XS.goto X55.here hx rfl (pc0 := 108) (pc' := 112) rfl (hb hby at_108) (by decide) (by decide) k) ?_
  show Go p.tables e below _ (T55.setTop (mkF m 112 #[.val (.int p1), .val (.int p2), .val (.ref b), .val (.int (1 : Int32)), .val (.int (1 : Int32)), .val (.ref w_NO), .val (.ref w_NO), .val (.ref w_YES), .val (.ref w_YES), .val (.ref w_YES), .val (.int (1 : Int32)), .unset, .unset, .unset] [(.int (1 : Int32))]))
  refine own_go (fun t k => XS.istore X55.here hx rfl (hb hby at_112) rfl (l' := #[.val (.int p1), .val (.int p2), .val (.ref b), .val (.int (1 : Int32)), .val (.int (1 : Int32)), .val (.ref w_NO), .val (.ref w_NO), .val (.ref w_YES), .val (.ref w_YES), .val (.ref w_YES), .val (.int (1 : Int32)), .val (.int (1 : Int32)), .unset, .unset]) rfl k) ?_
  show Go p.tables e below _ (T55.setTop (mkF m 114 #[.val (.int p1), .val (.int p2), .val (.ref b), .val (.int (1 : Int32)), .val (.int (1 : Int32)), .val (.ref w_NO), .val (.ref w_NO), .val (.ref w_YES), .val (.ref w_YES), .val (.ref w_YES), .val (.int (1 : Int32)), .val (.int (1 : Int32)), .unset, .unset] []))
  refine own_go (fun t k => XS.aload X55.here hx rfl (hb hby at_114) rfl rfl k) ?_
  show Go p.tables e below _ (T55.setTop (mkF m 116 #[.val (.int p1), .val (.int p2), .val (.ref b), .val (.int (1 : Int32)), .val (.int (1 : Int32)), .val (.ref w_NO), .val (.ref w_NO), .val (.ref w_YES), .val (.ref w_YES), .val (.ref w_YES), .val (.int (1 : Int32)), .val (.int (1 : Int32)), .unset, .unset] [(.ref w_NO)]))
  refine own_go (fun t k => XS.aload X55.here hx rfl (hb hby at_116) rfl rfl k) ?_
  show Go p.tables e below _ (T55.setTop (mkF m 118 #[.val (.int p1), .val (.int p2), .val (.ref b), .val (.int (1 : Int32)), .val (.int (1 : Int32)), .val (.ref w_NO), .val (.ref w_NO), .val (.ref w_YES), .val (.ref w_YES), .val (.ref w_YES), .val (.int (1 : Int32)), .val (.int (1 : Int32)), .unset, .unset] [(.ref w_NO), (.ref w_NO)]))
  obtain ⟨cq56, kq56, q56a, q56b, q56c⟩ := isOf hZ e55 EH_NO
  obtain ⟨v56, _, ⟨T56, L56, k56, n56⟩, -, X56, ⟨Lc56, hQ56, l56, y56, z56⟩, st56⟩ := X55.virtualBack hx (y := (⟨"com/example/casewright/casewright/types/Answer", "and", "(Lcom/example/casewright/casewright/types/Answer;)Lcom/example/casewright/casewright/types/Answer;"⟩ : MethodName)) (z := (⟨"com/example/casewright/casewright/types/Answer", "and", "(Lcom/example/casewright/casewright/types/Answer;)Lcom/example/casewright/casewright/types/Answer;"⟩ : MethodName)) hown (mvT hZ (hw _ (List.mem_of_getElem? (i := 18) rfl))) (mvT hZ (hw _ (List.mem_of_getElem? (i := 19) rfl))) (notFace_of_selects (args := #[]) (mvT hZ (hw _ (List.mem_of_getElem? (i := 21) rfl)))) (mvT hZ (hw _ (List.mem_of_getElem? (i := 21) rfl))) (mvT hZ (hw _ (List.mem_of_getElem? (i := 20) rfl))) (by decide) (backOf (W := 0) (rm_and l Z a0 hw [] w_NO w_NO w_YES w_NO w_UNKNOWN h4 n0 SSh) hZ (hw _ (List.mem_of_getElem? (i := 22) rfl)) (hw _ (List.mem_of_getElem? (i := 3) rfl)) (by decide) (by decide)) q56a q56c (g := (mkF m 118 #[.val (.int p1), .val (.int p2), .val (.ref b), .val (.int (1 : Int32)), .val (.int (1 : Int32)), .val (.ref w_NO), .val (.ref w_NO), .val (.ref w_YES), .val (.ref w_YES), .val (.ref w_YES), .val (.int (1 : Int32)), .val (.int (1 : Int32)), .unset, .unset] [(.ref w_NO), (.ref w_NO)])) rfl (by rw [hml]; rfl) (Steps.refl _) (argsL := [(.ref w_NO)]) (rest := []) (lenOf pd_1 rfl) rfl (by show 2 * 0 + _ ≤ _; exact Nat.le_of_eq rfl) (hb hby at_118) (fun _ _ => ⟨rfl, e55, (by decide : 0 + 1 + 0 ≤ _), (by decide : 0 + 3 + 0 ≤ _)⟩)
  dsimp only [Pt.U, Pt.locs, Pt.cells, Pt.slots] at X56 l56 y56 z56 st56 hQ56
  subst l56 y56 z56
  obtain ⟨hv56, N56q, e56⟩ := hQ56
  rw [show ((.ref (own_and w_NO w_UNKNOWN w_YES w_NO w_NO)) : Value) = (.ref w_NO) from by simp [own_and, nUN, nYN, nYU, nUN.symm, nYN.symm, nYU.symm]] at hv56
  subst hv56
  have N56 := Fr.app N55 N56q
  refine own_go (fun t k => st56.trans k) ?_
  show Go p.tables e below _ (T56.setTop (mkF m 121 #[.val (.int p1), .val (.int p2), .val (.ref b), .val (.int (1 : Int32)), .val (.int (1 : Int32)), .val (.ref w_NO), .val (.ref w_NO), .val (.ref w_YES), .val (.ref w_YES), .val (.ref w_YES), .val (.int (1 : Int32)), .val (.int (1 : Int32)), .unset, .unset] [(.ref w_NO)]))
  obtain ⟨cq57, kq57, q57a, q57b, q57c⟩ := isOf hZ e56 EH_NO
  obtain ⟨v57, _, ⟨T57, L57, k57, n57⟩, -, X57, ⟨Lc57, hQ57, l57, y57, z57⟩, st57⟩ := X56.virtualBack hx (y := (⟨"com/example/casewright/casewright/types/Answer", "not", "()Lcom/example/casewright/casewright/types/Answer;"⟩ : MethodName)) (z := (⟨"com/example/casewright/casewright/types/Answer", "not", "()Lcom/example/casewright/casewright/types/Answer;"⟩ : MethodName)) hown (mvT hZ (hw _ (List.mem_of_getElem? (i := 11) rfl))) (mvT hZ (hw _ (List.mem_of_getElem? (i := 12) rfl))) (notFace_of_selects (args := #[]) (mvT hZ (hw _ (List.mem_of_getElem? (i := 14) rfl)))) (mvT hZ (hw _ (List.mem_of_getElem? (i := 14) rfl))) (mvT hZ (hw _ (List.mem_of_getElem? (i := 13) rfl))) (by decide) (backOf (W := 0) (rm_not l Z a0 hw [] w_NO w_YES w_NO w_UNKNOWN h4 n0 SSh) hZ (hw _ (List.mem_of_getElem? (i := 15) rfl)) (hw _ (List.mem_of_getElem? (i := 3) rfl)) (by decide) (by decide)) q57a q57c (g := (mkF m 121 #[.val (.int p1), .val (.int p2), .val (.ref b), .val (.int (1 : Int32)), .val (.int (1 : Int32)), .val (.ref w_NO), .val (.ref w_NO), .val (.ref w_YES), .val (.ref w_YES), .val (.ref w_YES), .val (.int (1 : Int32)), .val (.int (1 : Int32)), .unset, .unset] [(.ref w_NO)])) rfl (by rw [hml]; rfl) (Steps.refl _) (argsL := []) (rest := []) (lenOf pd_0 rfl) rfl (by show 2 * 0 + _ ≤ _; exact Nat.le_of_eq rfl) (hb hby at_121) (fun _ _ => ⟨rfl, e56, (by decide : 0 + 1 + 0 ≤ _), (by decide : 0 + 3 + 0 ≤ _)⟩)
  dsimp only [Pt.U, Pt.locs, Pt.cells, Pt.slots] at X57 l57 y57 z57 st57 hQ57
  subst l57 y57 z57
  obtain ⟨hv57, N57q, e57⟩ := hQ57
  rw [show ((.ref (own_not w_NO w_UNKNOWN w_YES w_NO)) : Value) = (.ref w_YES) from by simp [own_not, nUN, nYN, nYU, nUN.symm, nYN.symm, nYU.symm]] at hv57
  subst hv57
  have N57 := Fr.app N56 N57q
  refine own_go (fun t k => st57.trans k) ?_
  show Go p.tables e below _ (T57.setTop (mkF m 124 #[.val (.int p1), .val (.int p2), .val (.ref b), .val (.int (1 : Int32)), .val (.int (1 : Int32)), .val (.ref w_NO), .val (.ref w_NO), .val (.ref w_YES), .val (.ref w_YES), .val (.ref w_YES), .val (.int (1 : Int32)), .val (.int (1 : Int32)), .unset, .unset] [(.ref w_YES)]))
  refine own_go (fun t k => XS.aload X57.here hx rfl (hb hby at_124) rfl rfl k) ?_
  show Go p.tables e below _ (T57.setTop (mkF m 126 #[.val (.int p1), .val (.int p2), .val (.ref b), .val (.int (1 : Int32)), .val (.int (1 : Int32)), .val (.ref w_NO), .val (.ref w_NO), .val (.ref w_YES), .val (.ref w_YES), .val (.ref w_YES), .val (.int (1 : Int32)), .val (.int (1 : Int32)), .unset, .unset] [(.ref w_YES), (.ref w_YES)]))
  refine own_go (fun t k => XS.aload X57.here hx rfl (hb hby at_126) rfl rfl k) ?_
  show Go p.tables e below _ (T57.setTop (mkF m 128 #[.val (.int p1), .val (.int p2), .val (.ref b), .val (.int (1 : Int32)), .val (.int (1 : Int32)), .val (.ref w_NO), .val (.ref w_NO), .val (.ref w_YES), .val (.ref w_YES), .val (.ref w_YES), .val (.int (1 : Int32)), .val (.int (1 : Int32)), .unset, .unset] [(.ref w_YES), (.ref w_YES), (.ref w_YES)]))
  obtain ⟨cq58, kq58, q58a, q58b, q58c⟩ := isOf hZ e57 EH_YES
  obtain ⟨v58, _, ⟨T58, L58, k58, n58⟩, -, X58, ⟨Lc58, hQ58, l58, y58, z58⟩, st58⟩ := X57.virtualBack hx (y := (⟨"com/example/casewright/casewright/types/Answer", "or", "(Lcom/example/casewright/casewright/types/Answer;)Lcom/example/casewright/casewright/types/Answer;"⟩ : MethodName)) (z := (⟨"com/example/casewright/casewright/types/Answer", "or", "(Lcom/example/casewright/casewright/types/Answer;)Lcom/example/casewright/casewright/types/Answer;"⟩ : MethodName)) hown (mvT hZ (hw _ (List.mem_of_getElem? (i := 24) rfl))) (mvT hZ (hw _ (List.mem_of_getElem? (i := 25) rfl))) (notFace_of_selects (args := #[]) (mvT hZ (hw _ (List.mem_of_getElem? (i := 27) rfl)))) (mvT hZ (hw _ (List.mem_of_getElem? (i := 27) rfl))) (mvT hZ (hw _ (List.mem_of_getElem? (i := 26) rfl))) (by decide) (backOf (W := 1) (rm_or l Z a0 hw [] w_YES w_YES w_YES w_NO w_UNKNOWN h4 n0 SSh) hZ (hw _ (List.mem_of_getElem? (i := 28) rfl)) (hw _ (List.mem_of_getElem? (i := 3) rfl)) (by decide) (by decide)) q58a q58c (g := (mkF m 128 #[.val (.int p1), .val (.int p2), .val (.ref b), .val (.int (1 : Int32)), .val (.int (1 : Int32)), .val (.ref w_NO), .val (.ref w_NO), .val (.ref w_YES), .val (.ref w_YES), .val (.ref w_YES), .val (.int (1 : Int32)), .val (.int (1 : Int32)), .unset, .unset] [(.ref w_YES), (.ref w_YES), (.ref w_YES)])) rfl (by rw [hml]; rfl) (Steps.refl _) (argsL := [(.ref w_YES)]) (rest := [(.ref w_YES)]) (lenOf pd_1 rfl) rfl (by show 2 * 0 + _ ≤ _; exact Nat.le_of_eq rfl) (hb hby at_128) (fun _ _ => ⟨rfl, e57, (by decide : 0 + 1 + 0 ≤ _), (by decide : 0 + 3 + 0 ≤ _)⟩)
  dsimp only [Pt.U, Pt.locs, Pt.cells, Pt.slots] at X58 l58 y58 z58 st58 hQ58
  subst l58 y58 z58
  obtain ⟨hv58, N58q, e58⟩ := hQ58
  rw [show ((.ref (own_or w_NO w_UNKNOWN w_YES w_YES w_YES)) : Value) = (.ref w_YES) from by simp [own_or, nUN, nYN, nYU, nUN.symm, nYN.symm, nYU.symm]] at hv58
  subst hv58
  have N58 := Fr.app N57 N58q
  refine own_go (fun t k => st58.trans k) ?_
  show Go p.tables e below _ (T58.setTop (mkF m 131 #[.val (.int p1), .val (.int p2), .val (.ref b), .val (.int (1 : Int32)), .val (.int (1 : Int32)), .val (.ref w_NO), .val (.ref w_NO), .val (.ref w_YES), .val (.ref w_YES), .val (.ref w_YES), .val (.int (1 : Int32)), .val (.int (1 : Int32)), .unset, .unset] [(.ref w_YES), (.ref w_YES)]))
  refine own_go (fun t k => XT.acmpNo X58.here hx rfl (hb hby at_131) rfl rfl rfl (XT.aa_ne_f (congrArg Value.ref rfl)) k) ?_
  show Go p.tables e below _ (T58.setTop (mkF m 134 #[.val (.int p1), .val (.int p2), .val (.ref b), .val (.int (1 : Int32)), .val (.int (1 : Int32)), .val (.ref w_NO), .val (.ref w_NO), .val (.ref w_YES), .val (.ref w_YES), .val (.ref w_YES), .val (.int (1 : Int32)), .val (.int (1 : Int32)), .unset, .unset] []))
  refine own_go (fun t k => XS.iconst X58.here hx rfl (hb hby at_134) k) ?_
  show Go p.tables e below _ (T58.setTop (mkF m 135 #[.val (.int p1), .val (.int p2), .val (.ref b), .val (.int (1 : Int32)), .val (.int (1 : Int32)), .val (.ref w_NO), .val (.ref w_NO), .val (.ref w_YES), .val (.ref w_YES), .val (.ref w_YES), .val (.int (1 : Int32)), .val (.int (1 : Int32)), .unset, .unset] [(.int (1 : Int32))]))
  refine own_go (fun t k => XS.goto X58.here hx rfl (pc0 := 135) (pc' := 139) rfl (hb hby at_135) (by decide) (by decide) k) ?_
  show Go p.tables e below _ (T58.setTop (mkF m 139 #[.val (.int p1), .val (.int p2), .val (.ref b), .val (.int (1 : Int32)), .val (.int (1 : Int32)), .val (.ref w_NO), .val (.ref w_NO), .val (.ref w_YES), .val (.ref w_YES), .val (.ref w_YES), .val (.int (1 : Int32)), .val (.int (1 : Int32)), .unset, .unset] [(.int (1 : Int32))]))
  refine own_go (fun t k => XS.istore X58.here hx rfl (hb hby at_139) rfl (l' := #[.val (.int p1), .val (.int p2), .val (.ref b), .val (.int (1 : Int32)), .val (.int (1 : Int32)), .val (.ref w_NO), .val (.ref w_NO), .val (.ref w_YES), .val (.ref w_YES), .val (.ref w_YES), .val (.int (1 : Int32)), .val (.int (1 : Int32)), .val (.int (1 : Int32)), .unset]) rfl k) ?_
  show Go p.tables e below _ (T58.setTop (mkF m 141 #[.val (.int p1), .val (.int p2), .val (.ref b), .val (.int (1 : Int32)), .val (.int (1 : Int32)), .val (.ref w_NO), .val (.ref w_NO), .val (.ref w_YES), .val (.ref w_YES), .val (.ref w_YES), .val (.int (1 : Int32)), .val (.int (1 : Int32)), .val (.int (1 : Int32)), .unset] []))
  refine own_go (fun t k => XS.aload X58.here hx rfl (hb hby at_141) rfl rfl k) ?_
  show Go p.tables e below _ (T58.setTop (mkF m 143 #[.val (.int p1), .val (.int p2), .val (.ref b), .val (.int (1 : Int32)), .val (.int (1 : Int32)), .val (.ref w_NO), .val (.ref w_NO), .val (.ref w_YES), .val (.ref w_YES), .val (.ref w_YES), .val (.int (1 : Int32)), .val (.int (1 : Int32)), .val (.int (1 : Int32)), .unset] [(.ref w_NO)]))
  refine own_go (fun t k => XS.aload X58.here hx rfl (hb hby at_143) rfl rfl k) ?_
  show Go p.tables e below _ (T58.setTop (mkF m 145 #[.val (.int p1), .val (.int p2), .val (.ref b), .val (.int (1 : Int32)), .val (.int (1 : Int32)), .val (.ref w_NO), .val (.ref w_NO), .val (.ref w_YES), .val (.ref w_YES), .val (.ref w_YES), .val (.int (1 : Int32)), .val (.int (1 : Int32)), .val (.int (1 : Int32)), .unset] [(.ref w_NO), (.ref w_NO)]))
  obtain ⟨cq59, kq59, q59a, q59b, q59c⟩ := isOf hZ e58 EH_NO
  obtain ⟨v59, _, ⟨T59, L59, k59, n59⟩, -, X59, ⟨Lc59, hQ59, l59, y59, z59⟩, st59⟩ := X58.virtualBack hx (y := (⟨"com/example/casewright/casewright/types/Answer", "or", "(Lcom/example/casewright/casewright/types/Answer;)Lcom/example/casewright/casewright/types/Answer;"⟩ : MethodName)) (z := (⟨"com/example/casewright/casewright/types/Answer", "or", "(Lcom/example/casewright/casewright/types/Answer;)Lcom/example/casewright/casewright/types/Answer;"⟩ : MethodName)) hown (mvT hZ (hw _ (List.mem_of_getElem? (i := 24) rfl))) (mvT hZ (hw _ (List.mem_of_getElem? (i := 25) rfl))) (notFace_of_selects (args := #[]) (mvT hZ (hw _ (List.mem_of_getElem? (i := 27) rfl)))) (mvT hZ (hw _ (List.mem_of_getElem? (i := 27) rfl))) (mvT hZ (hw _ (List.mem_of_getElem? (i := 26) rfl))) (by decide) (backOf (W := 0) (rm_or l Z a0 hw [] w_NO w_NO w_YES w_NO w_UNKNOWN h4 n0 SSh) hZ (hw _ (List.mem_of_getElem? (i := 28) rfl)) (hw _ (List.mem_of_getElem? (i := 3) rfl)) (by decide) (by decide)) q59a q59c (g := (mkF m 145 #[.val (.int p1), .val (.int p2), .val (.ref b), .val (.int (1 : Int32)), .val (.int (1 : Int32)), .val (.ref w_NO), .val (.ref w_NO), .val (.ref w_YES), .val (.ref w_YES), .val (.ref w_YES), .val (.int (1 : Int32)), .val (.int (1 : Int32)), .val (.int (1 : Int32)), .unset] [(.ref w_NO), (.ref w_NO)])) rfl (by rw [hml]; rfl) (Steps.refl _) (argsL := [(.ref w_NO)]) (rest := []) (lenOf pd_1 rfl) rfl (by show 2 * 0 + _ ≤ _; exact Nat.le_of_eq rfl) (hb hby at_145) (fun _ _ => ⟨rfl, e58, (by decide : 0 + 1 + 0 ≤ _), (by decide : 0 + 3 + 0 ≤ _)⟩)
  dsimp only [Pt.U, Pt.locs, Pt.cells, Pt.slots] at X59 l59 y59 z59 st59 hQ59
  subst l59 y59 z59
  obtain ⟨hv59, N59q, e59⟩ := hQ59
  rw [show ((.ref (own_or w_NO w_UNKNOWN w_YES w_NO w_NO)) : Value) = (.ref w_NO) from by simp [own_or, nUN, nYN, nYU, nUN.symm, nYN.symm, nYU.symm]] at hv59
  subst hv59
  have N59 := Fr.app N58 N59q
  refine own_go (fun t k => st59.trans k) ?_
  show Go p.tables e below _ (T59.setTop (mkF m 148 #[.val (.int p1), .val (.int p2), .val (.ref b), .val (.int (1 : Int32)), .val (.int (1 : Int32)), .val (.ref w_NO), .val (.ref w_NO), .val (.ref w_YES), .val (.ref w_YES), .val (.ref w_YES), .val (.int (1 : Int32)), .val (.int (1 : Int32)), .val (.int (1 : Int32)), .unset] [(.ref w_NO)]))
  obtain ⟨cq60, kq60, q60a, q60b, q60c⟩ := isOf hZ e59 EH_NO
  obtain ⟨v60, _, ⟨T60, L60, k60, n60⟩, -, X60, ⟨Lc60, hQ60, l60, y60, z60⟩, st60⟩ := X59.virtualBack hx (y := (⟨"com/example/casewright/casewright/types/Answer", "not", "()Lcom/example/casewright/casewright/types/Answer;"⟩ : MethodName)) (z := (⟨"com/example/casewright/casewright/types/Answer", "not", "()Lcom/example/casewright/casewright/types/Answer;"⟩ : MethodName)) hown (mvT hZ (hw _ (List.mem_of_getElem? (i := 11) rfl))) (mvT hZ (hw _ (List.mem_of_getElem? (i := 12) rfl))) (notFace_of_selects (args := #[]) (mvT hZ (hw _ (List.mem_of_getElem? (i := 14) rfl)))) (mvT hZ (hw _ (List.mem_of_getElem? (i := 14) rfl))) (mvT hZ (hw _ (List.mem_of_getElem? (i := 13) rfl))) (by decide) (backOf (W := 0) (rm_not l Z a0 hw [] w_NO w_YES w_NO w_UNKNOWN h4 n0 SSh) hZ (hw _ (List.mem_of_getElem? (i := 15) rfl)) (hw _ (List.mem_of_getElem? (i := 3) rfl)) (by decide) (by decide)) q60a q60c (g := (mkF m 148 #[.val (.int p1), .val (.int p2), .val (.ref b), .val (.int (1 : Int32)), .val (.int (1 : Int32)), .val (.ref w_NO), .val (.ref w_NO), .val (.ref w_YES), .val (.ref w_YES), .val (.ref w_YES), .val (.int (1 : Int32)), .val (.int (1 : Int32)), .val (.int (1 : Int32)), .unset] [(.ref w_NO)])) rfl (by rw [hml]; rfl) (Steps.refl _) (argsL := []) (rest := []) (lenOf pd_0 rfl) rfl (by show 2 * 0 + _ ≤ _; exact Nat.le_of_eq rfl) (hb hby at_148) (fun _ _ => ⟨rfl, e59, (by decide : 0 + 1 + 0 ≤ _), (by decide : 0 + 3 + 0 ≤ _)⟩)
  dsimp only [Pt.U, Pt.locs, Pt.cells, Pt.slots] at X60 l60 y60 z60 st60 hQ60
  subst l60 y60 z60
  obtain ⟨hv60, N60q, e60⟩ := hQ60
  rw [show ((.ref (own_not w_NO w_UNKNOWN w_YES w_NO)) : Value) = (.ref w_YES) from by simp [own_not, nUN, nYN, nYU, nUN.symm, nYN.symm, nYU.symm]] at hv60
  subst hv60
  have N60 := Fr.app N59 N60q
  refine own_go (fun t k => st60.trans k) ?_
  show Go p.tables e below _ (T60.setTop (mkF m 151 #[.val (.int p1), .val (.int p2), .val (.ref b), .val (.int (1 : Int32)), .val (.int (1 : Int32)), .val (.ref w_NO), .val (.ref w_NO), .val (.ref w_YES), .val (.ref w_YES), .val (.ref w_YES), .val (.int (1 : Int32)), .val (.int (1 : Int32)), .val (.int (1 : Int32)), .unset] [(.ref w_YES)]))
  refine own_go (fun t k => XS.aload X60.here hx rfl (hb hby at_151) rfl rfl k) ?_
  show Go p.tables e below _ (T60.setTop (mkF m 153 #[.val (.int p1), .val (.int p2), .val (.ref b), .val (.int (1 : Int32)), .val (.int (1 : Int32)), .val (.ref w_NO), .val (.ref w_NO), .val (.ref w_YES), .val (.ref w_YES), .val (.ref w_YES), .val (.int (1 : Int32)), .val (.int (1 : Int32)), .val (.int (1 : Int32)), .unset] [(.ref w_YES), (.ref w_YES)]))
  refine own_go (fun t k => XS.aload X60.here hx rfl (hb hby at_153) rfl rfl k) ?_
  show Go p.tables e below _ (T60.setTop (mkF m 155 #[.val (.int p1), .val (.int p2), .val (.ref b), .val (.int (1 : Int32)), .val (.int (1 : Int32)), .val (.ref w_NO), .val (.ref w_NO), .val (.ref w_YES), .val (.ref w_YES), .val (.ref w_YES), .val (.int (1 : Int32)), .val (.int (1 : Int32)), .val (.int (1 : Int32)), .unset] [(.ref w_YES), (.ref w_YES), (.ref w_YES)]))
  obtain ⟨cq61, kq61, q61a, q61b, q61c⟩ := isOf hZ e60 EH_YES
  obtain ⟨v61, _, ⟨T61, L61, k61, n61⟩, -, X61, ⟨Lc61, hQ61, l61, y61, z61⟩, st61⟩ := X60.virtualBack hx (y := (⟨"com/example/casewright/casewright/types/Answer", "and", "(Lcom/example/casewright/casewright/types/Answer;)Lcom/example/casewright/casewright/types/Answer;"⟩ : MethodName)) (z := (⟨"com/example/casewright/casewright/types/Answer", "and", "(Lcom/example/casewright/casewright/types/Answer;)Lcom/example/casewright/casewright/types/Answer;"⟩ : MethodName)) hown (mvT hZ (hw _ (List.mem_of_getElem? (i := 18) rfl))) (mvT hZ (hw _ (List.mem_of_getElem? (i := 19) rfl))) (notFace_of_selects (args := #[]) (mvT hZ (hw _ (List.mem_of_getElem? (i := 21) rfl)))) (mvT hZ (hw _ (List.mem_of_getElem? (i := 21) rfl))) (mvT hZ (hw _ (List.mem_of_getElem? (i := 20) rfl))) (by decide) (backOf (W := 1) (rm_and l Z a0 hw [] w_YES w_YES w_YES w_NO w_UNKNOWN h4 n0 SSh) hZ (hw _ (List.mem_of_getElem? (i := 22) rfl)) (hw _ (List.mem_of_getElem? (i := 3) rfl)) (by decide) (by decide)) q61a q61c (g := (mkF m 155 #[.val (.int p1), .val (.int p2), .val (.ref b), .val (.int (1 : Int32)), .val (.int (1 : Int32)), .val (.ref w_NO), .val (.ref w_NO), .val (.ref w_YES), .val (.ref w_YES), .val (.ref w_YES), .val (.int (1 : Int32)), .val (.int (1 : Int32)), .val (.int (1 : Int32)), .unset] [(.ref w_YES), (.ref w_YES), (.ref w_YES)])) rfl (by rw [hml]; rfl) (Steps.refl _) (argsL := [(.ref w_YES)]) (rest := [(.ref w_YES)]) (lenOf pd_1 rfl) rfl (by show 2 * 0 + _ ≤ _; exact Nat.le_of_eq rfl) (hb hby at_155) (fun _ _ => ⟨rfl, e60, (by decide : 0 + 1 + 0 ≤ _), (by decide : 0 + 3 + 0 ≤ _)⟩)
  dsimp only [Pt.U, Pt.locs, Pt.cells, Pt.slots] at X61 l61 y61 z61 st61 hQ61
  subst l61 y61 z61
  obtain ⟨hv61, N61q, e61⟩ := hQ61
  rw [show ((.ref (own_and w_NO w_UNKNOWN w_YES w_YES w_YES)) : Value) = (.ref w_YES) from by simp [own_and, nUN, nYN, nYU, nUN.symm, nYN.symm, nYU.symm]] at hv61
  subst hv61
  have N61 := Fr.app N60 N61q
  refine own_go (fun t k => st61.trans k) ?_
  show Go p.tables e below _ (T61.setTop (mkF m 158 #[.val (.int p1), .val (.int p2), .val (.ref b), .val (.int (1 : Int32)), .val (.int (1 : Int32)), .val (.ref w_NO), .val (.ref w_NO), .val (.ref w_YES), .val (.ref w_YES), .val (.ref w_YES), .val (.int (1 : Int32)), .val (.int (1 : Int32)), .val (.int (1 : Int32)), .unset] [(.ref w_YES), (.ref w_YES)]))
  refine own_go (fun t k => XT.acmpNo X61.here hx rfl (hb hby at_158) rfl rfl rfl (XT.aa_ne_f (congrArg Value.ref rfl)) k) ?_
  show Go p.tables e below _ (T61.setTop (mkF m 161 #[.val (.int p1), .val (.int p2), .val (.ref b), .val (.int (1 : Int32)), .val (.int (1 : Int32)), .val (.ref w_NO), .val (.ref w_NO), .val (.ref w_YES), .val (.ref w_YES), .val (.ref w_YES), .val (.int (1 : Int32)), .val (.int (1 : Int32)), .val (.int (1 : Int32)), .unset] []))
  refine own_go (fun t k => XS.iconst X61.here hx rfl (hb hby at_161) k) ?_
  show Go p.tables e below _ (T61.setTop (mkF m 162 #[.val (.int p1), .val (.int p2), .val (.ref b), .val (.int (1 : Int32)), .val (.int (1 : Int32)), .val (.ref w_NO), .val (.ref w_NO), .val (.ref w_YES), .val (.ref w_YES), .val (.ref w_YES), .val (.int (1 : Int32)), .val (.int (1 : Int32)), .val (.int (1 : Int32)), .unset] [(.int (1 : Int32))]))
  refine own_go (fun t k => XS.goto X61.here hx rfl (pc0 := 162) (pc' := 166) rfl (hb hby at_162) (by decide) (by decide) k) ?_
  show Go p.tables e below _ (T61.setTop (mkF m 166 #[.val (.int p1), .val (.int p2), .val (.ref b), .val (.int (1 : Int32)), .val (.int (1 : Int32)), .val (.ref w_NO), .val (.ref w_NO), .val (.ref w_YES), .val (.ref w_YES), .val (.ref w_YES), .val (.int (1 : Int32)), .val (.int (1 : Int32)), .val (.int (1 : Int32)), .unset] [(.int (1 : Int32))]))
  refine own_go (fun t k => XS.istore X61.here hx rfl (hb hby at_166) rfl (l' := #[.val (.int p1), .val (.int p2), .val (.ref b), .val (.int (1 : Int32)), .val (.int (1 : Int32)), .val (.ref w_NO), .val (.ref w_NO), .val (.ref w_YES), .val (.ref w_YES), .val (.ref w_YES), .val (.int (1 : Int32)), .val (.int (1 : Int32)), .val (.int (1 : Int32)), .val (.int (1 : Int32))]) rfl k) ?_
  show Go p.tables e below _ (T61.setTop (mkF m 168 #[.val (.int p1), .val (.int p2), .val (.ref b), .val (.int (1 : Int32)), .val (.int (1 : Int32)), .val (.ref w_NO), .val (.ref w_NO), .val (.ref w_YES), .val (.ref w_YES), .val (.ref w_YES), .val (.int (1 : Int32)), .val (.int (1 : Int32)), .val (.int (1 : Int32)), .val (.int (1 : Int32))] []))
  refine own_go (fun t k => XS.iload X61.here hx rfl (hb hby at_168) rfl k) ?_
  show Go p.tables e below _ (T61.setTop (mkF m 170 #[.val (.int p1), .val (.int p2), .val (.ref b), .val (.int (1 : Int32)), .val (.int (1 : Int32)), .val (.ref w_NO), .val (.ref w_NO), .val (.ref w_YES), .val (.ref w_YES), .val (.ref w_YES), .val (.int (1 : Int32)), .val (.int (1 : Int32)), .val (.int (1 : Int32)), .val (.int (1 : Int32))] [(.int (1 : Int32))]))
  refine own_go (fun t k => XS.ifNo X61.here hx rfl (hb hby at_170) rfl (XT.i0_eq_f (by decide)) k) ?_
  show Go p.tables e below _ (T61.setTop (mkF m 173 #[.val (.int p1), .val (.int p2), .val (.ref b), .val (.int (1 : Int32)), .val (.int (1 : Int32)), .val (.ref w_NO), .val (.ref w_NO), .val (.ref w_YES), .val (.ref w_YES), .val (.ref w_YES), .val (.int (1 : Int32)), .val (.int (1 : Int32)), .val (.int (1 : Int32)), .val (.int (1 : Int32))] []))
  refine own_go (fun t k => XS.iload X61.here hx rfl (hb hby at_173) rfl k) ?_
  show Go p.tables e below _ (T61.setTop (mkF m 175 #[.val (.int p1), .val (.int p2), .val (.ref b), .val (.int (1 : Int32)), .val (.int (1 : Int32)), .val (.ref w_NO), .val (.ref w_NO), .val (.ref w_YES), .val (.ref w_YES), .val (.ref w_YES), .val (.int (1 : Int32)), .val (.int (1 : Int32)), .val (.int (1 : Int32)), .val (.int (1 : Int32))] [(.int (1 : Int32))]))
  refine own_go (fun t k => XS.ifNo X61.here hx rfl (hb hby at_175) rfl (XT.i0_eq_f (by decide)) k) ?_
  show Go p.tables e below _ (T61.setTop (mkF m 178 #[.val (.int p1), .val (.int p2), .val (.ref b), .val (.int (1 : Int32)), .val (.int (1 : Int32)), .val (.ref w_NO), .val (.ref w_NO), .val (.ref w_YES), .val (.ref w_YES), .val (.ref w_YES), .val (.int (1 : Int32)), .val (.int (1 : Int32)), .val (.int (1 : Int32)), .val (.int (1 : Int32))] []))
  refine own_go (fun t k => XS.iload X61.here hx rfl (hb hby at_178) rfl k) ?_
  show Go p.tables e below _ (T61.setTop (mkF m 180 #[.val (.int p1), .val (.int p2), .val (.ref b), .val (.int (1 : Int32)), .val (.int (1 : Int32)), .val (.ref w_NO), .val (.ref w_NO), .val (.ref w_YES), .val (.ref w_YES), .val (.ref w_YES), .val (.int (1 : Int32)), .val (.int (1 : Int32)), .val (.int (1 : Int32)), .val (.int (1 : Int32))] [(.int (1 : Int32))]))
  refine own_go (fun t k => XS.ifNo X61.here hx rfl (hb hby at_180) rfl (XT.i0_eq_f (by decide)) k) ?_
  show Go p.tables e below _ (T61.setTop (mkF m 183 #[.val (.int p1), .val (.int p2), .val (.ref b), .val (.int (1 : Int32)), .val (.int (1 : Int32)), .val (.ref w_NO), .val (.ref w_NO), .val (.ref w_YES), .val (.ref w_YES), .val (.ref w_YES), .val (.int (1 : Int32)), .val (.int (1 : Int32)), .val (.int (1 : Int32)), .val (.int (1 : Int32))] []))
  refine own_go (fun t k => XS.iload X61.here hx rfl (hb hby at_183) rfl k) ?_
  show Go p.tables e below _ (T61.setTop (mkF m 185 #[.val (.int p1), .val (.int p2), .val (.ref b), .val (.int (1 : Int32)), .val (.int (1 : Int32)), .val (.ref w_NO), .val (.ref w_NO), .val (.ref w_YES), .val (.ref w_YES), .val (.ref w_YES), .val (.int (1 : Int32)), .val (.int (1 : Int32)), .val (.int (1 : Int32)), .val (.int (1 : Int32))] [(.int (1 : Int32))]))
  refine own_go (fun t k => XS.ifNo X61.here hx rfl (hb hby at_185) rfl (XT.i0_eq_f (by decide)) k) ?_
  show Go p.tables e below _ (T61.setTop (mkF m 188 #[.val (.int p1), .val (.int p2), .val (.ref b), .val (.int (1 : Int32)), .val (.int (1 : Int32)), .val (.ref w_NO), .val (.ref w_NO), .val (.ref w_YES), .val (.ref w_YES), .val (.ref w_YES), .val (.int (1 : Int32)), .val (.int (1 : Int32)), .val (.int (1 : Int32)), .val (.int (1 : Int32))] []))
  refine own_go (fun t k => XS.iconst X61.here hx rfl (hb hby at_188) k) ?_
  show Go p.tables e below _ (T61.setTop (mkF m 189 #[.val (.int p1), .val (.int p2), .val (.ref b), .val (.int (1 : Int32)), .val (.int (1 : Int32)), .val (.ref w_NO), .val (.ref w_NO), .val (.ref w_YES), .val (.ref w_YES), .val (.ref w_YES), .val (.int (1 : Int32)), .val (.int (1 : Int32)), .val (.int (1 : Int32)), .val (.int (1 : Int32))] [(.int (1 : Int32))]))
  refine own_go (fun t k => XS.goto X61.here hx rfl (pc0 := 189) (pc' := 193) rfl (hb hby at_189) (by decide) (by decide) k) ?_
  show Go p.tables e below _ (T61.setTop (mkF m 193 #[.val (.int p1), .val (.int p2), .val (.ref b), .val (.int (1 : Int32)), .val (.int (1 : Int32)), .val (.ref w_NO), .val (.ref w_NO), .val (.ref w_YES), .val (.ref w_YES), .val (.ref w_YES), .val (.int (1 : Int32)), .val (.int (1 : Int32)), .val (.int (1 : Int32)), .val (.int (1 : Int32))] [(.int (1 : Int32))]))
  exact own_ret X61 hx hlk Bd.returns rfl (Or.inl ⟨rfl, Or.inr (Or.inl rfl), _, rfl⟩) (hb hby at_193) ⟨rfl, N61⟩ (by decide) (by decide)
theorem ef_rm_law_12 (m : MethodId) (x0 : Int32) (x1 : Int32) : entryFrame m #[(.int x0), (.int x1)] maxLocals = mkF m 0 #[.val (.int x0), .val (.int x1), .unset, .unset, .unset, .unset, .unset, .unset, .unset, .unset, .unset, .unset, .unset, .unset] [] := by first | (simp [entryFrame, mkF, argsToLocals, Value.category, maxLocals]; done) | rfl
set_option maxRecDepth 65536 in
set_option maxHeartbeats 40000000 in
theorem rm_law_12 (l : Launch) (Z : State) (a0 : Array Value) (hw : ∀ d ∈ tables_1, d.before a0 Z = true) (ws : List Jvm.Cond) (p1 p2 : Int32) (w_YES w_NO w_UNKNOWN : Addr) (h0 : Heap) (n0 : Nat) (SS : own_S Z h0 w_YES w_NO w_UNKNOWN) (EE : own_E Z h0 w_YES w_NO w_UNKNOWN) (OO : own_O Z h0 w_YES w_NO w_UNKNOWN) (Z0 : n0 ≤ h0.size) (q1 : (p1 &&& 2147483647) % 3 = 1) (q2 : (p2 &&& 2147483647) % 3 = 2) :
    MetFree l x (head1 (Jvm.Cond.code x code maxLocals ret :: ws) room_1) (fun aa U => aa = #[(.int p1), (.int p2)] ∧ Z.Warmed39 U.vm ∧ U.heap = h0) (fun _ _ _ _ _ => True) (fun _ U o U' => ∃ v L, o = .returned v ∧ LQ n0 v U'.heap L ∧ FrameEnd U o U' L room_1.cells room_1.slots) := by
  refine MetFree.of_bodySF (plainFor_of_name pn_1) hisR ?_
  intro p e s m args below meth c s₁ Bd hml0 hP hK
  obtain ⟨rfl, hZ, hh⟩ := hP
  have hx := Bd.exec
  have hby := Bd.bytes
  have hlk := Bd.notSynchronized
  have hml : c.maxLocals = 14 := hml0
  have hown : s.vm.findClass "com/example/casewright/casewright/types/AnswerNotPinLaw" = some m.cls := findClass_of_methodNamed Bd.named
  have X0 : Stand p l e room_1 s m #[(.int p1), (.int p2)] below meth c s₁ [] 0 0 := Stand.of_body Bd
  have e0 : s₁.heap = h0 := by rw [← hh, Bd.state]; rfl
  have N0 := Fr.nil n0
  have SS' := SS
  obtain ⟨S_YES, S_NO, S_UNKNOWN⟩ := SS'
  obtain ⟨E_YES, E_NO, E_UNKNOWN⟩ := EE
  obtain ⟨F_NO_ordinal, F_YES_ordinal, F_UNKNOWN_ordinal⟩ := OO
  have nUN : w_UNKNOWN ≠ w_NO := (own_ne F_UNKNOWN_ordinal F_NO_ordinal (by decide))
  have nYN : w_YES ≠ w_NO := (own_ne F_YES_ordinal F_NO_ordinal (by decide))
  have nYU : w_YES ≠ w_UNKNOWN := (own_ne F_YES_ordinal F_UNKNOWN_ordinal (by decide))
  show Go p.tables e below (Fin s below (LQ n0) room_1.cells room_1.slots) (s₁.setTop (entryFrame m #[(.int p1), (.int p2)] maxLocals))
  refine own_go (fun t k => castTop (ef_rm_law_12 m p1 p2) k) ?_
  show Go p.tables e below _ (s₁.setTop (mkF m 0 #[.val (.int p1), .val (.int p2), .unset, .unset, .unset, .unset, .unset, .unset, .unset, .unset, .unset, .unset, .unset, .unset] []))
  refine own_go (fun t k => XS.iconst X0.here hx rfl (hb hby at_0) k) ?_
  show Go p.tables e below _ (s₁.setTop (mkF m 1 #[.val (.int p1), .val (.int p2), .unset, .unset, .unset, .unset, .unset, .unset, .unset, .unset, .unset, .unset, .unset, .unset] [(.int (3 : Int32))]))
  obtain ⟨T1, h1, kA, X1, e1, Ex1, A1, O1, st1⟩ := newR X0 hx hZ hown (hw _ (List.mem_of_getElem? (i := 0) rfl)) (hw _ (List.mem_of_getElem? (i := 1) rfl)) e0 (g := (mkF m 1 #[.val (.int p1), .val (.int p2), .unset, .unset, .unset, .unset, .unset, .unset, .unset, .unset, .unset, .unset, .unset, .unset] [(.int (3 : Int32))])) rfl (hb hby at_1) rfl (by decide) (cap := 3) (by decide) (by decide) (by decide) (by decide)
  obtain ⟨b, gb⟩ : ∃ z, z = h0.size := ⟨_, rfl⟩
  rw [← gb] at A1 st1
  have hb0 : n0 ≤ b := Nat.le_trans Z0 (Nat.le_of_eq gb.symm)
  have S1_YES := S_YES.ext Ex1
  have E1_YES := E_YES.ext Ex1
  have S1_NO := S_NO.ext Ex1
  have E1_NO := E_NO.ext Ex1
  have S1_UNKNOWN := S_UNKNOWN.ext Ex1
  have E1_UNKNOWN := E_UNKNOWN.ext Ex1
  refine own_go (fun t k => st1 t k) ?_
  show Go p.tables e below _ (T1.setTop (mkF m 4 #[.val (.int p1), .val (.int p2), .unset, .unset, .unset, .unset, .unset, .unset, .unset, .unset, .unset, .unset, .unset, .unset] [(.ref b)]))
  refine own_go (fun t k => XS.dup X1.here hx rfl (hb hby at_4) rfl rfl k) ?_
  show Go p.tables e below _ (T1.setTop (mkF m 5 #[.val (.int p1), .val (.int p2), .unset, .unset, .unset, .unset, .unset, .unset, .unset, .unset, .unset, .unset, .unset, .unset] [(.ref b), (.ref b)]))
  refine own_go (fun t k => XS.iconst X1.here hx rfl (hb hby at_5) k) ?_
  show Go p.tables e below _ (T1.setTop (mkF m 6 #[.val (.int p1), .val (.int p2), .unset, .unset, .unset, .unset, .unset, .unset, .unset, .unset, .unset, .unset, .unset, .unset] [(.int (0 : Int32)), (.ref b), (.ref b)]))
  obtain ⟨T11, X11, e11, st11⟩ := getS2 X1 hx hZ hown (host := "") (Or.inl (hw _ (List.mem_of_getElem? (i := 2) rfl))) Via.refl e1 S1_YES (g := (mkF m 6 #[.val (.int p1), .val (.int p2), .unset, .unset, .unset, .unset, .unset, .unset, .unset, .unset, .unset, .unset, .unset, .unset] [(.int (0 : Int32)), (.ref b), (.ref b)])) rfl (hb hby at_6)
  refine own_go (fun t k => st11 t k) ?_
  show Go p.tables e below _ (T11.setTop (mkF m 9 #[.val (.int p1), .val (.int p2), .unset, .unset, .unset, .unset, .unset, .unset, .unset, .unset, .unset, .unset, .unset, .unset] [(.ref w_YES), (.int (0 : Int32)), (.ref b), (.ref b)]))
  obtain ⟨T2w, h2, X2w, e2w, W2, stw2⟩ := stR X11 hx hZ e11 A1 (j := (0 : Int32)) (by rw [sz_new]; decide) rfl (Sto.of A1 O1 (Ins.self E1_YES)) (g := (mkF m 9 #[.val (.int p1), .val (.int p2), .unset, .unset, .unset, .unset, .unset, .unset, .unset, .unset, .unset, .unset, .unset, .unset] [(.ref w_YES), (.int (0 : Int32)), (.ref b), (.ref b)])) rfl rfl (hb hby at_9)
  have N2w := Fr.snoc X2w N0 hb0
  have A2 := A1.same W2
  have S2_YES := S1_YES.wr W2
  have E2_YES := E1_YES.wr W2
  have S2_NO := S1_NO.wr W2
  have E2_NO := E1_NO.wr W2
  have S2_UNKNOWN := S1_UNKNOWN.wr W2
  have E2_UNKNOWN := E1_UNKNOWN.wr W2
  refine own_go (fun t k => stw2 t k) ?_
  show Go p.tables e below _ (T2w.setTop (mkF m 10 #[.val (.int p1), .val (.int p2), .unset, .unset, .unset, .unset, .unset, .unset, .unset, .unset, .unset, .unset, .unset, .unset] [(.ref b)]))
  refine own_go (fun t k => XS.dup X2w.here hx rfl (hb hby at_10) rfl rfl k) ?_
  show Go p.tables e below _ (T2w.setTop (mkF m 11 #[.val (.int p1), .val (.int p2), .unset, .unset, .unset, .unset, .unset, .unset, .unset, .unset, .unset, .unset, .unset, .unset] [(.ref b), (.ref b)]))
  refine own_go (fun t k => XS.iconst X2w.here hx rfl (hb hby at_11) k) ?_
  show Go p.tables e below _ (T2w.setTop (mkF m 12 #[.val (.int p1), .val (.int p2), .unset, .unset, .unset, .unset, .unset, .unset, .unset, .unset, .unset, .unset, .unset, .unset] [(.int (1 : Int32)), (.ref b), (.ref b)]))
  obtain ⟨T51, X51, e51, st51⟩ := getS2 X2w hx hZ hown (host := "") (Or.inl (hw _ (List.mem_of_getElem? (i := 6) rfl))) Via.refl e2w S2_NO (g := (mkF m 12 #[.val (.int p1), .val (.int p2), .unset, .unset, .unset, .unset, .unset, .unset, .unset, .unset, .unset, .unset, .unset, .unset] [(.int (1 : Int32)), (.ref b), (.ref b)])) rfl (hb hby at_12)
  refine own_go (fun t k => st51 t k) ?_
  show Go p.tables e below _ (T51.setTop (mkF m 15 #[.val (.int p1), .val (.int p2), .unset, .unset, .unset, .unset, .unset, .unset, .unset, .unset, .unset, .unset, .unset, .unset] [(.ref w_NO), (.int (1 : Int32)), (.ref b), (.ref b)]))
  obtain ⟨T3w, h3, X3w, e3w, W3, stw3⟩ := stR X51 hx hZ e51 A2 (j := (1 : Int32)) (by rw [sz_set]; rw [sz_new]; decide) rfl (Sto.of A2 O1 (Ins.self E2_NO)) (g := (mkF m 15 #[.val (.int p1), .val (.int p2), .unset, .unset, .unset, .unset, .unset, .unset, .unset, .unset, .unset, .unset, .unset, .unset] [(.ref w_NO), (.int (1 : Int32)), (.ref b), (.ref b)])) rfl rfl (hb hby at_15)
  have N3w := Fr.snoc X3w N2w hb0
  have A3 := A2.same W3
  have S3_YES := S2_YES.wr W3
  have E3_YES := E2_YES.wr W3
  have S3_NO := S2_NO.wr W3
  have E3_NO := E2_NO.wr W3
  have S3_UNKNOWN := S2_UNKNOWN.wr W3
  have E3_UNKNOWN := E2_UNKNOWN.wr W3
  refine own_go (fun t k => stw3 t k) ?_
  show Go p.tables e below _ (T3w.setTop (mkF m 16 #[.val (.int p1), .val (.int p2), .unset, .unset, .unset, .unset, .unset, .unset, .unset, .unset, .unset, .unset, .unset, .unset] [(.ref b)]))
  refine own_go (fun t k => XS.dup X3w.here hx rfl (hb hby at_16) rfl rfl k) ?_
  show Go p.tables e below _ (T3w.setTop (mkF m 17 #[.val (.int p1), .val (.int p2), .unset, .unset, .unset, .unset, .unset, .unset, .unset, .unset, .unset, .unset, .unset, .unset] [(.ref b), (.ref b)]))
  refine own_go (fun t k => XS.iconst X3w.here hx rfl (hb hby at_17) k) ?_
  show Go p.tables e below _ (T3w.setTop (mkF m 18 #[.val (.int p1), .val (.int p2), .unset, .unset, .unset, .unset, .unset, .unset, .unset, .unset, .unset, .unset, .unset, .unset] [(.int (2 : Int32)), (.ref b), (.ref b)]))
  obtain ⟨T52, X52, e52, st52⟩ := getS2 X3w hx hZ hown (host := "") (Or.inl (hw _ (List.mem_of_getElem? (i := 8) rfl))) Via.refl e3w S3_UNKNOWN (g := (mkF m 18 #[.val (.int p1), .val (.int p2), .unset, .unset, .unset, .unset, .unset, .unset, .unset, .unset, .unset, .unset, .unset, .unset] [(.int (2 : Int32)), (.ref b), (.ref b)])) rfl (hb hby at_18)
  refine own_go (fun t k => st52 t k) ?_
  show Go p.tables e below _ (T52.setTop (mkF m 21 #[.val (.int p1), .val (.int p2), .unset, .unset, .unset, .unset, .unset, .unset, .unset, .unset, .unset, .unset, .unset, .unset] [(.ref w_UNKNOWN), (.int (2 : Int32)), (.ref b), (.ref b)]))
  obtain ⟨T4w, h4, X4w, e4w, W4, stw4⟩ := stR X52 hx hZ e52 A3 (j := (2 : Int32)) (by rw [sz_set]; rw [sz_set]; rw [sz_new]; decide) rfl (Sto.of A3 O1 (Ins.self E3_UNKNOWN)) (g := (mkF m 21 #[.val (.int p1), .val (.int p2), .unset, .unset, .unset, .unset, .unset, .unset, .unset, .unset, .unset, .unset, .unset, .unset] [(.ref w_UNKNOWN), (.int (2 : Int32)), (.ref b), (.ref b)])) rfl rfl (hb hby at_21)
  have N4w := Fr.snoc X4w N3w hb0
  have A4 := A3.same W4
  have S4_YES := S3_YES.wr W4
  have E4_YES := E3_YES.wr W4
  have S4_NO := S3_NO.wr W4
  have E4_NO := E3_NO.wr W4
  have S4_UNKNOWN := S3_UNKNOWN.wr W4
  have E4_UNKNOWN := E3_UNKNOWN.wr W4
  refine own_go (fun t k => stw4 t k) ?_
  show Go p.tables e below _ (T4w.setTop (mkF m 22 #[.val (.int p1), .val (.int p2), .unset, .unset, .unset, .unset, .unset, .unset, .unset, .unset, .unset, .unset, .unset, .unset] [(.ref b)]))
  have SSh : own_S Z h4 w_YES w_NO w_UNKNOWN := ⟨S4_YES, S4_NO, S4_UNKNOWN⟩
  have EH_YES := E4_YES
  have EH_NO := E4_NO
  have EH_UNKNOWN := E4_UNKNOWN
  refine own_go (fun t k => XS.astoreN X4w.here hx rfl (hb hby at_22) rfl rfl (l' := #[.val (.int p1), .val (.int p2), .val (.ref b), .unset, .unset, .unset, .unset, .unset, .unset, .unset, .unset, .unset, .unset, .unset]) rfl k) ?_
  show Go p.tables e below _ (T4w.setTop (mkF m 23 #[.val (.int p1), .val (.int p2), .val (.ref b), .unset, .unset, .unset, .unset, .unset, .unset, .unset, .unset, .unset, .unset, .unset] []))
  refine own_go (fun t k => XS.iloadN X4w.here hx rfl (hb hby at_23) rfl k) ?_
  show Go p.tables e below _ (T4w.setTop (mkF m 24 #[.val (.int p1), .val (.int p2), .val (.ref b), .unset, .unset, .unset, .unset, .unset, .unset, .unset, .unset, .unset, .unset, .unset] [(.int p1)]))
  refine own_go (fun t k => Jvm.Stand.ldcI X4w hx hown (mvT hZ (hw _ (List.mem_of_getElem? (i := 10) rfl))) rfl (hb hby at_24) k) ?_
  show Go p.tables e below _ (T4w.setTop (mkF m 26 #[.val (.int p1), .val (.int p2), .val (.ref b), .unset, .unset, .unset, .unset, .unset, .unset, .unset, .unset, .unset, .unset, .unset] [(.int (2147483647 : Int32)), (.int p1)]))
  refine own_go (fun t k => XS.iand X4w.here hx rfl (hb hby at_26) rfl k) ?_
  show Go p.tables e below _ (T4w.setTop (mkF m 27 #[.val (.int p1), .val (.int p2), .val (.ref b), .unset, .unset, .unset, .unset, .unset, .unset, .unset, .unset, .unset, .unset, .unset] [(.int (p1 &&& (2147483647 : Int32)))]))
  refine own_go (fun t k => XS.iconst X4w.here hx rfl (hb hby at_27) k) ?_
  show Go p.tables e below _ (T4w.setTop (mkF m 28 #[.val (.int p1), .val (.int p2), .val (.ref b), .unset, .unset, .unset, .unset, .unset, .unset, .unset, .unset, .unset, .unset, .unset] [(.int (3 : Int32)), (.int (p1 &&& (2147483647 : Int32)))]))
  refine own_go (fun t k => iremM (g := (mkF m 28 #[.val (.int p1), .val (.int p2), .val (.ref b), .unset, .unset, .unset, .unset, .unset, .unset, .unset, .unset, .unset, .unset, .unset] [(.int (3 : Int32)), (.int (p1 &&& (2147483647 : Int32)))])) X4w hx rfl (hb hby at_28) rfl (by decide) k) ?_
  show Go p.tables e below _ (T4w.setTop (mkF m 29 #[.val (.int p1), .val (.int p2), .val (.ref b), .unset, .unset, .unset, .unset, .unset, .unset, .unset, .unset, .unset, .unset, .unset] [(.int ((p1 &&& (2147483647 : Int32)) % (3 : Int32)))]))
  rw [q1]
  show Go p.tables e below _ (T4w.setTop (mkF m 29 #[.val (.int p1), .val (.int p2), .val (.ref b), .unset, .unset, .unset, .unset, .unset, .unset, .unset, .unset, .unset, .unset, .unset] [(.int (1 : Int32))]))
  refine own_go (fun t k => XS.istoreN X4w.here hx rfl (hb hby at_29) rfl (l' := #[.val (.int p1), .val (.int p2), .val (.ref b), .val (.int (1 : Int32)), .unset, .unset, .unset, .unset, .unset, .unset, .unset, .unset, .unset, .unset]) rfl k) ?_
  show Go p.tables e below _ (T4w.setTop (mkF m 30 #[.val (.int p1), .val (.int p2), .val (.ref b), .val (.int (1 : Int32)), .unset, .unset, .unset, .unset, .unset, .unset, .unset, .unset, .unset, .unset] []))
  refine own_go (fun t k => XS.iloadN X4w.here hx rfl (hb hby at_30) rfl k) ?_
  show Go p.tables e below _ (T4w.setTop (mkF m 31 #[.val (.int p1), .val (.int p2), .val (.ref b), .val (.int (1 : Int32)), .unset, .unset, .unset, .unset, .unset, .unset, .unset, .unset, .unset, .unset] [(.int p2)]))
  refine own_go (fun t k => Jvm.Stand.ldcI X4w hx hown (mvT hZ (hw _ (List.mem_of_getElem? (i := 10) rfl))) rfl (hb hby at_31) k) ?_
  show Go p.tables e below _ (T4w.setTop (mkF m 33 #[.val (.int p1), .val (.int p2), .val (.ref b), .val (.int (1 : Int32)), .unset, .unset, .unset, .unset, .unset, .unset, .unset, .unset, .unset, .unset] [(.int (2147483647 : Int32)), (.int p2)]))
  refine own_go (fun t k => XS.iand X4w.here hx rfl (hb hby at_33) rfl k) ?_
  show Go p.tables e below _ (T4w.setTop (mkF m 34 #[.val (.int p1), .val (.int p2), .val (.ref b), .val (.int (1 : Int32)), .unset, .unset, .unset, .unset, .unset, .unset, .unset, .unset, .unset, .unset] [(.int (p2 &&& (2147483647 : Int32)))]))
  refine own_go (fun t k => XS.iconst X4w.here hx rfl (hb hby at_34) k) ?_
  show Go p.tables e below _ (T4w.setTop (mkF m 35 #[.val (.int p1), .val (.int p2), .val (.ref b), .val (.int (1 : Int32)), .unset, .unset, .unset, .unset, .unset, .unset, .unset, .unset, .unset, .unset] [(.int (3 : Int32)), (.int (p2 &&& (2147483647 : Int32)))]))
  refine own_go (fun t k => iremM (g := (mkF m 35 #[.val (.int p1), .val (.int p2), .val (.ref b), .val (.int (1 : Int32)), .unset, .unset, .unset, .unset, .unset, .unset, .unset, .unset, .unset, .unset] [(.int (3 : Int32)), (.int (p2 &&& (2147483647 : Int32)))])) X4w hx rfl (hb hby at_35) rfl (by decide) k) ?_
  show Go p.tables e below _ (T4w.setTop (mkF m 36 #[.val (.int p1), .val (.int p2), .val (.ref b), .val (.int (1 : Int32)), .unset, .unset, .unset, .unset, .unset, .unset, .unset, .unset, .unset, .unset] [(.int ((p2 &&& (2147483647 : Int32)) % (3 : Int32)))]))
  rw [q2]
  show Go p.tables e below _ (T4w.setTop (mkF m 36 #[.val (.int p1), .val (.int p2), .val (.ref b), .val (.int (1 : Int32)), .unset, .unset, .unset, .unset, .unset, .unset, .unset, .unset, .unset, .unset] [(.int (2 : Int32))]))
  refine own_go (fun t k => XS.istore X4w.here hx rfl (hb hby at_36) rfl (l' := #[.val (.int p1), .val (.int p2), .val (.ref b), .val (.int (1 : Int32)), .val (.int (2 : Int32)), .unset, .unset, .unset, .unset, .unset, .unset, .unset, .unset, .unset]) rfl k) ?_
  show Go p.tables e below _ (T4w.setTop (mkF m 38 #[.val (.int p1), .val (.int p2), .val (.ref b), .val (.int (1 : Int32)), .val (.int (2 : Int32)), .unset, .unset, .unset, .unset, .unset, .unset, .unset, .unset, .unset] []))
  refine own_go (fun t k => XS.aloadN X4w.here hx rfl (hb hby at_38) rfl rfl k) ?_
  show Go p.tables e below _ (T4w.setTop (mkF m 39 #[.val (.int p1), .val (.int p2), .val (.ref b), .val (.int (1 : Int32)), .val (.int (2 : Int32)), .unset, .unset, .unset, .unset, .unset, .unset, .unset, .unset, .unset] [(.ref b)]))
  refine own_go (fun t k => XS.iloadN X4w.here hx rfl (hb hby at_39) rfl k) ?_
  show Go p.tables e below _ (T4w.setTop (mkF m 40 #[.val (.int p1), .val (.int p2), .val (.ref b), .val (.int (1 : Int32)), .val (.int (2 : Int32)), .unset, .unset, .unset, .unset, .unset, .unset, .unset, .unset, .unset] [(.int (1 : Int32)), (.ref b)]))
  refine own_go (fun t k => X4w.aaload hx (j := (1 : Int32)) (v := (.ref w_NO)) (by rw [e4w]; exact A4.1) (State.isArrayOf_alike hZ.alike A4.2.1) rfl A4.2.2 (by rw [sz_set, sz_set, sz_set, sz_new]; decide) rfl (g := (mkF m 40 #[.val (.int p1), .val (.int p2), .val (.ref b), .val (.int (1 : Int32)), .val (.int (2 : Int32)), .unset, .unset, .unset, .unset, .unset, .unset, .unset, .unset, .unset] [(.int (1 : Int32)), (.ref b)])) rfl rfl (hb hby at_40) t k) ?_
  show Go p.tables e below _ (T4w.setTop (mkF m 41 #[.val (.int p1), .val (.int p2), .val (.ref b), .val (.int (1 : Int32)), .val (.int (2 : Int32)), .unset, .unset, .unset, .unset, .unset, .unset, .unset, .unset, .unset] [(.ref w_NO)]))
  refine own_go (fun t k => XS.astore X4w.here hx rfl (hb hby at_41) rfl rfl (l' := #[.val (.int p1), .val (.int p2), .val (.ref b), .val (.int (1 : Int32)), .val (.int (2 : Int32)), .val (.ref w_NO), .unset, .unset, .unset, .unset, .unset, .unset, .unset, .unset]) rfl k) ?_
  show Go p.tables e below _ (T4w.setTop (mkF m 43 #[.val (.int p1), .val (.int p2), .val (.ref b), .val (.int (1 : Int32)), .val (.int (2 : Int32)), .val (.ref w_NO), .unset, .unset, .unset, .unset, .unset, .unset, .unset, .unset] []))
  refine own_go (fun t k => XS.aloadN X4w.here hx rfl (hb hby at_43) rfl rfl k) ?_
  show Go p.tables e below _ (T4w.setTop (mkF m 44 #[.val (.int p1), .val (.int p2), .val (.ref b), .val (.int (1 : Int32)), .val (.int (2 : Int32)), .val (.ref w_NO), .unset, .unset, .unset, .unset, .unset, .unset, .unset, .unset] [(.ref b)]))
  refine own_go (fun t k => XS.iload X4w.here hx rfl (hb hby at_44) rfl k) ?_
  show Go p.tables e below _ (T4w.setTop (mkF m 46 #[.val (.int p1), .val (.int p2), .val (.ref b), .val (.int (1 : Int32)), .val (.int (2 : Int32)), .val (.ref w_NO), .unset, .unset, .unset, .unset, .unset, .unset, .unset, .unset] [(.int (2 : Int32)), (.ref b)]))
  refine own_go (fun t k => X4w.aaload hx (j := (2 : Int32)) (v := (.ref w_UNKNOWN)) (by rw [e4w]; exact A4.1) (State.isArrayOf_alike hZ.alike A4.2.1) rfl A4.2.2 (by rw [sz_set, sz_set, sz_set, sz_new]; decide) rfl (g := (mkF m 46 #[.val (.int p1), .val (.int p2), .val (.ref b), .val (.int (1 : Int32)), .val (.int (2 : Int32)), .val (.ref w_NO), .unset, .unset, .unset, .unset, .unset, .unset, .unset, .unset] [(.int (2 : Int32)), (.ref b)])) rfl rfl (hb hby at_46) t k) ?_
  show Go p.tables e below _ (T4w.setTop (mkF m 47 #[.val (.int p1), .val (.int p2), .val (.ref b), .val (.int (1 : Int32)), .val (.int (2 : Int32)), .val (.ref w_NO), .unset, .unset, .unset, .unset, .unset, .unset, .unset, .unset] [(.ref w_UNKNOWN)]))
  refine own_go (fun t k => XS.astore X4w.here hx rfl (hb hby at_47) rfl rfl (l' := #[.val (.int p1), .val (.int p2), .val (.ref b), .val (.int (1 : Int32)), .val (.int (2 : Int32)), .val (.ref w_NO), .val (.ref w_UNKNOWN), .unset, .unset, .unset, .unset, .unset, .unset, .unset]) rfl k) ?_
  show Go p.tables e below _ (T4w.setTop (mkF m 49 #[.val (.int p1), .val (.int p2), .val (.ref b), .val (.int (1 : Int32)), .val (.int (2 : Int32)), .val (.ref w_NO), .val (.ref w_UNKNOWN), .unset, .unset, .unset, .unset, .unset, .unset, .unset] []))
  refine own_go (fun t k => XS.iloadN X4w.here hx rfl (hb hby at_49) rfl k) ?_
  show Go p.tables e below _ (T4w.setTop (mkF m 50 #[.val (.int p1), .val (.int p2), .val (.ref b), .val (.int (1 : Int32)), .val (.int (2 : Int32)), .val (.ref w_NO), .val (.ref w_UNKNOWN), .unset, .unset, .unset, .unset, .unset, .unset, .unset] [(.int (1 : Int32))]))
  refine own_go (fun t k => XS.iconst X4w.here hx rfl (hb hby at_50) k) ?_
  show Go p.tables e below _ (T4w.setTop (mkF m 51 #[.val (.int p1), .val (.int p2), .val (.ref b), .val (.int (1 : Int32)), .val (.int (2 : Int32)), .val (.ref w_NO), .val (.ref w_UNKNOWN), .unset, .unset, .unset, .unset, .unset, .unset, .unset] [(.int (2 : Int32)), (.int (1 : Int32))]))
  refine own_go (fun t k => XS.icmpYes X4w.here hx rfl (pc0 := 51) (pc' := 62) rfl (hb hby at_51) rfl (XT.ii_ne_t (by decide)) (by decide) (by decide) k) ?_
  show Go p.tables e below _ (T4w.setTop (mkF m 62 #[.val (.int p1), .val (.int p2), .val (.ref b), .val (.int (1 : Int32)), .val (.int (2 : Int32)), .val (.ref w_NO), .val (.ref w_UNKNOWN), .unset, .unset, .unset, .unset, .unset, .unset, .unset] []))
  refine own_go (fun t k => XS.aloadN X4w.here hx rfl (hb hby at_62) rfl rfl k) ?_
  show Go p.tables e below _ (T4w.setTop (mkF m 63 #[.val (.int p1), .val (.int p2), .val (.ref b), .val (.int (1 : Int32)), .val (.int (2 : Int32)), .val (.ref w_NO), .val (.ref w_UNKNOWN), .unset, .unset, .unset, .unset, .unset, .unset, .unset] [(.ref b)]))
  refine own_go (fun t k => XS.iconst X4w.here hx rfl (hb hby at_63) k) ?_
  show Go p.tables e below _ (T4w.setTop (mkF m 64 #[.val (.int p1), .val (.int p2), .val (.ref b), .val (.int (1 : Int32)), .val (.int (2 : Int32)), .val (.ref w_NO), .val (.ref w_UNKNOWN), .unset, .unset, .unset, .unset, .unset, .unset, .unset] [(.int (1 : Int32)), (.ref b)]))
  refine own_go (fun t k => XS.iloadN X4w.here hx rfl (hb hby at_64) rfl k) ?_
  show Go p.tables e below _ (T4w.setTop (mkF m 65 #[.val (.int p1), .val (.int p2), .val (.ref b), .val (.int (1 : Int32)), .val (.int (2 : Int32)), .val (.ref w_NO), .val (.ref w_UNKNOWN), .unset, .unset, .unset, .unset, .unset, .unset, .unset] [(.int (1 : Int32)), (.int (1 : Int32)), (.ref b)]))
  refine own_go (fun t k => XS.isub X4w.here hx rfl (hb hby at_65) rfl k) ?_
  show Go p.tables e below _ (T4w.setTop (mkF m 66 #[.val (.int p1), .val (.int p2), .val (.ref b), .val (.int (1 : Int32)), .val (.int (2 : Int32)), .val (.ref w_NO), .val (.ref w_UNKNOWN), .unset, .unset, .unset, .unset, .unset, .unset, .unset] [(.int (0 : Int32)), (.ref b)]))
  refine own_go (fun t k => X4w.aaload hx (j := (0 : Int32)) (v := (.ref w_YES)) (by rw [e4w]; exact A4.1) (State.isArrayOf_alike hZ.alike A4.2.1) rfl A4.2.2 (by rw [sz_set, sz_set, sz_set, sz_new]; decide) rfl (g := (mkF m 66 #[.val (.int p1), .val (.int p2), .val (.ref b), .val (.int (1 : Int32)), .val (.int (2 : Int32)), .val (.ref w_NO), .val (.ref w_UNKNOWN), .unset, .unset, .unset, .unset, .unset, .unset, .unset] [(.int (0 : Int32)), (.ref b)])) rfl rfl (hb hby at_66) t k) ?_
  show Go p.tables e below _ (T4w.setTop (mkF m 67 #[.val (.int p1), .val (.int p2), .val (.ref b), .val (.int (1 : Int32)), .val (.int (2 : Int32)), .val (.ref w_NO), .val (.ref w_UNKNOWN), .unset, .unset, .unset, .unset, .unset, .unset, .unset] [(.ref w_YES)]))
  refine own_go (fun t k => XS.astore X4w.here hx rfl (hb hby at_67) rfl rfl (l' := #[.val (.int p1), .val (.int p2), .val (.ref b), .val (.int (1 : Int32)), .val (.int (2 : Int32)), .val (.ref w_NO), .val (.ref w_UNKNOWN), .val (.ref w_YES), .unset, .unset, .unset, .unset, .unset, .unset]) rfl k) ?_
  show Go p.tables e below _ (T4w.setTop (mkF m 69 #[.val (.int p1), .val (.int p2), .val (.ref b), .val (.int (1 : Int32)), .val (.int (2 : Int32)), .val (.ref w_NO), .val (.ref w_UNKNOWN), .val (.ref w_YES), .unset, .unset, .unset, .unset, .unset, .unset] []))
  refine own_go (fun t k => XS.aload X4w.here hx rfl (hb hby at_69) rfl rfl k) ?_
  show Go p.tables e below _ (T4w.setTop (mkF m 71 #[.val (.int p1), .val (.int p2), .val (.ref b), .val (.int (1 : Int32)), .val (.int (2 : Int32)), .val (.ref w_NO), .val (.ref w_UNKNOWN), .val (.ref w_YES), .unset, .unset, .unset, .unset, .unset, .unset] [(.ref w_NO)]))
  obtain ⟨cq53, kq53, q53a, q53b, q53c⟩ := isOf hZ e4w EH_NO
  obtain ⟨v53, _, ⟨T53, L53, k53, n53⟩, -, X53, ⟨Lc53, hQ53, l53, y53, z53⟩, st53⟩ := X4w.virtualBack hx (y := (⟨"com/example/casewright/casewright/types/Answer", "not", "()Lcom/example/casewright/casewright/types/Answer;"⟩ : MethodName)) (z := (⟨"com/example/casewright/casewright/types/Answer", "not", "()Lcom/example/casewright/casewright/types/Answer;"⟩ : MethodName)) hown (mvT hZ (hw _ (List.mem_of_getElem? (i := 11) rfl))) (mvT hZ (hw _ (List.mem_of_getElem? (i := 12) rfl))) (notFace_of_selects (args := #[]) (mvT hZ (hw _ (List.mem_of_getElem? (i := 14) rfl)))) (mvT hZ (hw _ (List.mem_of_getElem? (i := 14) rfl))) (mvT hZ (hw _ (List.mem_of_getElem? (i := 13) rfl))) (by decide) (backOf (W := 0) (rm_not l Z a0 hw [] w_NO w_YES w_NO w_UNKNOWN h4 n0 SSh) hZ (hw _ (List.mem_of_getElem? (i := 15) rfl)) (hw _ (List.mem_of_getElem? (i := 3) rfl)) (by decide) (by decide)) q53a q53c (g := (mkF m 71 #[.val (.int p1), .val (.int p2), .val (.ref b), .val (.int (1 : Int32)), .val (.int (2 : Int32)), .val (.ref w_NO), .val (.ref w_UNKNOWN), .val (.ref w_YES), .unset, .unset, .unset, .unset, .unset, .unset] [(.ref w_NO)])) rfl (by rw [hml]; rfl) (Steps.refl _) (argsL := []) (rest := []) (lenOf pd_0 rfl) rfl (by show 2 * 0 + _ ≤ _; exact Nat.le_of_eq rfl) (hb hby at_71) (fun _ _ => ⟨rfl, e4w, (by decide : 0 + 1 + 0 ≤ _), (by decide : 0 + 3 + 0 ≤ _)⟩)
  dsimp only [Pt.U, Pt.locs, Pt.cells, Pt.slots] at X53 l53 y53 z53 st53 hQ53
  subst l53 y53 z53
  obtain ⟨hv53, N53q, e53⟩ := hQ53
  rw [show ((.ref (own_not w_NO w_UNKNOWN w_YES w_NO)) : Value) = (.ref w_YES) from by simp [own_not, nUN, nYN, nYU, nUN.symm, nYN.symm, nYU.symm]] at hv53
  subst hv53
  have N53 := Fr.app N4w N53q
  refine own_go (fun t k => st53.trans k) ?_
  show Go p.tables e below _ (T53.setTop (mkF m 74 #[.val (.int p1), .val (.int p2), .val (.ref b), .val (.int (1 : Int32)), .val (.int (2 : Int32)), .val (.ref w_NO), .val (.ref w_UNKNOWN), .val (.ref w_YES), .unset, .unset, .unset, .unset, .unset, .unset] [(.ref w_YES)]))
  refine own_go (fun t k => XS.astore X53.here hx rfl (hb hby at_74) rfl rfl (l' := #[.val (.int p1), .val (.int p2), .val (.ref b), .val (.int (1 : Int32)), .val (.int (2 : Int32)), .val (.ref w_NO), .val (.ref w_UNKNOWN), .val (.ref w_YES), .val (.ref w_YES), .unset, .unset, .unset, .unset, .unset]) rfl k) ?_
  show Go p.tables e below _ (T53.setTop (mkF m 76 #[.val (.int p1), .val (.int p2), .val (.ref b), .val (.int (1 : Int32)), .val (.int (2 : Int32)), .val (.ref w_NO), .val (.ref w_UNKNOWN), .val (.ref w_YES), .val (.ref w_YES), .unset, .unset, .unset, .unset, .unset] []))
  refine own_go (fun t k => XS.aload X53.here hx rfl (hb hby at_76) rfl rfl k) ?_
  show Go p.tables e below _ (T53.setTop (mkF m 78 #[.val (.int p1), .val (.int p2), .val (.ref b), .val (.int (1 : Int32)), .val (.int (2 : Int32)), .val (.ref w_NO), .val (.ref w_UNKNOWN), .val (.ref w_YES), .val (.ref w_YES), .unset, .unset, .unset, .unset, .unset] [(.ref w_UNKNOWN)]))
  obtain ⟨cq54, kq54, q54a, q54b, q54c⟩ := isOf hZ e53 EH_UNKNOWN
  obtain ⟨v54, _, ⟨T54, L54, k54, n54⟩, -, X54, ⟨Lc54, hQ54, l54, y54, z54⟩, st54⟩ := X53.virtualBack hx (y := (⟨"com/example/casewright/casewright/types/Answer", "not", "()Lcom/example/casewright/casewright/types/Answer;"⟩ : MethodName)) (z := (⟨"com/example/casewright/casewright/types/Answer", "not", "()Lcom/example/casewright/casewright/types/Answer;"⟩ : MethodName)) hown (mvT hZ (hw _ (List.mem_of_getElem? (i := 11) rfl))) (mvT hZ (hw _ (List.mem_of_getElem? (i := 12) rfl))) (notFace_of_selects (args := #[]) (mvT hZ (hw _ (List.mem_of_getElem? (i := 14) rfl)))) (mvT hZ (hw _ (List.mem_of_getElem? (i := 14) rfl))) (mvT hZ (hw _ (List.mem_of_getElem? (i := 13) rfl))) (by decide) (backOf (W := 0) (rm_not l Z a0 hw [] w_UNKNOWN w_YES w_NO w_UNKNOWN h4 n0 SSh) hZ (hw _ (List.mem_of_getElem? (i := 15) rfl)) (hw _ (List.mem_of_getElem? (i := 3) rfl)) (by decide) (by decide)) q54a q54c (g := (mkF m 78 #[.val (.int p1), .val (.int p2), .val (.ref b), .val (.int (1 : Int32)), .val (.int (2 : Int32)), .val (.ref w_NO), .val (.ref w_UNKNOWN), .val (.ref w_YES), .val (.ref w_YES), .unset, .unset, .unset, .unset, .unset] [(.ref w_UNKNOWN)])) rfl (by rw [hml]; rfl) (Steps.refl _) (argsL := []) (rest := []) (lenOf pd_0 rfl) rfl (by show 2 * 0 + _ ≤ _; exact Nat.le_of_eq rfl) (hb hby at_78) (fun _ _ => ⟨rfl, e53, (by decide : 0 + 1 + 0 ≤ _), (by decide : 0 + 3 + 0 ≤ _)⟩)
  dsimp only [Pt.U, Pt.locs, Pt.cells, Pt.slots] at X54 l54 y54 z54 st54 hQ54
  subst l54 y54 z54
  obtain ⟨hv54, N54q, e54⟩ := hQ54
  rw [show ((.ref (own_not w_NO w_UNKNOWN w_YES w_UNKNOWN)) : Value) = (.ref w_UNKNOWN) from by simp [own_not, nUN, nYN, nYU, nUN.symm, nYN.symm, nYU.symm]] at hv54
  subst hv54
  have N54 := Fr.app N53 N54q
  refine own_go (fun t k => st54.trans k) ?_
  show Go p.tables e below _ (T54.setTop (mkF m 81 #[.val (.int p1), .val (.int p2), .val (.ref b), .val (.int (1 : Int32)), .val (.int (2 : Int32)), .val (.ref w_NO), .val (.ref w_UNKNOWN), .val (.ref w_YES), .val (.ref w_YES), .unset, .unset, .unset, .unset, .unset] [(.ref w_UNKNOWN)]))
  refine own_go (fun t k => XS.astore X54.here hx rfl (hb hby at_81) rfl rfl (l' := #[.val (.int p1), .val (.int p2), .val (.ref b), .val (.int (1 : Int32)), .val (.int (2 : Int32)), .val (.ref w_NO), .val (.ref w_UNKNOWN), .val (.ref w_YES), .val (.ref w_YES), .val (.ref w_UNKNOWN), .unset, .unset, .unset, .unset]) rfl k) ?_
  show Go p.tables e below _ (T54.setTop (mkF m 83 #[.val (.int p1), .val (.int p2), .val (.ref b), .val (.int (1 : Int32)), .val (.int (2 : Int32)), .val (.ref w_NO), .val (.ref w_UNKNOWN), .val (.ref w_YES), .val (.ref w_YES), .val (.ref w_UNKNOWN), .unset, .unset, .unset, .unset] []))
  refine own_go (fun t k => XS.aload X54.here hx rfl (hb hby at_83) rfl rfl k) ?_
  show Go p.tables e below _ (T54.setTop (mkF m 85 #[.val (.int p1), .val (.int p2), .val (.ref b), .val (.int (1 : Int32)), .val (.int (2 : Int32)), .val (.ref w_NO), .val (.ref w_UNKNOWN), .val (.ref w_YES), .val (.ref w_YES), .val (.ref w_UNKNOWN), .unset, .unset, .unset, .unset] [(.ref w_YES)]))
  refine own_go (fun t k => XS.aload X54.here hx rfl (hb hby at_85) rfl rfl k) ?_
  show Go p.tables e below _ (T54.setTop (mkF m 87 #[.val (.int p1), .val (.int p2), .val (.ref b), .val (.int (1 : Int32)), .val (.int (2 : Int32)), .val (.ref w_NO), .val (.ref w_UNKNOWN), .val (.ref w_YES), .val (.ref w_YES), .val (.ref w_UNKNOWN), .unset, .unset, .unset, .unset] [(.ref w_YES), (.ref w_YES)]))
  refine own_go (fun t k => XT.acmpNo X54.here hx rfl (hb hby at_87) rfl rfl rfl (XT.aa_ne_f (congrArg Value.ref rfl)) k) ?_
  show Go p.tables e below _ (T54.setTop (mkF m 90 #[.val (.int p1), .val (.int p2), .val (.ref b), .val (.int (1 : Int32)), .val (.int (2 : Int32)), .val (.ref w_NO), .val (.ref w_UNKNOWN), .val (.ref w_YES), .val (.ref w_YES), .val (.ref w_UNKNOWN), .unset, .unset, .unset, .unset] []))
  refine own_go (fun t k => XS.iconst X54.here hx rfl (hb hby at_90) k) ?_
  show Go p.tables e below _ (T54.setTop (mkF m 91 #[.val (.int p1), .val (.int p2), .val (.ref b), .val (.int (1 : Int32)), .val (.int (2 : Int32)), .val (.ref w_NO), .val (.ref w_UNKNOWN), .val (.ref w_YES), .val (.ref w_YES), .val (.ref w_UNKNOWN), .unset, .unset, .unset, .unset] [(.int (1 : Int32))]))
  refine own_go (fun t k => XS.goto X54.here hx rfl (pc0 := 91) (pc' := 95) rfl (hb hby at_91) (by decide) (by decide) k) ?_
  show Go p.tables e below _ (T54.setTop (mkF m 95 #[.val (.int p1), .val (.int p2), .val (.ref b), .val (.int (1 : Int32)), .val (.int (2 : Int32)), .val (.ref w_NO), .val (.ref w_UNKNOWN), .val (.ref w_YES), .val (.ref w_YES), .val (.ref w_UNKNOWN), .unset, .unset, .unset, .unset] [(.int (1 : Int32))]))
  refine own_go (fun t k => XS.istore X54.here hx rfl (hb hby at_95) rfl (l' := #[.val (.int p1), .val (.int p2), .val (.ref b), .val (.int (1 : Int32)), .val (.int (2 : Int32)), .val (.ref w_NO), .val (.ref w_UNKNOWN), .val (.ref w_YES), .val (.ref w_YES), .val (.ref w_UNKNOWN), .val (.int (1 : Int32)), .unset, .unset, .unset]) rfl k) ?_
  show Go p.tables e below _ (T54.setTop (mkF m 97 #[.val (.int p1), .val (.int p2), .val (.ref b), .val (.int (1 : Int32)), .val (.int (2 : Int32)), .val (.ref w_NO), .val (.ref w_UNKNOWN), .val (.ref w_YES), .val (.ref w_YES), .val (.ref w_UNKNOWN), .val (.int (1 : Int32)), .unset, .unset, .unset] []))
  refine own_go (fun t k => XS.aload X54.here hx rfl (hb hby at_97) rfl rfl k) ?_
  show Go p.tables e below _ (T54.setTop (mkF m 99 #[.val (.int p1), .val (.int p2), .val (.ref b), .val (.int (1 : Int32)), .val (.int (2 : Int32)), .val (.ref w_NO), .val (.ref w_UNKNOWN), .val (.ref w_YES), .val (.ref w_YES), .val (.ref w_UNKNOWN), .val (.int (1 : Int32)), .unset, .unset, .unset] [(.ref w_YES)]))
  obtain ⟨cq55, kq55, q55a, q55b, q55c⟩ := isOf hZ e54 EH_YES
  obtain ⟨v55, _, ⟨T55, L55, k55, n55⟩, -, X55, ⟨Lc55, hQ55, l55, y55, z55⟩, st55⟩ := X54.virtualBack hx (y := (⟨"com/example/casewright/casewright/types/Answer", "not", "()Lcom/example/casewright/casewright/types/Answer;"⟩ : MethodName)) (z := (⟨"com/example/casewright/casewright/types/Answer", "not", "()Lcom/example/casewright/casewright/types/Answer;"⟩ : MethodName)) hown (mvT hZ (hw _ (List.mem_of_getElem? (i := 11) rfl))) (mvT hZ (hw _ (List.mem_of_getElem? (i := 12) rfl))) (notFace_of_selects (args := #[]) (mvT hZ (hw _ (List.mem_of_getElem? (i := 14) rfl)))) (mvT hZ (hw _ (List.mem_of_getElem? (i := 14) rfl))) (mvT hZ (hw _ (List.mem_of_getElem? (i := 13) rfl))) (by decide) (backOf (W := 0) (rm_not l Z a0 hw [] w_YES w_YES w_NO w_UNKNOWN h4 n0 SSh) hZ (hw _ (List.mem_of_getElem? (i := 15) rfl)) (hw _ (List.mem_of_getElem? (i := 3) rfl)) (by decide) (by decide)) q55a q55c (g := (mkF m 99 #[.val (.int p1), .val (.int p2), .val (.ref b), .val (.int (1 : Int32)), .val (.int (2 : Int32)), .val (.ref w_NO), .val (.ref w_UNKNOWN), .val (.ref w_YES), .val (.ref w_YES), .val (.ref w_UNKNOWN), .val (.int (1 : Int32)), .unset, .unset, .unset] [(.ref w_YES)])) rfl (by rw [hml]; rfl) (Steps.refl _) (argsL := []) (rest := []) (lenOf pd_0 rfl) rfl (by show 2 * 0 + _ ≤ _; exact Nat.le_of_eq rfl) (hb hby at_99) (fun _ _ => ⟨rfl, e54, (by decide : 0 + 1 + 0 ≤ _), (by decide : 0 + 3 + 0 ≤ _)⟩)
  dsimp only [Pt.U, Pt.locs, Pt.cells, Pt.slots] at X55 l55 y55 z55 st55 hQ55
  subst l55 y55 z55
  obtain ⟨hv55, N55q, e55⟩ := hQ55
  rw [show ((.ref (own_not w_NO w_UNKNOWN w_YES w_YES)) : Value) = (.ref w_NO) from by simp [own_not, nUN, nYN, nYU, nUN.symm, nYN.symm, nYU.symm]] at hv55
  subst hv55
  have N55 := Fr.app N54 N55q
  refine own_go (fun t k => st55.trans k) ?_
  show Go p.tables e below _ (T55.setTop (mkF m 102 #[.val (.int p1), .val (.int p2), .val (.ref b), .val (.int (1 : Int32)), .val (.int (2 : Int32)), .val (.ref w_NO), .val (.ref w_UNKNOWN), .val (.ref w_YES), .val (.ref w_YES), .val (.ref w_UNKNOWN), .val (.int (1 : Int32)), .unset, .unset, .unset] [(.ref w_NO)]))
  refine own_go (fun t k => XS.aload X55.here hx rfl (hb hby at_102) rfl rfl k) ?_
  show Go p.tables e below _ (T55.setTop (mkF m 104 #[.val (.int p1), .val (.int p2), .val (.ref b), .val (.int (1 : Int32)), .val (.int (2 : Int32)), .val (.ref w_NO), .val (.ref w_UNKNOWN), .val (.ref w_YES), .val (.ref w_YES), .val (.ref w_UNKNOWN), .val (.int (1 : Int32)), .unset, .unset, .unset] [(.ref w_NO), (.ref w_NO)]))
  refine own_go (fun t k => XT.acmpNo X55.here hx rfl (hb hby at_104) rfl rfl rfl (XT.aa_ne_f (congrArg Value.ref rfl)) k) ?_
  show Go p.tables e below _ (T55.setTop (mkF m 107 #[.val (.int p1), .val (.int p2), .val (.ref b), .val (.int (1 : Int32)), .val (.int (2 : Int32)), .val (.ref w_NO), .val (.ref w_UNKNOWN), .val (.ref w_YES), .val (.ref w_YES), .val (.ref w_UNKNOWN), .val (.int (1 : Int32)), .unset, .unset, .unset] []))
  refine own_go (fun t k => XS.iconst X55.here hx rfl (hb hby at_107) k) ?_
  show Go p.tables e below _ (T55.setTop (mkF m 108 #[.val (.int p1), .val (.int p2), .val (.ref b), .val (.int (1 : Int32)), .val (.int (2 : Int32)), .val (.ref w_NO), .val (.ref w_UNKNOWN), .val (.ref w_YES), .val (.ref w_YES), .val (.ref w_UNKNOWN), .val (.int (1 : Int32)), .unset, .unset, .unset] [(.int (1 : Int32))]))
  refine own_go (fun t k => XS.goto X55.here hx rfl (pc0 := 108) (pc' := 112) rfl (hb hby at_108) (by decide) (by decide) k) ?_
  show Go p.tables e below _ (T55.setTop (mkF m 112 #[.val (.int p1), .val (.int p2), .val (.ref b), .val (.int (1 : Int32)), .val (.int (2 : Int32)), .val (.ref w_NO), .val (.ref w_UNKNOWN), .val (.ref w_YES), .val (.ref w_YES), .val (.ref w_UNKNOWN), .val (.int (1 : Int32)), .unset, .unset, .unset] [(.int (1 : Int32))]))
  refine own_go (fun t k => XS.istore X55.here hx rfl (hb hby at_112) rfl (l' := #[.val (.int p1), .val (.int p2), .val (.ref b), .val (.int (1 : Int32)), .val (.int (2 : Int32)), .val (.ref w_NO), .val (.ref w_UNKNOWN), .val (.ref w_YES), .val (.ref w_YES), .val (.ref w_UNKNOWN), .val (.int (1 : Int32)), .val (.int (1 : Int32)), .unset, .unset]) rfl k) ?_
  show Go p.tables e below _ (T55.setTop (mkF m 114 #[.val (.int p1), .val (.int p2), .val (.ref b), .val (.int (1 : Int32)), .val (.int (2 : Int32)), .val (.ref w_NO), .val (.ref w_UNKNOWN), .val (.ref w_YES), .val (.ref w_YES), .val (.ref w_UNKNOWN), .val (.int (1 : Int32)), .val (.int (1 : Int32)), .unset, .unset] []))
  refine own_go (fun t k => XS.aload X55.here hx rfl (hb hby at_114) rfl rfl k) ?_
  show Go p.tables e below _ (T55.setTop (mkF m 116 #[.val (.int p1), .val (.int p2), .val (.ref b), .val (.int (1 : Int32)), .val (.int (2 : Int32)), .val (.ref w_NO), .val (.ref w_UNKNOWN), .val (.ref w_YES), .val (.ref w_YES), .val (.ref w_UNKNOWN), .val (.int (1 : Int32)), .val (.int (1 : Int32)), .unset, .unset] [(.ref w_NO)]))
  refine own_go (fun t k => XS.aload X55.here hx rfl (hb hby at_116) rfl rfl k) ?_
  show Go p.tables e below _ (T55.setTop (mkF m 118 #[.val (.int p1), .val (.int p2), .val (.ref b), .val (.int (1 : Int32)), .val (.int (2 : Int32)), .val (.ref w_NO), .val (.ref w_UNKNOWN), .val (.ref w_YES), .val (.ref w_YES), .val (.ref w_UNKNOWN), .val (.int (1 : Int32)), .val (.int (1 : Int32)), .unset, .unset] [(.ref w_UNKNOWN), (.ref w_NO)]))
  obtain ⟨cq56, kq56, q56a, q56b, q56c⟩ := isOf hZ e55 EH_NO
  obtain ⟨v56, _, ⟨T56, L56, k56, n56⟩, -, X56, ⟨Lc56, hQ56, l56, y56, z56⟩, st56⟩ := X55.virtualBack hx (y := (⟨"com/example/casewright/casewright/types/Answer", "and", "(Lcom/example/casewright/casewright/types/Answer;)Lcom/example/casewright/casewright/types/Answer;"⟩ : MethodName)) (z := (⟨"com/example/casewright/casewright/types/Answer", "and", "(Lcom/example/casewright/casewright/types/Answer;)Lcom/example/casewright/casewright/types/Answer;"⟩ : MethodName)) hown (mvT hZ (hw _ (List.mem_of_getElem? (i := 18) rfl))) (mvT hZ (hw _ (List.mem_of_getElem? (i := 19) rfl))) (notFace_of_selects (args := #[]) (mvT hZ (hw _ (List.mem_of_getElem? (i := 21) rfl)))) (mvT hZ (hw _ (List.mem_of_getElem? (i := 21) rfl))) (mvT hZ (hw _ (List.mem_of_getElem? (i := 20) rfl))) (by decide) (backOf (W := 0) (rm_and l Z a0 hw [] w_NO w_UNKNOWN w_YES w_NO w_UNKNOWN h4 n0 SSh) hZ (hw _ (List.mem_of_getElem? (i := 22) rfl)) (hw _ (List.mem_of_getElem? (i := 3) rfl)) (by decide) (by decide)) q56a q56c (g := (mkF m 118 #[.val (.int p1), .val (.int p2), .val (.ref b), .val (.int (1 : Int32)), .val (.int (2 : Int32)), .val (.ref w_NO), .val (.ref w_UNKNOWN), .val (.ref w_YES), .val (.ref w_YES), .val (.ref w_UNKNOWN), .val (.int (1 : Int32)), .val (.int (1 : Int32)), .unset, .unset] [(.ref w_UNKNOWN), (.ref w_NO)])) rfl (by rw [hml]; rfl) (Steps.refl _) (argsL := [(.ref w_UNKNOWN)]) (rest := []) (lenOf pd_1 rfl) rfl (by show 2 * 0 + _ ≤ _; exact Nat.le_of_eq rfl) (hb hby at_118) (fun _ _ => ⟨rfl, e55, (by decide : 0 + 1 + 0 ≤ _), (by decide : 0 + 3 + 0 ≤ _)⟩)
  dsimp only [Pt.U, Pt.locs, Pt.cells, Pt.slots] at X56 l56 y56 z56 st56 hQ56
  subst l56 y56 z56
  obtain ⟨hv56, N56q, e56⟩ := hQ56
  rw [show ((.ref (own_and w_NO w_UNKNOWN w_YES w_NO w_UNKNOWN)) : Value) = (.ref w_NO) from by simp [own_and, nUN, nYN, nYU, nUN.symm, nYN.symm, nYU.symm]] at hv56
  subst hv56
  have N56 := Fr.app N55 N56q
  refine own_go (fun t k => st56.trans k) ?_
  show Go p.tables e below _ (T56.setTop (mkF m 121 #[.val (.int p1), .val (.int p2), .val (.ref b), .val (.int (1 : Int32)), .val (.int (2 : Int32)), .val (.ref w_NO), .val (.ref w_UNKNOWN), .val (.ref w_YES), .val (.ref w_YES), .val (.ref w_UNKNOWN), .val (.int (1 : Int32)), .val (.int (1 : Int32)), .unset, .unset] [(.ref w_NO)]))
  obtain ⟨cq57, kq57, q57a, q57b, q57c⟩ := isOf hZ e56 EH_NO
  obtain ⟨v57, _, ⟨T57, L57, k57, n57⟩, -, X57, ⟨Lc57, hQ57, l57, y57, z57⟩, st57⟩ := X56.virtualBack hx (y := (⟨"com/example/casewright/casewright/types/Answer", "not", "()Lcom/example/casewright/casewright/types/Answer;"⟩ : MethodName)) (z := (⟨"com/example/casewright/casewright/types/Answer", "not", "()Lcom/example/casewright/casewright/types/Answer;"⟩ : MethodName)) hown (mvT hZ (hw _ (List.mem_of_getElem? (i := 11) rfl))) (mvT hZ (hw _ (List.mem_of_getElem? (i := 12) rfl))) (notFace_of_selects (args := #[]) (mvT hZ (hw _ (List.mem_of_getElem? (i := 14) rfl)))) (mvT hZ (hw _ (List.mem_of_getElem? (i := 14) rfl))) (mvT hZ (hw _ (List.mem_of_getElem? (i := 13) rfl))) (by decide) (backOf (W := 0) (rm_not l Z a0 hw [] w_NO w_YES w_NO w_UNKNOWN h4 n0 SSh) hZ (hw _ (List.mem_of_getElem? (i := 15) rfl)) (hw _ (List.mem_of_getElem? (i := 3) rfl)) (by decide) (by decide)) q57a q57c (g := (mkF m 121 #[.val (.int p1), .val (.int p2), .val (.ref b), .val (.int (1 : Int32)), .val (.int (2 : Int32)), .val (.ref w_NO), .val (.ref w_UNKNOWN), .val (.ref w_YES), .val (.ref w_YES), .val (.ref w_UNKNOWN), .val (.int (1 : Int32)), .val (.int (1 : Int32)), .unset, .unset] [(.ref w_NO)])) rfl (by rw [hml]; rfl) (Steps.refl _) (argsL := []) (rest := []) (lenOf pd_0 rfl) rfl (by show 2 * 0 + _ ≤ _; exact Nat.le_of_eq rfl) (hb hby at_121) (fun _ _ => ⟨rfl, e56, (by decide : 0 + 1 + 0 ≤ _), (by decide : 0 + 3 + 0 ≤ _)⟩)
  dsimp only [Pt.U, Pt.locs, Pt.cells, Pt.slots] at X57 l57 y57 z57 st57 hQ57
  subst l57 y57 z57
  obtain ⟨hv57, N57q, e57⟩ := hQ57
  rw [show ((.ref (own_not w_NO w_UNKNOWN w_YES w_NO)) : Value) = (.ref w_YES) from by simp [own_not, nUN, nYN, nYU, nUN.symm, nYN.symm, nYU.symm]] at hv57
  subst hv57
  have N57 := Fr.app N56 N57q
  refine own_go (fun t k => st57.trans k) ?_
  show Go p.tables e below _ (T57.setTop (mkF m 124 #[.val (.int p1), .val (.int p2), .val (.ref b), .val (.int (1 : Int32)), .val (.int (2 : Int32)), .val (.ref w_NO), .val (.ref w_UNKNOWN), .val (.ref w_YES), .val (.ref w_YES), .val (.ref w_UNKNOWN), .val (.int (1 : Int32)), .val (.int (1 : Int32)), .unset, .unset] [(.ref w_YES)]))
  refine own_go (fun t k => XS.aload X57.here hx rfl (hb hby at_124) rfl rfl k) ?_
  show Go p.tables e below _ (T57.setTop (mkF m 126 #[.val (.int p1), .val (.int p2), .val (.ref b), .val (.int (1 : Int32)), .val (.int (2 : Int32)), .val (.ref w_NO), .val (.ref w_UNKNOWN), .val (.ref w_YES), .val (.ref w_YES), .val (.ref w_UNKNOWN), .val (.int (1 : Int32)), .val (.int (1 : Int32)), .unset, .unset] [(.ref w_YES), (.ref w_YES)]))
  refine own_go (fun t k => XS.aload X57.here hx rfl (hb hby at_126) rfl rfl k) ?_
  show Go p.tables e below _ (T57.setTop (mkF m 128 #[.val (.int p1), .val (.int p2), .val (.ref b), .val (.int (1 : Int32)), .val (.int (2 : Int32)), .val (.ref w_NO), .val (.ref w_UNKNOWN), .val (.ref w_YES), .val (.ref w_YES), .val (.ref w_UNKNOWN), .val (.int (1 : Int32)), .val (.int (1 : Int32)), .unset, .unset] [(.ref w_UNKNOWN), (.ref w_YES), (.ref w_YES)]))
  obtain ⟨cq58, kq58, q58a, q58b, q58c⟩ := isOf hZ e57 EH_YES
  obtain ⟨v58, _, ⟨T58, L58, k58, n58⟩, -, X58, ⟨Lc58, hQ58, l58, y58, z58⟩, st58⟩ := X57.virtualBack hx (y := (⟨"com/example/casewright/casewright/types/Answer", "or", "(Lcom/example/casewright/casewright/types/Answer;)Lcom/example/casewright/casewright/types/Answer;"⟩ : MethodName)) (z := (⟨"com/example/casewright/casewright/types/Answer", "or", "(Lcom/example/casewright/casewright/types/Answer;)Lcom/example/casewright/casewright/types/Answer;"⟩ : MethodName)) hown (mvT hZ (hw _ (List.mem_of_getElem? (i := 24) rfl))) (mvT hZ (hw _ (List.mem_of_getElem? (i := 25) rfl))) (notFace_of_selects (args := #[]) (mvT hZ (hw _ (List.mem_of_getElem? (i := 27) rfl)))) (mvT hZ (hw _ (List.mem_of_getElem? (i := 27) rfl))) (mvT hZ (hw _ (List.mem_of_getElem? (i := 26) rfl))) (by decide) (backOf (W := 1) (rm_or l Z a0 hw [] w_YES w_UNKNOWN w_YES w_NO w_UNKNOWN h4 n0 SSh) hZ (hw _ (List.mem_of_getElem? (i := 28) rfl)) (hw _ (List.mem_of_getElem? (i := 3) rfl)) (by decide) (by decide)) q58a q58c (g := (mkF m 128 #[.val (.int p1), .val (.int p2), .val (.ref b), .val (.int (1 : Int32)), .val (.int (2 : Int32)), .val (.ref w_NO), .val (.ref w_UNKNOWN), .val (.ref w_YES), .val (.ref w_YES), .val (.ref w_UNKNOWN), .val (.int (1 : Int32)), .val (.int (1 : Int32)), .unset, .unset] [(.ref w_UNKNOWN), (.ref w_YES), (.ref w_YES)])) rfl (by rw [hml]; rfl) (Steps.refl _) (argsL := [(.ref w_UNKNOWN)]) (rest := [(.ref w_YES)]) (lenOf pd_1 rfl) rfl (by show 2 * 0 + _ ≤ _; exact Nat.le_of_eq rfl) (hb hby at_128) (fun _ _ => ⟨rfl, e57, (by decide : 0 + 1 + 0 ≤ _), (by decide : 0 + 3 + 0 ≤ _)⟩)
  dsimp only [Pt.U, Pt.locs, Pt.cells, Pt.slots] at X58 l58 y58 z58 st58 hQ58
  subst l58 y58 z58
  obtain ⟨hv58, N58q, e58⟩ := hQ58
  rw [show ((.ref (own_or w_NO w_UNKNOWN w_YES w_YES w_UNKNOWN)) : Value) = (.ref w_YES) from by simp [own_or, nUN, nYN, nYU, nUN.symm, nYN.symm, nYU.symm]] at hv58
  subst hv58
  have N58 := Fr.app N57 N58q
  refine own_go (fun t k => st58.trans k) ?_
  show Go p.tables e below _ (T58.setTop (mkF m 131 #[.val (.int p1), .val (.int p2), .val (.ref b), .val (.int (1 : Int32)), .val (.int (2 : Int32)), .val (.ref w_NO), .val (.ref w_UNKNOWN), .val (.ref w_YES), .val (.ref w_YES), .val (.ref w_UNKNOWN), .val (.int (1 : Int32)), .val (.int (1 : Int32)), .unset, .unset] [(.ref w_YES), (.ref w_YES)]))
  refine own_go (fun t k => XT.acmpNo X58.here hx rfl (hb hby at_131) rfl rfl rfl (XT.aa_ne_f (congrArg Value.ref rfl)) k) ?_
  show Go p.tables e below _ (T58.setTop (mkF m 134 #[.val (.int p1), .val (.int p2), .val (.ref b), .val (.int (1 : Int32)), .val (.int (2 : Int32)), .val (.ref w_NO), .val (.ref w_UNKNOWN), .val (.ref w_YES), .val (.ref w_YES), .val (.ref w_UNKNOWN), .val (.int (1 : Int32)), .val (.int (1 : Int32)), .unset, .unset] []))
  refine own_go (fun t k => XS.iconst X58.here hx rfl (hb hby at_134) k) ?_
  show Go p.tables e below _ (T58.setTop (mkF m 135 #[.val (.int p1), .val (.int p2), .val (.ref b), .val (.int (1 : Int32)), .val (.int (2 : Int32)), .val (.ref w_NO), .val (.ref w_UNKNOWN), .val (.ref w_YES), .val (.ref w_YES), .val (.ref w_UNKNOWN), .val (.int (1 : Int32)), .val (.int (1 : Int32)), .unset, .unset] [(.int (1 : Int32))]))
  refine own_go (fun t k => XS.goto X58.here hx rfl (pc0 := 135) (pc' := 139) rfl (hb hby at_135) (by decide) (by decide) k) ?_
  show Go p.tables e below _ (T58.setTop (mkF m 139 #[.val (.int p1), .val (.int p2), .val (.ref b), .val (.int (1 : Int32)), .val (.int (2 : Int32)), .val (.ref w_NO), .val (.ref w_UNKNOWN), .val (.ref w_YES), .val (.ref w_YES), .val (.ref w_UNKNOWN), .val (.int (1 : Int32)), .val (.int (1 : Int32)), .unset, .unset] [(.int (1 : Int32))]))
  refine own_go (fun t k => XS.istore X58.here hx rfl (hb hby at_139) rfl (l' := #[.val (.int p1), .val (.int p2), .val (.ref b), .val (.int (1 : Int32)), .val (.int (2 : Int32)), .val (.ref w_NO), .val (.ref w_UNKNOWN), .val (.ref w_YES), .val (.ref w_YES), .val (.ref w_UNKNOWN), .val (.int (1 : Int32)), .val (.int (1 : Int32)), .val (.int (1 : Int32)), .unset]) rfl k) ?_
  show Go p.tables e below _ (T58.setTop (mkF m 141 #[.val (.int p1), .val (.int p2), .val (.ref b), .val (.int (1 : Int32)), .val (.int (2 : Int32)), .val (.ref w_NO), .val (.ref w_UNKNOWN), .val (.ref w_YES), .val (.ref w_YES), .val (.ref w_UNKNOWN), .val (.int (1 : Int32)), .val (.int (1 : Int32)), .val (.int (1 : Int32)), .unset] []))
  refine own_go (fun t k => XS.aload X58.here hx rfl (hb hby at_141) rfl rfl k) ?_
  show Go p.tables e below _ (T58.setTop (mkF m 143 #[.val (.int p1), .val (.int p2), .val (.ref b), .val (.int (1 : Int32)), .val (.int (2 : Int32)), .val (.ref w_NO), .val (.ref w_UNKNOWN), .val (.ref w_YES), .val (.ref w_YES), .val (.ref w_UNKNOWN), .val (.int (1 : Int32)), .val (.int (1 : Int32)), .val (.int (1 : Int32)), .unset] [(.ref w_NO)]))
  refine own_go (fun t k => XS.aload X58.here hx rfl (hb hby at_143) rfl rfl k) ?_
  show Go p.tables e below _ (T58.setTop (mkF m 145 #[.val (.int p1), .val (.int p2), .val (.ref b), .val (.int (1 : Int32)), .val (.int (2 : Int32)), .val (.ref w_NO), .val (.ref w_UNKNOWN), .val (.ref w_YES), .val (.ref w_YES), .val (.ref w_UNKNOWN), .val (.int (1 : Int32)), .val (.int (1 : Int32)), .val (.int (1 : Int32)), .unset] [(.ref w_UNKNOWN), (.ref w_NO)]))
  obtain ⟨cq59, kq59, q59a, q59b, q59c⟩ := isOf hZ e58 EH_NO
  obtain ⟨v59, _, ⟨T59, L59, k59, n59⟩, -, X59, ⟨Lc59, hQ59, l59, y59, z59⟩, st59⟩ := X58.virtualBack hx (y := (⟨"com/example/casewright/casewright/types/Answer", "or", "(Lcom/example/casewright/casewright/types/Answer;)Lcom/example/casewright/casewright/types/Answer;"⟩ : MethodName)) (z := (⟨"com/example/casewright/casewright/types/Answer", "or", "(Lcom/example/casewright/casewright/types/Answer;)Lcom/example/casewright/casewright/types/Answer;"⟩ : MethodName)) hown (mvT hZ (hw _ (List.mem_of_getElem? (i := 24) rfl))) (mvT hZ (hw _ (List.mem_of_getElem? (i := 25) rfl))) (notFace_of_selects (args := #[]) (mvT hZ (hw _ (List.mem_of_getElem? (i := 27) rfl)))) (mvT hZ (hw _ (List.mem_of_getElem? (i := 27) rfl))) (mvT hZ (hw _ (List.mem_of_getElem? (i := 26) rfl))) (by decide) (backOf (W := 0) (rm_or l Z a0 hw [] w_NO w_UNKNOWN w_YES w_NO w_UNKNOWN h4 n0 SSh) hZ (hw _ (List.mem_of_getElem? (i := 28) rfl)) (hw _ (List.mem_of_getElem? (i := 3) rfl)) (by decide) (by decide)) q59a q59c (g := (mkF m 145 #[.val (.int p1), .val (.int p2), .val (.ref b), .val (.int (1 : Int32)), .val (.int (2 : Int32)), .val (.ref w_NO), .val (.ref w_UNKNOWN), .val (.ref w_YES), .val (.ref w_YES), .val (.ref w_UNKNOWN), .val (.int (1 : Int32)), .val (.int (1 : Int32)), .val (.int (1 : Int32)), .unset] [(.ref w_UNKNOWN), (.ref w_NO)])) rfl (by rw [hml]; rfl) (Steps.refl _) (argsL := [(.ref w_UNKNOWN)]) (rest := []) (lenOf pd_1 rfl) rfl (by show 2 * 0 + _ ≤ _; exact Nat.le_of_eq rfl) (hb hby at_145) (fun _ _ => ⟨rfl, e58, (by decide : 0 + 1 + 0 ≤ _), (by decide : 0 + 3 + 0 ≤ _)⟩)
  dsimp only [Pt.U, Pt.locs, Pt.cells, Pt.slots] at X59 l59 y59 z59 st59 hQ59
  subst l59 y59 z59
  obtain ⟨hv59, N59q, e59⟩ := hQ59
  rw [show ((.ref (own_or w_NO w_UNKNOWN w_YES w_NO w_UNKNOWN)) : Value) = (.ref w_UNKNOWN) from by simp [own_or, nUN, nYN, nYU, nUN.symm, nYN.symm, nYU.symm]] at hv59
  subst hv59
  have N59 := Fr.app N58 N59q
  refine own_go (fun t k => st59.trans k) ?_
  show Go p.tables e below _ (T59.setTop (mkF m 148 #[.val (.int p1), .val (.int p2), .val (.ref b), .val (.int (1 : Int32)), .val (.int (2 : Int32)), .val (.ref w_NO), .val (.ref w_UNKNOWN), .val (.ref w_YES), .val (.ref w_YES), .val (.ref w_UNKNOWN), .val (.int (1 : Int32)), .val (.int (1 : Int32)), .val (.int (1 : Int32)), .unset] [(.ref w_UNKNOWN)]))
  obtain ⟨cq60, kq60, q60a, q60b, q60c⟩ := isOf hZ e59 EH_UNKNOWN
  obtain ⟨v60, _, ⟨T60, L60, k60, n60⟩, -, X60, ⟨Lc60, hQ60, l60, y60, z60⟩, st60⟩ := X59.virtualBack hx (y := (⟨"com/example/casewright/casewright/types/Answer", "not", "()Lcom/example/casewright/casewright/types/Answer;"⟩ : MethodName)) (z := (⟨"com/example/casewright/casewright/types/Answer", "not", "()Lcom/example/casewright/casewright/types/Answer;"⟩ : MethodName)) hown (mvT hZ (hw _ (List.mem_of_getElem? (i := 11) rfl))) (mvT hZ (hw _ (List.mem_of_getElem? (i := 12) rfl))) (notFace_of_selects (args := #[]) (mvT hZ (hw _ (List.mem_of_getElem? (i := 14) rfl)))) (mvT hZ (hw _ (List.mem_of_getElem? (i := 14) rfl))) (mvT hZ (hw _ (List.mem_of_getElem? (i := 13) rfl))) (by decide) (backOf (W := 0) (rm_not l Z a0 hw [] w_UNKNOWN w_YES w_NO w_UNKNOWN h4 n0 SSh) hZ (hw _ (List.mem_of_getElem? (i := 15) rfl)) (hw _ (List.mem_of_getElem? (i := 3) rfl)) (by decide) (by decide)) q60a q60c (g := (mkF m 148 #[.val (.int p1), .val (.int p2), .val (.ref b), .val (.int (1 : Int32)), .val (.int (2 : Int32)), .val (.ref w_NO), .val (.ref w_UNKNOWN), .val (.ref w_YES), .val (.ref w_YES), .val (.ref w_UNKNOWN), .val (.int (1 : Int32)), .val (.int (1 : Int32)), .val (.int (1 : Int32)), .unset] [(.ref w_UNKNOWN)])) rfl (by rw [hml]; rfl) (Steps.refl _) (argsL := []) (rest := []) (lenOf pd_0 rfl) rfl (by show 2 * 0 + _ ≤ _; exact Nat.le_of_eq rfl) (hb hby at_148) (fun _ _ => ⟨rfl, e59, (by decide : 0 + 1 + 0 ≤ _), (by decide : 0 + 3 + 0 ≤ _)⟩)
  dsimp only [Pt.U, Pt.locs, Pt.cells, Pt.slots] at X60 l60 y60 z60 st60 hQ60
  subst l60 y60 z60
  obtain ⟨hv60, N60q, e60⟩ := hQ60
  rw [show ((.ref (own_not w_NO w_UNKNOWN w_YES w_UNKNOWN)) : Value) = (.ref w_UNKNOWN) from by simp [own_not, nUN, nYN, nYU, nUN.symm, nYN.symm, nYU.symm]] at hv60
  subst hv60
  have N60 := Fr.app N59 N60q
  refine own_go (fun t k => st60.trans k) ?_
  show Go p.tables e below _ (T60.setTop (mkF m 151 #[.val (.int p1), .val (.int p2), .val (.ref b), .val (.int (1 : Int32)), .val (.int (2 : Int32)), .val (.ref w_NO), .val (.ref w_UNKNOWN), .val (.ref w_YES), .val (.ref w_YES), .val (.ref w_UNKNOWN), .val (.int (1 : Int32)), .val (.int (1 : Int32)), .val (.int (1 : Int32)), .unset] [(.ref w_UNKNOWN)]))
  refine own_go (fun t k => XS.aload X60.here hx rfl (hb hby at_151) rfl rfl k) ?_
  show Go p.tables e below _ (T60.setTop (mkF m 153 #[.val (.int p1), .val (.int p2), .val (.ref b), .val (.int (1 : Int32)), .val (.int (2 : Int32)), .val (.ref w_NO), .val (.ref w_UNKNOWN), .val (.ref w_YES), .val (.ref w_YES), .val (.ref w_UNKNOWN), .val (.int (1 : Int32)), .val (.int (1 : Int32)), .val (.int (1 : Int32)), .unset] [(.ref w_YES), (.ref w_UNKNOWN)]))
  refine own_go (fun t k => XS.aload X60.here hx rfl (hb hby at_153) rfl rfl k) ?_
  show Go p.tables e below _ (T60.setTop (mkF m 155 #[.val (.int p1), .val (.int p2), .val (.ref b), .val (.int (1 : Int32)), .val (.int (2 : Int32)), .val (.ref w_NO), .val (.ref w_UNKNOWN), .val (.ref w_YES), .val (.ref w_YES), .val (.ref w_UNKNOWN), .val (.int (1 : Int32)), .val (.int (1 : Int32)), .val (.int (1 : Int32)), .unset] [(.ref w_UNKNOWN), (.ref w_YES), (.ref w_UNKNOWN)]))
  obtain ⟨cq61, kq61, q61a, q61b, q61c⟩ := isOf hZ e60 EH_YES
  obtain ⟨v61, _, ⟨T61, L61, k61, n61⟩, -, X61, ⟨Lc61, hQ61, l61, y61, z61⟩, st61⟩ := X60.virtualBack hx (y := (⟨"com/example/casewright/casewright/types/Answer", "and", "(Lcom/example/casewright/casewright/types/Answer;)Lcom/example/casewright/casewright/types/Answer;"⟩ : MethodName)) (z := (⟨"com/example/casewright/casewright/types/Answer", "and", "(Lcom/example/casewright/casewright/types/Answer;)Lcom/example/casewright/casewright/types/Answer;"⟩ : MethodName)) hown (mvT hZ (hw _ (List.mem_of_getElem? (i := 18) rfl))) (mvT hZ (hw _ (List.mem_of_getElem? (i := 19) rfl))) (notFace_of_selects (args := #[]) (mvT hZ (hw _ (List.mem_of_getElem? (i := 21) rfl)))) (mvT hZ (hw _ (List.mem_of_getElem? (i := 21) rfl))) (mvT hZ (hw _ (List.mem_of_getElem? (i := 20) rfl))) (by decide) (backOf (W := 1) (rm_and l Z a0 hw [] w_YES w_UNKNOWN w_YES w_NO w_UNKNOWN h4 n0 SSh) hZ (hw _ (List.mem_of_getElem? (i := 22) rfl)) (hw _ (List.mem_of_getElem? (i := 3) rfl)) (by decide) (by decide)) q61a q61c (g := (mkF m 155 #[.val (.int p1), .val (.int p2), .val (.ref b), .val (.int (1 : Int32)), .val (.int (2 : Int32)), .val (.ref w_NO), .val (.ref w_UNKNOWN), .val (.ref w_YES), .val (.ref w_YES), .val (.ref w_UNKNOWN), .val (.int (1 : Int32)), .val (.int (1 : Int32)), .val (.int (1 : Int32)), .unset] [(.ref w_UNKNOWN), (.ref w_YES), (.ref w_UNKNOWN)])) rfl (by rw [hml]; rfl) (Steps.refl _) (argsL := [(.ref w_UNKNOWN)]) (rest := [(.ref w_UNKNOWN)]) (lenOf pd_1 rfl) rfl (by show 2 * 0 + _ ≤ _; exact Nat.le_of_eq rfl) (hb hby at_155) (fun _ _ => ⟨rfl, e60, (by decide : 0 + 1 + 0 ≤ _), (by decide : 0 + 3 + 0 ≤ _)⟩)
  dsimp only [Pt.U, Pt.locs, Pt.cells, Pt.slots] at X61 l61 y61 z61 st61 hQ61
  subst l61 y61 z61
  obtain ⟨hv61, N61q, e61⟩ := hQ61
  rw [show ((.ref (own_and w_NO w_UNKNOWN w_YES w_YES w_UNKNOWN)) : Value) = (.ref w_UNKNOWN) from by simp [own_and, nUN, nYN, nYU, nUN.symm, nYN.symm, nYU.symm]] at hv61
  subst hv61
  have N61 := Fr.app N60 N61q
  refine own_go (fun t k => st61.trans k) ?_
  show Go p.tables e below _ (T61.setTop (mkF m 158 #[.val (.int p1), .val (.int p2), .val (.ref b), .val (.int (1 : Int32)), .val (.int (2 : Int32)), .val (.ref w_NO), .val (.ref w_UNKNOWN), .val (.ref w_YES), .val (.ref w_YES), .val (.ref w_UNKNOWN), .val (.int (1 : Int32)), .val (.int (1 : Int32)), .val (.int (1 : Int32)), .unset] [(.ref w_UNKNOWN), (.ref w_UNKNOWN)]))
  refine own_go (fun t k => XT.acmpNo X61.here hx rfl (hb hby at_158) rfl rfl rfl (XT.aa_ne_f (congrArg Value.ref rfl)) k) ?_
  show Go p.tables e below _ (T61.setTop (mkF m 161 #[.val (.int p1), .val (.int p2), .val (.ref b), .val (.int (1 : Int32)), .val (.int (2 : Int32)), .val (.ref w_NO), .val (.ref w_UNKNOWN), .val (.ref w_YES), .val (.ref w_YES), .val (.ref w_UNKNOWN), .val (.int (1 : Int32)), .val (.int (1 : Int32)), .val (.int (1 : Int32)), .unset] []))
  refine own_go (fun t k => XS.iconst X61.here hx rfl (hb hby at_161) k) ?_
  show Go p.tables e below _ (T61.setTop (mkF m 162 #[.val (.int p1), .val (.int p2), .val (.ref b), .val (.int (1 : Int32)), .val (.int (2 : Int32)), .val (.ref w_NO), .val (.ref w_UNKNOWN), .val (.ref w_YES), .val (.ref w_YES), .val (.ref w_UNKNOWN), .val (.int (1 : Int32)), .val (.int (1 : Int32)), .val (.int (1 : Int32)), .unset] [(.int (1 : Int32))]))
  refine own_go (fun t k => XS.goto X61.here hx rfl (pc0 := 162) (pc' := 166) rfl (hb hby at_162) (by decide) (by decide) k) ?_
  show Go p.tables e below _ (T61.setTop (mkF m 166 #[.val (.int p1), .val (.int p2), .val (.ref b), .val (.int (1 : Int32)), .val (.int (2 : Int32)), .val (.ref w_NO), .val (.ref w_UNKNOWN), .val (.ref w_YES), .val (.ref w_YES), .val (.ref w_UNKNOWN), .val (.int (1 : Int32)), .val (.int (1 : Int32)), .val (.int (1 : Int32)), .unset] [(.int (1 : Int32))]))
  refine own_go (fun t k => XS.istore X61.here hx rfl (hb hby at_166) rfl (l' := #[.val (.int p1), .val (.int p2), .val (.ref b), .val (.int (1 : Int32)), .val (.int (2 : Int32)), .val (.ref w_NO), .val (.ref w_UNKNOWN), .val (.ref w_YES), .val (.ref w_YES), .val (.ref w_UNKNOWN), .val (.int (1 : Int32)), .val (.int (1 : Int32)), .val (.int (1 : Int32)), .val (.int (1 : Int32))]) rfl k) ?_
  show Go p.tables e below _ (T61.setTop (mkF m 168 #[.val (.int p1), .val (.int p2), .val (.ref b), .val (.int (1 : Int32)), .val (.int (2 : Int32)), .val (.ref w_NO), .val (.ref w_UNKNOWN), .val (.ref w_YES), .val (.ref w_YES), .val (.ref w_UNKNOWN), .val (.int (1 : Int32)), .val (.int (1 : Int32)), .val (.int (1 : Int32)), .val (.int (1 : Int32))] []))
  refine own_go (fun t k => XS.iload X61.here hx rfl (hb hby at_168) rfl k) ?_
  show Go p.tables e below _ (T61.setTop (mkF m 170 #[.val (.int p1), .val (.int p2), .val (.ref b), .val (.int (1 : Int32)), .val (.int (2 : Int32)), .val (.ref w_NO), .val (.ref w_UNKNOWN), .val (.ref w_YES), .val (.ref w_YES), .val (.ref w_UNKNOWN), .val (.int (1 : Int32)), .val (.int (1 : Int32)), .val (.int (1 : Int32)), .val (.int (1 : Int32))] [(.int (1 : Int32))]))
  refine own_go (fun t k => XS.ifNo X61.here hx rfl (hb hby at_170) rfl (XT.i0_eq_f (by decide)) k) ?_
  show Go p.tables e below _ (T61.setTop (mkF m 173 #[.val (.int p1), .val (.int p2), .val (.ref b), .val (.int (1 : Int32)), .val (.int (2 : Int32)), .val (.ref w_NO), .val (.ref w_UNKNOWN), .val (.ref w_YES), .val (.ref w_YES), .val (.ref w_UNKNOWN), .val (.int (1 : Int32)), .val (.int (1 : Int32)), .val (.int (1 : Int32)), .val (.int (1 : Int32))] []))
  refine own_go (fun t k => XS.iload X61.here hx rfl (hb hby at_173) rfl k) ?_
  show Go p.tables e below _ (T61.setTop (mkF m 175 #[.val (.int p1), .val (.int p2), .val (.ref b), .val (.int (1 : Int32)), .val (.int (2 : Int32)), .val (.ref w_NO), .val (.ref w_UNKNOWN), .val (.ref w_YES), .val (.ref w_YES), .val (.ref w_UNKNOWN), .val (.int (1 : Int32)), .val (.int (1 : Int32)), .val (.int (1 : Int32)), .val (.int (1 : Int32))] [(.int (1 : Int32))]))
  refine own_go (fun t k => XS.ifNo X61.here hx rfl (hb hby at_175) rfl (XT.i0_eq_f (by decide)) k) ?_
  show Go p.tables e below _ (T61.setTop (mkF m 178 #[.val (.int p1), .val (.int p2), .val (.ref b), .val (.int (1 : Int32)), .val (.int (2 : Int32)), .val (.ref w_NO), .val (.ref w_UNKNOWN), .val (.ref w_YES), .val (.ref w_YES), .val (.ref w_UNKNOWN), .val (.int (1 : Int32)), .val (.int (1 : Int32)), .val (.int (1 : Int32)), .val (.int (1 : Int32))] []))
  refine own_go (fun t k => XS.iload X61.here hx rfl (hb hby at_178) rfl k) ?_
  show Go p.tables e below _ (T61.setTop (mkF m 180 #[.val (.int p1), .val (.int p2), .val (.ref b), .val (.int (1 : Int32)), .val (.int (2 : Int32)), .val (.ref w_NO), .val (.ref w_UNKNOWN), .val (.ref w_YES), .val (.ref w_YES), .val (.ref w_UNKNOWN), .val (.int (1 : Int32)), .val (.int (1 : Int32)), .val (.int (1 : Int32)), .val (.int (1 : Int32))] [(.int (1 : Int32))]))
  refine own_go (fun t k => XS.ifNo X61.here hx rfl (hb hby at_180) rfl (XT.i0_eq_f (by decide)) k) ?_
  show Go p.tables e below _ (T61.setTop (mkF m 183 #[.val (.int p1), .val (.int p2), .val (.ref b), .val (.int (1 : Int32)), .val (.int (2 : Int32)), .val (.ref w_NO), .val (.ref w_UNKNOWN), .val (.ref w_YES), .val (.ref w_YES), .val (.ref w_UNKNOWN), .val (.int (1 : Int32)), .val (.int (1 : Int32)), .val (.int (1 : Int32)), .val (.int (1 : Int32))] []))
  refine own_go (fun t k => XS.iload X61.here hx rfl (hb hby at_183) rfl k) ?_
  show Go p.tables e below _ (T61.setTop (mkF m 185 #[.val (.int p1), .val (.int p2), .val (.ref b), .val (.int (1 : Int32)), .val (.int (2 : Int32)), .val (.ref w_NO), .val (.ref w_UNKNOWN), .val (.ref w_YES), .val (.ref w_YES), .val (.ref w_UNKNOWN), .val (.int (1 : Int32)), .val (.int (1 : Int32)), .val (.int (1 : Int32)), .val (.int (1 : Int32))] [(.int (1 : Int32))]))
  refine own_go (fun t k => XS.ifNo X61.here hx rfl (hb hby at_185) rfl (XT.i0_eq_f (by decide)) k) ?_
  show Go p.tables e below _ (T61.setTop (mkF m 188 #[.val (.int p1), .val (.int p2), .val (.ref b), .val (.int (1 : Int32)), .val (.int (2 : Int32)), .val (.ref w_NO), .val (.ref w_UNKNOWN), .val (.ref w_YES), .val (.ref w_YES), .val (.ref w_UNKNOWN), .val (.int (1 : Int32)), .val (.int (1 : Int32)), .val (.int (1 : Int32)), .val (.int (1 : Int32))] []))
  refine own_go (fun t k => XS.iconst X61.here hx rfl (hb hby at_188) k) ?_
  show Go p.tables e below _ (T61.setTop (mkF m 189 #[.val (.int p1), .val (.int p2), .val (.ref b), .val (.int (1 : Int32)), .val (.int (2 : Int32)), .val (.ref w_NO), .val (.ref w_UNKNOWN), .val (.ref w_YES), .val (.ref w_YES), .val (.ref w_UNKNOWN), .val (.int (1 : Int32)), .val (.int (1 : Int32)), .val (.int (1 : Int32)), .val (.int (1 : Int32))] [(.int (1 : Int32))]))
  refine own_go (fun t k => XS.goto X61.here hx rfl (pc0 := 189) (pc' := 193) rfl (hb hby at_189) (by decide) (by decide) k) ?_
  show Go p.tables e below _ (T61.setTop (mkF m 193 #[.val (.int p1), .val (.int p2), .val (.ref b), .val (.int (1 : Int32)), .val (.int (2 : Int32)), .val (.ref w_NO), .val (.ref w_UNKNOWN), .val (.ref w_YES), .val (.ref w_YES), .val (.ref w_UNKNOWN), .val (.int (1 : Int32)), .val (.int (1 : Int32)), .val (.int (1 : Int32)), .val (.int (1 : Int32))] [(.int (1 : Int32))]))
  exact own_ret X61 hx hlk Bd.returns rfl (Or.inl ⟨rfl, Or.inr (Or.inl rfl), _, rfl⟩) (hb hby at_193) ⟨rfl, N61⟩ (by decide) (by decide)
theorem ef_rm_law_20 (m : MethodId) (x0 : Int32) (x1 : Int32) : entryFrame m #[(.int x0), (.int x1)] maxLocals = mkF m 0 #[.val (.int x0), .val (.int x1), .unset, .unset, .unset, .unset, .unset, .unset, .unset, .unset, .unset, .unset, .unset, .unset] [] := by first | (simp [entryFrame, mkF, argsToLocals, Value.category, maxLocals]; done) | rfl
set_option maxRecDepth 65536 in
set_option maxHeartbeats 40000000 in
theorem rm_law_20 (l : Launch) (Z : State) (a0 : Array Value) (hw : ∀ d ∈ tables_1, d.before a0 Z = true) (ws : List Jvm.Cond) (p1 p2 : Int32) (w_YES w_NO w_UNKNOWN : Addr) (h0 : Heap) (n0 : Nat) (SS : own_S Z h0 w_YES w_NO w_UNKNOWN) (EE : own_E Z h0 w_YES w_NO w_UNKNOWN) (OO : own_O Z h0 w_YES w_NO w_UNKNOWN) (Z0 : n0 ≤ h0.size) (q1 : (p1 &&& 2147483647) % 3 = 2) (q2 : (p2 &&& 2147483647) % 3 = 0) :
    MetFree l x (head1 (Jvm.Cond.code x code maxLocals ret :: ws) room_1) (fun aa U => aa = #[(.int p1), (.int p2)] ∧ Z.Warmed39 U.vm ∧ U.heap = h0) (fun _ _ _ _ _ => True) (fun _ U o U' => ∃ v L, o = .returned v ∧ LQ n0 v U'.heap L ∧ FrameEnd U o U' L room_1.cells room_1.slots) := by
  refine MetFree.of_bodySF (plainFor_of_name pn_1) hisR ?_
  intro p e s m args below meth c s₁ Bd hml0 hP hK
  obtain ⟨rfl, hZ, hh⟩ := hP
  have hx := Bd.exec
  have hby := Bd.bytes
  have hlk := Bd.notSynchronized
  have hml : c.maxLocals = 14 := hml0
  have hown : s.vm.findClass "com/example/casewright/casewright/types/AnswerNotPinLaw" = some m.cls := findClass_of_methodNamed Bd.named
  have X0 : Stand p l e room_1 s m #[(.int p1), (.int p2)] below meth c s₁ [] 0 0 := Stand.of_body Bd
  have e0 : s₁.heap = h0 := by rw [← hh, Bd.state]; rfl
  have N0 := Fr.nil n0
  have SS' := SS
  obtain ⟨S_YES, S_NO, S_UNKNOWN⟩ := SS'
  obtain ⟨E_YES, E_NO, E_UNKNOWN⟩ := EE
  obtain ⟨F_NO_ordinal, F_YES_ordinal, F_UNKNOWN_ordinal⟩ := OO
  have nUN : w_UNKNOWN ≠ w_NO := (own_ne F_UNKNOWN_ordinal F_NO_ordinal (by decide))
  have nYN : w_YES ≠ w_NO := (own_ne F_YES_ordinal F_NO_ordinal (by decide))
  have nYU : w_YES ≠ w_UNKNOWN := (own_ne F_YES_ordinal F_UNKNOWN_ordinal (by decide))
  show Go p.tables e below (Fin s below (LQ n0) room_1.cells room_1.slots) (s₁.setTop (entryFrame m #[(.int p1), (.int p2)] maxLocals))
  refine own_go (fun t k => castTop (ef_rm_law_20 m p1 p2) k) ?_
  show Go p.tables e below _ (s₁.setTop (mkF m 0 #[.val (.int p1), .val (.int p2), .unset, .unset, .unset, .unset, .unset, .unset, .unset, .unset, .unset, .unset, .unset, .unset] []))
  refine own_go (fun t k => XS.iconst X0.here hx rfl (hb hby at_0) k) ?_
  show Go p.tables e below _ (s₁.setTop (mkF m 1 #[.val (.int p1), .val (.int p2), .unset, .unset, .unset, .unset, .unset, .unset, .unset, .unset, .unset, .unset, .unset, .unset] [(.int (3 : Int32))]))
  obtain ⟨T1, h1, kA, X1, e1, Ex1, A1, O1, st1⟩ := newR X0 hx hZ hown (hw _ (List.mem_of_getElem? (i := 0) rfl)) (hw _ (List.mem_of_getElem? (i := 1) rfl)) e0 (g := (mkF m 1 #[.val (.int p1), .val (.int p2), .unset, .unset, .unset, .unset, .unset, .unset, .unset, .unset, .unset, .unset, .unset, .unset] [(.int (3 : Int32))])) rfl (hb hby at_1) rfl (by decide) (cap := 3) (by decide) (by decide) (by decide) (by decide)
  obtain ⟨b, gb⟩ : ∃ z, z = h0.size := ⟨_, rfl⟩
  rw [← gb] at A1 st1
  have hb0 : n0 ≤ b := Nat.le_trans Z0 (Nat.le_of_eq gb.symm)
  have S1_YES := S_YES.ext Ex1
  have E1_YES := E_YES.ext Ex1
  have S1_NO := S_NO.ext Ex1
  have E1_NO := E_NO.ext Ex1
  have S1_UNKNOWN := S_UNKNOWN.ext Ex1
  have E1_UNKNOWN := E_UNKNOWN.ext Ex1
  refine own_go (fun t k => st1 t k) ?_
  show Go p.tables e below _ (T1.setTop (mkF m 4 #[.val (.int p1), .val (.int p2), .unset, .unset, .unset, .unset, .unset, .unset, .unset, .unset, .unset, .unset, .unset, .unset] [(.ref b)]))
  refine own_go (fun t k => XS.dup X1.here hx rfl (hb hby at_4) rfl rfl k) ?_
  show Go p.tables e below _ (T1.setTop (mkF m 5 #[.val (.int p1), .val (.int p2), .unset, .unset, .unset, .unset, .unset, .unset, .unset, .unset, .unset, .unset, .unset, .unset] [(.ref b), (.ref b)]))
  refine own_go (fun t k => XS.iconst X1.here hx rfl (hb hby at_5) k) ?_
  show Go p.tables e below _ (T1.setTop (mkF m 6 #[.val (.int p1), .val (.int p2), .unset, .unset, .unset, .unset, .unset, .unset, .unset, .unset, .unset, .unset, .unset, .unset] [(.int (0 : Int32)), (.ref b), (.ref b)]))
  obtain ⟨T11, X11, e11, st11⟩ := getS2 X1 hx hZ hown (host := "") (Or.inl (hw _ (List.mem_of_getElem? (i := 2) rfl))) Via.refl e1 S1_YES (g := (mkF m 6 #[.val (.int p1), .val (.int p2), .unset, .unset, .unset, .unset, .unset, .unset, .unset, .unset, .unset, .unset, .unset, .unset] [(.int (0 : Int32)), (.ref b), (.ref b)])) rfl (hb hby at_6)
  refine own_go (fun t k => st11 t k) ?_
  show Go p.tables e below _ (T11.setTop (mkF m 9 #[.val (.int p1), .val (.int p2), .unset, .unset, .unset, .unset, .unset, .unset, .unset, .unset, .unset, .unset, .unset, .unset] [(.ref w_YES), (.int (0 : Int32)), (.ref b), (.ref b)]))
  obtain ⟨T2w, h2, X2w, e2w, W2, stw2⟩ := stR X11 hx hZ e11 A1 (j := (0 : Int32)) (by rw [sz_new]; decide) rfl (Sto.of A1 O1 (Ins.self E1_YES)) (g := (mkF m 9 #[.val (.int p1), .val (.int p2), .unset, .unset, .unset, .unset, .unset, .unset, .unset, .unset, .unset, .unset, .unset, .unset] [(.ref w_YES), (.int (0 : Int32)), (.ref b), (.ref b)])) rfl rfl (hb hby at_9)
  have N2w := Fr.snoc X2w N0 hb0
  have A2 := A1.same W2
  have S2_YES := S1_YES.wr W2
  have E2_YES := E1_YES.wr W2
  have S2_NO := S1_NO.wr W2
  have E2_NO := E1_NO.wr W2
  have S2_UNKNOWN := S1_UNKNOWN.wr W2
  have E2_UNKNOWN := E1_UNKNOWN.wr W2
  refine own_go (fun t k => stw2 t k) ?_
  show Go p.tables e below _ (T2w.setTop (mkF m 10 #[.val (.int p1), .val (.int p2), .unset, .unset, .unset, .unset, .unset, .unset, .unset, .unset, .unset, .unset, .unset, .unset] [(.ref b)]))
  refine own_go (fun t k => XS.dup X2w.here hx rfl (hb hby at_10) rfl rfl k) ?_
  show Go p.tables e below _ (T2w.setTop (mkF m 11 #[.val (.int p1), .val (.int p2), .unset, .unset, .unset, .unset, .unset, .unset, .unset, .unset, .unset, .unset, .unset, .unset] [(.ref b), (.ref b)]))
  refine own_go (fun t k => XS.iconst X2w.here hx rfl (hb hby at_11) k) ?_
  show Go p.tables e below _ (T2w.setTop (mkF m 12 #[.val (.int p1), .val (.int p2), .unset, .unset, .unset, .unset, .unset, .unset, .unset, .unset, .unset, .unset, .unset, .unset] [(.int (1 : Int32)), (.ref b), (.ref b)]))
  obtain ⟨T51, X51, e51, st51⟩ := getS2 X2w hx hZ hown (host := "") (Or.inl (hw _ (List.mem_of_getElem? (i := 6) rfl))) Via.refl e2w S2_NO (g := (mkF m 12 #[.val (.int p1), .val (.int p2), .unset, .unset, .unset, .unset, .unset, .unset, .unset, .unset, .unset, .unset, .unset, .unset] [(.int (1 : Int32)), (.ref b), (.ref b)])) rfl (hb hby at_12)
  refine own_go (fun t k => st51 t k) ?_
  show Go p.tables e below _ (T51.setTop (mkF m 15 #[.val (.int p1), .val (.int p2), .unset, .unset, .unset, .unset, .unset, .unset, .unset, .unset, .unset, .unset, .unset, .unset] [(.ref w_NO), (.int (1 : Int32)), (.ref b), (.ref b)]))
  obtain ⟨T3w, h3, X3w, e3w, W3, stw3⟩ := stR X51 hx hZ e51 A2 (j := (1 : Int32)) (by rw [sz_set]; rw [sz_new]; decide) rfl (Sto.of A2 O1 (Ins.self E2_NO)) (g := (mkF m 15 #[.val (.int p1), .val (.int p2), .unset, .unset, .unset, .unset, .unset, .unset, .unset, .unset, .unset, .unset, .unset, .unset] [(.ref w_NO), (.int (1 : Int32)), (.ref b), (.ref b)])) rfl rfl (hb hby at_15)
  have N3w := Fr.snoc X3w N2w hb0
  have A3 := A2.same W3
  have S3_YES := S2_YES.wr W3
  have E3_YES := E2_YES.wr W3
  have S3_NO := S2_NO.wr W3
  have E3_NO := E2_NO.wr W3
  have S3_UNKNOWN := S2_UNKNOWN.wr W3
  have E3_UNKNOWN := E2_UNKNOWN.wr W3
  refine own_go (fun t k => stw3 t k) ?_
  show Go p.tables e below _ (T3w.setTop (mkF m 16 #[.val (.int p1), .val (.int p2), .unset, .unset, .unset, .unset, .unset, .unset, .unset, .unset, .unset, .unset, .unset, .unset] [(.ref b)]))
  refine own_go (fun t k => XS.dup X3w.here hx rfl (hb hby at_16) rfl rfl k) ?_
  show Go p.tables e below _ (T3w.setTop (mkF m 17 #[.val (.int p1), .val (.int p2), .unset, .unset, .unset, .unset, .unset, .unset, .unset, .unset, .unset, .unset, .unset, .unset] [(.ref b), (.ref b)]))
  refine own_go (fun t k => XS.iconst X3w.here hx rfl (hb hby at_17) k) ?_
  show Go p.tables e below _ (T3w.setTop (mkF m 18 #[.val (.int p1), .val (.int p2), .unset, .unset, .unset, .unset, .unset, .unset, .unset, .unset, .unset, .unset, .unset, .unset] [(.int (2 : Int32)), (.ref b), (.ref b)]))
  obtain ⟨T52, X52, e52, st52⟩ := getS2 X3w hx hZ hown (host := "") (Or.inl (hw _ (List.mem_of_getElem? (i := 8) rfl))) Via.refl e3w S3_UNKNOWN (g := (mkF m 18 #[.val (.int p1), .val (.int p2), .unset, .unset, .unset, .unset, .unset, .unset, .unset, .unset, .unset, .unset, .unset, .unset] [(.int (2 : Int32)), (.ref b), (.ref b)])) rfl (hb hby at_18)
  refine own_go (fun t k => st52 t k) ?_
  show Go p.tables e below _ (T52.setTop (mkF m 21 #[.val (.int p1), .val (.int p2), .unset, .unset, .unset, .unset, .unset, .unset, .unset, .unset, .unset, .unset, .unset, .unset] [(.ref w_UNKNOWN), (.int (2 : Int32)), (.ref b), (.ref b)]))
  obtain ⟨T4w, h4, X4w, e4w, W4, stw4⟩ := stR X52 hx hZ e52 A3 (j := (2 : Int32)) (by rw [sz_set]; rw [sz_set]; rw [sz_new]; decide) rfl (Sto.of A3 O1 (Ins.self E3_UNKNOWN)) (g := (mkF m 21 #[.val (.int p1), .val (.int p2), .unset, .unset, .unset, .unset, .unset, .unset, .unset, .unset, .unset, .unset, .unset, .unset] [(.ref w_UNKNOWN), (.int (2 : Int32)), (.ref b), (.ref b)])) rfl rfl (hb hby at_21)
  have N4w := Fr.snoc X4w N3w hb0
  have A4 := A3.same W4
  have S4_YES := S3_YES.wr W4
  have E4_YES := E3_YES.wr W4
  have S4_NO := S3_NO.wr W4
  have E4_NO := E3_NO.wr W4
  have S4_UNKNOWN := S3_UNKNOWN.wr W4
  have E4_UNKNOWN := E3_UNKNOWN.wr W4
  refine own_go (fun t k => stw4 t k) ?_
  show Go p.tables e below _ (T4w.setTop (mkF m 22 #[.val (.int p1), .val (.int p2), .unset, .unset, .unset, .unset, .unset, .unset, .unset, .unset, .unset, .unset, .unset, .unset] [(.ref b)]))
  have SSh : own_S Z h4 w_YES w_NO w_UNKNOWN := ⟨S4_YES, S4_NO, S4_UNKNOWN⟩
  have EH_YES := E4_YES
  have EH_NO := E4_NO
  have EH_UNKNOWN := E4_UNKNOWN
  refine own_go (fun t k => XS.astoreN X4w.here hx rfl (hb hby at_22) rfl rfl (l' := #[.val (.int p1), .val (.int p2), .val (.ref b), .unset, .unset, .unset, .unset, .unset, .unset, .unset, .unset, .unset, .unset, .unset]) rfl k) ?_
  show Go p.tables e below _ (T4w.setTop (mkF m 23 #[.val (.int p1), .val (.int p2), .val (.ref b), .unset, .unset, .unset, .unset, .unset, .unset, .unset, .unset, .unset, .unset, .unset] []))
  refine own_go (fun t k => XS.iloadN X4w.here hx rfl (hb hby at_23) rfl k) ?_
  show Go p.tables e below _ (T4w.setTop (mkF m 24 #[.val (.int p1), .val (.int p2), .val (.ref b), .unset, .unset, .unset, .unset, .unset, .unset, .unset, .unset, .unset, .unset, .unset] [(.int p1)]))
  refine own_go (fun t k => Jvm.Stand.ldcI X4w hx hown (mvT hZ (hw _ (List.mem_of_getElem? (i := 10) rfl))) rfl (hb hby at_24) k) ?_
  show Go p.tables e below _ (T4w.setTop (mkF m 26 #[.val (.int p1), .val (.int p2), .val (.ref b), .unset, .unset, .unset, .unset, .unset, .unset, .unset, .unset, .unset, .unset, .unset] [(.int (2147483647 : Int32)), (.int p1)]))
  refine own_go (fun t k => XS.iand X4w.here hx rfl (hb hby at_26) rfl k) ?_
  show Go p.tables e below _ (T4w.setTop (mkF m 27 #[.val (.int p1), .val (.int p2), .val (.ref b), .unset, .unset, .unset, .unset, .unset, .unset, .unset, .unset, .unset, .unset, .unset] [(.int (p1 &&& (2147483647 : Int32)))]))
  refine own_go (fun t k => XS.iconst X4w.here hx rfl (hb hby at_27) k) ?_
  show Go p.tables e below _ (T4w.setTop (mkF m 28 #[.val (.int p1), .val (.int p2), .val (.ref b), .unset, .unset, .unset, .unset, .unset, .unset, .unset, .unset, .unset, .unset, .unset] [(.int (3 : Int32)), (.int (p1 &&& (2147483647 : Int32)))]))
  refine own_go (fun t k => iremM (g := (mkF m 28 #[.val (.int p1), .val (.int p2), .val (.ref b), .unset, .unset, .unset, .unset, .unset, .unset, .unset, .unset, .unset, .unset, .unset] [(.int (3 : Int32)), (.int (p1 &&& (2147483647 : Int32)))])) X4w hx rfl (hb hby at_28) rfl (by decide) k) ?_
  show Go p.tables e below _ (T4w.setTop (mkF m 29 #[.val (.int p1), .val (.int p2), .val (.ref b), .unset, .unset, .unset, .unset, .unset, .unset, .unset, .unset, .unset, .unset, .unset] [(.int ((p1 &&& (2147483647 : Int32)) % (3 : Int32)))]))
  rw [q1]
  show Go p.tables e below _ (T4w.setTop (mkF m 29 #[.val (.int p1), .val (.int p2), .val (.ref b), .unset, .unset, .unset, .unset, .unset, .unset, .unset, .unset, .unset, .unset, .unset] [(.int (2 : Int32))]))
  refine own_go (fun t k => XS.istoreN X4w.here hx rfl (hb hby at_29) rfl (l' := #[.val (.int p1), .val (.int p2), .val (.ref b), .val (.int (2 : Int32)), .unset, .unset, .unset, .unset, .unset, .unset, .unset, .unset, .unset, .unset]) rfl k) ?_
  show Go p.tables e below _ (T4w.setTop (mkF m 30 #[.val (.int p1), .val (.int p2), .val (.ref b), .val (.int (2 : Int32)), .unset, .unset, .unset, .unset, .unset, .unset, .unset, .unset, .unset, .unset] []))
  refine own_go (fun t k => XS.iloadN X4w.here hx rfl (hb hby at_30) rfl k) ?_
  show Go p.tables e below _ (T4w.setTop (mkF m 31 #[.val (.int p1), .val (.int p2), .val (.ref b), .val (.int (2 : Int32)), .unset, .unset, .unset, .unset, .unset, .unset, .unset, .unset, .unset, .unset] [(.int p2)]))
  refine own_go (fun t k => Jvm.Stand.ldcI X4w hx hown (mvT hZ (hw _ (List.mem_of_getElem? (i := 10) rfl))) rfl (hb hby at_31) k) ?_
  show Go p.tables e below _ (T4w.setTop (mkF m 33 #[.val (.int p1), .val (.int p2), .val (.ref b), .val (.int (2 : Int32)), .unset, .unset, .unset, .unset, .unset, .unset, .unset, .unset, .unset, .unset] [(.int (2147483647 : Int32)), (.int p2)]))
  refine own_go (fun t k => XS.iand X4w.here hx rfl (hb hby at_33) rfl k) ?_
  show Go p.tables e below _ (T4w.setTop (mkF m 34 #[.val (.int p1), .val (.int p2), .val (.ref b), .val (.int (2 : Int32)), .unset, .unset, .unset, .unset, .unset, .unset, .unset, .unset, .unset, .unset] [(.int (p2 &&& (2147483647 : Int32)))]))
  refine own_go (fun t k => XS.iconst X4w.here hx rfl (hb hby at_34) k) ?_
  show Go p.tables e below _ (T4w.setTop (mkF m 35 #[.val (.int p1), .val (.int p2), .val (.ref b), .val (.int (2 : Int32)), .unset, .unset, .unset, .unset, .unset, .unset, .unset, .unset, .unset, .unset] [(.int (3 : Int32)), (.int (p2 &&& (2147483647 : Int32)))]))
  refine own_go (fun t k => iremM (g := (mkF m 35 #[.val (.int p1), .val (.int p2), .val (.ref b), .val (.int (2 : Int32)), .unset, .unset, .unset, .unset, .unset, .unset, .unset, .unset, .unset, .unset] [(.int (3 : Int32)), (.int (p2 &&& (2147483647 : Int32)))])) X4w hx rfl (hb hby at_35) rfl (by decide) k) ?_
  show Go p.tables e below _ (T4w.setTop (mkF m 36 #[.val (.int p1), .val (.int p2), .val (.ref b), .val (.int (2 : Int32)), .unset, .unset, .unset, .unset, .unset, .unset, .unset, .unset, .unset, .unset] [(.int ((p2 &&& (2147483647 : Int32)) % (3 : Int32)))]))
  rw [q2]
  show Go p.tables e below _ (T4w.setTop (mkF m 36 #[.val (.int p1), .val (.int p2), .val (.ref b), .val (.int (2 : Int32)), .unset, .unset, .unset, .unset, .unset, .unset, .unset, .unset, .unset, .unset] [(.int (0 : Int32))]))
  refine own_go (fun t k => XS.istore X4w.here hx rfl (hb hby at_36) rfl (l' := #[.val (.int p1), .val (.int p2), .val (.ref b), .val (.int (2 : Int32)), .val (.int (0 : Int32)), .unset, .unset, .unset, .unset, .unset, .unset, .unset, .unset, .unset]) rfl k) ?_
  show Go p.tables e below _ (T4w.setTop (mkF m 38 #[.val (.int p1), .val (.int p2), .val (.ref b), .val (.int (2 : Int32)), .val (.int (0 : Int32)), .unset, .unset, .unset, .unset, .unset, .unset, .unset, .unset, .unset] []))
  refine own_go (fun t k => XS.aloadN X4w.here hx rfl (hb hby at_38) rfl rfl k) ?_
  show Go p.tables e below _ (T4w.setTop (mkF m 39 #[.val (.int p1), .val (.int p2), .val (.ref b), .val (.int (2 : Int32)), .val (.int (0 : Int32)), .unset, .unset, .unset, .unset, .unset, .unset, .unset, .unset, .unset] [(.ref b)]))
  refine own_go (fun t k => XS.iloadN X4w.here hx rfl (hb hby at_39) rfl k) ?_
  show Go p.tables e below _ (T4w.setTop (mkF m 40 #[.val (.int p1), .val (.int p2), .val (.ref b), .val (.int (2 : Int32)), .val (.int (0 : Int32)), .unset, .unset, .unset, .unset, .unset, .unset, .unset, .unset, .unset] [(.int (2 : Int32)), (.ref b)]))
  refine own_go (fun t k => X4w.aaload hx (j := (2 : Int32)) (v := (.ref w_UNKNOWN)) (by rw [e4w]; exact A4.1) (State.isArrayOf_alike hZ.alike A4.2.1) rfl A4.2.2 (by rw [sz_set, sz_set, sz_set, sz_new]; decide) rfl (g := (mkF m 40 #[.val (.int p1), .val (.int p2), .val (.ref b), .val (.int (2 : Int32)), .val (.int (0 : Int32)), .unset, .unset, .unset, .unset, .unset, .unset, .unset, .unset, .unset] [(.int (2 : Int32)), (.ref b)])) rfl rfl (hb hby at_40) t k) ?_
  show Go p.tables e below _ (T4w.setTop (mkF m 41 #[.val (.int p1), .val (.int p2), .val (.ref b), .val (.int (2 : Int32)), .val (.int (0 : Int32)), .unset, .unset, .unset, .unset, .unset, .unset, .unset, .unset, .unset] [(.ref w_UNKNOWN)]))
  refine own_go (fun t k => XS.astore X4w.here hx rfl (hb hby at_41) rfl rfl (l' := #[.val (.int p1), .val (.int p2), .val (.ref b), .val (.int (2 : Int32)), .val (.int (0 : Int32)), .val (.ref w_UNKNOWN), .unset, .unset, .unset, .unset, .unset, .unset, .unset, .unset]) rfl k) ?_
  show Go p.tables e below _ (T4w.setTop (mkF m 43 #[.val (.int p1), .val (.int p2), .val (.ref b), .val (.int (2 : Int32)), .val (.int (0 : Int32)), .val (.ref w_UNKNOWN), .unset, .unset, .unset, .unset, .unset, .unset, .unset, .unset] []))
  refine own_go (fun t k => XS.aloadN X4w.here hx rfl (hb hby at_43) rfl rfl k) ?_
  show Go p.tables e below _ (T4w.setTop (mkF m 44 #[.val (.int p1), .val (.int p2), .val (.ref b), .val (.int (2 : Int32)), .val (.int (0 : Int32)), .val (.ref w_UNKNOWN), .unset, .unset, .unset, .unset, .unset, .unset, .unset, .unset] [(.ref b)]))
  refine own_go (fun t k => XS.iload X4w.here hx rfl (hb hby at_44) rfl k) ?_
  show Go p.tables e below _ (T4w.setTop (mkF m 46 #[.val (.int p1), .val (.int p2), .val (.ref b), .val (.int (2 : Int32)), .val (.int (0 : Int32)), .val (.ref w_UNKNOWN), .unset, .unset, .unset, .unset, .unset, .unset, .unset, .unset] [(.int (0 : Int32)), (.ref b)]))
  refine own_go (fun t k => X4w.aaload hx (j := (0 : Int32)) (v := (.ref w_YES)) (by rw [e4w]; exact A4.1) (State.isArrayOf_alike hZ.alike A4.2.1) rfl A4.2.2 (by rw [sz_set, sz_set, sz_set, sz_new]; decide) rfl (g := (mkF m 46 #[.val (.int p1), .val (.int p2), .val (.ref b), .val (.int (2 : Int32)), .val (.int (0 : Int32)), .val (.ref w_UNKNOWN), .unset, .unset, .unset, .unset, .unset, .unset, .unset, .unset] [(.int (0 : Int32)), (.ref b)])) rfl rfl (hb hby at_46) t k) ?_
  show Go p.tables e below _ (T4w.setTop (mkF m 47 #[.val (.int p1), .val (.int p2), .val (.ref b), .val (.int (2 : Int32)), .val (.int (0 : Int32)), .val (.ref w_UNKNOWN), .unset, .unset, .unset, .unset, .unset, .unset, .unset, .unset] [(.ref w_YES)]))
  refine own_go (fun t k => XS.astore X4w.here hx rfl (hb hby at_47) rfl rfl (l' := #[.val (.int p1), .val (.int p2), .val (.ref b), .val (.int (2 : Int32)), .val (.int (0 : Int32)), .val (.ref w_UNKNOWN), .val (.ref w_YES), .unset, .unset, .unset, .unset, .unset, .unset, .unset]) rfl k) ?_
  show Go p.tables e below _ (T4w.setTop (mkF m 49 #[.val (.int p1), .val (.int p2), .val (.ref b), .val (.int (2 : Int32)), .val (.int (0 : Int32)), .val (.ref w_UNKNOWN), .val (.ref w_YES), .unset, .unset, .unset, .unset, .unset, .unset, .unset] []))
  refine own_go (fun t k => XS.iloadN X4w.here hx rfl (hb hby at_49) rfl k) ?_
  show Go p.tables e below _ (T4w.setTop (mkF m 50 #[.val (.int p1), .val (.int p2), .val (.ref b), .val (.int (2 : Int32)), .val (.int (0 : Int32)), .val (.ref w_UNKNOWN), .val (.ref w_YES), .unset, .unset, .unset, .unset, .unset, .unset, .unset] [(.int (2 : Int32))]))
  refine own_go (fun t k => XS.iconst X4w.here hx rfl (hb hby at_50) k) ?_
  show Go p.tables e below _ (T4w.setTop (mkF m 51 #[.val (.int p1), .val (.int p2), .val (.ref b), .val (.int (2 : Int32)), .val (.int (0 : Int32)), .val (.ref w_UNKNOWN), .val (.ref w_YES), .unset, .unset, .unset, .unset, .unset, .unset, .unset] [(.int (2 : Int32)), (.int (2 : Int32))]))
  refine own_go (fun t k => XS.icmpNo X4w.here hx rfl (hb hby at_51) rfl (XT.ii_ne_f (by decide)) k) ?_
  show Go p.tables e below _ (T4w.setTop (mkF m 54 #[.val (.int p1), .val (.int p2), .val (.ref b), .val (.int (2 : Int32)), .val (.int (0 : Int32)), .val (.ref w_UNKNOWN), .val (.ref w_YES), .unset, .unset, .unset, .unset, .unset, .unset, .unset] []))
  obtain ⟨T53, X53, e53, st53⟩ := getS2 X4w hx hZ hown (host := "") (Or.inl (hw _ (List.mem_of_getElem? (i := 8) rfl))) Via.refl e4w S4_UNKNOWN (g := (mkF m 54 #[.val (.int p1), .val (.int p2), .val (.ref b), .val (.int (2 : Int32)), .val (.int (0 : Int32)), .val (.ref w_UNKNOWN), .val (.ref w_YES), .unset, .unset, .unset, .unset, .unset, .unset, .unset] [])) rfl (hb hby at_54)
  refine own_go (fun t k => st53 t k) ?_
  show Go p.tables e below _ (T53.setTop (mkF m 57 #[.val (.int p1), .val (.int p2), .val (.ref b), .val (.int (2 : Int32)), .val (.int (0 : Int32)), .val (.ref w_UNKNOWN), .val (.ref w_YES), .unset, .unset, .unset, .unset, .unset, .unset, .unset] [(.ref w_UNKNOWN)]))
  refine own_go (fun t k => XS.astore X53.here hx rfl (hb hby at_57) rfl rfl (l' := #[.val (.int p1), .val (.int p2), .val (.ref b), .val (.int (2 : Int32)), .val (.int (0 : Int32)), .val (.ref w_UNKNOWN), .val (.ref w_YES), .val (.ref w_UNKNOWN), .unset, .unset, .unset, .unset, .unset, .unset]) rfl k) ?_
  show Go p.tables e below _ (T53.setTop (mkF m 59 #[.val (.int p1), .val (.int p2), .val (.ref b), .val (.int (2 : Int32)), .val (.int (0 : Int32)), .val (.ref w_UNKNOWN), .val (.ref w_YES), .val (.ref w_UNKNOWN), .unset, .unset, .unset, .unset, .unset, .unset] []))
  refine own_go (fun t k => XS.goto X53.here hx rfl (pc0 := 59) (pc' := 69) rfl (hb hby at_59) (by decide) (by decide) k) ?_
  show Go p.tables e below _ (T53.setTop (mkF m 69 #[.val (.int p1), .val (.int p2), .val (.ref b), .val (.int (2 : Int32)), .val (.int (0 : Int32)), .val (.ref w_UNKNOWN), .val (.ref w_YES), .val (.ref w_UNKNOWN), .unset, .unset, .unset, .unset, .unset, .unset] []))
  refine own_go (fun t k => XS.aload X53.here hx rfl (hb hby at_69) rfl rfl k) ?_
  show Go p.tables e below _ (T53.setTop (mkF m 71 #[.val (.int p1), .val (.int p2), .val (.ref b), .val (.int (2 : Int32)), .val (.int (0 : Int32)), .val (.ref w_UNKNOWN), .val (.ref w_YES), .val (.ref w_UNKNOWN), .unset, .unset, .unset, .unset, .unset, .unset] [(.ref w_UNKNOWN)]))
  obtain ⟨cq54, kq54, q54a, q54b, q54c⟩ := isOf hZ e53 EH_UNKNOWN
  obtain ⟨v54, _, ⟨T54, L54, k54, n54⟩, -, X54, ⟨Lc54, hQ54, l54, y54, z54⟩, st54⟩ := X53.virtualBack hx (y := (⟨"com/example/casewright/casewright/types/Answer", "not", "()Lcom/example/casewright/casewright/types/Answer;"⟩ : MethodName)) (z := (⟨"com/example/casewright/casewright/types/Answer", "not", "()Lcom/example/casewright/casewright/types/Answer;"⟩ : MethodName)) hown (mvT hZ (hw _ (List.mem_of_getElem? (i := 11) rfl))) (mvT hZ (hw _ (List.mem_of_getElem? (i := 12) rfl))) (notFace_of_selects (args := #[]) (mvT hZ (hw _ (List.mem_of_getElem? (i := 14) rfl)))) (mvT hZ (hw _ (List.mem_of_getElem? (i := 14) rfl))) (mvT hZ (hw _ (List.mem_of_getElem? (i := 13) rfl))) (by decide) (backOf (W := 0) (rm_not l Z a0 hw [] w_UNKNOWN w_YES w_NO w_UNKNOWN h4 n0 SSh) hZ (hw _ (List.mem_of_getElem? (i := 15) rfl)) (hw _ (List.mem_of_getElem? (i := 3) rfl)) (by decide) (by decide)) q54a q54c (g := (mkF m 71 #[.val (.int p1), .val (.int p2), .val (.ref b), .val (.int (2 : Int32)), .val (.int (0 : Int32)), .val (.ref w_UNKNOWN), .val (.ref w_YES), .val (.ref w_UNKNOWN), .unset, .unset, .unset, .unset, .unset, .unset] [(.ref w_UNKNOWN)])) rfl (by rw [hml]; rfl) (Steps.refl _) (argsL := []) (rest := []) (lenOf pd_0 rfl) rfl (by show 2 * 0 + _ ≤ _; exact Nat.le_of_eq rfl) (hb hby at_71) (fun _ _ => ⟨rfl, e53, (by decide : 0 + 1 + 0 ≤ _), (by decide : 0 + 3 + 0 ≤ _)⟩)
  dsimp only [Pt.U, Pt.locs, Pt.cells, Pt.slots] at X54 l54 y54 z54 st54 hQ54
  subst l54 y54 z54
  obtain ⟨hv54, N54q, e54⟩ := hQ54
  rw [show ((.ref (own_not w_NO w_UNKNOWN w_YES w_UNKNOWN)) : Value) = (.ref w_UNKNOWN) from by simp [own_not, nUN, nYN, nYU, nUN.symm, nYN.symm, nYU.symm]] at hv54
  subst hv54
  have N54 := Fr.app N4w N54q
  refine own_go (fun t k => st54.trans k) ?_
  show Go p.tables e below _ (T54.setTop (mkF m 74 #[.val (.int p1), .val (.int p2), .val (.ref b), .val (.int (2 : Int32)), .val (.int (0 : Int32)), .val (.ref w_UNKNOWN), .val (.ref w_YES), .val (.ref w_UNKNOWN), .unset, .unset, .unset, .unset, .unset, .unset] [(.ref w_UNKNOWN)]))
  refine own_go (fun t k => XS.astore X54.here hx rfl (hb hby at_74) rfl rfl (l' := #[.val (.int p1), .val (.int p2), .val (.ref b), .val (.int (2 : Int32)), .val (.int (0 : Int32)), .val (.ref w_UNKNOWN), .val (.ref w_YES), .val (.ref w_UNKNOWN), .val (.ref w_UNKNOWN), .unset, .unset, .unset, .unset, .unset]) rfl k) ?_
  show Go p.tables e below _ (T54.setTop (mkF m 76 #[.val (.int p1), .val (.int p2), .val (.ref b), .val (.int (2 : Int32)), .val (.int (0 : Int32)), .val (.ref w_UNKNOWN), .val (.ref w_YES), .val (.ref w_UNKNOWN), .val (.ref w_UNKNOWN), .unset, .unset, .unset, .unset, .unset] []))
  refine own_go (fun t k => XS.aload X54.here hx rfl (hb hby at_76) rfl rfl k) ?_
  show Go p.tables e below _ (T54.setTop (mkF m 78 #[.val (.int p1), .val (.int p2), .val (.ref b), .val (.int (2 : Int32)), .val (.int (0 : Int32)), .val (.ref w_UNKNOWN), .val (.ref w_YES), .val (.ref w_UNKNOWN), .val (.ref w_UNKNOWN), .unset, .unset, .unset, .unset, .unset] [(.ref w_YES)]))
  obtain ⟨cq55, kq55, q55a, q55b, q55c⟩ := isOf hZ e54 EH_YES
  obtain ⟨v55, _, ⟨T55, L55, k55, n55⟩, -, X55, ⟨Lc55, hQ55, l55, y55, z55⟩, st55⟩ := X54.virtualBack hx (y := (⟨"com/example/casewright/casewright/types/Answer", "not", "()Lcom/example/casewright/casewright/types/Answer;"⟩ : MethodName)) (z := (⟨"com/example/casewright/casewright/types/Answer", "not", "()Lcom/example/casewright/casewright/types/Answer;"⟩ : MethodName)) hown (mvT hZ (hw _ (List.mem_of_getElem? (i := 11) rfl))) (mvT hZ (hw _ (List.mem_of_getElem? (i := 12) rfl))) (notFace_of_selects (args := #[]) (mvT hZ (hw _ (List.mem_of_getElem? (i := 14) rfl)))) (mvT hZ (hw _ (List.mem_of_getElem? (i := 14) rfl))) (mvT hZ (hw _ (List.mem_of_getElem? (i := 13) rfl))) (by decide) (backOf (W := 0) (rm_not l Z a0 hw [] w_YES w_YES w_NO w_UNKNOWN h4 n0 SSh) hZ (hw _ (List.mem_of_getElem? (i := 15) rfl)) (hw _ (List.mem_of_getElem? (i := 3) rfl)) (by decide) (by decide)) q55a q55c (g := (mkF m 78 #[.val (.int p1), .val (.int p2), .val (.ref b), .val (.int (2 : Int32)), .val (.int (0 : Int32)), .val (.ref w_UNKNOWN), .val (.ref w_YES), .val (.ref w_UNKNOWN), .val (.ref w_UNKNOWN), .unset, .unset, .unset, .unset, .unset] [(.ref w_YES)])) rfl (by rw [hml]; rfl) (Steps.refl _) (argsL := []) (rest := []) (lenOf pd_0 rfl) rfl (by show 2 * 0 + _ ≤ _; exact Nat.le_of_eq rfl) (hb hby at_78) (fun _ _ => ⟨rfl, e54, (by decide : 0 + 1 + 0 ≤ _), (by decide : 0 + 3 + 0 ≤ _)⟩)
  dsimp only [Pt.U, Pt.locs, Pt.cells, Pt.slots] at X55 l55 y55 z55 st55 hQ55
  subst l55 y55 z55
  obtain ⟨hv55, N55q, e55⟩ := hQ55
  rw [show ((.ref (own_not w_NO w_UNKNOWN w_YES w_YES)) : Value) = (.ref w_NO) from by simp [own_not, nUN, nYN, nYU, nUN.symm, nYN.symm, nYU.symm]] at hv55
  subst hv55
  have N55 := Fr.app N54 N55q
  refine own_go (fun t k => st55.trans k) ?_
  show Go p.tables e below _ (T55.setTop (mkF m 81 #[.val (.int p1), .val (.int p2), .val (.ref b), .val (.int (2 : Int32)), .val (.int (0 : Int32)), .val (.ref w_UNKNOWN), .val (.ref w_YES), .val (.ref w_UNKNOWN), .val (.ref w_UNKNOWN), .unset, .unset, .unset, .unset, .unset] [(.ref w_NO)]))
  refine own_go (fun t k => XS.astore X55.here hx rfl (hb hby at_81) rfl rfl (l' := #[.val (.int p1), .val (.int p2), .val (.ref b), .val (.int (2 : Int32)), .val (.int (0 : Int32)), .val (.ref w_UNKNOWN), .val (.ref w_YES), .val (.ref w_UNKNOWN), .val (.ref w_UNKNOWN), .val (.ref w_NO), .unset, .unset, .unset, .unset]) rfl k) ?_
  show Go p.tables e below _ (T55.setTop (mkF m 83 #[.val (.int p1), .val (.int p2), .val (.ref b), .val (.int (2 : Int32)), .val (.int (0 : Int32)), .val (.ref w_UNKNOWN), .val (.ref w_YES), .val (.ref w_UNKNOWN), .val (.ref w_UNKNOWN), .val (.ref w_NO), .unset, .unset, .unset, .unset] []))
  refine own_go (fun t k => XS.aload X55.here hx rfl (hb hby at_83) rfl rfl k) ?_
  show Go p.tables e below _ (T55.setTop (mkF m 85 #[.val (.int p1), .val (.int p2), .val (.ref b), .val (.int (2 : Int32)), .val (.int (0 : Int32)), .val (.ref w_UNKNOWN), .val (.ref w_YES), .val (.ref w_UNKNOWN), .val (.ref w_UNKNOWN), .val (.ref w_NO), .unset, .unset, .unset, .unset] [(.ref w_UNKNOWN)]))
  refine own_go (fun t k => XS.aload X55.here hx rfl (hb hby at_85) rfl rfl k) ?_
  show Go p.tables e below _ (T55.setTop (mkF m 87 #[.val (.int p1), .val (.int p2), .val (.ref b), .val (.int (2 : Int32)), .val (.int (0 : Int32)), .val (.ref w_UNKNOWN), .val (.ref w_YES), .val (.ref w_UNKNOWN), .val (.ref w_UNKNOWN), .val (.ref w_NO), .unset, .unset, .unset, .unset] [(.ref w_UNKNOWN), (.ref w_UNKNOWN)]))
  refine own_go (fun t k => XT.acmpNo X55.here hx rfl (hb hby at_87) rfl rfl rfl (XT.aa_ne_f (congrArg Value.ref rfl)) k) ?_
  show Go p.tables e below _ (T55.setTop (mkF m 90 #[.val (.int p1), .val (.int p2), .val (.ref b), .val (.int (2 : Int32)), .val (.int (0 : Int32)), .val (.ref w_UNKNOWN), .val (.ref w_YES), .val (.ref w_UNKNOWN), .val (.ref w_UNKNOWN), .val (.ref w_NO), .unset, .unset, .unset, .unset] []))
  refine own_go (fun t k => XS.iconst X55.here hx rfl (hb hby at_90) k) ?_
  show Go p.tables e below _ (T55.setTop (mkF m 91 #[.val (.int p1), .val (.int p2), .val (.ref b), .val (.int (2 : Int32)), .val (.int (0 : Int32)), .val (.ref w_UNKNOWN), .val (.ref w_YES), .val (.ref w_UNKNOWN), .val (.ref w_UNKNOWN), .val (.ref w_NO), .unset, .unset, .unset, .unset] [(.int (1 : Int32))]))
  refine own_go (fun t k => XS.goto X55.here hx rfl (pc0 := 91) (pc' := 95) rfl (hb hby at_91) (by decide) (by decide) k) ?_
  show Go p.tables e below _ (T55.setTop (mkF m 95 #[.val (.int p1), .val (.int p2), .val (.ref b), .val (.int (2 : Int32)), .val (.int (0 : Int32)), .val (.ref w_UNKNOWN), .val (.ref w_YES), .val (.ref w_UNKNOWN), .val (.ref w_UNKNOWN), .val (.ref w_NO), .unset, .unset, .unset, .unset] [(.int (1 : Int32))]))
  refine own_go (fun t k => XS.istore X55.here hx rfl (hb hby at_95) rfl (l' := #[.val (.int p1), .val (.int p2), .val (.ref b), .val (.int (2 : Int32)), .val (.int (0 : Int32)), .val (.ref w_UNKNOWN), .val (.ref w_YES), .val (.ref w_UNKNOWN), .val (.ref w_UNKNOWN), .val (.ref w_NO), .val (.int (1 : Int32)), .unset, .unset, .unset]) rfl k) ?_
  show Go p.tables e below _ (T55.setTop (mkF m 97 #[.val (.int p1), .val (.int p2), .val (.ref b), .val (.int (2 : Int32)), .val (.int (0 : Int32)), .val (.ref w_UNKNOWN), .val (.ref w_YES), .val (.ref w_UNKNOWN), .val (.ref w_UNKNOWN), .val (.ref w_NO), .val (.int (1 : Int32)), .unset, .unset, .unset] []))
  refine own_go (fun t k => XS.aload X55.here hx rfl (hb hby at_97) rfl rfl k) ?_
  show Go p.tables e below _ (T55.setTop (mkF m 99 #[.val (.int p1), .val (.int p2), .val (.ref b), .val (.int (2 : Int32)), .val (.int (0 : Int32)), .val (.ref w_UNKNOWN), .val (.ref w_YES), .val (.ref w_UNKNOWN), .val (.ref w_UNKNOWN), .val (.ref w_NO), .val (.int (1 : Int32)), .unset, .unset, .unset] [(.ref w_UNKNOWN)]))
  obtain ⟨cq56, kq56, q56a, q56b, q56c⟩ := isOf hZ e55 EH_UNKNOWN
  obtain ⟨v56, _, ⟨T56, L56, k56, n56⟩, -, X56, ⟨Lc56, hQ56, l56, y56, z56⟩, st56⟩ := X55.virtualBack hx (y := (⟨"com/example/casewright/casewright/types/Answer", "not", "()Lcom/example/casewright/casewright/types/Answer;"⟩ : MethodName)) (z := (⟨"com/example/casewright/casewright/types/Answer", "not", "()Lcom/example/casewright/casewright/types/Answer;"⟩ : MethodName)) hown (mvT hZ (hw _ (List.mem_of_getElem? (i := 11) rfl))) (mvT hZ (hw _ (List.mem_of_getElem? (i := 12) rfl))) (notFace_of_selects (args := #[]) (mvT hZ (hw _ (List.mem_of_getElem? (i := 14) rfl)))) (mvT hZ (hw _ (List.mem_of_getElem? (i := 14) rfl))) (mvT hZ (hw _ (List.mem_of_getElem? (i := 13) rfl))) (by decide) (backOf (W := 0) (rm_not l Z a0 hw [] w_UNKNOWN w_YES w_NO w_UNKNOWN h4 n0 SSh) hZ (hw _ (List.mem_of_getElem? (i := 15) rfl)) (hw _ (List.mem_of_getElem? (i := 3) rfl)) (by decide) (by decide)) q56a q56c (g := (mkF m 99 #[.val (.int p1), .val (.int p2), .val (.ref b), .val (.int (2 : Int32)), .val (.int (0 : Int32)), .val (.ref w_UNKNOWN), .val (.ref w_YES), .val (.ref w_UNKNOWN), .val (.ref w_UNKNOWN), .val (.ref w_NO), .val (.int (1 : Int32)), .unset, .unset, .unset] [(.ref w_UNKNOWN)])) rfl (by rw [hml]; rfl) (Steps.refl _) (argsL := []) (rest := []) (lenOf pd_0 rfl) rfl (by show 2 * 0 + _ ≤ _; exact Nat.le_of_eq rfl) (hb hby at_99) (fun _ _ => ⟨rfl, e55, (by decide : 0 + 1 + 0 ≤ _), (by decide : 0 + 3 + 0 ≤ _)⟩)
  dsimp only [Pt.U, Pt.locs, Pt.cells, Pt.slots] at X56 l56 y56 z56 st56 hQ56
  subst l56 y56 z56
  obtain ⟨hv56, N56q, e56⟩ := hQ56
  rw [show ((.ref (own_not w_NO w_UNKNOWN w_YES w_UNKNOWN)) : Value) = (.ref w_UNKNOWN) from by simp [own_not, nUN, nYN, nYU, nUN.symm, nYN.symm, nYU.symm]] at hv56
  subst hv56
  have N56 := Fr.app N55 N56q
  refine own_go (fun t k => st56.trans k) ?_
  show Go p.tables e below _ (T56.setTop (mkF m 102 #[.val (.int p1), .val (.int p2), .val (.ref b), .val (.int (2 : Int32)), .val (.int (0 : Int32)), .val (.ref w_UNKNOWN), .val (.ref w_YES), .val (.ref w_UNKNOWN), .val (.ref w_UNKNOWN), .val (.ref w_NO), .val (.int (1 : Int32)), .unset, .unset, .unset] [(.ref w_UNKNOWN)]))
  refine own_go (fun t k => XS.aload X56.here hx rfl (hb hby at_102) rfl rfl k) ?_
  show Go p.tables e below _ (T56.setTop (mkF m 104 #[.val (.int p1), .val (.int p2), .val (.ref b), .val (.int (2 : Int32)), .val (.int (0 : Int32)), .val (.ref w_UNKNOWN), .val (.ref w_YES), .val (.ref w_UNKNOWN), .val (.ref w_UNKNOWN), .val (.ref w_NO), .val (.int (1 : Int32)), .unset, .unset, .unset] [(.ref w_UNKNOWN), (.ref w_UNKNOWN)]))
  refine own_go (fun t k => XT.acmpNo X56.here hx rfl (hb hby at_104) rfl rfl rfl (XT.aa_ne_f (congrArg Value.ref rfl)) k) ?_
  show Go p.tables e below _ (T56.setTop (mkF m 107 #[.val (.int p1), .val (.int p2), .val (.ref b), .val (.int (2 : Int32)), .val (.int (0 : Int32)), .val (.ref w_UNKNOWN), .val (.ref w_YES), .val (.ref w_UNKNOWN), .val (.ref w_UNKNOWN), .val (.ref w_NO), .val (.int (1 : Int32)), .unset, .unset, .unset] []))
  refine own_go (fun t k => XS.iconst X56.here hx rfl (hb hby at_107) k) ?_
  show Go p.tables e below _ (T56.setTop (mkF m 108 #[.val (.int p1), .val (.int p2), .val (.ref b), .val (.int (2 : Int32)), .val (.int (0 : Int32)), .val (.ref w_UNKNOWN), .val (.ref w_YES), .val (.ref w_UNKNOWN), .val (.ref w_UNKNOWN), .val (.ref w_NO), .val (.int (1 : Int32)), .unset, .unset, .unset] [(.int (1 : Int32))]))
  refine own_go (fun t k => XS.goto X56.here hx rfl (pc0 := 108) (pc' := 112) rfl (hb hby at_108) (by decide) (by decide) k) ?_
  show Go p.tables e below _ (T56.setTop (mkF m 112 #[.val (.int p1), .val (.int p2), .val (.ref b), .val (.int (2 : Int32)), .val (.int (0 : Int32)), .val (.ref w_UNKNOWN), .val (.ref w_YES), .val (.ref w_UNKNOWN), .val (.ref w_UNKNOWN), .val (.ref w_NO), .val (.int (1 : Int32)), .unset, .unset, .unset] [(.int (1 : Int32))]))
  refine own_go (fun t k => XS.istore X56.here hx rfl (hb hby at_112) rfl (l' := #[.val (.int p1), .val (.int p2), .val (.ref b), .val (.int (2 : Int32)), .val (.int (0 : Int32)), .val (.ref w_UNKNOWN), .val (.ref w_YES), .val (.ref w_UNKNOWN), .val (.ref w_UNKNOWN), .val (.ref w_NO), .val (.int (1 : Int32)), .val (.int (1 : Int32)), .unset, .unset]) rfl k) ?_
  show Go p.tables e below _ (T56.setTop (mkF m 114 #[.val (.int p1), .val (.int p2), .val (.ref b), .val (.int (2 : Int32)), .val (.int (0 : Int32)), .val (.ref w_UNKNOWN), .val (.ref w_YES), .val (.ref w_UNKNOWN), .val (.ref w_UNKNOWN), .val (.ref w_NO), .val (.int (1 : Int32)), .val (.int (1 : Int32)), .unset, .unset] []))
  refine own_go (fun t k => XS.aload X56.here hx rfl (hb hby at_114) rfl rfl k) ?_
  show Go p.tables e below _ (T56.setTop (mkF m 116 #[.val (.int p1), .val (.int p2), .val (.ref b), .val (.int (2 : Int32)), .val (.int (0 : Int32)), .val (.ref w_UNKNOWN), .val (.ref w_YES), .val (.ref w_UNKNOWN), .val (.ref w_UNKNOWN), .val (.ref w_NO), .val (.int (1 : Int32)), .val (.int (1 : Int32)), .unset, .unset] [(.ref w_UNKNOWN)]))
  refine own_go (fun t k => XS.aload X56.here hx rfl (hb hby at_116) rfl rfl k) ?_
  show Go p.tables e below _ (T56.setTop (mkF m 118 #[.val (.int p1), .val (.int p2), .val (.ref b), .val (.int (2 : Int32)), .val (.int (0 : Int32)), .val (.ref w_UNKNOWN), .val (.ref w_YES), .val (.ref w_UNKNOWN), .val (.ref w_UNKNOWN), .val (.ref w_NO), .val (.int (1 : Int32)), .val (.int (1 : Int32)), .unset, .unset] [(.ref w_YES), (.ref w_UNKNOWN)]))
  obtain ⟨cq57, kq57, q57a, q57b, q57c⟩ := isOf hZ e56 EH_UNKNOWN
  obtain ⟨v57, _, ⟨T57, L57, k57, n57⟩, -, X57, ⟨Lc57, hQ57, l57, y57, z57⟩, st57⟩ := X56.virtualBack hx (y := (⟨"com/example/casewright/casewright/types/Answer", "and", "(Lcom/example/casewright/casewright/types/Answer;)Lcom/example/casewright/casewright/types/Answer;"⟩ : MethodName)) (z := (⟨"com/example/casewright/casewright/types/Answer", "and", "(Lcom/example/casewright/casewright/types/Answer;)Lcom/example/casewright/casewright/types/Answer;"⟩ : MethodName)) hown (mvT hZ (hw _ (List.mem_of_getElem? (i := 18) rfl))) (mvT hZ (hw _ (List.mem_of_getElem? (i := 19) rfl))) (notFace_of_selects (args := #[]) (mvT hZ (hw _ (List.mem_of_getElem? (i := 21) rfl)))) (mvT hZ (hw _ (List.mem_of_getElem? (i := 21) rfl))) (mvT hZ (hw _ (List.mem_of_getElem? (i := 20) rfl))) (by decide) (backOf (W := 0) (rm_and l Z a0 hw [] w_UNKNOWN w_YES w_YES w_NO w_UNKNOWN h4 n0 SSh) hZ (hw _ (List.mem_of_getElem? (i := 22) rfl)) (hw _ (List.mem_of_getElem? (i := 3) rfl)) (by decide) (by decide)) q57a q57c (g := (mkF m 118 #[.val (.int p1), .val (.int p2), .val (.ref b), .val (.int (2 : Int32)), .val (.int (0 : Int32)), .val (.ref w_UNKNOWN), .val (.ref w_YES), .val (.ref w_UNKNOWN), .val (.ref w_UNKNOWN), .val (.ref w_NO), .val (.int (1 : Int32)), .val (.int (1 : Int32)), .unset, .unset] [(.ref w_YES), (.ref w_UNKNOWN)])) rfl (by rw [hml]; rfl) (Steps.refl _) (argsL := [(.ref w_YES)]) (rest := []) (lenOf pd_1 rfl) rfl (by show 2 * 0 + _ ≤ _; exact Nat.le_of_eq rfl) (hb hby at_118) (fun _ _ => ⟨rfl, e56, (by decide : 0 + 1 + 0 ≤ _), (by decide : 0 + 3 + 0 ≤ _)⟩)
  dsimp only [Pt.U, Pt.locs, Pt.cells, Pt.slots] at X57 l57 y57 z57 st57 hQ57
  subst l57 y57 z57
  obtain ⟨hv57, N57q, e57⟩ := hQ57
  rw [show ((.ref (own_and w_NO w_UNKNOWN w_YES w_UNKNOWN w_YES)) : Value) = (.ref w_UNKNOWN) from by simp [own_and, nUN, nYN, nYU, nUN.symm, nYN.symm, nYU.symm]] at hv57
  subst hv57
  have N57 := Fr.app N56 N57q
  refine own_go (fun t k => st57.trans k) ?_
  show Go p.tables e below _ (T57.setTop (mkF m 121 #[.val (.int p1), .val (.int p2), .val (.ref b), .val (.int (2 : Int32)), .val (.int (0 : Int32)), .val (.ref w_UNKNOWN), .val (.ref w_YES), .val (.ref w_UNKNOWN), .val (.ref w_UNKNOWN), .val (.ref w_NO), .val (.int (1 : Int32)), .val (.int (1 : Int32)), .unset, .unset] [(.ref w_UNKNOWN)]))
  obtain ⟨cq58, kq58, q58a, q58b, q58c⟩ := isOf hZ e57 EH_UNKNOWN
  obtain ⟨v58, _, ⟨T58, L58, k58, n58⟩, -, X58, ⟨Lc58, hQ58, l58, y58, z58⟩, st58⟩ := X57.virtualBack hx (y := (⟨"com/example/casewright/casewright/types/Answer", "not", "()Lcom/example/casewright/casewright/types/Answer;"⟩ : MethodName)) (z := (⟨"com/example/casewright/casewright/types/Answer", "not", "()Lcom/example/casewright/casewright/types/Answer;"⟩ : MethodName)) hown (mvT hZ (hw _ (List.mem_of_getElem? (i := 11) rfl))) (mvT hZ (hw _ (List.mem_of_getElem? (i := 12) rfl))) (notFace_of_selects (args := #[]) (mvT hZ (hw _ (List.mem_of_getElem? (i := 14) rfl)))) (mvT hZ (hw _ (List.mem_of_getElem? (i := 14) rfl))) (mvT hZ (hw _ (List.mem_of_getElem? (i := 13) rfl))) (by decide) (backOf (W := 0) (rm_not l Z a0 hw [] w_UNKNOWN w_YES w_NO w_UNKNOWN h4 n0 SSh) hZ (hw _ (List.mem_of_getElem? (i := 15) rfl)) (hw _ (List.mem_of_getElem? (i := 3) rfl)) (by decide) (by decide)) q58a q58c (g := (mkF m 121 #[.val (.int p1), .val (.int p2), .val (.ref b), .val (.int (2 : Int32)), .val (.int (0 : Int32)), .val (.ref w_UNKNOWN), .val (.ref w_YES), .val (.ref w_UNKNOWN), .val (.ref w_UNKNOWN), .val (.ref w_NO), .val (.int (1 : Int32)), .val (.int (1 : Int32)), .unset, .unset] [(.ref w_UNKNOWN)])) rfl (by rw [hml]; rfl) (Steps.refl _) (argsL := []) (rest := []) (lenOf pd_0 rfl) rfl (by show 2 * 0 + _ ≤ _; exact Nat.le_of_eq rfl) (hb hby at_121) (fun _ _ => ⟨rfl, e57, (by decide : 0 + 1 + 0 ≤ _), (by decide : 0 + 3 + 0 ≤ _)⟩)
  dsimp only [Pt.U, Pt.locs, Pt.cells, Pt.slots] at X58 l58 y58 z58 st58 hQ58
  subst l58 y58 z58
  obtain ⟨hv58, N58q, e58⟩ := hQ58
  rw [show ((.ref (own_not w_NO w_UNKNOWN w_YES w_UNKNOWN)) : Value) = (.ref w_UNKNOWN) from by simp [own_not, nUN, nYN, nYU, nUN.symm, nYN.symm, nYU.symm]] at hv58
  subst hv58
  have N58 := Fr.app N57 N58q
  refine own_go (fun t k => st58.trans k) ?_
  show Go p.tables e below _ (T58.setTop (mkF m 124 #[.val (.int p1), .val (.int p2), .val (.ref b), .val (.int (2 : Int32)), .val (.int (0 : Int32)), .val (.ref w_UNKNOWN), .val (.ref w_YES), .val (.ref w_UNKNOWN), .val (.ref w_UNKNOWN), .val (.ref w_NO), .val (.int (1 : Int32)), .val (.int (1 : Int32)), .unset, .unset] [(.ref w_UNKNOWN)]))
  refine own_go (fun t k => XS.aload X58.here hx rfl (hb hby at_124) rfl rfl k) ?_
  show Go p.tables e below _ (T58.setTop (mkF m 126 #[.val (.int p1), .val (.int p2), .val (.ref b), .val (.int (2 : Int32)), .val (.int (0 : Int32)), .val (.ref w_UNKNOWN), .val (.ref w_YES), .val (.ref w_UNKNOWN), .val (.ref w_UNKNOWN), .val (.ref w_NO), .val (.int (1 : Int32)), .val (.int (1 : Int32)), .unset, .unset] [(.ref w_UNKNOWN), (.ref w_UNKNOWN)]))
  refine own_go (fun t k => XS.aload X58.here hx rfl (hb hby at_126) rfl rfl k) ?_
  show Go p.tables e below _ (T58.setTop (mkF m 128 #[.val (.int p1), .val (.int p2), .val (.ref b), .val (.int (2 : Int32)), .val (.int (0 : Int32)), .val (.ref w_UNKNOWN), .val (.ref w_YES), .val (.ref w_UNKNOWN), .val (.ref w_UNKNOWN), .val (.ref w_NO), .val (.int (1 : Int32)), .val (.int (1 : Int32)), .unset, .unset] [(.ref w_NO), (.ref w_UNKNOWN), (.ref w_UNKNOWN)]))
  obtain ⟨cq59, kq59, q59a, q59b, q59c⟩ := isOf hZ e58 EH_UNKNOWN
  obtain ⟨v59, _, ⟨T59, L59, k59, n59⟩, -, X59, ⟨Lc59, hQ59, l59, y59, z59⟩, st59⟩ := X58.virtualBack hx (y := (⟨"com/example/casewright/casewright/types/Answer", "or", "(Lcom/example/casewright/casewright/types/Answer;)Lcom/example/casewright/casewright/types/Answer;"⟩ : MethodName)) (z := (⟨"com/example/casewright/casewright/types/Answer", "or", "(Lcom/example/casewright/casewright/types/Answer;)Lcom/example/casewright/casewright/types/Answer;"⟩ : MethodName)) hown (mvT hZ (hw _ (List.mem_of_getElem? (i := 24) rfl))) (mvT hZ (hw _ (List.mem_of_getElem? (i := 25) rfl))) (notFace_of_selects (args := #[]) (mvT hZ (hw _ (List.mem_of_getElem? (i := 27) rfl)))) (mvT hZ (hw _ (List.mem_of_getElem? (i := 27) rfl))) (mvT hZ (hw _ (List.mem_of_getElem? (i := 26) rfl))) (by decide) (backOf (W := 1) (rm_or l Z a0 hw [] w_UNKNOWN w_NO w_YES w_NO w_UNKNOWN h4 n0 SSh) hZ (hw _ (List.mem_of_getElem? (i := 28) rfl)) (hw _ (List.mem_of_getElem? (i := 3) rfl)) (by decide) (by decide)) q59a q59c (g := (mkF m 128 #[.val (.int p1), .val (.int p2), .val (.ref b), .val (.int (2 : Int32)), .val (.int (0 : Int32)), .val (.ref w_UNKNOWN), .val (.ref w_YES), .val (.ref w_UNKNOWN), .val (.ref w_UNKNOWN), .val (.ref w_NO), .val (.int (1 : Int32)), .val (.int (1 : Int32)), .unset, .unset] [(.ref w_NO), (.ref w_UNKNOWN), (.ref w_UNKNOWN)])) rfl (by rw [hml]; rfl) (Steps.refl _) (argsL := [(.ref w_NO)]) (rest := [(.ref w_UNKNOWN)]) (lenOf pd_1 rfl) rfl (by show 2 * 0 + _ ≤ _; exact Nat.le_of_eq rfl) (hb hby at_128) (fun _ _ => ⟨rfl, e58, (by decide : 0 + 1 + 0 ≤ _), (by decide : 0 + 3 + 0 ≤ _)⟩)
  dsimp only [Pt.U, Pt.locs, Pt.cells, Pt.slots] at X59 l59 y59 z59 st59 hQ59
  subst l59 y59 z59
  obtain ⟨hv59, N59q, e59⟩ := hQ59
  rw [show ((.ref (own_or w_NO w_UNKNOWN w_YES w_UNKNOWN w_NO)) : Value) = (.ref w_UNKNOWN) from by simp [own_or, nUN, nYN, nYU, nUN.symm, nYN.symm, nYU.symm]] at hv59
  subst hv59
  have N59 := Fr.app N58 N59q
  refine own_go (fun t k => st59.trans k) ?_
  show Go p.tables e below _ (T59.setTop (mkF m 131 #[.val (.int p1), .val (.int p2), .val (.ref b), .val (.int (2 : Int32)), .val (.int (0 : Int32)), .val (.ref w_UNKNOWN), .val (.ref w_YES), .val (.ref w_UNKNOWN), .val (.ref w_UNKNOWN), .val (.ref w_NO), .val (.int (1 : Int32)), .val (.int (1 : Int32)), .unset, .unset] [(.ref w_UNKNOWN), (.ref w_UNKNOWN)]))
  refine own_go (fun t k => XT.acmpNo X59.here hx rfl (hb hby at_131) rfl rfl rfl (XT.aa_ne_f (congrArg Value.ref rfl)) k) ?_
  show Go p.tables e below _ (T59.setTop (mkF m 134 #[.val (.int p1), .val (.int p2), .val (.ref b), .val (.int (2 : Int32)), .val (.int (0 : Int32)), .val (.ref w_UNKNOWN), .val (.ref w_YES), .val (.ref w_UNKNOWN), .val (.ref w_UNKNOWN), .val (.ref w_NO), .val (.int (1 : Int32)), .val (.int (1 : Int32)), .unset, .unset] []))
  refine own_go (fun t k => XS.iconst X59.here hx rfl (hb hby at_134) k) ?_
  show Go p.tables e below _ (T59.setTop (mkF m 135 #[.val (.int p1), .val (.int p2), .val (.ref b), .val (.int (2 : Int32)), .val (.int (0 : Int32)), .val (.ref w_UNKNOWN), .val (.ref w_YES), .val (.ref w_UNKNOWN), .val (.ref w_UNKNOWN), .val (.ref w_NO), .val (.int (1 : Int32)), .val (.int (1 : Int32)), .unset, .unset] [(.int (1 : Int32))]))
  refine own_go (fun t k => XS.goto X59.here hx rfl (pc0 := 135) (pc' := 139) rfl (hb hby at_135) (by decide) (by decide) k) ?_
  show Go p.tables e below _ (T59.setTop (mkF m 139 #[.val (.int p1), .val (.int p2), .val (.ref b), .val (.int (2 : Int32)), .val (.int (0 : Int32)), .val (.ref w_UNKNOWN), .val (.ref w_YES), .val (.ref w_UNKNOWN), .val (.ref w_UNKNOWN), .val (.ref w_NO), .val (.int (1 : Int32)), .val (.int (1 : Int32)), .unset, .unset] [(.int (1 : Int32))]))
  refine own_go (fun t k => XS.istore X59.here hx rfl (hb hby at_139) rfl (l' := #[.val (.int p1), .val (.int p2), .val (.ref b), .val (.int (2 : Int32)), .val (.int (0 : Int32)), .val (.ref w_UNKNOWN), .val (.ref w_YES), .val (.ref w_UNKNOWN), .val (.ref w_UNKNOWN), .val (.ref w_NO), .val (.int (1 : Int32)), .val (.int (1 : Int32)), .val (.int (1 : Int32)), .unset]) rfl k) ?_
  show Go p.tables e below _ (T59.setTop (mkF m 141 #[.val (.int p1), .val (.int p2), .val (.ref b), .val (.int (2 : Int32)), .val (.int (0 : Int32)), .val (.ref w_UNKNOWN), .val (.ref w_YES), .val (.ref w_UNKNOWN), .val (.ref w_UNKNOWN), .val (.ref w_NO), .val (.int (1 : Int32)), .val (.int (1 : Int32)), .val (.int (1 : Int32)), .unset] []))
  refine own_go (fun t k => XS.aload X59.here hx rfl (hb hby at_141) rfl rfl k) ?_
  show Go p.tables e below _ (T59.setTop (mkF m 143 #[.val (.int p1), .val (.int p2), .val (.ref b), .val (.int (2 : Int32)), .val (.int (0 : Int32)), .val (.ref w_UNKNOWN), .val (.ref w_YES), .val (.ref w_UNKNOWN), .val (.ref w_UNKNOWN), .val (.ref w_NO), .val (.int (1 : Int32)), .val (.int (1 : Int32)), .val (.int (1 : Int32)), .unset] [(.ref w_UNKNOWN)]))
  refine own_go (fun t k => XS.aload X59.here hx rfl (hb hby at_143) rfl rfl k) ?_
  show Go p.tables e below _ (T59.setTop (mkF m 145 #[.val (.int p1), .val (.int p2), .val (.ref b), .val (.int (2 : Int32)), .val (.int (0 : Int32)), .val (.ref w_UNKNOWN), .val (.ref w_YES), .val (.ref w_UNKNOWN), .val (.ref w_UNKNOWN), .val (.ref w_NO), .val (.int (1 : Int32)), .val (.int (1 : Int32)), .val (.int (1 : Int32)), .unset] [(.ref w_YES), (.ref w_UNKNOWN)]))
  obtain ⟨cq60, kq60, q60a, q60b, q60c⟩ := isOf hZ e59 EH_UNKNOWN
  obtain ⟨v60, _, ⟨T60, L60, k60, n60⟩, -, X60, ⟨Lc60, hQ60, l60, y60, z60⟩, st60⟩ := X59.virtualBack hx (y := (⟨"com/example/casewright/casewright/types/Answer", "or", "(Lcom/example/casewright/casewright/types/Answer;)Lcom/example/casewright/casewright/types/Answer;"⟩ : MethodName)) (z := (⟨"com/example/casewright/casewright/types/Answer", "or", "(Lcom/example/casewright/casewright/types/Answer;)Lcom/example/casewright/casewright/types/Answer;"⟩ : MethodName)) hown (mvT hZ (hw _ (List.mem_of_getElem? (i := 24) rfl))) (mvT hZ (hw _ (List.mem_of_getElem? (i := 25) rfl))) (notFace_of_selects (args := #[]) (mvT hZ (hw _ (List.mem_of_getElem? (i := 27) rfl)))) (mvT hZ (hw _ (List.mem_of_getElem? (i := 27) rfl))) (mvT hZ (hw _ (List.mem_of_getElem? (i := 26) rfl))) (by decide) (backOf (W := 0) (rm_or l Z a0 hw [] w_UNKNOWN w_YES w_YES w_NO w_UNKNOWN h4 n0 SSh) hZ (hw _ (List.mem_of_getElem? (i := 28) rfl)) (hw _ (List.mem_of_getElem? (i := 3) rfl)) (by decide) (by decide)) q60a q60c (g := (mkF m 145 #[.val (.int p1), .val (.int p2), .val (.ref b), .val (.int (2 : Int32)), .val (.int (0 : Int32)), .val (.ref w_UNKNOWN), .val (.ref w_YES), .val (.ref w_UNKNOWN), .val (.ref w_UNKNOWN), .val (.ref w_NO), .val (.int (1 : Int32)), .val (.int (1 : Int32)), .val (.int (1 : Int32)), .unset] [(.ref w_YES), (.ref w_UNKNOWN)])) rfl (by rw [hml]; rfl) (Steps.refl _) (argsL := [(.ref w_YES)]) (rest := []) (lenOf pd_1 rfl) rfl (by show 2 * 0 + _ ≤ _; exact Nat.le_of_eq rfl) (hb hby at_145) (fun _ _ => ⟨rfl, e59, (by decide : 0 + 1 + 0 ≤ _), (by decide : 0 + 3 + 0 ≤ _)⟩)
  dsimp only [Pt.U, Pt.locs, Pt.cells, Pt.slots] at X60 l60 y60 z60 st60 hQ60
  subst l60 y60 z60
  obtain ⟨hv60, N60q, e60⟩ := hQ60
  rw [show ((.ref (own_or w_NO w_UNKNOWN w_YES w_UNKNOWN w_YES)) : Value) = (.ref w_YES) from by simp [own_or, nUN, nYN, nYU, nUN.symm, nYN.symm, nYU.symm]] at hv60
  subst hv60
  have N60 := Fr.app N59 N60q
  refine own_go (fun t k => st60.trans k) ?_
  show Go p.tables e below _ (T60.setTop (mkF m 148 #[.val (.int p1), .val (.int p2), .val (.ref b), .val (.int (2 : Int32)), .val (.int (0 : Int32)), .val (.ref w_UNKNOWN), .val (.ref w_YES), .val (.ref w_UNKNOWN), .val (.ref w_UNKNOWN), .val (.ref w_NO), .val (.int (1 : Int32)), .val (.int (1 : Int32)), .val (.int (1 : Int32)), .unset] [(.ref w_YES)]))
  obtain ⟨cq61, kq61, q61a, q61b, q61c⟩ := isOf hZ e60 EH_YES
  obtain ⟨v61, _, ⟨T61, L61, k61, n61⟩, -, X61, ⟨Lc61, hQ61, l61, y61, z61⟩, st61⟩ := X60.virtualBack hx (y := (⟨"com/example/casewright/casewright/types/Answer", "not", "()Lcom/example/casewright/casewright/types/Answer;"⟩ : MethodName)) (z := (⟨"com/example/casewright/casewright/types/Answer", "not", "()Lcom/example/casewright/casewright/types/Answer;"⟩ : MethodName)) hown (mvT hZ (hw _ (List.mem_of_getElem? (i := 11) rfl))) (mvT hZ (hw _ (List.mem_of_getElem? (i := 12) rfl))) (notFace_of_selects (args := #[]) (mvT hZ (hw _ (List.mem_of_getElem? (i := 14) rfl)))) (mvT hZ (hw _ (List.mem_of_getElem? (i := 14) rfl))) (mvT hZ (hw _ (List.mem_of_getElem? (i := 13) rfl))) (by decide) (backOf (W := 0) (rm_not l Z a0 hw [] w_YES w_YES w_NO w_UNKNOWN h4 n0 SSh) hZ (hw _ (List.mem_of_getElem? (i := 15) rfl)) (hw _ (List.mem_of_getElem? (i := 3) rfl)) (by decide) (by decide)) q61a q61c (g := (mkF m 148 #[.val (.int p1), .val (.int p2), .val (.ref b), .val (.int (2 : Int32)), .val (.int (0 : Int32)), .val (.ref w_UNKNOWN), .val (.ref w_YES), .val (.ref w_UNKNOWN), .val (.ref w_UNKNOWN), .val (.ref w_NO), .val (.int (1 : Int32)), .val (.int (1 : Int32)), .val (.int (1 : Int32)), .unset] [(.ref w_YES)])) rfl (by rw [hml]; rfl) (Steps.refl _) (argsL := []) (rest := []) (lenOf pd_0 rfl) rfl (by show 2 * 0 + _ ≤ _; exact Nat.le_of_eq rfl) (hb hby at_148) (fun _ _ => ⟨rfl, e60, (by decide : 0 + 1 + 0 ≤ _), (by decide : 0 + 3 + 0 ≤ _)⟩)
  dsimp only [Pt.U, Pt.locs, Pt.cells, Pt.slots] at X61 l61 y61 z61 st61 hQ61
  subst l61 y61 z61
  obtain ⟨hv61, N61q, e61⟩ := hQ61
  rw [show ((.ref (own_not w_NO w_UNKNOWN w_YES w_YES)) : Value) = (.ref w_NO) from by simp [own_not, nUN, nYN, nYU, nUN.symm, nYN.symm, nYU.symm]] at hv61
  subst hv61
  have N61 := Fr.app N60 N61q
  refine own_go (fun t k => st61.trans k) ?_
  show Go p.tables e below _ (T61.setTop (mkF m 151 #[.val (.int p1), .val (.int p2), .val (.ref b), .val (.int (2 : Int32)), .val (.int (0 : Int32)), .val (.ref w_UNKNOWN), .val (.ref w_YES), .val (.ref w_UNKNOWN), .val (.ref w_UNKNOWN), .val (.ref w_NO), .val (.int (1 : Int32)), .val (.int (1 : Int32)), .val (.int (1 : Int32)), .unset] [(.ref w_NO)]))
  refine own_go (fun t k => XS.aload X61.here hx rfl (hb hby at_151) rfl rfl k) ?_
  show Go p.tables e below _ (T61.setTop (mkF m 153 #[.val (.int p1), .val (.int p2), .val (.ref b), .val (.int (2 : Int32)), .val (.int (0 : Int32)), .val (.ref w_UNKNOWN), .val (.ref w_YES), .val (.ref w_UNKNOWN), .val (.ref w_UNKNOWN), .val (.ref w_NO), .val (.int (1 : Int32)), .val (.int (1 : Int32)), .val (.int (1 : Int32)), .unset] [(.ref w_UNKNOWN), (.ref w_NO)]))
  refine own_go (fun t k => XS.aload X61.here hx rfl (hb hby at_153) rfl rfl k) ?_
  show Go p.tables e below _ (T61.setTop (mkF m 155 #[.val (.int p1), .val (.int p2), .val (.ref b), .val (.int (2 : Int32)), .val (.int (0 : Int32)), .val (.ref w_UNKNOWN), .val (.ref w_YES), .val (.ref w_UNKNOWN), .val (.ref w_UNKNOWN), .val (.ref w_NO), .val (.int (1 : Int32)), .val (.int (1 : Int32)), .val (.int (1 : Int32)), .unset] [(.ref w_NO), (.ref w_UNKNOWN), (.ref w_NO)]))
  obtain ⟨cq62, kq62, q62a, q62b, q62c⟩ := isOf hZ e61 EH_UNKNOWN
  obtain ⟨v62, _, ⟨T62, L62, k62, n62⟩, -, X62, ⟨Lc62, hQ62, l62, y62, z62⟩, st62⟩ := X61.virtualBack hx (y := (⟨"com/example/casewright/casewright/types/Answer", "and", "(Lcom/example/casewright/casewright/types/Answer;)Lcom/example/casewright/casewright/types/Answer;"⟩ : MethodName)) (z := (⟨"com/example/casewright/casewright/types/Answer", "and", "(Lcom/example/casewright/casewright/types/Answer;)Lcom/example/casewright/casewright/types/Answer;"⟩ : MethodName)) hown (mvT hZ (hw _ (List.mem_of_getElem? (i := 18) rfl))) (mvT hZ (hw _ (List.mem_of_getElem? (i := 19) rfl))) (notFace_of_selects (args := #[]) (mvT hZ (hw _ (List.mem_of_getElem? (i := 21) rfl)))) (mvT hZ (hw _ (List.mem_of_getElem? (i := 21) rfl))) (mvT hZ (hw _ (List.mem_of_getElem? (i := 20) rfl))) (by decide) (backOf (W := 1) (rm_and l Z a0 hw [] w_UNKNOWN w_NO w_YES w_NO w_UNKNOWN h4 n0 SSh) hZ (hw _ (List.mem_of_getElem? (i := 22) rfl)) (hw _ (List.mem_of_getElem? (i := 3) rfl)) (by decide) (by decide)) q62a q62c (g := (mkF m 155 #[.val (.int p1), .val (.int p2), .val (.ref b), .val (.int (2 : Int32)), .val (.int (0 : Int32)), .val (.ref w_UNKNOWN), .val (.ref w_YES), .val (.ref w_UNKNOWN), .val (.ref w_UNKNOWN), .val (.ref w_NO), .val (.int (1 : Int32)), .val (.int (1 : Int32)), .val (.int (1 : Int32)), .unset] [(.ref w_NO), (.ref w_UNKNOWN), (.ref w_NO)])) rfl (by rw [hml]; rfl) (Steps.refl _) (argsL := [(.ref w_NO)]) (rest := [(.ref w_NO)]) (lenOf pd_1 rfl) rfl (by show 2 * 0 + _ ≤ _; exact Nat.le_of_eq rfl) (hb hby at_155) (fun _ _ => ⟨rfl, e61, (by decide : 0 + 1 + 0 ≤ _), (by decide : 0 + 3 + 0 ≤ _)⟩)
  dsimp only [Pt.U, Pt.locs, Pt.cells, Pt.slots] at X62 l62 y62 z62 st62 hQ62
  subst l62 y62 z62
  obtain ⟨hv62, N62q, e62⟩ := hQ62
  rw [show ((.ref (own_and w_NO w_UNKNOWN w_YES w_UNKNOWN w_NO)) : Value) = (.ref w_NO) from by simp [own_and, nUN, nYN, nYU, nUN.symm, nYN.symm, nYU.symm]] at hv62
  subst hv62
  have N62 := Fr.app N61 N62q
  refine own_go (fun t k => st62.trans k) ?_
  show Go p.tables e below _ (T62.setTop (mkF m 158 #[.val (.int p1), .val (.int p2), .val (.ref b), .val (.int (2 : Int32)), .val (.int (0 : Int32)), .val (.ref w_UNKNOWN), .val (.ref w_YES), .val (.ref w_UNKNOWN), .val (.ref w_UNKNOWN), .val (.ref w_NO), .val (.int (1 : Int32)), .val (.int (1 : Int32)), .val (.int (1 : Int32)), .unset] [(.ref w_NO), (.ref w_NO)]))
  refine own_go (fun t k => XT.acmpNo X62.here hx rfl (hb hby at_158) rfl rfl rfl (XT.aa_ne_f (congrArg Value.ref rfl)) k) ?_
  show Go p.tables e below _ (T62.setTop (mkF m 161 #[.val (.int p1), .val (.int p2), .val (.ref b), .val (.int (2 : Int32)), .val (.int (0 : Int32)), .val (.ref w_UNKNOWN), .val (.ref w_YES), .val (.ref w_UNKNOWN), .val (.ref w_UNKNOWN), .val (.ref w_NO), .val (.int (1 : Int32)), .val (.int (1 : Int32)), .val (.int (1 : Int32)), .unset] []))
  refine own_go (fun t k => XS.iconst X62.here hx rfl (hb hby at_161) k) ?_
  show Go p.tables e below _ (T62.setTop (mkF m 162 #[.val (.int p1), .val (.int p2), .val (.ref b), .val (.int (2 : Int32)), .val (.int (0 : Int32)), .val (.ref w_UNKNOWN), .val (.ref w_YES), .val (.ref w_UNKNOWN), .val (.ref w_UNKNOWN), .val (.ref w_NO), .val (.int (1 : Int32)), .val (.int (1 : Int32)), .val (.int (1 : Int32)), .unset] [(.int (1 : Int32))]))
  refine own_go (fun t k => XS.goto X62.here hx rfl (pc0 := 162) (pc' := 166) rfl (hb hby at_162) (by decide) (by decide) k) ?_
  show Go p.tables e below _ (T62.setTop (mkF m 166 #[.val (.int p1), .val (.int p2), .val (.ref b), .val (.int (2 : Int32)), .val (.int (0 : Int32)), .val (.ref w_UNKNOWN), .val (.ref w_YES), .val (.ref w_UNKNOWN), .val (.ref w_UNKNOWN), .val (.ref w_NO), .val (.int (1 : Int32)), .val (.int (1 : Int32)), .val (.int (1 : Int32)), .unset] [(.int (1 : Int32))]))
  refine own_go (fun t k => XS.istore X62.here hx rfl (hb hby at_166) rfl (l' := #[.val (.int p1), .val (.int p2), .val (.ref b), .val (.int (2 : Int32)), .val (.int (0 : Int32)), .val (.ref w_UNKNOWN), .val (.ref w_YES), .val (.ref w_UNKNOWN), .val (.ref w_UNKNOWN), .val (.ref w_NO), .val (.int (1 : Int32)), .val (.int (1 : Int32)), .val (.int (1 : Int32)), .val (.int (1 : Int32))]) rfl k) ?_
  show Go p.tables e below _ (T62.setTop (mkF m 168 #[.val (.int p1), .val (.int p2), .val (.ref b), .val (.int (2 : Int32)), .val (.int (0 : Int32)), .val (.ref w_UNKNOWN), .val (.ref w_YES), .val (.ref w_UNKNOWN), .val (.ref w_UNKNOWN), .val (.ref w_NO), .val (.int (1 : Int32)), .val (.int (1 : Int32)), .val (.int (1 : Int32)), .val (.int (1 : Int32))] []))
  refine own_go (fun t k => XS.iload X62.here hx rfl (hb hby at_168) rfl k) ?_
  show Go p.tables e below _ (T62.setTop (mkF m 170 #[.val (.int p1), .val (.int p2), .val (.ref b), .val (.int (2 : Int32)), .val (.int (0 : Int32)), .val (.ref w_UNKNOWN), .val (.ref w_YES), .val (.ref w_UNKNOWN), .val (.ref w_UNKNOWN), .val (.ref w_NO), .val (.int (1 : Int32)), .val (.int (1 : Int32)), .val (.int (1 : Int32)), .val (.int (1 : Int32))] [(.int (1 : Int32))]))
  refine own_go (fun t k => XS.ifNo X62.here hx rfl (hb hby at_170) rfl (XT.i0_eq_f (by decide)) k) ?_
  show Go p.tables e below _ (T62.setTop (mkF m 173 #[.val (.int p1), .val (.int p2), .val (.ref b), .val (.int (2 : Int32)), .val (.int (0 : Int32)), .val (.ref w_UNKNOWN), .val (.ref w_YES), .val (.ref w_UNKNOWN), .val (.ref w_UNKNOWN), .val (.ref w_NO), .val (.int (1 : Int32)), .val (.int (1 : Int32)), .val (.int (1 : Int32)), .val (.int (1 : Int32))] []))
  refine own_go (fun t k => XS.iload X62.here hx rfl (hb hby at_173) rfl k) ?_
  show Go p.tables e below _ (T62.setTop (mkF m 175 #[.val (.int p1), .val (.int p2), .val (.ref b), .val (.int (2 : Int32)), .val (.int (0 : Int32)), .val (.ref w_UNKNOWN), .val (.ref w_YES), .val (.ref w_UNKNOWN), .val (.ref w_UNKNOWN), .val (.ref w_NO), .val (.int (1 : Int32)), .val (.int (1 : Int32)), .val (.int (1 : Int32)), .val (.int (1 : Int32))] [(.int (1 : Int32))]))
  refine own_go (fun t k => XS.ifNo X62.here hx rfl (hb hby at_175) rfl (XT.i0_eq_f (by decide)) k) ?_
  show Go p.tables e below _ (T62.setTop (mkF m 178 #[.val (.int p1), .val (.int p2), .val (.ref b), .val (.int (2 : Int32)), .val (.int (0 : Int32)), .val (.ref w_UNKNOWN), .val (.ref w_YES), .val (.ref w_UNKNOWN), .val (.ref w_UNKNOWN), .val (.ref w_NO), .val (.int (1 : Int32)), .val (.int (1 : Int32)), .val (.int (1 : Int32)), .val (.int (1 : Int32))] []))
  refine own_go (fun t k => XS.iload X62.here hx rfl (hb hby at_178) rfl k) ?_
  show Go p.tables e below _ (T62.setTop (mkF m 180 #[.val (.int p1), .val (.int p2), .val (.ref b), .val (.int (2 : Int32)), .val (.int (0 : Int32)), .val (.ref w_UNKNOWN), .val (.ref w_YES), .val (.ref w_UNKNOWN), .val (.ref w_UNKNOWN), .val (.ref w_NO), .val (.int (1 : Int32)), .val (.int (1 : Int32)), .val (.int (1 : Int32)), .val (.int (1 : Int32))] [(.int (1 : Int32))]))
  refine own_go (fun t k => XS.ifNo X62.here hx rfl (hb hby at_180) rfl (XT.i0_eq_f (by decide)) k) ?_
  show Go p.tables e below _ (T62.setTop (mkF m 183 #[.val (.int p1), .val (.int p2), .val (.ref b), .val (.int (2 : Int32)), .val (.int (0 : Int32)), .val (.ref w_UNKNOWN), .val (.ref w_YES), .val (.ref w_UNKNOWN), .val (.ref w_UNKNOWN), .val (.ref w_NO), .val (.int (1 : Int32)), .val (.int (1 : Int32)), .val (.int (1 : Int32)), .val (.int (1 : Int32))] []))
  refine own_go (fun t k => XS.iload X62.here hx rfl (hb hby at_183) rfl k) ?_
  show Go p.tables e below _ (T62.setTop (mkF m 185 #[.val (.int p1), .val (.int p2), .val (.ref b), .val (.int (2 : Int32)), .val (.int (0 : Int32)), .val (.ref w_UNKNOWN), .val (.ref w_YES), .val (.ref w_UNKNOWN), .val (.ref w_UNKNOWN), .val (.ref w_NO), .val (.int (1 : Int32)), .val (.int (1 : Int32)), .val (.int (1 : Int32)), .val (.int (1 : Int32))] [(.int (1 : Int32))]))
  refine own_go (fun t k => XS.ifNo X62.here hx rfl (hb hby at_185) rfl (XT.i0_eq_f (by decide)) k) ?_
  show Go p.tables e below _ (T62.setTop (mkF m 188 #[.val (.int p1), .val (.int p2), .val (.ref b), .val (.int (2 : Int32)), .val (.int (0 : Int32)), .val (.ref w_UNKNOWN), .val (.ref w_YES), .val (.ref w_UNKNOWN), .val (.ref w_UNKNOWN), .val (.ref w_NO), .val (.int (1 : Int32)), .val (.int (1 : Int32)), .val (.int (1 : Int32)), .val (.int (1 : Int32))] []))
  refine own_go (fun t k => XS.iconst X62.here hx rfl (hb hby at_188) k) ?_
  show Go p.tables e below _ (T62.setTop (mkF m 189 #[.val (.int p1), .val (.int p2), .val (.ref b), .val (.int (2 : Int32)), .val (.int (0 : Int32)), .val (.ref w_UNKNOWN), .val (.ref w_YES), .val (.ref w_UNKNOWN), .val (.ref w_UNKNOWN), .val (.ref w_NO), .val (.int (1 : Int32)), .val (.int (1 : Int32)), .val (.int (1 : Int32)), .val (.int (1 : Int32))] [(.int (1 : Int32))]))
  refine own_go (fun t k => XS.goto X62.here hx rfl (pc0 := 189) (pc' := 193) rfl (hb hby at_189) (by decide) (by decide) k) ?_
  show Go p.tables e below _ (T62.setTop (mkF m 193 #[.val (.int p1), .val (.int p2), .val (.ref b), .val (.int (2 : Int32)), .val (.int (0 : Int32)), .val (.ref w_UNKNOWN), .val (.ref w_YES), .val (.ref w_UNKNOWN), .val (.ref w_UNKNOWN), .val (.ref w_NO), .val (.int (1 : Int32)), .val (.int (1 : Int32)), .val (.int (1 : Int32)), .val (.int (1 : Int32))] [(.int (1 : Int32))]))
  exact own_ret X62 hx hlk Bd.returns rfl (Or.inl ⟨rfl, Or.inr (Or.inl rfl), _, rfl⟩) (hb hby at_193) ⟨rfl, N62⟩ (by decide) (by decide)
theorem ef_rm_law_21 (m : MethodId) (x0 : Int32) (x1 : Int32) : entryFrame m #[(.int x0), (.int x1)] maxLocals = mkF m 0 #[.val (.int x0), .val (.int x1), .unset, .unset, .unset, .unset, .unset, .unset, .unset, .unset, .unset, .unset, .unset, .unset] [] := by first | (simp [entryFrame, mkF, argsToLocals, Value.category, maxLocals]; done) | rfl
set_option maxRecDepth 65536 in
set_option maxHeartbeats 40000000 in
theorem rm_law_21 (l : Launch) (Z : State) (a0 : Array Value) (hw : ∀ d ∈ tables_1, d.before a0 Z = true) (ws : List Jvm.Cond) (p1 p2 : Int32) (w_YES w_NO w_UNKNOWN : Addr) (h0 : Heap) (n0 : Nat) (SS : own_S Z h0 w_YES w_NO w_UNKNOWN) (EE : own_E Z h0 w_YES w_NO w_UNKNOWN) (OO : own_O Z h0 w_YES w_NO w_UNKNOWN) (Z0 : n0 ≤ h0.size) (q1 : (p1 &&& 2147483647) % 3 = 2) (q2 : (p2 &&& 2147483647) % 3 = 1) :
    MetFree l x (head1 (Jvm.Cond.code x code maxLocals ret :: ws) room_1) (fun aa U => aa = #[(.int p1), (.int p2)] ∧ Z.Warmed39 U.vm ∧ U.heap = h0) (fun _ _ _ _ _ => True) (fun _ U o U' => ∃ v L, o = .returned v ∧ LQ n0 v U'.heap L ∧ FrameEnd U o U' L room_1.cells room_1.slots) := by
  refine MetFree.of_bodySF (plainFor_of_name pn_1) hisR ?_
  intro p e s m args below meth c s₁ Bd hml0 hP hK
  obtain ⟨rfl, hZ, hh⟩ := hP
  have hx := Bd.exec
  have hby := Bd.bytes
  have hlk := Bd.notSynchronized
  have hml : c.maxLocals = 14 := hml0
  have hown : s.vm.findClass "com/example/casewright/casewright/types/AnswerNotPinLaw" = some m.cls := findClass_of_methodNamed Bd.named
  have X0 : Stand p l e room_1 s m #[(.int p1), (.int p2)] below meth c s₁ [] 0 0 := Stand.of_body Bd
  have e0 : s₁.heap = h0 := by rw [← hh, Bd.state]; rfl
  have N0 := Fr.nil n0
  have SS' := SS
  obtain ⟨S_YES, S_NO, S_UNKNOWN⟩ := SS'
  obtain ⟨E_YES, E_NO, E_UNKNOWN⟩ := EE
  obtain ⟨F_NO_ordinal, F_YES_ordinal, F_UNKNOWN_ordinal⟩ := OO
  have nUN : w_UNKNOWN ≠ w_NO := (own_ne F_UNKNOWN_ordinal F_NO_ordinal (by decide))
  have nYN : w_YES ≠ w_NO := (own_ne F_YES_ordinal F_NO_ordinal (by decide))
  have nYU : w_YES ≠ w_UNKNOWN := (own_ne F_YES_ordinal F_UNKNOWN_ordinal (by decide))
  show Go p.tables e below (Fin s below (LQ n0) room_1.cells room_1.slots) (s₁.setTop (entryFrame m #[(.int p1), (.int p2)] maxLocals))
  refine own_go (fun t k => castTop (ef_rm_law_21 m p1 p2) k) ?_
  show Go p.tables e below _ (s₁.setTop (mkF m 0 #[.val (.int p1), .val (.int p2), .unset, .unset, .unset, .unset, .unset, .unset, .unset, .unset, .unset, .unset, .unset, .unset] []))
  refine own_go (fun t k => XS.iconst X0.here hx rfl (hb hby at_0) k) ?_
  show Go p.tables e below _ (s₁.setTop (mkF m 1 #[.val (.int p1), .val (.int p2), .unset, .unset, .unset, .unset, .unset, .unset, .unset, .unset, .unset, .unset, .unset, .unset] [(.int (3 : Int32))]))
  obtain ⟨T1, h1, kA, X1, e1, Ex1, A1, O1, st1⟩ := newR X0 hx hZ hown (hw _ (List.mem_of_getElem? (i := 0) rfl)) (hw _ (List.mem_of_getElem? (i := 1) rfl)) e0 (g := (mkF m 1 #[.val (.int p1), .val (.int p2), .unset, .unset, .unset, .unset, .unset, .unset, .unset, .unset, .unset, .unset, .unset, .unset] [(.int (3 : Int32))])) rfl (hb hby at_1) rfl (by decide) (cap := 3) (by decide) (by decide) (by decide) (by decide)
  obtain ⟨b, gb⟩ : ∃ z, z = h0.size := ⟨_, rfl⟩
  rw [← gb] at A1 st1
  have hb0 : n0 ≤ b := Nat.le_trans Z0 (Nat.le_of_eq gb.symm)
  have S1_YES := S_YES.ext Ex1
  have E1_YES := E_YES.ext Ex1
  have S1_NO := S_NO.ext Ex1
  have E1_NO := E_NO.ext Ex1
  have S1_UNKNOWN := S_UNKNOWN.ext Ex1
  have E1_UNKNOWN := E_UNKNOWN.ext Ex1
  refine own_go (fun t k => st1 t k) ?_
  show Go p.tables e below _ (T1.setTop (mkF m 4 #[.val (.int p1), .val (.int p2), .unset, .unset, .unset, .unset, .unset, .unset, .unset, .unset, .unset, .unset, .unset, .unset] [(.ref b)]))
  refine own_go (fun t k => XS.dup X1.here hx rfl (hb hby at_4) rfl rfl k) ?_
  show Go p.tables e below _ (T1.setTop (mkF m 5 #[.val (.int p1), .val (.int p2), .unset, .unset, .unset, .unset, .unset, .unset, .unset, .unset, .unset, .unset, .unset, .unset] [(.ref b), (.ref b)]))
  refine own_go (fun t k => XS.iconst X1.here hx rfl (hb hby at_5) k) ?_
  show Go p.tables e below _ (T1.setTop (mkF m 6 #[.val (.int p1), .val (.int p2), .unset, .unset, .unset, .unset, .unset, .unset, .unset, .unset, .unset, .unset, .unset, .unset] [(.int (0 : Int32)), (.ref b), (.ref b)]))
  obtain ⟨T11, X11, e11, st11⟩ := getS2 X1 hx hZ hown (host := "") (Or.inl (hw _ (List.mem_of_getElem? (i := 2) rfl))) Via.refl e1 S1_YES (g := (mkF m 6 #[.val (.int p1), .val (.int p2), .unset, .unset, .unset, .unset, .unset, .unset, .unset, .unset, .unset, .unset, .unset, .unset] [(.int (0 : Int32)), (.ref b), (.ref b)])) rfl (hb hby at_6)
  refine own_go (fun t k => st11 t k) ?_
  show Go p.tables e below _ (T11.setTop (mkF m 9 #[.val (.int p1), .val (.int p2), .unset, .unset, .unset, .unset, .unset, .unset, .unset, .unset, .unset, .unset, .unset, .unset] [(.ref w_YES), (.int (0 : Int32)), (.ref b), (.ref b)]))
  obtain ⟨T2w, h2, X2w, e2w, W2, stw2⟩ := stR X11 hx hZ e11 A1 (j := (0 : Int32)) (by rw [sz_new]; decide) rfl (Sto.of A1 O1 (Ins.self E1_YES)) (g := (mkF m 9 #[.val (.int p1), .val (.int p2), .unset, .unset, .unset, .unset, .unset, .unset, .unset, .unset, .unset, .unset, .unset, .unset] [(.ref w_YES), (.int (0 : Int32)), (.ref b), (.ref b)])) rfl rfl (hb hby at_9)
  have N2w := Fr.snoc X2w N0 hb0
  have A2 := A1.same W2
  have S2_YES := S1_YES.wr W2
  have E2_YES := E1_YES.wr W2
  have S2_NO := S1_NO.wr W2
  have E2_NO := E1_NO.wr W2
  have S2_UNKNOWN := S1_UNKNOWN.wr W2
  have E2_UNKNOWN := E1_UNKNOWN.wr W2
  refine own_go (fun t k => stw2 t k) ?_
  show Go p.tables e below _ (T2w.setTop (mkF m 10 #[.val (.int p1), .val (.int p2), .unset, .unset, .unset, .unset, .unset, .unset, .unset, .unset, .unset, .unset, .unset, .unset] [(.ref b)]))
  refine own_go (fun t k => XS.dup X2w.here hx rfl (hb hby at_10) rfl rfl k) ?_
  show Go p.tables e below _ (T2w.setTop (mkF m 11 #[.val (.int p1), .val (.int p2), .unset, .unset, .unset, .unset, .unset, .unset, .unset, .unset, .unset, .unset, .unset, .unset] [(.ref b), (.ref b)]))
  refine own_go (fun t k => XS.iconst X2w.here hx rfl (hb hby at_11) k) ?_
  show Go p.tables e below _ (T2w.setTop (mkF m 12 #[.val (.int p1), .val (.int p2), .unset, .unset, .unset, .unset, .unset, .unset, .unset, .unset, .unset, .unset, .unset, .unset] [(.int (1 : Int32)), (.ref b), (.ref b)]))
  obtain ⟨T51, X51, e51, st51⟩ := getS2 X2w hx hZ hown (host := "") (Or.inl (hw _ (List.mem_of_getElem? (i := 6) rfl))) Via.refl e2w S2_NO (g := (mkF m 12 #[.val (.int p1), .val (.int p2), .unset, .unset, .unset, .unset, .unset, .unset, .unset, .unset, .unset, .unset, .unset, .unset] [(.int (1 : Int32)), (.ref b), (.ref b)])) rfl (hb hby at_12)
  refine own_go (fun t k => st51 t k) ?_
  show Go p.tables e below _ (T51.setTop (mkF m 15 #[.val (.int p1), .val (.int p2), .unset, .unset, .unset, .unset, .unset, .unset, .unset, .unset, .unset, .unset, .unset, .unset] [(.ref w_NO), (.int (1 : Int32)), (.ref b), (.ref b)]))
  obtain ⟨T3w, h3, X3w, e3w, W3, stw3⟩ := stR X51 hx hZ e51 A2 (j := (1 : Int32)) (by rw [sz_set]; rw [sz_new]; decide) rfl (Sto.of A2 O1 (Ins.self E2_NO)) (g := (mkF m 15 #[.val (.int p1), .val (.int p2), .unset, .unset, .unset, .unset, .unset, .unset, .unset, .unset, .unset, .unset, .unset, .unset] [(.ref w_NO), (.int (1 : Int32)), (.ref b), (.ref b)])) rfl rfl (hb hby at_15)
  have N3w := Fr.snoc X3w N2w hb0
  have A3 := A2.same W3
  have S3_YES := S2_YES.wr W3
  have E3_YES := E2_YES.wr W3
  have S3_NO := S2_NO.wr W3
  have E3_NO := E2_NO.wr W3
  have S3_UNKNOWN := S2_UNKNOWN.wr W3
  have E3_UNKNOWN := E2_UNKNOWN.wr W3
  refine own_go (fun t k => stw3 t k) ?_
  show Go p.tables e below _ (T3w.setTop (mkF m 16 #[.val (.int p1), .val (.int p2), .unset, .unset, .unset, .unset, .unset, .unset, .unset, .unset, .unset, .unset, .unset, .unset] [(.ref b)]))
  refine own_go (fun t k => XS.dup X3w.here hx rfl (hb hby at_16) rfl rfl k) ?_
  show Go p.tables e below _ (T3w.setTop (mkF m 17 #[.val (.int p1), .val (.int p2), .unset, .unset, .unset, .unset, .unset, .unset, .unset, .unset, .unset, .unset, .unset, .unset] [(.ref b), (.ref b)]))
  refine own_go (fun t k => XS.iconst X3w.here hx rfl (hb hby at_17) k) ?_
  show Go p.tables e below _ (T3w.setTop (mkF m 18 #[.val (.int p1), .val (.int p2), .unset, .unset, .unset, .unset, .unset, .unset, .unset, .unset, .unset, .unset, .unset, .unset] [(.int (2 : Int32)), (.ref b), (.ref b)]))
  obtain ⟨T52, X52, e52, st52⟩ := getS2 X3w hx hZ hown (host := "") (Or.inl (hw _ (List.mem_of_getElem? (i := 8) rfl))) Via.refl e3w S3_UNKNOWN (g := (mkF m 18 #[.val (.int p1), .val (.int p2), .unset, .unset, .unset, .unset, .unset, .unset, .unset, .unset, .unset, .unset, .unset, .unset] [(.int (2 : Int32)), (.ref b), (.ref b)])) rfl (hb hby at_18)
  refine own_go (fun t k => st52 t k) ?_
  show Go p.tables e below _ (T52.setTop (mkF m 21 #[.val (.int p1), .val (.int p2), .unset, .unset, .unset, .unset, .unset, .unset, .unset, .unset, .unset, .unset, .unset, .unset] [(.ref w_UNKNOWN), (.int (2 : Int32)), (.ref b), (.ref b)]))
  obtain ⟨T4w, h4, X4w, e4w, W4, stw4⟩ := stR X52 hx hZ e52 A3 (j := (2 : Int32)) (by rw [sz_set]; rw [sz_set]; rw [sz_new]; decide) rfl (Sto.of A3 O1 (Ins.self E3_UNKNOWN)) (g := (mkF m 21 #[.val (.int p1), .val (.int p2), .unset, .unset, .unset, .unset, .unset, .unset, .unset, .unset, .unset, .unset, .unset, .unset] [(.ref w_UNKNOWN), (.int (2 : Int32)), (.ref b), (.ref b)])) rfl rfl (hb hby at_21)
  have N4w := Fr.snoc X4w N3w hb0
  have A4 := A3.same W4
  have S4_YES := S3_YES.wr W4
  have E4_YES := E3_YES.wr W4
  have S4_NO := S3_NO.wr W4
  have E4_NO := E3_NO.wr W4
  have S4_UNKNOWN := S3_UNKNOWN.wr W4
  have E4_UNKNOWN := E3_UNKNOWN.wr W4
  refine own_go (fun t k => stw4 t k) ?_
  show Go p.tables e below _ (T4w.setTop (mkF m 22 #[.val (.int p1), .val (.int p2), .unset, .unset, .unset, .unset, .unset, .unset, .unset, .unset, .unset, .unset, .unset, .unset] [(.ref b)]))
  have SSh : own_S Z h4 w_YES w_NO w_UNKNOWN := ⟨S4_YES, S4_NO, S4_UNKNOWN⟩
  have EH_YES := E4_YES
  have EH_NO := E4_NO
  have EH_UNKNOWN := E4_UNKNOWN
  refine own_go (fun t k => XS.astoreN X4w.here hx rfl (hb hby at_22) rfl rfl (l' := #[.val (.int p1), .val (.int p2), .val (.ref b), .unset, .unset, .unset, .unset, .unset, .unset, .unset, .unset, .unset, .unset, .unset]) rfl k) ?_
  show Go p.tables e below _ (T4w.setTop (mkF m 23 #[.val (.int p1), .val (.int p2), .val (.ref b), .unset, .unset, .unset, .unset, .unset, .unset, .unset, .unset, .unset, .unset, .unset] []))
  refine own_go (fun t k => XS.iloadN X4w.here hx rfl (hb hby at_23) rfl k) ?_
  show Go p.tables e below _ (T4w.setTop (mkF m 24 #[.val (.int p1), .val (.int p2), .val (.ref b), .unset, .unset, .unset, .unset, .unset, .unset, .unset, .unset, .unset, .unset, .unset] [(.int p1)]))
  refine own_go (fun t k => Jvm.Stand.ldcI X4w hx hown (mvT hZ (hw _ (List.mem_of_getElem? (i := 10) rfl))) rfl (hb hby at_24) k) ?_
  show Go p.tables e below _ (T4w.setTop (mkF m 26 #[.val (.int p1), .val (.int p2), .val (.ref b), .unset, .unset, .unset, .unset, .unset, .unset, .unset, .unset, .unset, .unset, .unset] [(.int (2147483647 : Int32)), (.int p1)]))
  refine own_go (fun t k => XS.iand X4w.here hx rfl (hb hby at_26) rfl k) ?_
  show Go p.tables e below _ (T4w.setTop (mkF m 27 #[.val (.int p1), .val (.int p2), .val (.ref b), .unset, .unset, .unset, .unset, .unset, .unset, .unset, .unset, .unset, .unset, .unset] [(.int (p1 &&& (2147483647 : Int32)))]))
  refine own_go (fun t k => XS.iconst X4w.here hx rfl (hb hby at_27) k) ?_
  show Go p.tables e below _ (T4w.setTop (mkF m 28 #[.val (.int p1), .val (.int p2), .val (.ref b), .unset, .unset, .unset, .unset, .unset, .unset, .unset, .unset, .unset, .unset, .unset] [(.int (3 : Int32)), (.int (p1 &&& (2147483647 : Int32)))]))
  refine own_go (fun t k => iremM (g := (mkF m 28 #[.val (.int p1), .val (.int p2), .val (.ref b), .unset, .unset, .unset, .unset, .unset, .unset, .unset, .unset, .unset, .unset, .unset] [(.int (3 : Int32)), (.int (p1 &&& (2147483647 : Int32)))])) X4w hx rfl (hb hby at_28) rfl (by decide) k) ?_
  show Go p.tables e below _ (T4w.setTop (mkF m 29 #[.val (.int p1), .val (.int p2), .val (.ref b), .unset, .unset, .unset, .unset, .unset, .unset, .unset, .unset, .unset, .unset, .unset] [(.int ((p1 &&& (2147483647 : Int32)) % (3 : Int32)))]))
  rw [q1]
  show Go p.tables e below _ (T4w.setTop (mkF m 29 #[.val (.int p1), .val (.int p2), .val (.ref b), .unset, .unset, .unset, .unset, .unset, .unset, .unset, .unset, .unset, .unset, .unset] [(.int (2 : Int32))]))
  refine own_go (fun t k => XS.istoreN X4w.here hx rfl (hb hby at_29) rfl (l' := #[.val (.int p1), .val (.int p2), .val (.ref b), .val (.int (2 : Int32)), .unset, .unset, .unset, .unset, .unset, .unset, .unset, .unset, .unset, .unset]) rfl k) ?_
  show Go p.tables e below _ (T4w.setTop (mkF m 30 #[.val (.int p1), .val (.int p2), .val (.ref b), .val (.int (2 : Int32)), .unset, .unset, .unset, .unset, .unset, .unset, .unset, .unset, .unset, .unset] []))
  refine own_go (fun t k => XS.iloadN X4w.here hx rfl (hb hby at_30) rfl k) ?_
  show Go p.tables e below _ (T4w.setTop (mkF m 31 #[.val (.int p1), .val (.int p2), .val (.ref b), .val (.int (2 : Int32)), .unset, .unset, .unset, .unset, .unset, .unset, .unset, .unset, .unset, .unset] [(.int p2)]))
  refine own_go (fun t k => Jvm.Stand.ldcI X4w hx hown (mvT hZ (hw _ (List.mem_of_getElem? (i := 10) rfl))) rfl (hb hby at_31) k) ?_
  show Go p.tables e below _ (T4w.setTop (mkF m 33 #[.val (.int p1), .val (.int p2), .val (.ref b), .val (.int (2 : Int32)), .unset, .unset, .unset, .unset, .unset, .unset, .unset, .unset, .unset, .unset] [(.int (2147483647 : Int32)), (.int p2)]))
  refine own_go (fun t k => XS.iand X4w.here hx rfl (hb hby at_33) rfl k) ?_
  show Go p.tables e below _ (T4w.setTop (mkF m 34 #[.val (.int p1), .val (.int p2), .val (.ref b), .val (.int (2 : Int32)), .unset, .unset, .unset, .unset, .unset, .unset, .unset, .unset, .unset, .unset] [(.int (p2 &&& (2147483647 : Int32)))]))
  refine own_go (fun t k => XS.iconst X4w.here hx rfl (hb hby at_34) k) ?_
  show Go p.tables e below _ (T4w.setTop (mkF m 35 #[.val (.int p1), .val (.int p2), .val (.ref b), .val (.int (2 : Int32)), .unset, .unset, .unset, .unset, .unset, .unset, .unset, .unset, .unset, .unset] [(.int (3 : Int32)), (.int (p2 &&& (2147483647 : Int32)))]))
  refine own_go (fun t k => iremM (g := (mkF m 35 #[.val (.int p1), .val (.int p2), .val (.ref b), .val (.int (2 : Int32)), .unset, .unset, .unset, .unset, .unset, .unset, .unset, .unset, .unset, .unset] [(.int (3 : Int32)), (.int (p2 &&& (2147483647 : Int32)))])) X4w hx rfl (hb hby at_35) rfl (by decide) k) ?_
  show Go p.tables e below _ (T4w.setTop (mkF m 36 #[.val (.int p1), .val (.int p2), .val (.ref b), .val (.int (2 : Int32)), .unset, .unset, .unset, .unset, .unset, .unset, .unset, .unset, .unset, .unset] [(.int ((p2 &&& (2147483647 : Int32)) % (3 : Int32)))]))
  rw [q2]
  show Go p.tables e below _ (T4w.setTop (mkF m 36 #[.val (.int p1), .val (.int p2), .val (.ref b), .val (.int (2 : Int32)), .unset, .unset, .unset, .unset, .unset, .unset, .unset, .unset, .unset, .unset] [(.int (1 : Int32))]))
  refine own_go (fun t k => XS.istore X4w.here hx rfl (hb hby at_36) rfl (l' := #[.val (.int p1), .val (.int p2), .val (.ref b), .val (.int (2 : Int32)), .val (.int (1 : Int32)), .unset, .unset, .unset, .unset, .unset, .unset, .unset, .unset, .unset]) rfl k) ?_
  show Go p.tables e below _ (T4w.setTop (mkF m 38 #[.val (.int p1), .val (.int p2), .val (.ref b), .val (.int (2 : Int32)), .val (.int (1 : Int32)), .unset, .unset, .unset, .unset, .unset, .unset, .unset, .unset, .unset] []))
  refine own_go (fun t k => XS.aloadN X4w.here hx rfl (hb hby at_38) rfl rfl k) ?_
  show Go p.tables e below _ (T4w.setTop (mkF m 39 #[.val (.int p1), .val (.int p2), .val (.ref b), .val (.int (2 : Int32)), .val (.int (1 : Int32)), .unset, .unset, .unset, .unset, .unset, .unset, .unset, .unset, .unset] [(.ref b)]))
  refine own_go (fun t k => XS.iloadN X4w.here hx rfl (hb hby at_39) rfl k) ?_
  show Go p.tables e below _ (T4w.setTop (mkF m 40 #[.val (.int p1), .val (.int p2), .val (.ref b), .val (.int (2 : Int32)), .val (.int (1 : Int32)), .unset, .unset, .unset, .unset, .unset, .unset, .unset, .unset, .unset] [(.int (2 : Int32)), (.ref b)]))
  refine own_go (fun t k => X4w.aaload hx (j := (2 : Int32)) (v := (.ref w_UNKNOWN)) (by rw [e4w]; exact A4.1) (State.isArrayOf_alike hZ.alike A4.2.1) rfl A4.2.2 (by rw [sz_set, sz_set, sz_set, sz_new]; decide) rfl (g := (mkF m 40 #[.val (.int p1), .val (.int p2), .val (.ref b), .val (.int (2 : Int32)), .val (.int (1 : Int32)), .unset, .unset, .unset, .unset, .unset, .unset, .unset, .unset, .unset] [(.int (2 : Int32)), (.ref b)])) rfl rfl (hb hby at_40) t k) ?_
  show Go p.tables e below _ (T4w.setTop (mkF m 41 #[.val (.int p1), .val (.int p2), .val (.ref b), .val (.int (2 : Int32)), .val (.int (1 : Int32)), .unset, .unset, .unset, .unset, .unset, .unset, .unset, .unset, .unset] [(.ref w_UNKNOWN)]))
  refine own_go (fun t k => XS.astore X4w.here hx rfl (hb hby at_41) rfl rfl (l' := #[.val (.int p1), .val (.int p2), .val (.ref b), .val (.int (2 : Int32)), .val (.int (1 : Int32)), .val (.ref w_UNKNOWN), .unset, .unset, .unset, .unset, .unset, .unset, .unset, .unset]) rfl k) ?_
  show Go p.tables e below _ (T4w.setTop (mkF m 43 #[.val (.int p1), .val (.int p2), .val (.ref b), .val (.int (2 : Int32)), .val (.int (1 : Int32)), .val (.ref w_UNKNOWN), .unset, .unset, .unset, .unset, .unset, .unset, .unset, .unset] []))
  refine own_go (fun t k => XS.aloadN X4w.here hx rfl (hb hby at_43) rfl rfl k) ?_
  show Go p.tables e below _ (T4w.setTop (mkF m 44 #[.val (.int p1), .val (.int p2), .val (.ref b), .val (.int (2 : Int32)), .val (.int (1 : Int32)), .val (.ref w_UNKNOWN), .unset, .unset, .unset, .unset, .unset, .unset, .unset, .unset] [(.ref b)]))
  refine own_go (fun t k => XS.iload X4w.here hx rfl (hb hby at_44) rfl k) ?_
  show Go p.tables e below _ (T4w.setTop (mkF m 46 #[.val (.int p1), .val (.int p2), .val (.ref b), .val (.int (2 : Int32)), .val (.int (1 : Int32)), .val (.ref w_UNKNOWN), .unset, .unset, .unset, .unset, .unset, .unset, .unset, .unset] [(.int (1 : Int32)), (.ref b)]))
  refine own_go (fun t k => X4w.aaload hx (j := (1 : Int32)) (v := (.ref w_NO)) (by rw [e4w]; exact A4.1) (State.isArrayOf_alike hZ.alike A4.2.1) rfl A4.2.2 (by rw [sz_set, sz_set, sz_set, sz_new]; decide) rfl (g := (mkF m 46 #[.val (.int p1), .val (.int p2), .val (.ref b), .val (.int (2 : Int32)), .val (.int (1 : Int32)), .val (.ref w_UNKNOWN), .unset, .unset, .unset, .unset, .unset, .unset, .unset, .unset] [(.int (1 : Int32)), (.ref b)])) rfl rfl (hb hby at_46) t k) ?_
  show Go p.tables e below _ (T4w.setTop (mkF m 47 #[.val (.int p1), .val (.int p2), .val (.ref b), .val (.int (2 : Int32)), .val (.int (1 : Int32)), .val (.ref w_UNKNOWN), .unset, .unset, .unset, .unset, .unset, .unset, .unset, .unset] [(.ref w_NO)]))
  refine own_go (fun t k => XS.astore X4w.here hx rfl (hb hby at_47) rfl rfl (l' := #[.val (.int p1), .val (.int p2), .val (.ref b), .val (.int (2 : Int32)), .val (.int (1 : Int32)), .val (.ref w_UNKNOWN), .val (.ref w_NO), .unset, .unset, .unset, .unset, .unset, .unset, .unset]) rfl k) ?_
  show Go p.tables e below _ (T4w.setTop (mkF m 49 #[.val (.int p1), .val (.int p2), .val (.ref b), .val (.int (2 : Int32)), .val (.int (1 : Int32)), .val (.ref w_UNKNOWN), .val (.ref w_NO), .unset, .unset, .unset, .unset, .unset, .unset, .unset] []))
  refine own_go (fun t k => XS.iloadN X4w.here hx rfl (hb hby at_49) rfl k) ?_
  show Go p.tables e below _ (T4w.setTop (mkF m 50 #[.val (.int p1), .val (.int p2), .val (.ref b), .val (.int (2 : Int32)), .val (.int (1 : Int32)), .val (.ref w_UNKNOWN), .val (.ref w_NO), .unset, .unset, .unset, .unset, .unset, .unset, .unset] [(.int (2 : Int32))]))
  refine own_go (fun t k => XS.iconst X4w.here hx rfl (hb hby at_50) k) ?_
  show Go p.tables e below _ (T4w.setTop (mkF m 51 #[.val (.int p1), .val (.int p2), .val (.ref b), .val (.int (2 : Int32)), .val (.int (1 : Int32)), .val (.ref w_UNKNOWN), .val (.ref w_NO), .unset, .unset, .unset, .unset, .unset, .unset, .unset] [(.int (2 : Int32)), (.int (2 : Int32))]))
  refine own_go (fun t k => XS.icmpNo X4w.here hx rfl (hb hby at_51) rfl (XT.ii_ne_f (by decide)) k) ?_
  show Go p.tables e below _ (T4w.setTop (mkF m 54 #[.val (.int p1), .val (.int p2), .val (.ref b), .val (.int (2 : Int32)), .val (.int (1 : Int32)), .val (.ref w_UNKNOWN), .val (.ref w_NO), .unset, .unset, .unset, .unset, .unset, .unset, .unset] []))
  obtain ⟨T53, X53, e53, st53⟩ := getS2 X4w hx hZ hown (host := "") (Or.inl (hw _ (List.mem_of_getElem? (i := 8) rfl))) Via.refl e4w S4_UNKNOWN (g := (mkF m 54 #[.val (.int p1), .val (.int p2), .val (.ref b), .val (.int (2 : Int32)), .val (.int (1 : Int32)), .val (.ref w_UNKNOWN), .val (.ref w_NO), .unset, .unset, .unset, .unset, .unset, .unset, .unset] [])) rfl (hb hby at_54)
  refine own_go (fun t k => st53 t k) ?_
  show Go p.tables e below _ (T53.setTop (mkF m 57 #[.val (.int p1), .val (.int p2), .val (.ref b), .val (.int (2 : Int32)), .val (.int (1 : Int32)), .val (.ref w_UNKNOWN), .val (.ref w_NO), .unset, .unset, .unset, .unset, .unset, .unset, .unset] [(.ref w_UNKNOWN)]))
  refine own_go (fun t k => XS.astore X53.here hx rfl (hb hby at_57) rfl rfl (l' := #[.val (.int p1), .val (.int p2), .val (.ref b), .val (.int (2 : Int32)), .val (.int (1 : Int32)), .val (.ref w_UNKNOWN), .val (.ref w_NO), .val (.ref w_UNKNOWN), .unset, .unset, .unset, .unset, .unset, .unset]) rfl k) ?_
  show Go p.tables e below _ (T53.setTop (mkF m 59 #[.val (.int p1), .val (.int p2), .val (.ref b), .val (.int (2 : Int32)), .val (.int (1 : Int32)), .val (.ref w_UNKNOWN), .val (.ref w_NO), .val (.ref w_UNKNOWN), .unset, .unset, .unset, .unset, .unset, .unset] []))
  refine own_go (fun t k => XS.goto X53.here hx rfl (pc0 := 59) (pc' := 69) rfl (hb hby at_59) (by decide) (by decide) k) ?_
  show Go p.tables e below _ (T53.setTop (mkF m 69 #[.val (.int p1), .val (.int p2), .val (.ref b), .val (.int (2 : Int32)), .val (.int (1 : Int32)), .val (.ref w_UNKNOWN), .val (.ref w_NO), .val (.ref w_UNKNOWN), .unset, .unset, .unset, .unset, .unset, .unset] []))
  refine own_go (fun t k => XS.aload X53.here hx rfl (hb hby at_69) rfl rfl k) ?_
  show Go p.tables e below _ (T53.setTop (mkF m 71 #[.val (.int p1), .val (.int p2), .val (.ref b), .val (.int (2 : Int32)), .val (.int (1 : Int32)), .val (.ref w_UNKNOWN), .val (.ref w_NO), .val (.ref w_UNKNOWN), .unset, .unset, .unset, .unset, .unset, .unset] [(.ref w_UNKNOWN)]))
  obtain ⟨cq54, kq54, q54a, q54b, q54c⟩ := isOf hZ e53 EH_UNKNOWN
  obtain ⟨v54, _, ⟨T54, L54, k54, n54⟩, -, X54, ⟨Lc54, hQ54, l54, y54, z54⟩, st54⟩ := X53.virtualBack hx (y := (⟨"com/example/casewright/casewright/types/Answer", "not", "()Lcom/example/casewright/casewright/types/Answer;"⟩ : MethodName)) (z := (⟨"com/example/casewright/casewright/types/Answer", "not", "()Lcom/example/casewright/casewright/types/Answer;"⟩ : MethodName)) hown (mvT hZ (hw _ (List.mem_of_getElem? (i := 11) rfl))) (mvT hZ (hw _ (List.mem_of_getElem? (i := 12) rfl))) (notFace_of_selects (args := #[]) (mvT hZ (hw _ (List.mem_of_getElem? (i := 14) rfl)))) (mvT hZ (hw _ (List.mem_of_getElem? (i := 14) rfl))) (mvT hZ (hw _ (List.mem_of_getElem? (i := 13) rfl))) (by decide) (backOf (W := 0) (rm_not l Z a0 hw [] w_UNKNOWN w_YES w_NO w_UNKNOWN h4 n0 SSh) hZ (hw _ (List.mem_of_getElem? (i := 15) rfl)) (hw _ (List.mem_of_getElem? (i := 3) rfl)) (by decide) (by decide)) q54a q54c (g := (mkF m 71 #[.val (.int p1), .val (.int p2), .val (.ref b), .val (.int (2 : Int32)), .val (.int (1 : Int32)), .val (.ref w_UNKNOWN), .val (.ref w_NO), .val (.ref w_UNKNOWN), .unset, .unset, .unset, .unset, .unset, .unset] [(.ref w_UNKNOWN)])) rfl (by rw [hml]; rfl) (Steps.refl _) (argsL := []) (rest := []) (lenOf pd_0 rfl) rfl (by show 2 * 0 + _ ≤ _; exact Nat.le_of_eq rfl) (hb hby at_71) (fun _ _ => ⟨rfl, e53, (by decide : 0 + 1 + 0 ≤ _), (by decide : 0 + 3 + 0 ≤ _)⟩)
  dsimp only [Pt.U, Pt.locs, Pt.cells, Pt.slots] at X54 l54 y54 z54 st54 hQ54
  subst l54 y54 z54
  obtain ⟨hv54, N54q, e54⟩ := hQ54
  rw [show ((.ref (own_not w_NO w_UNKNOWN w_YES w_UNKNOWN)) : Value) = (.ref w_UNKNOWN) from by simp [own_not, nUN, nYN, nYU, nUN.symm, nYN.symm, nYU.symm]] at hv54
  subst hv54
  have N54 := Fr.app N4w N54q
  refine own_go (fun t k => st54.trans k) ?_
  show Go p.tables e below _ (T54.setTop (mkF m 74 #[.val (.int p1), .val (.int p2), .val (.ref b), .val (.int (2 : Int32)), .val (.int (1 : Int32)), .val (.ref w_UNKNOWN), .val (.ref w_NO), .val (.ref w_UNKNOWN), .unset, .unset, .unset, .unset, .unset, .unset] [(.ref w_UNKNOWN)]))
  refine own_go (fun t k => XS.astore X54.here hx rfl (hb hby at_74) rfl rfl (l' := #[.val (.int p1), .val (.int p2), .val (.ref b), .val (.int (2 : Int32)), .val (.int (1 : Int32)), .val (.ref w_UNKNOWN), .val (.ref w_NO), .val (.ref w_UNKNOWN), .val (.ref w_UNKNOWN), .unset, .unset, .unset, .unset, .unset]) rfl k) ?_
  show Go p.tables e below _ (T54.setTop (mkF m 76 #[.val (.int p1), .val (.int p2), .val (.ref b), .val (.int (2 : Int32)), .val (.int (1 : Int32)), .val (.ref w_UNKNOWN), .val (.ref w_NO), .val (.ref w_UNKNOWN), .val (.ref w_UNKNOWN), .unset, .unset, .unset, .unset, .unset] []))
  refine own_go (fun t k => XS.aload X54.here hx rfl (hb hby at_76) rfl rfl k) ?_
  show Go p.tables e below _ (T54.setTop (mkF m 78 #[.val (.int p1), .val (.int p2), .val (.ref b), .val (.int (2 : Int32)), .val (.int (1 : Int32)), .val (.ref w_UNKNOWN), .val (.ref w_NO), .val (.ref w_UNKNOWN), .val (.ref w_UNKNOWN), .unset, .unset, .unset, .unset, .unset] [(.ref w_NO)]))
  obtain ⟨cq55, kq55, q55a, q55b, q55c⟩ := isOf hZ e54 EH_NO
  obtain ⟨v55, _, ⟨T55, L55, k55, n55⟩, -, X55, ⟨Lc55, hQ55, l55, y55, z55⟩, st55⟩ := X54.virtualBack hx (y := (⟨"com/example/casewright/casewright/types/Answer", "not", "()Lcom/example/casewright/casewright/types/Answer;"⟩ : MethodName)) (z := (⟨"com/example/casewright/casewright/types/Answer", "not", "()Lcom/example/casewright/casewright/types/Answer;"⟩ : MethodName)) hown (mvT hZ (hw _ (List.mem_of_getElem? (i := 11) rfl))) (mvT hZ (hw _ (List.mem_of_getElem? (i := 12) rfl))) (notFace_of_selects (args := #[]) (mvT hZ (hw _ (List.mem_of_getElem? (i := 14) rfl)))) (mvT hZ (hw _ (List.mem_of_getElem? (i := 14) rfl))) (mvT hZ (hw _ (List.mem_of_getElem? (i := 13) rfl))) (by decide) (backOf (W := 0) (rm_not l Z a0 hw [] w_NO w_YES w_NO w_UNKNOWN h4 n0 SSh) hZ (hw _ (List.mem_of_getElem? (i := 15) rfl)) (hw _ (List.mem_of_getElem? (i := 3) rfl)) (by decide) (by decide)) q55a q55c (g := (mkF m 78 #[.val (.int p1), .val (.int p2), .val (.ref b), .val (.int (2 : Int32)), .val (.int (1 : Int32)), .val (.ref w_UNKNOWN), .val (.ref w_NO), .val (.ref w_UNKNOWN), .val (.ref w_UNKNOWN), .unset, .unset, .unset, .unset, .unset] [(.ref w_NO)])) rfl (by rw [hml]; rfl) (Steps.refl _) (argsL := []) (rest := []) (lenOf pd_0 rfl) rfl (by show 2 * 0 + _ ≤ _; exact Nat.le_of_eq rfl) (hb hby at_78) (fun _ _ => ⟨rfl, e54, (by decide : 0 + 1 + 0 ≤ _), (by decide : 0 + 3 + 0 ≤ _)⟩)
  dsimp only [Pt.U, Pt.locs, Pt.cells, Pt.slots] at X55 l55 y55 z55 st55 hQ55
  subst l55 y55 z55
  obtain ⟨hv55, N55q, e55⟩ := hQ55
  rw [show ((.ref (own_not w_NO w_UNKNOWN w_YES w_NO)) : Value) = (.ref w_YES) from by simp [own_not, nUN, nYN, nYU, nUN.symm, nYN.symm, nYU.symm]] at hv55
  subst hv55
  have N55 := Fr.app N54 N55q
  refine own_go (fun t k => st55.trans k) ?_
  show Go p.tables e below _ (T55.setTop (mkF m 81 #[.val (.int p1), .val (.int p2), .val (.ref b), .val (.int (2 : Int32)), .val (.int (1 : Int32)), .val (.ref w_UNKNOWN), .val (.ref w_NO), .val (.ref w_UNKNOWN), .val (.ref w_UNKNOWN), .unset, .unset, .unset, .unset, .unset] [(.ref w_YES)]))
  refine own_go (fun t k => XS.astore X55.here hx rfl (hb hby at_81) rfl rfl (l' := #[.val (.int p1), .val (.int p2), .val (.ref b), .val (.int (2 : Int32)), .val (.int (1 : Int32)), .val (.ref w_UNKNOWN), .val (.ref w_NO), .val (.ref w_UNKNOWN), .val (.ref w_UNKNOWN), .val (.ref w_YES), .unset, .unset, .unset, .unset]) rfl k) ?_
  show Go p.tables e below _ (T55.setTop (mkF m 83 #[.val (.int p1), .val (.int p2), .val (.ref b), .val (.int (2 : Int32)), .val (.int (1 : Int32)), .val (.ref w_UNKNOWN), .val (.ref w_NO), .val (.ref w_UNKNOWN), .val (.ref w_UNKNOWN), .val (.ref w_YES), .unset, .unset, .unset, .unset] []))
  refine own_go (fun t k => XS.aload X55.here hx rfl (hb hby at_83) rfl rfl k) ?_
  show Go p.tables e below _ (T55.setTop (mkF m 85 #[.val (.int p1), .val (.int p2), .val (.ref b), .val (.int (2 : Int32)), .val (.int (1 : Int32)), .val (.ref w_UNKNOWN), .val (.ref w_NO), .val (.ref w_UNKNOWN), .val (.ref w_UNKNOWN), .val (.ref w_YES), .unset, .unset, .unset, .unset] [(.ref w_UNKNOWN)]))
  refine own_go (fun t k => XS.aload X55.here hx rfl (hb hby at_85) rfl rfl k) ?_
  show Go p.tables e below _ (T55.setTop (mkF m 87 #[.val (.int p1), .val (.int p2), .val (.ref b), .val (.int (2 : Int32)), .val (.int (1 : Int32)), .val (.ref w_UNKNOWN), .val (.ref w_NO), .val (.ref w_UNKNOWN), .val (.ref w_UNKNOWN), .val (.ref w_YES), .unset, .unset, .unset, .unset] [(.ref w_UNKNOWN), (.ref w_UNKNOWN)]))
  refine own_go (fun t k => XT.acmpNo X55.here hx rfl (hb hby at_87) rfl rfl rfl (XT.aa_ne_f (congrArg Value.ref rfl)) k) ?_
  show Go p.tables e below _ (T55.setTop (mkF m 90 #[.val (.int p1), .val (.int p2), .val (.ref b), .val (.int (2 : Int32)), .val (.int (1 : Int32)), .val (.ref w_UNKNOWN), .val (.ref w_NO), .val (.ref w_UNKNOWN), .val (.ref w_UNKNOWN), .val (.ref w_YES), .unset, .unset, .unset, .unset] []))
  refine own_go (fun t k => XS.iconst X55.here hx rfl (hb hby at_90) k) ?_
  show Go p.tables e below _ (T55.setTop (mkF m 91 #[.val (.int p1), .val (.int p2), .val (.ref b), .val (.int (2 : Int32)), .val (.int (1 : Int32)), .val (.ref w_UNKNOWN), .val (.ref w_NO), .val (.ref w_UNKNOWN), .val (.ref w_UNKNOWN), .val (.ref w_YES), .unset, .unset, .unset, .unset] [(.int (1 : Int32))]))
  refine own_go (fun t k => XS.goto X55.here hx rfl (pc0 := 91) (pc' := 95) rfl (hb hby at_91) (by decide) (by decide) k) ?_
  show Go p.tables e below _ (T55.setTop (mkF m 95 #[.val (.int p1), .val (.int p2), .val (.ref b), .val (.int (2 : Int32)), .val (.int (1 : Int32)), .val (.ref w_UNKNOWN), .val (.ref w_NO), .val (.ref w_UNKNOWN), .val (.ref w_UNKNOWN), .val (.ref w_YES), .unset, .unset, .unset, .unset] [(.int (1 : Int32))]))
  refine own_go (fun t k => XS.istore X55.here hx rfl (hb hby at_95) rfl (l' := #[.val (.int p1), .val (.int p2), .val (.ref b), .val (.int (2 : Int32)), .val (.int (1 : Int32)), .val (.ref w_UNKNOWN), .val (.ref w_NO), .val (.ref w_UNKNOWN), .val (.ref w_UNKNOWN), .val (.ref w_YES), .val (.int (1 : Int32)), .unset, .unset, .unset]) rfl k) ?_
  show Go p.tables e below _ (T55.setTop (mkF m 97 #[.val (.int p1), .val (.int p2), .val (.ref b), .val (.int (2 : Int32)), .val (.int (1 : Int32)), .val (.ref w_UNKNOWN), .val (.ref w_NO), .val (.ref w_UNKNOWN), .val (.ref w_UNKNOWN), .val (.ref w_YES), .val (.int (1 : Int32)), .unset, .unset, .unset] []))
  refine own_go (fun t k => XS.aload X55.here hx rfl (hb hby at_97) rfl rfl k) ?_
  show Go p.tables e below _ (T55.setTop (mkF m 99 #[.val (.int p1), .val (.int p2), .val (.ref b), .val (.int (2 : Int32)), .val (.int (1 : Int32)), .val (.ref w_UNKNOWN), .val (.ref w_NO), .val (.ref w_UNKNOWN), .val (.ref w_UNKNOWN), .val (.ref w_YES), .val (.int (1 : Int32)), .unset, .unset, .unset] [(.ref w_UNKNOWN)]))
  obtain ⟨cq56, kq56, q56a, q56b, q56c⟩ := isOf hZ e55 EH_UNKNOWN
  obtain ⟨v56, _, ⟨T56, L56, k56, n56⟩, -, X56, ⟨Lc56, hQ56, l56, y56, z56⟩, st56⟩ := X55.virtualBack hx (y := (⟨"com/example/casewright/casewright/types/Answer", "not", "()Lcom/example/casewright/casewright/types/Answer;"⟩ : MethodName)) (z := (⟨"com/example/casewright/casewright/types/Answer", "not", "()Lcom/example/casewright/casewright/types/Answer;"⟩ : MethodName)) hown (mvT hZ (hw _ (List.mem_of_getElem? (i := 11) rfl))) (mvT hZ (hw _ (List.mem_of_getElem? (i := 12) rfl))) (notFace_of_selects (args := #[]) (mvT hZ (hw _ (List.mem_of_getElem? (i := 14) rfl)))) (mvT hZ (hw _ (List.mem_of_getElem? (i := 14) rfl))) (mvT hZ (hw _ (List.mem_of_getElem? (i := 13) rfl))) (by decide) (backOf (W := 0) (rm_not l Z a0 hw [] w_UNKNOWN w_YES w_NO w_UNKNOWN h4 n0 SSh) hZ (hw _ (List.mem_of_getElem? (i := 15) rfl)) (hw _ (List.mem_of_getElem? (i := 3) rfl)) (by decide) (by decide)) q56a q56c (g := (mkF m 99 #[.val (.int p1), .val (.int p2), .val (.ref b), .val (.int (2 : Int32)), .val (.int (1 : Int32)), .val (.ref w_UNKNOWN), .val (.ref w_NO), .val (.ref w_UNKNOWN), .val (.ref w_UNKNOWN), .val (.ref w_YES), .val (.int (1 : Int32)), .unset, .unset, .unset] [(.ref w_UNKNOWN)])) rfl (by rw [hml]; rfl) (Steps.refl _) (argsL := []) (rest := []) (lenOf pd_0 rfl) rfl (by show 2 * 0 + _ ≤ _; exact Nat.le_of_eq rfl) (hb hby at_99) (fun _ _ => ⟨rfl, e55, (by decide : 0 + 1 + 0 ≤ _), (by decide : 0 + 3 + 0 ≤ _)⟩)
  dsimp only [Pt.U, Pt.locs, Pt.cells, Pt.slots] at X56 l56 y56 z56 st56 hQ56
  subst l56 y56 z56
  obtain ⟨hv56, N56q, e56⟩ := hQ56
  rw [show ((.ref (own_not w_NO w_UNKNOWN w_YES w_UNKNOWN)) : Value) = (.ref w_UNKNOWN) from by simp [own_not, nUN, nYN, nYU, nUN.symm, nYN.symm, nYU.symm]] at hv56
  subst hv56
  have N56 := Fr.app N55 N56q
  refine own_go (fun t k => st56.trans k) ?_
  show Go p.tables e below _ (T56.setTop (mkF m 102 #[.val (.int p1), .val (.int p2), .val (.ref b), .val (.int (2 : Int32)), .val (.int (1 : Int32)), .val (.ref w_UNKNOWN), .val (.ref w_NO), .val (.ref w_UNKNOWN), .val (.ref w_UNKNOWN), .val (.ref w_YES), .val (.int (1 : Int32)), .unset, .unset, .unset] [(.ref w_UNKNOWN)]))
  refine own_go (fun t k => XS.aload X56.here hx rfl (hb hby at_102) rfl rfl k) ?_
  show Go p.tables e below _ (T56.setTop (mkF m 104 #[.val (.int p1), .val (.int p2), .val (.ref b), .val (.int (2 : Int32)), .val (.int (1 : Int32)), .val (.ref w_UNKNOWN), .val (.ref w_NO), .val (.ref w_UNKNOWN), .val (.ref w_UNKNOWN), .val (.ref w_YES), .val (.int (1 : Int32)), .unset, .unset, .unset] [(.ref w_UNKNOWN), (.ref w_UNKNOWN)]))
  refine own_go (fun t k => XT.acmpNo X56.here hx rfl (hb hby at_104) rfl rfl rfl (XT.aa_ne_f (congrArg Value.ref rfl)) k) ?_
  show Go p.tables e below _ (T56.setTop (mkF m 107 #[.val (.int p1), .val (.int p2), .val (.ref b), .val (.int (2 : Int32)), .val (.int (1 : Int32)), .val (.ref w_UNKNOWN), .val (.ref w_NO), .val (.ref w_UNKNOWN), .val (.ref w_UNKNOWN), .val (.ref w_YES), .val (.int (1 : Int32)), .unset, .unset, .unset] []))
  refine own_go (fun t k => XS.iconst X56.here hx rfl (hb hby at_107) k) ?_
  show Go p.tables e below _ (T56.setTop (mkF m 108 #[.val (.int p1), .val (.int p2), .val (.ref b), .val (.int (2 : Int32)), .val (.int (1 : Int32)), .val (.ref w_UNKNOWN), .val (.ref w_NO), .val (.ref w_UNKNOWN), .val (.ref w_UNKNOWN), .val (.ref w_YES), .val (.int (1 : Int32)), .unset, .unset, .unset] [(.int (1 : Int32))]))
  refine own_go (fun t k => XS.goto X56.here hx rfl (pc0 := 108) (pc' := 112) rfl (hb hby at_108) (by decide) (by decide) k) ?_
  show Go p.tables e below _ (T56.setTop (mkF m 112 #[.val (.int p1), .val (.int p2), .val (.ref b), .val (.int (2 : Int32)), .val (.int (1 : Int32)), .val (.ref w_UNKNOWN), .val (.ref w_NO), .val (.ref w_UNKNOWN), .val (.ref w_UNKNOWN), .val (.ref w_YES), .val (.int (1 : Int32)), .unset, .unset, .unset] [(.int (1 : Int32))]))
  refine own_go (fun t k => XS.istore X56.here hx rfl (hb hby at_112) rfl (l' := #[.val (.int p1), .val (.int p2), .val (.ref b), .val (.int (2 : Int32)), .val (.int (1 : Int32)), .val (.ref w_UNKNOWN), .val (.ref w_NO), .val (.ref w_UNKNOWN), .val (.ref w_UNKNOWN), .val (.ref w_YES), .val (.int (1 : Int32)), .val (.int (1 : Int32)), .unset, .unset]) rfl k) ?_
  show Go p.tables e below _ (T56.setTop (mkF m 114 #[.val (.int p1), .val (.int p2), .val (.ref b), .val (.int (2 : Int32)), .val (.int (1 : Int32)), .val (.ref w_UNKNOWN), .val (.ref w_NO), .val (.ref w_UNKNOWN), .val (.ref w_UNKNOWN), .val (.ref w_YES), .val (.int (1 : Int32)), .val (.int (1 : Int32)), .unset, .unset] []))
  refine own_go (fun t k => XS.aload X56.here hx rfl (hb hby at_114) rfl rfl k) ?_
  show Go p.tables e below _ (T56.setTop (mkF m 116 #[.val (.int p1), .val (.int p2), .val (.ref b), .val (.int (2 : Int32)), .val (.int (1 : Int32)), .val (.ref w_UNKNOWN), .val (.ref w_NO), .val (.ref w_UNKNOWN), .val (.ref w_UNKNOWN), .val (.ref w_YES), .val (.int (1 : Int32)), .val (.int (1 : Int32)), .unset, .unset] [(.ref w_UNKNOWN)]))
  refine own_go (fun t k => XS.aload X56.here hx rfl (hb hby at_116) rfl rfl k) ?_
  show Go p.tables e below _ (T56.setTop (mkF m 118 #[.val (.int p1), .val (.int p2), .val (.ref b), .val (.int (2 : Int32)), .val (.int (1 : Int32)), .val (.ref w_UNKNOWN), .val (.ref w_NO), .val (.ref w_UNKNOWN), .val (.ref w_UNKNOWN), .val (.ref w_YES), .val (.int (1 : Int32)), .val (.int (1 : Int32)), .unset, .unset] [(.ref w_NO), (.ref w_UNKNOWN)]))
  obtain ⟨cq57, kq57, q57a, q57b, q57c⟩ := isOf hZ e56 EH_UNKNOWN
  obtain ⟨v57, _, ⟨T57, L57, k57, n57⟩, -, X57, ⟨Lc57, hQ57, l57, y57, z57⟩, st57⟩ := X56.virtualBack hx (y := (⟨"com/example/casewright/casewright/types/Answer", "and", "(Lcom/example/casewright/casewright/types/Answer;)Lcom/example/casewright/casewright/types/Answer;"⟩ : MethodName)) (z := (⟨"com/example/casewright/casewright/types/Answer", "and", "(Lcom/example/casewright/casewright/types/Answer;)Lcom/example/casewright/casewright/types/Answer;"⟩ : MethodName)) hown (mvT hZ (hw _ (List.mem_of_getElem? (i := 18) rfl))) (mvT hZ (hw _ (List.mem_of_getElem? (i := 19) rfl))) (notFace_of_selects (args := #[]) (mvT hZ (hw _ (List.mem_of_getElem? (i := 21) rfl)))) (mvT hZ (hw _ (List.mem_of_getElem? (i := 21) rfl))) (mvT hZ (hw _ (List.mem_of_getElem? (i := 20) rfl))) (by decide) (backOf (W := 0) (rm_and l Z a0 hw [] w_UNKNOWN w_NO w_YES w_NO w_UNKNOWN h4 n0 SSh) hZ (hw _ (List.mem_of_getElem? (i := 22) rfl)) (hw _ (List.mem_of_getElem? (i := 3) rfl)) (by decide) (by decide)) q57a q57c (g := (mkF m 118 #[.val (.int p1), .val (.int p2), .val (.ref b), .val (.int (2 : Int32)), .val (.int (1 : Int32)), .val (.ref w_UNKNOWN), .val (.ref w_NO), .val (.ref w_UNKNOWN), .val (.ref w_UNKNOWN), .val (.ref w_YES), .val (.int (1 : Int32)), .val (.int (1 : Int32)), .unset, .unset] [(.ref w_NO), (.ref w_UNKNOWN)])) rfl (by rw [hml]; rfl) (Steps.refl _) (argsL := [(.ref w_NO)]) (rest := []) (lenOf pd_1 rfl) rfl (by show 2 * 0 + _ ≤ _; exact Nat.le_of_eq rfl) (hb hby at_118) (fun _ _ => ⟨rfl, e56, (by decide : 0 + 1 + 0 ≤ _), (by decide : 0 + 3 + 0 ≤ _)⟩)
  dsimp only [Pt.U, Pt.locs, Pt.cells, Pt.slots] at X57 l57 y57 z57 st57 hQ57
  subst l57 y57 z57
  obtain ⟨hv57, N57q, e57⟩ := hQ57
  rw [show ((.ref (own_and w_NO w_UNKNOWN w_YES w_UNKNOWN w_NO)) : Value) = (.ref w_NO) from by simp [own_and, nUN, nYN, nYU, nUN.symm, nYN.symm, nYU.symm]] at hv57
  subst hv57
  have N57 := Fr.app N56 N57q
  refine own_go (fun t k => st57.trans k) ?_
  show Go p.tables e below _ (T57.setTop (mkF m 121 #[.val (.int p1), .val (.int p2), .val (.ref b), .val (.int (2 : Int32)), .val (.int (1 : Int32)), .val (.ref w_UNKNOWN), .val (.ref w_NO), .val (.ref w_UNKNOWN), .val (.ref w_UNKNOWN), .val (.ref w_YES), .val (.int (1 : Int32)), .val (.int (1 : Int32)), .unset, .unset] [(.ref w_NO)]))
  obtain ⟨cq58, kq58, q58a, q58b, q58c⟩ := isOf hZ e57 EH_NO
  obtain ⟨v58, _, ⟨T58, L58, k58, n58⟩, -, X58, ⟨Lc58, hQ58, l58, y58, z58⟩, st58⟩ := X57.virtualBack hx (y := (⟨"com/example/casewright/casewright/types/Answer", "not", "()Lcom/example/casewright/casewright/types/Answer;"⟩ : MethodName)) (z := (⟨"com/example/casewright/casewright/types/Answer", "not", "()Lcom/example/casewright/casewright/types/Answer;"⟩ : MethodName)) hown (mvT hZ (hw _ (List.mem_of_getElem? (i := 11) rfl))) (mvT hZ (hw _ (List.mem_of_getElem? (i := 12) rfl))) (notFace_of_selects (args := #[]) (mvT hZ (hw _ (List.mem_of_getElem? (i := 14) rfl)))) (mvT hZ (hw _ (List.mem_of_getElem? (i := 14) rfl))) (mvT hZ (hw _ (List.mem_of_getElem? (i := 13) rfl))) (by decide) (backOf (W := 0) (rm_not l Z a0 hw [] w_NO w_YES w_NO w_UNKNOWN h4 n0 SSh) hZ (hw _ (List.mem_of_getElem? (i := 15) rfl)) (hw _ (List.mem_of_getElem? (i := 3) rfl)) (by decide) (by decide)) q58a q58c (g := (mkF m 121 #[.val (.int p1), .val (.int p2), .val (.ref b), .val (.int (2 : Int32)), .val (.int (1 : Int32)), .val (.ref w_UNKNOWN), .val (.ref w_NO), .val (.ref w_UNKNOWN), .val (.ref w_UNKNOWN), .val (.ref w_YES), .val (.int (1 : Int32)), .val (.int (1 : Int32)), .unset, .unset] [(.ref w_NO)])) rfl (by rw [hml]; rfl) (Steps.refl _) (argsL := []) (rest := []) (lenOf pd_0 rfl) rfl (by show 2 * 0 + _ ≤ _; exact Nat.le_of_eq rfl) (hb hby at_121) (fun _ _ => ⟨rfl, e57, (by decide : 0 + 1 + 0 ≤ _), (by decide : 0 + 3 + 0 ≤ _)⟩)
  dsimp only [Pt.U, Pt.locs, Pt.cells, Pt.slots] at X58 l58 y58 z58 st58 hQ58
  subst l58 y58 z58
  obtain ⟨hv58, N58q, e58⟩ := hQ58
  rw [show ((.ref (own_not w_NO w_UNKNOWN w_YES w_NO)) : Value) = (.ref w_YES) from by simp [own_not, nUN, nYN, nYU, nUN.symm, nYN.symm, nYU.symm]] at hv58
  subst hv58
  have N58 := Fr.app N57 N58q
  refine own_go (fun t k => st58.trans k) ?_
  show Go p.tables e below _ (T58.setTop (mkF m 124 #[.val (.int p1), .val (.int p2), .val (.ref b), .val (.int (2 : Int32)), .val (.int (1 : Int32)), .val (.ref w_UNKNOWN), .val (.ref w_NO), .val (.ref w_UNKNOWN), .val (.ref w_UNKNOWN), .val (.ref w_YES), .val (.int (1 : Int32)), .val (.int (1 : Int32)), .unset, .unset] [(.ref w_YES)]))
  refine own_go (fun t k => XS.aload X58.here hx rfl (hb hby at_124) rfl rfl k) ?_
  show Go p.tables e below _ (T58.setTop (mkF m 126 #[.val (.int p1), .val (.int p2), .val (.ref b), .val (.int (2 : Int32)), .val (.int (1 : Int32)), .val (.ref w_UNKNOWN), .val (.ref w_NO), .val (.ref w_UNKNOWN), .val (.ref w_UNKNOWN), .val (.ref w_YES), .val (.int (1 : Int32)), .val (.int (1 : Int32)), .unset, .unset] [(.ref w_UNKNOWN), (.ref w_YES)]))
  refine own_go (fun t k => XS.aload X58.here hx rfl (hb hby at_126) rfl rfl k) ?_
  show Go p.tables e below _ (T58.setTop (mkF m 128 #[.val (.int p1), .val (.int p2), .val (.ref b), .val (.int (2 : Int32)), .val (.int (1 : Int32)), .val (.ref w_UNKNOWN), .val (.ref w_NO), .val (.ref w_UNKNOWN), .val (.ref w_UNKNOWN), .val (.ref w_YES), .val (.int (1 : Int32)), .val (.int (1 : Int32)), .unset, .unset] [(.ref w_YES), (.ref w_UNKNOWN), (.ref w_YES)]))
  obtain ⟨cq59, kq59, q59a, q59b, q59c⟩ := isOf hZ e58 EH_UNKNOWN
  obtain ⟨v59, _, ⟨T59, L59, k59, n59⟩, -, X59, ⟨Lc59, hQ59, l59, y59, z59⟩, st59⟩ := X58.virtualBack hx (y := (⟨"com/example/casewright/casewright/types/Answer", "or", "(Lcom/example/casewright/casewright/types/Answer;)Lcom/example/casewright/casewright/types/Answer;"⟩ : MethodName)) (z := (⟨"com/example/casewright/casewright/types/Answer", "or", "(Lcom/example/casewright/casewright/types/Answer;)Lcom/example/casewright/casewright/types/Answer;"⟩ : MethodName)) hown (mvT hZ (hw _ (List.mem_of_getElem? (i := 24) rfl))) (mvT hZ (hw _ (List.mem_of_getElem? (i := 25) rfl))) (notFace_of_selects (args := #[]) (mvT hZ (hw _ (List.mem_of_getElem? (i := 27) rfl)))) (mvT hZ (hw _ (List.mem_of_getElem? (i := 27) rfl))) (mvT hZ (hw _ (List.mem_of_getElem? (i := 26) rfl))) (by decide) (backOf (W := 1) (rm_or l Z a0 hw [] w_UNKNOWN w_YES w_YES w_NO w_UNKNOWN h4 n0 SSh) hZ (hw _ (List.mem_of_getElem? (i := 28) rfl)) (hw _ (List.mem_of_getElem? (i := 3) rfl)) (by decide) (by decide)) q59a q59c (g := (mkF m 128 #[.val (.int p1), .val (.int p2), .val (.ref b), .val (.int (2 : Int32)), .val (.int (1 : Int32)), .val (.ref w_UNKNOWN), .val (.ref w_NO), .val (.ref w_UNKNOWN), .val (.ref w_UNKNOWN), .val (.ref w_YES), .val (.int (1 : Int32)), .val (.int (1 : Int32)), .unset, .unset] [(.ref w_YES), (.ref w_UNKNOWN), (.ref w_YES)])) rfl (by rw [hml]; rfl) (Steps.refl _) (argsL := [(.ref w_YES)]) (rest := [(.ref w_YES)]) (lenOf pd_1 rfl) rfl (by show 2 * 0 + _ ≤ _; exact Nat.le_of_eq rfl) (hb hby at_128) (fun _ _ => ⟨rfl, e58, (by decide : 0 + 1 + 0 ≤ _), (by decide : 0 + 3 + 0 ≤ _)⟩)
  dsimp only [Pt.U, Pt.locs, Pt.cells, Pt.slots] at X59 l59 y59 z59 st59 hQ59
  subst l59 y59 z59
  obtain ⟨hv59, N59q, e59⟩ := hQ59
  rw [show ((.ref (own_or w_NO w_UNKNOWN w_YES w_UNKNOWN w_YES)) : Value) = (.ref w_YES) from by simp [own_or, nUN, nYN, nYU, nUN.symm, nYN.symm, nYU.symm]] at hv59
  subst hv59
  have N59 := Fr.app N58 N59q
  refine own_go (fun t k => st59.trans k) ?_
  show Go p.tables e below _ (T59.setTop (mkF m 131 #[.val (.int p1), .val (.int p2), .val (.ref b), .val (.int (2 : Int32)), .val (.int (1 : Int32)), .val (.ref w_UNKNOWN), .val (.ref w_NO), .val (.ref w_UNKNOWN), .val (.ref w_UNKNOWN), .val (.ref w_YES), .val (.int (1 : Int32)), .val (.int (1 : Int32)), .unset, .unset] [(.ref w_YES), (.ref w_YES)]))
  refine own_go (fun t k => XT.acmpNo X59.here hx rfl (hb hby at_131) rfl rfl rfl (XT.aa_ne_f (congrArg Value.ref rfl)) k) ?_
  show Go p.tables e below _ (T59.setTop (mkF m 134 #[.val (.int p1), .val (.int p2), .val (.ref b), .val (.int (2 : Int32)), .val (.int (1 : Int32)), .val (.ref w_UNKNOWN), .val (.ref w_NO), .val (.ref w_UNKNOWN), .val (.ref w_UNKNOWN), .val (.ref w_YES), .val (.int (1 : Int32)), .val (.int (1 : Int32)), .unset, .unset] []))
  refine own_go (fun t k => XS.iconst X59.here hx rfl (hb hby at_134) k) ?_
  show Go p.tables e below _ (T59.setTop (mkF m 135 #[.val (.int p1), .val (.int p2), .val (.ref b), .val (.int (2 : Int32)), .val (.int (1 : Int32)), .val (.ref w_UNKNOWN), .val (.ref w_NO), .val (.ref w_UNKNOWN), .val (.ref w_UNKNOWN), .val (.ref w_YES), .val (.int (1 : Int32)), .val (.int (1 : Int32)), .unset, .unset] [(.int (1 : Int32))]))
  refine own_go (fun t k => XS.goto X59.here hx rfl (pc0 := 135) (pc' := 139) rfl (hb hby at_135) (by decide) (by decide) k) ?_
  show Go p.tables e below _ (T59.setTop (mkF m 139 #[.val (.int p1), .val (.int p2), .val (.ref b), .val (.int (2 : Int32)), .val (.int (1 : Int32)), .val (.ref w_UNKNOWN), .val (.ref w_NO), .val (.ref w_UNKNOWN), .val (.ref w_UNKNOWN), .val (.ref w_YES), .val (.int (1 : Int32)), .val (.int (1 : Int32)), .unset, .unset] [(.int (1 : Int32))]))
  refine own_go (fun t k => XS.istore X59.here hx rfl (hb hby at_139) rfl (l' := #[.val (.int p1), .val (.int p2), .val (.ref b), .val (.int (2 : Int32)), .val (.int (1 : Int32)), .val (.ref w_UNKNOWN), .val (.ref w_NO), .val (.ref w_UNKNOWN), .val (.ref w_UNKNOWN), .val (.ref w_YES), .val (.int (1 : Int32)), .val (.int (1 : Int32)), .val (.int (1 : Int32)), .unset]) rfl k) ?_
  show Go p.tables e below _ (T59.setTop (mkF m 141 #[.val (.int p1), .val (.int p2), .val (.ref b), .val (.int (2 : Int32)), .val (.int (1 : Int32)), .val (.ref w_UNKNOWN), .val (.ref w_NO), .val (.ref w_UNKNOWN), .val (.ref w_UNKNOWN), .val (.ref w_YES), .val (.int (1 : Int32)), .val (.int (1 : Int32)), .val (.int (1 : Int32)), .unset] []))
  refine own_go (fun t k => XS.aload X59.here hx rfl (hb hby at_141) rfl rfl k) ?_
  show Go p.tables e below _ (T59.setTop (mkF m 143 #[.val (.int p1), .val (.int p2), .val (.ref b), .val (.int (2 : Int32)), .val (.int (1 : Int32)), .val (.ref w_UNKNOWN), .val (.ref w_NO), .val (.ref w_UNKNOWN), .val (.ref w_UNKNOWN), .val (.ref w_YES), .val (.int (1 : Int32)), .val (.int (1 : Int32)), .val (.int (1 : Int32)), .unset] [(.ref w_UNKNOWN)]))
  refine own_go (fun t k => XS.aload X59.here hx rfl (hb hby at_143) rfl rfl k) ?_
  show Go p.tables e below _ (T59.setTop (mkF m 145 #[.val (.int p1), .val (.int p2), .val (.ref b), .val (.int (2 : Int32)), .val (.int (1 : Int32)), .val (.ref w_UNKNOWN), .val (.ref w_NO), .val (.ref w_UNKNOWN), .val (.ref w_UNKNOWN), .val (.ref w_YES), .val (.int (1 : Int32)), .val (.int (1 : Int32)), .val (.int (1 : Int32)), .unset] [(.ref w_NO), (.ref w_UNKNOWN)]))
  obtain ⟨cq60, kq60, q60a, q60b, q60c⟩ := isOf hZ e59 EH_UNKNOWN
  obtain ⟨v60, _, ⟨T60, L60, k60, n60⟩, -, X60, ⟨Lc60, hQ60, l60, y60, z60⟩, st60⟩ := X59.virtualBack hx (y := (⟨"com/example/casewright/casewright/types/Answer", "or", "(Lcom/example/casewright/casewright/types/Answer;)Lcom/example/casewright/casewright/types/Answer;"⟩ : MethodName)) (z := (⟨"com/example/casewright/casewright/types/Answer", "or", "(Lcom/example/casewright/casewright/types/Answer;)Lcom/example/casewright/casewright/types/Answer;"⟩ : MethodName)) hown (mvT hZ (hw _ (List.mem_of_getElem? (i := 24) rfl))) (mvT hZ (hw _ (List.mem_of_getElem? (i := 25) rfl))) (notFace_of_selects (args := #[]) (mvT hZ (hw _ (List.mem_of_getElem? (i := 27) rfl)))) (mvT hZ (hw _ (List.mem_of_getElem? (i := 27) rfl))) (mvT hZ (hw _ (List.mem_of_getElem? (i := 26) rfl))) (by decide) (backOf (W := 0) (rm_or l Z a0 hw [] w_UNKNOWN w_NO w_YES w_NO w_UNKNOWN h4 n0 SSh) hZ (hw _ (List.mem_of_getElem? (i := 28) rfl)) (hw _ (List.mem_of_getElem? (i := 3) rfl)) (by decide) (by decide)) q60a q60c (g := (mkF m 145 #[.val (.int p1), .val (.int p2), .val (.ref b), .val (.int (2 : Int32)), .val (.int (1 : Int32)), .val (.ref w_UNKNOWN), .val (.ref w_NO), .val (.ref w_UNKNOWN), .val (.ref w_UNKNOWN), .val (.ref w_YES), .val (.int (1 : Int32)), .val (.int (1 : Int32)), .val (.int (1 : Int32)), .unset] [(.ref w_NO), (.ref w_UNKNOWN)])) rfl (by rw [hml]; rfl) (Steps.refl _) (argsL := [(.ref w_NO)]) (rest := []) (lenOf pd_1 rfl) rfl (by show 2 * 0 + _ ≤ _; exact Nat.le_of_eq rfl) (hb hby at_145) (fun _ _ => ⟨rfl, e59, (by decide : 0 + 1 + 0 ≤ _), (by decide : 0 + 3 + 0 ≤ _)⟩)
  dsimp only [Pt.U, Pt.locs, Pt.cells, Pt.slots] at X60 l60 y60 z60 st60 hQ60
  subst l60 y60 z60
  obtain ⟨hv60, N60q, e60⟩ := hQ60
  rw [show ((.ref (own_or w_NO w_UNKNOWN w_YES w_UNKNOWN w_NO)) : Value) = (.ref w_UNKNOWN) from by simp [own_or, nUN, nYN, nYU, nUN.symm, nYN.symm, nYU.symm]] at hv60
  subst hv60
  have N60 := Fr.app N59 N60q
  refine own_go (fun t k => st60.trans k) ?_
  show Go p.tables e below _ (T60.setTop (mkF m 148 #[.val (.int p1), .val (.int p2), .val (.ref b), .val (.int (2 : Int32)), .val (.int (1 : Int32)), .val (.ref w_UNKNOWN), .val (.ref w_NO), .val (.ref w_UNKNOWN), .val (.ref w_UNKNOWN), .val (.ref w_YES), .val (.int (1 : Int32)), .val (.int (1 : Int32)), .val (.int (1 : Int32)), .unset] [(.ref w_UNKNOWN)]))
  obtain ⟨cq61, kq61, q61a, q61b, q61c⟩ := isOf hZ e60 EH_UNKNOWN
  obtain ⟨v61, _, ⟨T61, L61, k61, n61⟩, -, X61, ⟨Lc61, hQ61, l61, y61, z61⟩, st61⟩ := X60.virtualBack hx (y := (⟨"com/example/casewright/casewright/types/Answer", "not", "()Lcom/example/casewright/casewright/types/Answer;"⟩ : MethodName)) (z := (⟨"com/example/casewright/casewright/types/Answer", "not", "()Lcom/example/casewright/casewright/types/Answer;"⟩ : MethodName)) hown (mvT hZ (hw _ (List.mem_of_getElem? (i := 11) rfl))) (mvT hZ (hw _ (List.mem_of_getElem? (i := 12) rfl))) (notFace_of_selects (args := #[]) (mvT hZ (hw _ (List.mem_of_getElem? (i := 14) rfl)))) (mvT hZ (hw _ (List.mem_of_getElem? (i := 14) rfl))) (mvT hZ (hw _ (List.mem_of_getElem? (i := 13) rfl))) (by decide) (backOf (W := 0) (rm_not l Z a0 hw [] w_UNKNOWN w_YES w_NO w_UNKNOWN h4 n0 SSh) hZ (hw _ (List.mem_of_getElem? (i := 15) rfl)) (hw _ (List.mem_of_getElem? (i := 3) rfl)) (by decide) (by decide)) q61a q61c (g := (mkF m 148 #[.val (.int p1), .val (.int p2), .val (.ref b), .val (.int (2 : Int32)), .val (.int (1 : Int32)), .val (.ref w_UNKNOWN), .val (.ref w_NO), .val (.ref w_UNKNOWN), .val (.ref w_UNKNOWN), .val (.ref w_YES), .val (.int (1 : Int32)), .val (.int (1 : Int32)), .val (.int (1 : Int32)), .unset] [(.ref w_UNKNOWN)])) rfl (by rw [hml]; rfl) (Steps.refl _) (argsL := []) (rest := []) (lenOf pd_0 rfl) rfl (by show 2 * 0 + _ ≤ _; exact Nat.le_of_eq rfl) (hb hby at_148) (fun _ _ => ⟨rfl, e60, (by decide : 0 + 1 + 0 ≤ _), (by decide : 0 + 3 + 0 ≤ _)⟩)
  dsimp only [Pt.U, Pt.locs, Pt.cells, Pt.slots] at X61 l61 y61 z61 st61 hQ61
  subst l61 y61 z61
  obtain ⟨hv61, N61q, e61⟩ := hQ61
  rw [show ((.ref (own_not w_NO w_UNKNOWN w_YES w_UNKNOWN)) : Value) = (.ref w_UNKNOWN) from by simp [own_not, nUN, nYN, nYU, nUN.symm, nYN.symm, nYU.symm]] at hv61
  subst hv61
  have N61 := Fr.app N60 N61q
  refine own_go (fun t k => st61.trans k) ?_
  show Go p.tables e below _ (T61.setTop (mkF m 151 #[.val (.int p1), .val (.int p2), .val (.ref b), .val (.int (2 : Int32)), .val (.int (1 : Int32)), .val (.ref w_UNKNOWN), .val (.ref w_NO), .val (.ref w_UNKNOWN), .val (.ref w_UNKNOWN), .val (.ref w_YES), .val (.int (1 : Int32)), .val (.int (1 : Int32)), .val (.int (1 : Int32)), .unset] [(.ref w_UNKNOWN)]))
  refine own_go (fun t k => XS.aload X61.here hx rfl (hb hby at_151) rfl rfl k) ?_
  show Go p.tables e below _ (T61.setTop (mkF m 153 #[.val (.int p1), .val (.int p2), .val (.ref b), .val (.int (2 : Int32)), .val (.int (1 : Int32)), .val (.ref w_UNKNOWN), .val (.ref w_NO), .val (.ref w_UNKNOWN), .val (.ref w_UNKNOWN), .val (.ref w_YES), .val (.int (1 : Int32)), .val (.int (1 : Int32)), .val (.int (1 : Int32)), .unset] [(.ref w_UNKNOWN), (.ref w_UNKNOWN)]))
  refine own_go (fun t k => XS.aload X61.here hx rfl (hb hby at_153) rfl rfl k) ?_
  show Go p.tables e below _ (T61.setTop (mkF m 155 #[.val (.int p1), .val (.int p2), .val (.ref b), .val (.int (2 : Int32)), .val (.int (1 : Int32)), .val (.ref w_UNKNOWN), .val (.ref w_NO), .val (.ref w_UNKNOWN), .val (.ref w_UNKNOWN), .val (.ref w_YES), .val (.int (1 : Int32)), .val (.int (1 : Int32)), .val (.int (1 : Int32)), .unset] [(.ref w_YES), (.ref w_UNKNOWN), (.ref w_UNKNOWN)]))
  obtain ⟨cq62, kq62, q62a, q62b, q62c⟩ := isOf hZ e61 EH_UNKNOWN
  obtain ⟨v62, _, ⟨T62, L62, k62, n62⟩, -, X62, ⟨Lc62, hQ62, l62, y62, z62⟩, st62⟩ := X61.virtualBack hx (y := (⟨"com/example/casewright/casewright/types/Answer", "and", "(Lcom/example/casewright/casewright/types/Answer;)Lcom/example/casewright/casewright/types/Answer;"⟩ : MethodName)) (z := (⟨"com/example/casewright/casewright/types/Answer", "and", "(Lcom/example/casewright/casewright/types/Answer;)Lcom/example/casewright/casewright/types/Answer;"⟩ : MethodName)) hown (mvT hZ (hw _ (List.mem_of_getElem? (i := 18) rfl))) (mvT hZ (hw _ (List.mem_of_getElem? (i := 19) rfl))) (notFace_of_selects (args := #[]) (mvT hZ (hw _ (List.mem_of_getElem? (i := 21) rfl)))) (mvT hZ (hw _ (List.mem_of_getElem? (i := 21) rfl))) (mvT hZ (hw _ (List.mem_of_getElem? (i := 20) rfl))) (by decide) (backOf (W := 1) (rm_and l Z a0 hw [] w_UNKNOWN w_YES w_YES w_NO w_UNKNOWN h4 n0 SSh) hZ (hw _ (List.mem_of_getElem? (i := 22) rfl)) (hw _ (List.mem_of_getElem? (i := 3) rfl)) (by decide) (by decide)) q62a q62c (g := (mkF m 155 #[.val (.int p1), .val (.int p2), .val (.ref b), .val (.int (2 : Int32)), .val (.int (1 : Int32)), .val (.ref w_UNKNOWN), .val (.ref w_NO), .val (.ref w_UNKNOWN), .val (.ref w_UNKNOWN), .val (.ref w_YES), .val (.int (1 : Int32)), .val (.int (1 : Int32)), .val (.int (1 : Int32)), .unset] [(.ref w_YES), (.ref w_UNKNOWN), (.ref w_UNKNOWN)])) rfl (by rw [hml]; rfl) (Steps.refl _) (argsL := [(.ref w_YES)]) (rest := [(.ref w_UNKNOWN)]) (lenOf pd_1 rfl) rfl (by show 2 * 0 + _ ≤ _; exact Nat.le_of_eq rfl) (hb hby at_155) (fun _ _ => ⟨rfl, e61, (by decide : 0 + 1 + 0 ≤ _), (by decide : 0 + 3 + 0 ≤ _)⟩)
  dsimp only [Pt.U, Pt.locs, Pt.cells, Pt.slots] at X62 l62 y62 z62 st62 hQ62
  subst l62 y62 z62
  obtain ⟨hv62, N62q, e62⟩ := hQ62
  rw [show ((.ref (own_and w_NO w_UNKNOWN w_YES w_UNKNOWN w_YES)) : Value) = (.ref w_UNKNOWN) from by simp [own_and, nUN, nYN, nYU, nUN.symm, nYN.symm, nYU.symm]] at hv62
  subst hv62
  have N62 := Fr.app N61 N62q
  refine own_go (fun t k => st62.trans k) ?_
  show Go p.tables e below _ (T62.setTop (mkF m 158 #[.val (.int p1), .val (.int p2), .val (.ref b), .val (.int (2 : Int32)), .val (.int (1 : Int32)), .val (.ref w_UNKNOWN), .val (.ref w_NO), .val (.ref w_UNKNOWN), .val (.ref w_UNKNOWN), .val (.ref w_YES), .val (.int (1 : Int32)), .val (.int (1 : Int32)), .val (.int (1 : Int32)), .unset] [(.ref w_UNKNOWN), (.ref w_UNKNOWN)]))
  refine own_go (fun t k => XT.acmpNo X62.here hx rfl (hb hby at_158) rfl rfl rfl (XT.aa_ne_f (congrArg Value.ref rfl)) k) ?_
  show Go p.tables e below _ (T62.setTop (mkF m 161 #[.val (.int p1), .val (.int p2), .val (.ref b), .val (.int (2 : Int32)), .val (.int (1 : Int32)), .val (.ref w_UNKNOWN), .val (.ref w_NO), .val (.ref w_UNKNOWN), .val (.ref w_UNKNOWN), .val (.ref w_YES), .val (.int (1 : Int32)), .val (.int (1 : Int32)), .val (.int (1 : Int32)), .unset] []))
  refine own_go (fun t k => XS.iconst X62.here hx rfl (hb hby at_161) k) ?_
  show Go p.tables e below _ (T62.setTop (mkF m 162 #[.val (.int p1), .val (.int p2), .val (.ref b), .val (.int (2 : Int32)), .val (.int (1 : Int32)), .val (.ref w_UNKNOWN), .val (.ref w_NO), .val (.ref w_UNKNOWN), .val (.ref w_UNKNOWN), .val (.ref w_YES), .val (.int (1 : Int32)), .val (.int (1 : Int32)), .val (.int (1 : Int32)), .unset] [(.int (1 : Int32))]))
  refine own_go (fun t k => XS.goto X62.here hx rfl (pc0 := 162) (pc' := 166) rfl (hb hby at_162) (by decide) (by decide) k) ?_
  show Go p.tables e below _ (T62.setTop (mkF m 166 #[.val (.int p1), .val (.int p2), .val (.ref b), .val (.int (2 : Int32)), .val (.int (1 : Int32)), .val (.ref w_UNKNOWN), .val (.ref w_NO), .val (.ref w_UNKNOWN), .val (.ref w_UNKNOWN), .val (.ref w_YES), .val (.int (1 : Int32)), .val (.int (1 : Int32)), .val (.int (1 : Int32)), .unset] [(.int (1 : Int32))]))
  refine own_go (fun t k => XS.istore X62.here hx rfl (hb hby at_166) rfl (l' := #[.val (.int p1), .val (.int p2), .val (.ref b), .val (.int (2 : Int32)), .val (.int (1 : Int32)), .val (.ref w_UNKNOWN), .val (.ref w_NO), .val (.ref w_UNKNOWN), .val (.ref w_UNKNOWN), .val (.ref w_YES), .val (.int (1 : Int32)), .val (.int (1 : Int32)), .val (.int (1 : Int32)), .val (.int (1 : Int32))]) rfl k) ?_
  show Go p.tables e below _ (T62.setTop (mkF m 168 #[.val (.int p1), .val (.int p2), .val (.ref b), .val (.int (2 : Int32)), .val (.int (1 : Int32)), .val (.ref w_UNKNOWN), .val (.ref w_NO), .val (.ref w_UNKNOWN), .val (.ref w_UNKNOWN), .val (.ref w_YES), .val (.int (1 : Int32)), .val (.int (1 : Int32)), .val (.int (1 : Int32)), .val (.int (1 : Int32))] []))
  refine own_go (fun t k => XS.iload X62.here hx rfl (hb hby at_168) rfl k) ?_
  show Go p.tables e below _ (T62.setTop (mkF m 170 #[.val (.int p1), .val (.int p2), .val (.ref b), .val (.int (2 : Int32)), .val (.int (1 : Int32)), .val (.ref w_UNKNOWN), .val (.ref w_NO), .val (.ref w_UNKNOWN), .val (.ref w_UNKNOWN), .val (.ref w_YES), .val (.int (1 : Int32)), .val (.int (1 : Int32)), .val (.int (1 : Int32)), .val (.int (1 : Int32))] [(.int (1 : Int32))]))
  refine own_go (fun t k => XS.ifNo X62.here hx rfl (hb hby at_170) rfl (XT.i0_eq_f (by decide)) k) ?_
  show Go p.tables e below _ (T62.setTop (mkF m 173 #[.val (.int p1), .val (.int p2), .val (.ref b), .val (.int (2 : Int32)), .val (.int (1 : Int32)), .val (.ref w_UNKNOWN), .val (.ref w_NO), .val (.ref w_UNKNOWN), .val (.ref w_UNKNOWN), .val (.ref w_YES), .val (.int (1 : Int32)), .val (.int (1 : Int32)), .val (.int (1 : Int32)), .val (.int (1 : Int32))] []))
  refine own_go (fun t k => XS.iload X62.here hx rfl (hb hby at_173) rfl k) ?_
  show Go p.tables e below _ (T62.setTop (mkF m 175 #[.val (.int p1), .val (.int p2), .val (.ref b), .val (.int (2 : Int32)), .val (.int (1 : Int32)), .val (.ref w_UNKNOWN), .val (.ref w_NO), .val (.ref w_UNKNOWN), .val (.ref w_UNKNOWN), .val (.ref w_YES), .val (.int (1 : Int32)), .val (.int (1 : Int32)), .val (.int (1 : Int32)), .val (.int (1 : Int32))] [(.int (1 : Int32))]))
  refine own_go (fun t k => XS.ifNo X62.here hx rfl (hb hby at_175) rfl (XT.i0_eq_f (by decide)) k) ?_
  show Go p.tables e below _ (T62.setTop (mkF m 178 #[.val (.int p1), .val (.int p2), .val (.ref b), .val (.int (2 : Int32)), .val (.int (1 : Int32)), .val (.ref w_UNKNOWN), .val (.ref w_NO), .val (.ref w_UNKNOWN), .val (.ref w_UNKNOWN), .val (.ref w_YES), .val (.int (1 : Int32)), .val (.int (1 : Int32)), .val (.int (1 : Int32)), .val (.int (1 : Int32))] []))
  refine own_go (fun t k => XS.iload X62.here hx rfl (hb hby at_178) rfl k) ?_
  show Go p.tables e below _ (T62.setTop (mkF m 180 #[.val (.int p1), .val (.int p2), .val (.ref b), .val (.int (2 : Int32)), .val (.int (1 : Int32)), .val (.ref w_UNKNOWN), .val (.ref w_NO), .val (.ref w_UNKNOWN), .val (.ref w_UNKNOWN), .val (.ref w_YES), .val (.int (1 : Int32)), .val (.int (1 : Int32)), .val (.int (1 : Int32)), .val (.int (1 : Int32))] [(.int (1 : Int32))]))
  refine own_go (fun t k => XS.ifNo X62.here hx rfl (hb hby at_180) rfl (XT.i0_eq_f (by decide)) k) ?_
  show Go p.tables e below _ (T62.setTop (mkF m 183 #[.val (.int p1), .val (.int p2), .val (.ref b), .val (.int (2 : Int32)), .val (.int (1 : Int32)), .val (.ref w_UNKNOWN), .val (.ref w_NO), .val (.ref w_UNKNOWN), .val (.ref w_UNKNOWN), .val (.ref w_YES), .val (.int (1 : Int32)), .val (.int (1 : Int32)), .val (.int (1 : Int32)), .val (.int (1 : Int32))] []))
  refine own_go (fun t k => XS.iload X62.here hx rfl (hb hby at_183) rfl k) ?_
  show Go p.tables e below _ (T62.setTop (mkF m 185 #[.val (.int p1), .val (.int p2), .val (.ref b), .val (.int (2 : Int32)), .val (.int (1 : Int32)), .val (.ref w_UNKNOWN), .val (.ref w_NO), .val (.ref w_UNKNOWN), .val (.ref w_UNKNOWN), .val (.ref w_YES), .val (.int (1 : Int32)), .val (.int (1 : Int32)), .val (.int (1 : Int32)), .val (.int (1 : Int32))] [(.int (1 : Int32))]))
  refine own_go (fun t k => XS.ifNo X62.here hx rfl (hb hby at_185) rfl (XT.i0_eq_f (by decide)) k) ?_
  show Go p.tables e below _ (T62.setTop (mkF m 188 #[.val (.int p1), .val (.int p2), .val (.ref b), .val (.int (2 : Int32)), .val (.int (1 : Int32)), .val (.ref w_UNKNOWN), .val (.ref w_NO), .val (.ref w_UNKNOWN), .val (.ref w_UNKNOWN), .val (.ref w_YES), .val (.int (1 : Int32)), .val (.int (1 : Int32)), .val (.int (1 : Int32)), .val (.int (1 : Int32))] []))
  refine own_go (fun t k => XS.iconst X62.here hx rfl (hb hby at_188) k) ?_
  show Go p.tables e below _ (T62.setTop (mkF m 189 #[.val (.int p1), .val (.int p2), .val (.ref b), .val (.int (2 : Int32)), .val (.int (1 : Int32)), .val (.ref w_UNKNOWN), .val (.ref w_NO), .val (.ref w_UNKNOWN), .val (.ref w_UNKNOWN), .val (.ref w_YES), .val (.int (1 : Int32)), .val (.int (1 : Int32)), .val (.int (1 : Int32)), .val (.int (1 : Int32))] [(.int (1 : Int32))]))
  refine own_go (fun t k => XS.goto X62.here hx rfl (pc0 := 189) (pc' := 193) rfl (hb hby at_189) (by decide) (by decide) k) ?_
  show Go p.tables e below _ (T62.setTop (mkF m 193 #[.val (.int p1), .val (.int p2), .val (.ref b), .val (.int (2 : Int32)), .val (.int (1 : Int32)), .val (.ref w_UNKNOWN), .val (.ref w_NO), .val (.ref w_UNKNOWN), .val (.ref w_UNKNOWN), .val (.ref w_YES), .val (.int (1 : Int32)), .val (.int (1 : Int32)), .val (.int (1 : Int32)), .val (.int (1 : Int32))] [(.int (1 : Int32))]))
  exact own_ret X62 hx hlk Bd.returns rfl (Or.inl ⟨rfl, Or.inr (Or.inl rfl), _, rfl⟩) (hb hby at_193) ⟨rfl, N62⟩ (by decide) (by decide)
theorem ef_rm_law_22 (m : MethodId) (x0 : Int32) (x1 : Int32) : entryFrame m #[(.int x0), (.int x1)] maxLocals = mkF m 0 #[.val (.int x0), .val (.int x1), .unset, .unset, .unset, .unset, .unset, .unset, .unset, .unset, .unset, .unset, .unset, .unset] [] := by first | (simp [entryFrame, mkF, argsToLocals, Value.category, maxLocals]; done) | rfl
set_option maxRecDepth 65536 in
set_option maxHeartbeats 40000000 in
theorem rm_law_22 (l : Launch) (Z : State) (a0 : Array Value) (hw : ∀ d ∈ tables_1, d.before a0 Z = true) (ws : List Jvm.Cond) (p1 p2 : Int32) (w_YES w_NO w_UNKNOWN : Addr) (h0 : Heap) (n0 : Nat) (SS : own_S Z h0 w_YES w_NO w_UNKNOWN) (EE : own_E Z h0 w_YES w_NO w_UNKNOWN) (OO : own_O Z h0 w_YES w_NO w_UNKNOWN) (Z0 : n0 ≤ h0.size) (q1 : (p1 &&& 2147483647) % 3 = 2) (q2 : (p2 &&& 2147483647) % 3 = 2) :
    MetFree l x (head1 (Jvm.Cond.code x code maxLocals ret :: ws) room_1) (fun aa U => aa = #[(.int p1), (.int p2)] ∧ Z.Warmed39 U.vm ∧ U.heap = h0) (fun _ _ _ _ _ => True) (fun _ U o U' => ∃ v L, o = .returned v ∧ LQ n0 v U'.heap L ∧ FrameEnd U o U' L room_1.cells room_1.slots) := by
  refine MetFree.of_bodySF (plainFor_of_name pn_1) hisR ?_
  intro p e s m args below meth c s₁ Bd hml0 hP hK
  obtain ⟨rfl, hZ, hh⟩ := hP
  have hx := Bd.exec
  have hby := Bd.bytes
  have hlk := Bd.notSynchronized
  have hml : c.maxLocals = 14 := hml0
  have hown : s.vm.findClass "com/example/casewright/casewright/types/AnswerNotPinLaw" = some m.cls := findClass_of_methodNamed Bd.named
  have X0 : Stand p l e room_1 s m #[(.int p1), (.int p2)] below meth c s₁ [] 0 0 := Stand.of_body Bd
  have e0 : s₁.heap = h0 := by rw [← hh, Bd.state]; rfl
  have N0 := Fr.nil n0
  have SS' := SS
  obtain ⟨S_YES, S_NO, S_UNKNOWN⟩ := SS'
  obtain ⟨E_YES, E_NO, E_UNKNOWN⟩ := EE
  obtain ⟨F_NO_ordinal, F_YES_ordinal, F_UNKNOWN_ordinal⟩ := OO
  have nUN : w_UNKNOWN ≠ w_NO := (own_ne F_UNKNOWN_ordinal F_NO_ordinal (by decide))
  have nYN : w_YES ≠ w_NO := (own_ne F_YES_ordinal F_NO_ordinal (by decide))
  have nYU : w_YES ≠ w_UNKNOWN := (own_ne F_YES_ordinal F_UNKNOWN_ordinal (by decide))
  show Go p.tables e below (Fin s below (LQ n0) room_1.cells room_1.slots) (s₁.setTop (entryFrame m #[(.int p1), (.int p2)] maxLocals))
  refine own_go (fun t k => castTop (ef_rm_law_22 m p1 p2) k) ?_
  show Go p.tables e below _ (s₁.setTop (mkF m 0 #[.val (.int p1), .val (.int p2), .unset, .unset, .unset, .unset, .unset, .unset, .unset, .unset, .unset, .unset, .unset, .unset] []))
  refine own_go (fun t k => XS.iconst X0.here hx rfl (hb hby at_0) k) ?_
  show Go p.tables e below _ (s₁.setTop (mkF m 1 #[.val (.int p1), .val (.int p2), .unset, .unset, .unset, .unset, .unset, .unset, .unset, .unset, .unset, .unset, .unset, .unset] [(.int (3 : Int32))]))
  obtain ⟨T1, h1, kA, X1, e1, Ex1, A1, O1, st1⟩ := newR X0 hx hZ hown (hw _ (List.mem_of_getElem? (i := 0) rfl)) (hw _ (List.mem_of_getElem? (i := 1) rfl)) e0 (g := (mkF m 1 #[.val (.int p1), .val (.int p2), .unset, .unset, .unset, .unset, .unset, .unset, .unset, .unset, .unset, .unset, .unset, .unset] [(.int (3 : Int32))])) rfl (hb hby at_1) rfl (by decide) (cap := 3) (by decide) (by decide) (by decide) (by decide)
  obtain ⟨b, gb⟩ : ∃ z, z = h0.size := ⟨_, rfl⟩
  rw [← gb] at A1 st1
  have hb0 : n0 ≤ b := Nat.le_trans Z0 (Nat.le_of_eq gb.symm)
  have S1_YES := S_YES.ext Ex1
  have E1_YES := E_YES.ext Ex1
  have S1_NO := S_NO.ext Ex1
  have E1_NO := E_NO.ext Ex1
  have S1_UNKNOWN := S_UNKNOWN.ext Ex1
  have E1_UNKNOWN := E_UNKNOWN.ext Ex1
  refine own_go (fun t k => st1 t k) ?_
  show Go p.tables e below _ (T1.setTop (mkF m 4 #[.val (.int p1), .val (.int p2), .unset, .unset, .unset, .unset, .unset, .unset, .unset, .unset, .unset, .unset, .unset, .unset] [(.ref b)]))
  refine own_go (fun t k => XS.dup X1.here hx rfl (hb hby at_4) rfl rfl k) ?_
  show Go p.tables e below _ (T1.setTop (mkF m 5 #[.val (.int p1), .val (.int p2), .unset, .unset, .unset, .unset, .unset, .unset, .unset, .unset, .unset, .unset, .unset, .unset] [(.ref b), (.ref b)]))
  refine own_go (fun t k => XS.iconst X1.here hx rfl (hb hby at_5) k) ?_
  show Go p.tables e below _ (T1.setTop (mkF m 6 #[.val (.int p1), .val (.int p2), .unset, .unset, .unset, .unset, .unset, .unset, .unset, .unset, .unset, .unset, .unset, .unset] [(.int (0 : Int32)), (.ref b), (.ref b)]))
  obtain ⟨T11, X11, e11, st11⟩ := getS2 X1 hx hZ hown (host := "") (Or.inl (hw _ (List.mem_of_getElem? (i := 2) rfl))) Via.refl e1 S1_YES (g := (mkF m 6 #[.val (.int p1), .val (.int p2), .unset, .unset, .unset, .unset, .unset, .unset, .unset, .unset, .unset, .unset, .unset, .unset] [(.int (0 : Int32)), (.ref b), (.ref b)])) rfl (hb hby at_6)
  refine own_go (fun t k => st11 t k) ?_
  show Go p.tables e below _ (T11.setTop (mkF m 9 #[.val (.int p1), .val (.int p2), .unset, .unset, .unset, .unset, .unset, .unset, .unset, .unset, .unset, .unset, .unset, .unset] [(.ref w_YES), (.int (0 : Int32)), (.ref b), (.ref b)]))
  obtain ⟨T2w, h2, X2w, e2w, W2, stw2⟩ := stR X11 hx hZ e11 A1 (j := (0 : Int32)) (by rw [sz_new]; decide) rfl (Sto.of A1 O1 (Ins.self E1_YES)) (g := (mkF m 9 #[.val (.int p1), .val (.int p2), .unset, .unset, .unset, .unset, .unset, .unset, .unset, .unset, .unset, .unset, .unset, .unset] [(.ref w_YES), (.int (0 : Int32)), (.ref b), (.ref b)])) rfl rfl (hb hby at_9)
  have N2w := Fr.snoc X2w N0 hb0
  have A2 := A1.same W2
  have S2_YES := S1_YES.wr W2
  have E2_YES := E1_YES.wr W2
  have S2_NO := S1_NO.wr W2
  have E2_NO := E1_NO.wr W2
  have S2_UNKNOWN := S1_UNKNOWN.wr W2
  have E2_UNKNOWN := E1_UNKNOWN.wr W2
  refine own_go (fun t k => stw2 t k) ?_
  show Go p.tables e below _ (T2w.setTop (mkF m 10 #[.val (.int p1), .val (.int p2), .unset, .unset, .unset, .unset, .unset, .unset, .unset, .unset, .unset, .unset, .unset, .unset] [(.ref b)]))
  refine own_go (fun t k => XS.dup X2w.here hx rfl (hb hby at_10) rfl rfl k) ?_
  show Go p.tables e below _ (T2w.setTop (mkF m 11 #[.val (.int p1), .val (.int p2), .unset, .unset, .unset, .unset, .unset, .unset, .unset, .unset, .unset, .unset, .unset, .unset] [(.ref b), (.ref b)]))
  refine own_go (fun t k => XS.iconst X2w.here hx rfl (hb hby at_11) k) ?_
  show Go p.tables e below _ (T2w.setTop (mkF m 12 #[.val (.int p1), .val (.int p2), .unset, .unset, .unset, .unset, .unset, .unset, .unset, .unset, .unset, .unset, .unset, .unset] [(.int (1 : Int32)), (.ref b), (.ref b)]))
  obtain ⟨T51, X51, e51, st51⟩ := getS2 X2w hx hZ hown (host := "") (Or.inl (hw _ (List.mem_of_getElem? (i := 6) rfl))) Via.refl e2w S2_NO (g := (mkF m 12 #[.val (.int p1), .val (.int p2), .unset, .unset, .unset, .unset, .unset, .unset, .unset, .unset, .unset, .unset, .unset, .unset] [(.int (1 : Int32)), (.ref b), (.ref b)])) rfl (hb hby at_12)
  refine own_go (fun t k => st51 t k) ?_
  show Go p.tables e below _ (T51.setTop (mkF m 15 #[.val (.int p1), .val (.int p2), .unset, .unset, .unset, .unset, .unset, .unset, .unset, .unset, .unset, .unset, .unset, .unset] [(.ref w_NO), (.int (1 : Int32)), (.ref b), (.ref b)]))
  obtain ⟨T3w, h3, X3w, e3w, W3, stw3⟩ := stR X51 hx hZ e51 A2 (j := (1 : Int32)) (by rw [sz_set]; rw [sz_new]; decide) rfl (Sto.of A2 O1 (Ins.self E2_NO)) (g := (mkF m 15 #[.val (.int p1), .val (.int p2), .unset, .unset, .unset, .unset, .unset, .unset, .unset, .unset, .unset, .unset, .unset, .unset] [(.ref w_NO), (.int (1 : Int32)), (.ref b), (.ref b)])) rfl rfl (hb hby at_15)
  have N3w := Fr.snoc X3w N2w hb0
  have A3 := A2.same W3
  have S3_YES := S2_YES.wr W3
  have E3_YES := E2_YES.wr W3
  have S3_NO := S2_NO.wr W3
  have E3_NO := E2_NO.wr W3
  have S3_UNKNOWN := S2_UNKNOWN.wr W3
  have E3_UNKNOWN := E2_UNKNOWN.wr W3
  refine own_go (fun t k => stw3 t k) ?_
  show Go p.tables e below _ (T3w.setTop (mkF m 16 #[.val (.int p1), .val (.int p2), .unset, .unset, .unset, .unset, .unset, .unset, .unset, .unset, .unset, .unset, .unset, .unset] [(.ref b)]))
  refine own_go (fun t k => XS.dup X3w.here hx rfl (hb hby at_16) rfl rfl k) ?_
  show Go p.tables e below _ (T3w.setTop (mkF m 17 #[.val (.int p1), .val (.int p2), .unset, .unset, .unset, .unset, .unset, .unset, .unset, .unset, .unset, .unset, .unset, .unset] [(.ref b), (.ref b)]))
  refine own_go (fun t k => XS.iconst X3w.here hx rfl (hb hby at_17) k) ?_
  show Go p.tables e below _ (T3w.setTop (mkF m 18 #[.val (.int p1), .val (.int p2), .unset, .unset, .unset, .unset, .unset, .unset, .unset, .unset, .unset, .unset, .unset, .unset] [(.int (2 : Int32)), (.ref b), (.ref b)]))
  obtain ⟨T52, X52, e52, st52⟩ := getS2 X3w hx hZ hown (host := "") (Or.inl (hw _ (List.mem_of_getElem? (i := 8) rfl))) Via.refl e3w S3_UNKNOWN (g := (mkF m 18 #[.val (.int p1), .val (.int p2), .unset, .unset, .unset, .unset, .unset, .unset, .unset, .unset, .unset, .unset, .unset, .unset] [(.int (2 : Int32)), (.ref b), (.ref b)])) rfl (hb hby at_18)
  refine own_go (fun t k => st52 t k) ?_
  show Go p.tables e below _ (T52.setTop (mkF m 21 #[.val (.int p1), .val (.int p2), .unset, .unset, .unset, .unset, .unset, .unset, .unset, .unset, .unset, .unset, .unset, .unset] [(.ref w_UNKNOWN), (.int (2 : Int32)), (.ref b), (.ref b)]))
  obtain ⟨T4w, h4, X4w, e4w, W4, stw4⟩ := stR X52 hx hZ e52 A3 (j := (2 : Int32)) (by rw [sz_set]; rw [sz_set]; rw [sz_new]; decide) rfl (Sto.of A3 O1 (Ins.self E3_UNKNOWN)) (g := (mkF m 21 #[.val (.int p1), .val (.int p2), .unset, .unset, .unset, .unset, .unset, .unset, .unset, .unset, .unset, .unset, .unset, .unset] [(.ref w_UNKNOWN), (.int (2 : Int32)), (.ref b), (.ref b)])) rfl rfl (hb hby at_21)
  have N4w := Fr.snoc X4w N3w hb0
  have A4 := A3.same W4
  have S4_YES := S3_YES.wr W4
  have E4_YES := E3_YES.wr W4
  have S4_NO := S3_NO.wr W4
  have E4_NO := E3_NO.wr W4
  have S4_UNKNOWN := S3_UNKNOWN.wr W4
  have E4_UNKNOWN := E3_UNKNOWN.wr W4
  refine own_go (fun t k => stw4 t k) ?_
  show Go p.tables e below _ (T4w.setTop (mkF m 22 #[.val (.int p1), .val (.int p2), .unset, .unset, .unset, .unset, .unset, .unset, .unset, .unset, .unset, .unset, .unset, .unset] [(.ref b)]))
  have SSh : own_S Z h4 w_YES w_NO w_UNKNOWN := ⟨S4_YES, S4_NO, S4_UNKNOWN⟩
  have EH_YES := E4_YES
  have EH_NO := E4_NO
  have EH_UNKNOWN := E4_UNKNOWN
  refine own_go (fun t k => XS.astoreN X4w.here hx rfl (hb hby at_22) rfl rfl (l' := #[.val (.int p1), .val (.int p2), .val (.ref b), .unset, .unset, .unset, .unset, .unset, .unset, .unset, .unset, .unset, .unset, .unset]) rfl k) ?_
  show Go p.tables e below _ (T4w.setTop (mkF m 23 #[.val (.int p1), .val (.int p2), .val (.ref b), .unset, .unset, .unset, .unset, .unset, .unset, .unset, .unset, .unset, .unset, .unset] []))
  refine own_go (fun t k => XS.iloadN X4w.here hx rfl (hb hby at_23) rfl k) ?_
  show Go p.tables e below _ (T4w.setTop (mkF m 24 #[.val (.int p1), .val (.int p2), .val (.ref b), .unset, .unset, .unset, .unset, .unset, .unset, .unset, .unset, .unset, .unset, .unset] [(.int p1)]))
  refine own_go (fun t k => Jvm.Stand.ldcI X4w hx hown (mvT hZ (hw _ (List.mem_of_getElem? (i := 10) rfl))) rfl (hb hby at_24) k) ?_
  show Go p.tables e below _ (T4w.setTop (mkF m 26 #[.val (.int p1), .val (.int p2), .val (.ref b), .unset, .unset, .unset, .unset, .unset, .unset, .unset, .unset, .unset, .unset, .unset] [(.int (2147483647 : Int32)), (.int p1)]))
  refine own_go (fun t k => XS.iand X4w.here hx rfl (hb hby at_26) rfl k) ?_
  show Go p.tables e below _ (T4w.setTop (mkF m 27 #[.val (.int p1), .val (.int p2), .val (.ref b), .unset, .unset, .unset, .unset, .unset, .unset, .unset, .unset, .unset, .unset, .unset] [(.int (p1 &&& (2147483647 : Int32)))]))
  refine own_go (fun t k => XS.iconst X4w.here hx rfl (hb hby at_27) k) ?_
  show Go p.tables e below _ (T4w.setTop (mkF m 28 #[.val (.int p1), .val (.int p2), .val (.ref b), .unset, .unset, .unset, .unset, .unset, .unset, .unset, .unset, .unset, .unset, .unset] [(.int (3 : Int32)), (.int (p1 &&& (2147483647 : Int32)))]))
  refine own_go (fun t k => iremM (g := (mkF m 28 #[.val (.int p1), .val (.int p2), .val (.ref b), .unset, .unset, .unset, .unset, .unset, .unset, .unset, .unset, .unset, .unset, .unset] [(.int (3 : Int32)), (.int (p1 &&& (2147483647 : Int32)))])) X4w hx rfl (hb hby at_28) rfl (by decide) k) ?_
  show Go p.tables e below _ (T4w.setTop (mkF m 29 #[.val (.int p1), .val (.int p2), .val (.ref b), .unset, .unset, .unset, .unset, .unset, .unset, .unset, .unset, .unset, .unset, .unset] [(.int ((p1 &&& (2147483647 : Int32)) % (3 : Int32)))]))
  rw [q1]
  show Go p.tables e below _ (T4w.setTop (mkF m 29 #[.val (.int p1), .val (.int p2), .val (.ref b), .unset, .unset, .unset, .unset, .unset, .unset, .unset, .unset, .unset, .unset, .unset] [(.int (2 : Int32))]))
  refine own_go (fun t k => XS.istoreN X4w.here hx rfl (hb hby at_29) rfl (l' := #[.val (.int p1), .val (.int p2), .val (.ref b), .val (.int (2 : Int32)), .unset, .unset, .unset, .unset, .unset, .unset, .unset, .unset, .unset, .unset]) rfl k) ?_
  show Go p.tables e below _ (T4w.setTop (mkF m 30 #[.val (.int p1), .val (.int p2), .val (.ref b), .val (.int (2 : Int32)), .unset, .unset, .unset, .unset, .unset, .unset, .unset, .unset, .unset, .unset] []))
  refine own_go (fun t k => XS.iloadN X4w.here hx rfl (hb hby at_30) rfl k) ?_
  show Go p.tables e below _ (T4w.setTop (mkF m 31 #[.val (.int p1), .val (.int p2), .val (.ref b), .val (.int (2 : Int32)), .unset, .unset, .unset, .unset, .unset, .unset, .unset, .unset, .unset, .unset] [(.int p2)]))
  refine own_go (fun t k => Jvm.Stand.ldcI X4w hx hown (mvT hZ (hw _ (List.mem_of_getElem? (i := 10) rfl))) rfl (hb hby at_31) k) ?_
  show Go p.tables e below _ (T4w.setTop (mkF m 33 #[.val (.int p1), .val (.int p2), .val (.ref b), .val (.int (2 : Int32)), .unset, .unset, .unset, .unset, .unset, .unset, .unset, .unset, .unset, .unset] [(.int (2147483647 : Int32)), (.int p2)]))
  refine own_go (fun t k => XS.iand X4w.here hx rfl (hb hby at_33) rfl k) ?_
  show Go p.tables e below _ (T4w.setTop (mkF m 34 #[.val (.int p1), .val (.int p2), .val (.ref b), .val (.int (2 : Int32)), .unset, .unset, .unset, .unset, .unset, .unset, .unset, .unset, .unset, .unset] [(.int (p2 &&& (2147483647 : Int32)))]))
  refine own_go (fun t k => XS.iconst X4w.here hx rfl (hb hby at_34) k) ?_
  show Go p.tables e below _ (T4w.setTop (mkF m 35 #[.val (.int p1), .val (.int p2), .val (.ref b), .val (.int (2 : Int32)), .unset, .unset, .unset, .unset, .unset, .unset, .unset, .unset, .unset, .unset] [(.int (3 : Int32)), (.int (p2 &&& (2147483647 : Int32)))]))
  refine own_go (fun t k => iremM (g := (mkF m 35 #[.val (.int p1), .val (.int p2), .val (.ref b), .val (.int (2 : Int32)), .unset, .unset, .unset, .unset, .unset, .unset, .unset, .unset, .unset, .unset] [(.int (3 : Int32)), (.int (p2 &&& (2147483647 : Int32)))])) X4w hx rfl (hb hby at_35) rfl (by decide) k) ?_
  show Go p.tables e below _ (T4w.setTop (mkF m 36 #[.val (.int p1), .val (.int p2), .val (.ref b), .val (.int (2 : Int32)), .unset, .unset, .unset, .unset, .unset, .unset, .unset, .unset, .unset, .unset] [(.int ((p2 &&& (2147483647 : Int32)) % (3 : Int32)))]))
  rw [q2]
  show Go p.tables e below _ (T4w.setTop (mkF m 36 #[.val (.int p1), .val (.int p2), .val (.ref b), .val (.int (2 : Int32)), .unset, .unset, .unset, .unset, .unset, .unset, .unset, .unset, .unset, .unset] [(.int (2 : Int32))]))
  refine own_go (fun t k => XS.istore X4w.here hx rfl (hb hby at_36) rfl (l' := #[.val (.int p1), .val (.int p2), .val (.ref b), .val (.int (2 : Int32)), .val (.int (2 : Int32)), .unset, .unset, .unset, .unset, .unset, .unset, .unset, .unset, .unset]) rfl k) ?_
  show Go p.tables e below _ (T4w.setTop (mkF m 38 #[.val (.int p1), .val (.int p2), .val (.ref b), .val (.int (2 : Int32)), .val (.int (2 : Int32)), .unset, .unset, .unset, .unset, .unset, .unset, .unset, .unset, .unset] []))
  refine own_go (fun t k => XS.aloadN X4w.here hx rfl (hb hby at_38) rfl rfl k) ?_
  show Go p.tables e below _ (T4w.setTop (mkF m 39 #[.val (.int p1), .val (.int p2), .val (.ref b), .val (.int (2 : Int32)), .val (.int (2 : Int32)), .unset, .unset, .unset, .unset, .unset, .unset, .unset, .unset, .unset] [(.ref b)]))
  refine own_go (fun t k => XS.iloadN X4w.here hx rfl (hb hby at_39) rfl k) ?_
  show Go p.tables e below _ (T4w.setTop (mkF m 40 #[.val (.int p1), .val (.int p2), .val (.ref b), .val (.int (2 : Int32)), .val (.int (2 : Int32)), .unset, .unset, .unset, .unset, .unset, .unset, .unset, .unset, .unset] [(.int (2 : Int32)), (.ref b)]))
  refine own_go (fun t k => X4w.aaload hx (j := (2 : Int32)) (v := (.ref w_UNKNOWN)) (by rw [e4w]; exact A4.1) (State.isArrayOf_alike hZ.alike A4.2.1) rfl A4.2.2 (by rw [sz_set, sz_set, sz_set, sz_new]; decide) rfl (g := (mkF m 40 #[.val (.int p1), .val (.int p2), .val (.ref b), .val (.int (2 : Int32)), .val (.int (2 : Int32)), .unset, .unset, .unset, .unset, .unset, .unset, .unset, .unset, .unset] [(.int (2 : Int32)), (.ref b)])) rfl rfl (hb hby at_40) t k) ?_
  show Go p.tables e below _ (T4w.setTop (mkF m 41 #[.val (.int p1), .val (.int p2), .val (.ref b), .val (.int (2 : Int32)), .val (.int (2 : Int32)), .unset, .unset, .unset, .unset, .unset, .unset, .unset, .unset, .unset] [(.ref w_UNKNOWN)]))
  refine own_go (fun t k => XS.astore X4w.here hx rfl (hb hby at_41) rfl rfl (l' := #[.val (.int p1), .val (.int p2), .val (.ref b), .val (.int (2 : Int32)), .val (.int (2 : Int32)), .val (.ref w_UNKNOWN), .unset, .unset, .unset, .unset, .unset, .unset, .unset, .unset]) rfl k) ?_
  show Go p.tables e below _ (T4w.setTop (mkF m 43 #[.val (.int p1), .val (.int p2), .val (.ref b), .val (.int (2 : Int32)), .val (.int (2 : Int32)), .val (.ref w_UNKNOWN), .unset, .unset, .unset, .unset, .unset, .unset, .unset, .unset] []))
  refine own_go (fun t k => XS.aloadN X4w.here hx rfl (hb hby at_43) rfl rfl k) ?_
  show Go p.tables e below _ (T4w.setTop (mkF m 44 #[.val (.int p1), .val (.int p2), .val (.ref b), .val (.int (2 : Int32)), .val (.int (2 : Int32)), .val (.ref w_UNKNOWN), .unset, .unset, .unset, .unset, .unset, .unset, .unset, .unset] [(.ref b)]))
  refine own_go (fun t k => XS.iload X4w.here hx rfl (hb hby at_44) rfl k) ?_
  show Go p.tables e below _ (T4w.setTop (mkF m 46 #[.val (.int p1), .val (.int p2), .val (.ref b), .val (.int (2 : Int32)), .val (.int (2 : Int32)), .val (.ref w_UNKNOWN), .unset, .unset, .unset, .unset, .unset, .unset, .unset, .unset] [(.int (2 : Int32)), (.ref b)]))
  refine own_go (fun t k => X4w.aaload hx (j := (2 : Int32)) (v := (.ref w_UNKNOWN)) (by rw [e4w]; exact A4.1) (State.isArrayOf_alike hZ.alike A4.2.1) rfl A4.2.2 (by rw [sz_set, sz_set, sz_set, sz_new]; decide) rfl (g := (mkF m 46 #[.val (.int p1), .val (.int p2), .val (.ref b), .val (.int (2 : Int32)), .val (.int (2 : Int32)), .val (.ref w_UNKNOWN), .unset, .unset, .unset, .unset, .unset, .unset, .unset, .unset] [(.int (2 : Int32)), (.ref b)])) rfl rfl (hb hby at_46) t k) ?_
  show Go p.tables e below _ (T4w.setTop (mkF m 47 #[.val (.int p1), .val (.int p2), .val (.ref b), .val (.int (2 : Int32)), .val (.int (2 : Int32)), .val (.ref w_UNKNOWN), .unset, .unset, .unset, .unset, .unset, .unset, .unset, .unset] [(.ref w_UNKNOWN)]))
  refine own_go (fun t k => XS.astore X4w.here hx rfl (hb hby at_47) rfl rfl (l' := #[.val (.int p1), .val (.int p2), .val (.ref b), .val (.int (2 : Int32)), .val (.int (2 : Int32)), .val (.ref w_UNKNOWN), .val (.ref w_UNKNOWN), .unset, .unset, .unset, .unset, .unset, .unset, .unset]) rfl k) ?_
  show Go p.tables e below _ (T4w.setTop (mkF m 49 #[.val (.int p1), .val (.int p2), .val (.ref b), .val (.int (2 : Int32)), .val (.int (2 : Int32)), .val (.ref w_UNKNOWN), .val (.ref w_UNKNOWN), .unset, .unset, .unset, .unset, .unset, .unset, .unset] []))
  refine own_go (fun t k => XS.iloadN X4w.here hx rfl (hb hby at_49) rfl k) ?_
  show Go p.tables e below _ (T4w.setTop (mkF m 50 #[.val (.int p1), .val (.int p2), .val (.ref b), .val (.int (2 : Int32)), .val (.int (2 : Int32)), .val (.ref w_UNKNOWN), .val (.ref w_UNKNOWN), .unset, .unset, .unset, .unset, .unset, .unset, .unset] [(.int (2 : Int32))]))
  refine own_go (fun t k => XS.iconst X4w.here hx rfl (hb hby at_50) k) ?_
  show Go p.tables e below _ (T4w.setTop (mkF m 51 #[.val (.int p1), .val (.int p2), .val (.ref b), .val (.int (2 : Int32)), .val (.int (2 : Int32)), .val (.ref w_UNKNOWN), .val (.ref w_UNKNOWN), .unset, .unset, .unset, .unset, .unset, .unset, .unset] [(.int (2 : Int32)), (.int (2 : Int32))]))
  refine own_go (fun t k => XS.icmpNo X4w.here hx rfl (hb hby at_51) rfl (XT.ii_ne_f (by decide)) k) ?_
  show Go p.tables e below _ (T4w.setTop (mkF m 54 #[.val (.int p1), .val (.int p2), .val (.ref b), .val (.int (2 : Int32)), .val (.int (2 : Int32)), .val (.ref w_UNKNOWN), .val (.ref w_UNKNOWN), .unset, .unset, .unset, .unset, .unset, .unset, .unset] []))
  obtain ⟨T53, X53, e53, st53⟩ := getS2 X4w hx hZ hown (host := "") (Or.inl (hw _ (List.mem_of_getElem? (i := 8) rfl))) Via.refl e4w S4_UNKNOWN (g := (mkF m 54 #[.val (.int p1), .val (.int p2), .val (.ref b), .val (.int (2 : Int32)), .val (.int (2 : Int32)), .val (.ref w_UNKNOWN), .val (.ref w_UNKNOWN), .unset, .unset, .unset, .unset, .unset, .unset, .unset] [])) rfl (hb hby at_54)
  refine own_go (fun t k => st53 t k) ?_
  show Go p.tables e below _ (T53.setTop (mkF m 57 #[.val (.int p1), .val (.int p2), .val (.ref b), .val (.int (2 : Int32)), .val (.int (2 : Int32)), .val (.ref w_UNKNOWN), .val (.ref w_UNKNOWN), .unset, .unset, .unset, .unset, .unset, .unset, .unset] [(.ref w_UNKNOWN)]))
  refine own_go (fun t k => XS.astore X53.here hx rfl (hb hby at_57) rfl rfl (l' := #[.val (.int p1), .val (.int p2), .val (.ref b), .val (.int (2 : Int32)), .val (.int (2 : Int32)), .val (.ref w_UNKNOWN), .val (.ref w_UNKNOWN), .val (.ref w_UNKNOWN), .unset, .unset, .unset, .unset, .unset, .unset]) rfl k) ?_
  show Go p.tables e below _ (T53.setTop (mkF m 59 #[.val (.int p1), .val (.int p2), .val (.ref b), .val (.int (2 : Int32)), .val (.int (2 : Int32)), .val (.ref w_UNKNOWN), .val (.ref w_UNKNOWN), .val (.ref w_UNKNOWN), .unset, .unset, .unset, .unset, .unset, .unset] []))
  refine own_go (fun t k => XS.goto X53.here hx rfl (pc0 := 59) (pc' := 69) rfl (hb hby at_59) (by decide) (by decide) k) ?_
  show Go p.tables e below _ (T53.setTop (mkF m 69 #[.val (.int p1), .val (.int p2), .val (.ref b), .val (.int (2 : Int32)), .val (.int (2 : Int32)), .val (.ref w_UNKNOWN), .val (.ref w_UNKNOWN), .val (.ref w_UNKNOWN), .unset, .unset, .unset, .unset, .unset, .unset] []))
  refine own_go (fun t k => XS.aload X53.here hx rfl (hb hby at_69) rfl rfl k) ?_
  show Go p.tables e below _ (T53.setTop (mkF m 71 #[.val (.int p1), .val (.int p2), .val (.ref b), .val (.int (2 : Int32)), .val (.int (2 : Int32)), .val (.ref w_UNKNOWN), .val (.ref w_UNKNOWN), .val (.ref w_UNKNOWN), .unset, .unset, .unset, .unset, .unset, .unset] [(.ref w_UNKNOWN)]))
  obtain ⟨cq54, kq54, q54a, q54b, q54c⟩ := isOf hZ e53 EH_UNKNOWN
  obtain ⟨v54, _, ⟨T54, L54, k54, n54⟩, -, X54, ⟨Lc54, hQ54, l54, y54, z54⟩, st54⟩ := X53.virtualBack hx (y := (⟨"com/example/casewright/casewright/types/Answer", "not", "()Lcom/example/casewright/casewright/types/Answer;"⟩ : MethodName)) (z := (⟨"com/example/casewright/casewright/types/Answer", "not", "()Lcom/example/casewright/casewright/types/Answer;"⟩ : MethodName)) hown (mvT hZ (hw _ (List.mem_of_getElem? (i := 11) rfl))) (mvT hZ (hw _ (List.mem_of_getElem? (i := 12) rfl))) (notFace_of_selects (args := #[]) (mvT hZ (hw _ (List.mem_of_getElem? (i := 14) rfl)))) (mvT hZ (hw _ (List.mem_of_getElem? (i := 14) rfl))) (mvT hZ (hw _ (List.mem_of_getElem? (i := 13) rfl))) (by decide) (backOf (W := 0) (rm_not l Z a0 hw [] w_UNKNOWN w_YES w_NO w_UNKNOWN h4 n0 SSh) hZ (hw _ (List.mem_of_getElem? (i := 15) rfl)) (hw _ (List.mem_of_getElem? (i := 3) rfl)) (by decide) (by decide)) q54a q54c (g := (mkF m 71 #[.val (.int p1), .val (.int p2), .val (.ref b), .val (.int (2 : Int32)), .val (.int (2 : Int32)), .val (.ref w_UNKNOWN), .val (.ref w_UNKNOWN), .val (.ref w_UNKNOWN), .unset, .unset, .unset, .unset, .unset, .unset] [(.ref w_UNKNOWN)])) rfl (by rw [hml]; rfl) (Steps.refl _) (argsL := []) (rest := []) (lenOf pd_0 rfl) rfl (by show 2 * 0 + _ ≤ _; exact Nat.le_of_eq rfl) (hb hby at_71) (fun _ _ => ⟨rfl, e53, (by decide : 0 + 1 + 0 ≤ _), (by decide : 0 + 3 + 0 ≤ _)⟩)
  dsimp only [Pt.U, Pt.locs, Pt.cells, Pt.slots] at X54 l54 y54 z54 st54 hQ54
  subst l54 y54 z54
  obtain ⟨hv54, N54q, e54⟩ := hQ54
  rw [show ((.ref (own_not w_NO w_UNKNOWN w_YES w_UNKNOWN)) : Value) = (.ref w_UNKNOWN) from by simp [own_not, nUN, nYN, nYU, nUN.symm, nYN.symm, nYU.symm]] at hv54
  subst hv54
  have N54 := Fr.app N4w N54q
  refine own_go (fun t k => st54.trans k) ?_
  show Go p.tables e below _ (T54.setTop (mkF m 74 #[.val (.int p1), .val (.int p2), .val (.ref b), .val (.int (2 : Int32)), .val (.int (2 : Int32)), .val (.ref w_UNKNOWN), .val (.ref w_UNKNOWN), .val (.ref w_UNKNOWN), .unset, .unset, .unset, .unset, .unset, .unset] [(.ref w_UNKNOWN)]))
  refine own_go (fun t k => XS.astore X54.here hx rfl (hb hby at_74) rfl rfl (l' := #[.val (.int p1), .val (.int p2), .val (.ref b), .val (.int (2 : Int32)), .val (.int (2 : Int32)), .val (.ref w_UNKNOWN), .val (.ref w_UNKNOWN), .val (.ref w_UNKNOWN), .val (.ref w_UNKNOWN), .unset, .unset, .unset, .unset, .unset]) rfl k) ?_
  show Go p.tables e below _ (T54.setTop (mkF m 76 #[.val (.int p1), .val (.int p2), .val (.ref b), .val (.int (2 : Int32)), .val (.int (2 : Int32)), .val (.ref w_UNKNOWN), .val (.ref w_UNKNOWN), .val (.ref w_UNKNOWN), .val (.ref w_UNKNOWN), .unset, .unset, .unset, .unset, .unset] []))
  refine own_go (fun t k => XS.aload X54.here hx rfl (hb hby at_76) rfl rfl k) ?_
  show Go p.tables e below _ (T54.setTop (mkF m 78 #[.val (.int p1), .val (.int p2), .val (.ref b), .val (.int (2 : Int32)), .val (.int (2 : Int32)), .val (.ref w_UNKNOWN), .val (.ref w_UNKNOWN), .val (.ref w_UNKNOWN), .val (.ref w_UNKNOWN), .unset, .unset, .unset, .unset, .unset] [(.ref w_UNKNOWN)]))
  obtain ⟨cq55, kq55, q55a, q55b, q55c⟩ := isOf hZ e54 EH_UNKNOWN
  obtain ⟨v55, _, ⟨T55, L55, k55, n55⟩, -, X55, ⟨Lc55, hQ55, l55, y55, z55⟩, st55⟩ := X54.virtualBack hx (y := (⟨"com/example/casewright/casewright/types/Answer", "not", "()Lcom/example/casewright/casewright/types/Answer;"⟩ : MethodName)) (z := (⟨"com/example/casewright/casewright/types/Answer", "not", "()Lcom/example/casewright/casewright/types/Answer;"⟩ : MethodName)) hown (mvT hZ (hw _ (List.mem_of_getElem? (i := 11) rfl))) (mvT hZ (hw _ (List.mem_of_getElem? (i := 12) rfl))) (notFace_of_selects (args := #[]) (mvT hZ (hw _ (List.mem_of_getElem? (i := 14) rfl)))) (mvT hZ (hw _ (List.mem_of_getElem? (i := 14) rfl))) (mvT hZ (hw _ (List.mem_of_getElem? (i := 13) rfl))) (by decide) (backOf (W := 0) (rm_not l Z a0 hw [] w_UNKNOWN w_YES w_NO w_UNKNOWN h4 n0 SSh) hZ (hw _ (List.mem_of_getElem? (i := 15) rfl)) (hw _ (List.mem_of_getElem? (i := 3) rfl)) (by decide) (by decide)) q55a q55c (g := (mkF m 78 #[.val (.int p1), .val (.int p2), .val (.ref b), .val (.int (2 : Int32)), .val (.int (2 : Int32)), .val (.ref w_UNKNOWN), .val (.ref w_UNKNOWN), .val (.ref w_UNKNOWN), .val (.ref w_UNKNOWN), .unset, .unset, .unset, .unset, .unset] [(.ref w_UNKNOWN)])) rfl (by rw [hml]; rfl) (Steps.refl _) (argsL := []) (rest := []) (lenOf pd_0 rfl) rfl (by show 2 * 0 + _ ≤ _; exact Nat.le_of_eq rfl) (hb hby at_78) (fun _ _ => ⟨rfl, e54, (by decide : 0 + 1 + 0 ≤ _), (by decide : 0 + 3 + 0 ≤ _)⟩)
  dsimp only [Pt.U, Pt.locs, Pt.cells, Pt.slots] at X55 l55 y55 z55 st55 hQ55
  subst l55 y55 z55
  obtain ⟨hv55, N55q, e55⟩ := hQ55
  rw [show ((.ref (own_not w_NO w_UNKNOWN w_YES w_UNKNOWN)) : Value) = (.ref w_UNKNOWN) from by simp [own_not, nUN, nYN, nYU, nUN.symm, nYN.symm, nYU.symm]] at hv55
  subst hv55
  have N55 := Fr.app N54 N55q
  refine own_go (fun t k => st55.trans k) ?_
  show Go p.tables e below _ (T55.setTop (mkF m 81 #[.val (.int p1), .val (.int p2), .val (.ref b), .val (.int (2 : Int32)), .val (.int (2 : Int32)), .val (.ref w_UNKNOWN), .val (.ref w_UNKNOWN), .val (.ref w_UNKNOWN), .val (.ref w_UNKNOWN), .unset, .unset, .unset, .unset, .unset] [(.ref w_UNKNOWN)]))
  refine own_go (fun t k => XS.astore X55.here hx rfl (hb hby at_81) rfl rfl (l' := #[.val (.int p1), .val (.int p2), .val (.ref b), .val (.int (2 : Int32)), .val (.int (2 : Int32)), .val (.ref w_UNKNOWN), .val (.ref w_UNKNOWN), .val (.ref w_UNKNOWN), .val (.ref w_UNKNOWN), .val (.ref w_UNKNOWN), .unset, .unset, .unset, .unset]) rfl k) ?_
  show Go p.tables e below _ (T55.setTop (mkF m 83 #[.val (.int p1), .val (.int p2), .val (.ref b), .val (.int (2 : Int32)), .val (.int (2 : Int32)), .val (.ref w_UNKNOWN), .val (.ref w_UNKNOWN), .val (.ref w_UNKNOWN), .val (.ref w_UNKNOWN), .val (.ref w_UNKNOWN), .unset, .unset, .unset, .unset] []))
  refine own_go (fun t k => XS.aload X55.here hx rfl (hb hby at_83) rfl rfl k) ?_
  show Go p.tables e below _ (T55.setTop (mkF m 85 #[.val (.int p1), .val (.int p2), .val (.ref b), .val (.int (2 : Int32)), .val (.int (2 : Int32)), .val (.ref w_UNKNOWN), .val (.ref w_UNKNOWN), .val (.ref w_UNKNOWN), .val (.ref w_UNKNOWN), .val (.ref w_UNKNOWN), .unset, .unset, .unset, .unset] [(.ref w_UNKNOWN)]))
  refine own_go (fun t k => XS.aload X55.here hx rfl (hb hby at_85) rfl rfl k) ?_
  show Go p.tables e below _ (T55.setTop (mkF m 87 #[.val (.int p1), .val (.int p2), .val (.ref b), .val (.int (2 : Int32)), .val (.int (2 : Int32)), .val (.ref w_UNKNOWN), .val (.ref w_UNKNOWN), .val (.ref w_UNKNOWN), .val (.ref w_UNKNOWN), .val (.ref w_UNKNOWN), .unset, .unset, .unset, .unset] [(.ref w_UNKNOWN), (.ref w_UNKNOWN)]))
  refine own_go (fun t k => XT.acmpNo X55.here hx rfl (hb hby at_87) rfl rfl rfl (XT.aa_ne_f (congrArg Value.ref rfl)) k) ?_
  show Go p.tables e below _ (T55.setTop (mkF m 90 #[.val (.int p1), .val (.int p2), .val (.ref b), .val (.int (2 : Int32)), .val (.int (2 : Int32)), .val (.ref w_UNKNOWN), .val (.ref w_UNKNOWN), .val (.ref w_UNKNOWN), .val (.ref w_UNKNOWN), .val (.ref w_UNKNOWN), .unset, .unset, .unset, .unset] []))
  refine own_go (fun t k => XS.iconst X55.here hx rfl (hb hby at_90) k) ?_
  show Go p.tables e below _ (T55.setTop (mkF m 91 #[.val (.int p1), .val (.int p2), .val (.ref b), .val (.int (2 : Int32)), .val (.int (2 : Int32)), .val (.ref w_UNKNOWN), .val (.ref w_UNKNOWN), .val (.ref w_UNKNOWN), .val (.ref w_UNKNOWN), .val (.ref w_UNKNOWN), .unset, .unset, .unset, .unset] [(.int (1 : Int32))]))
  refine own_go (fun t k => XS.goto X55.here hx rfl (pc0 := 91) (pc' := 95) rfl (hb hby at_91) (by decide) (by decide) k) ?_
  show Go p.tables e below _ (T55.setTop (mkF m 95 #[.val (.int p1), .val (.int p2), .val (.ref b), .val (.int (2 : Int32)), .val (.int (2 : Int32)), .val (.ref w_UNKNOWN), .val (.ref w_UNKNOWN), .val (.ref w_UNKNOWN), .val (.ref w_UNKNOWN), .val (.ref w_UNKNOWN), .unset, .unset, .unset, .unset] [(.int (1 : Int32))]))
  refine own_go (fun t k => XS.istore X55.here hx rfl (hb hby at_95) rfl (l' := #[.val (.int p1), .val (.int p2), .val (.ref b), .val (.int (2 : Int32)), .val (.int (2 : Int32)), .val (.ref w_UNKNOWN), .val (.ref w_UNKNOWN), .val (.ref w_UNKNOWN), .val (.ref w_UNKNOWN), .val (.ref w_UNKNOWN), .val (.int (1 : Int32)), .unset, .unset, .unset]) rfl k) ?_
  show Go p.tables e below _ (T55.setTop (mkF m 97 #[.val (.int p1), .val (.int p2), .val (.ref b), .val (.int (2 : Int32)), .val (.int (2 : Int32)), .val (.ref w_UNKNOWN), .val (.ref w_UNKNOWN), .val (.ref w_UNKNOWN), .val (.ref w_UNKNOWN), .val (.ref w_UNKNOWN), .val (.int (1 : Int32)), .unset, .unset, .unset] []))
  refine own_go (fun t k => XS.aload X55.here hx rfl (hb hby at_97) rfl rfl k) ?_
  show Go p.tables e below _ (T55.setTop (mkF m 99 #[.val (.int p1), .val (.int p2), .val (.ref b), .val (.int (2 : Int32)), .val (.int (2 : Int32)), .val (.ref w_UNKNOWN), .val (.ref w_UNKNOWN), .val (.ref w_UNKNOWN), .val (.ref w_UNKNOWN), .val (.ref w_UNKNOWN), .val (.int (1 : Int32)), .unset, .unset, .unset] [(.ref w_UNKNOWN)]))
  obtain ⟨cq56, kq56, q56a, q56b, q56c⟩ := isOf hZ e55 EH_UNKNOWN
  obtain ⟨v56, _, ⟨T56, L56, k56, n56⟩, -, X56, ⟨Lc56, hQ56, l56, y56, z56⟩, st56⟩ := X55.virtualBack hx (y := (⟨"com/example/casewright/casewright/types/Answer", "not", "()Lcom/example/casewright/casewright/types/Answer;"⟩ : MethodName)) (z := (⟨"com/example/casewright/casewright/types/Answer", "not", "()Lcom/example/casewright/casewright/types/Answer;"⟩ : MethodName)) hown (mvT hZ (hw _ (List.mem_of_getElem? (i := 11) rfl))) (mvT hZ (hw _ (List.mem_of_getElem? (i := 12) rfl))) (notFace_of_selects (args := #[]) (mvT hZ (hw _ (List.mem_of_getElem? (i := 14) rfl)))) (mvT hZ (hw _ (List.mem_of_getElem? (i := 14) rfl))) (mvT hZ (hw _ (List.mem_of_getElem? (i := 13) rfl))) (by decide) (backOf (W := 0) (rm_not l Z a0 hw [] w_UNKNOWN w_YES w_NO w_UNKNOWN h4 n0 SSh) hZ (hw _ (List.mem_of_getElem? (i := 15) rfl)) (hw _ (List.mem_of_getElem? (i := 3) rfl)) (by decide) (by decide)) q56a q56c (g := (mkF m 99 #[.val (.int p1), .val (.int p2), .val (.ref b), .val (.int (2 : Int32)), .val (.int (2 : Int32)), .val (.ref w_UNKNOWN), .val (.ref w_UNKNOWN), .val (.ref w_UNKNOWN), .val (.ref w_UNKNOWN), .val (.ref w_UNKNOWN), .val (.int (1 : Int32)), .unset, .unset, .unset] [(.ref w_UNKNOWN)])) rfl (by rw [hml]; rfl) (Steps.refl _) (argsL := []) (rest := []) (lenOf pd_0 rfl) rfl (by show 2 * 0 + _ ≤ _; exact Nat.le_of_eq rfl) (hb hby at_99) (fun _ _ => ⟨rfl, e55, (by decide : 0 + 1 + 0 ≤ _), (by decide : 0 + 3 + 0 ≤ _)⟩)
  dsimp only [Pt.U, Pt.locs, Pt.cells, Pt.slots] at X56 l56 y56 z56 st56 hQ56
  subst l56 y56 z56
  obtain ⟨hv56, N56q, e56⟩ := hQ56
  rw [show ((.ref (own_not w_NO w_UNKNOWN w_YES w_UNKNOWN)) : Value) = (.ref w_UNKNOWN) from by simp [own_not, nUN, nYN, nYU, nUN.symm, nYN.symm, nYU.symm]] at hv56
  subst hv56
  have N56 := Fr.app N55 N56q
  refine own_go (fun t k => st56.trans k) ?_
  show Go p.tables e below _ (T56.setTop (mkF m 102 #[.val (.int p1), .val (.int p2), .val (.ref b), .val (.int (2 : Int32)), .val (.int (2 : Int32)), .val (.ref w_UNKNOWN), .val (.ref w_UNKNOWN), .val (.ref w_UNKNOWN), .val (.ref w_UNKNOWN), .val (.ref w_UNKNOWN), .val (.int (1 : Int32)), .unset, .unset, .unset] [(.ref w_UNKNOWN)]))
  refine own_go (fun t k => XS.aload X56.here hx rfl (hb hby at_102) rfl rfl k) ?_
  show Go p.tables e below _ (T56.setTop (mkF m 104 #[.val (.int p1), .val (.int p2), .val (.ref b), .val (.int (2 : Int32)), .val (.int (2 : Int32)), .val (.ref w_UNKNOWN), .val (.ref w_UNKNOWN), .val (.ref w_UNKNOWN), .val (.ref w_UNKNOWN), .val (.ref w_UNKNOWN), .val (.int (1 : Int32)), .unset, .unset, .unset] [(.ref w_UNKNOWN), (.ref w_UNKNOWN)]))
  refine own_go (fun t k => XT.acmpNo X56.here hx rfl (hb hby at_104) rfl rfl rfl (XT.aa_ne_f (congrArg Value.ref rfl)) k) ?_
  show Go p.tables e below _ (T56.setTop (mkF m 107 #[.val (.int p1), .val (.int p2), .val (.ref b), .val (.int (2 : Int32)), .val (.int (2 : Int32)), .val (.ref w_UNKNOWN), .val (.ref w_UNKNOWN), .val (.ref w_UNKNOWN), .val (.ref w_UNKNOWN), .val (.ref w_UNKNOWN), .val (.int (1 : Int32)), .unset, .unset, .unset] []))
  refine own_go (fun t k => XS.iconst X56.here hx rfl (hb hby at_107) k) ?_
  show Go p.tables e below _ (T56.setTop (mkF m 108 #[.val (.int p1), .val (.int p2), .val (.ref b), .val (.int (2 : Int32)), .val (.int (2 : Int32)), .val (.ref w_UNKNOWN), .val (.ref w_UNKNOWN), .val (.ref w_UNKNOWN), .val (.ref w_UNKNOWN), .val (.ref w_UNKNOWN), .val (.int (1 : Int32)), .unset, .unset, .unset] [(.int (1 : Int32))]))
  refine own_go (fun t k => XS.goto X56.here hx rfl (pc0 := 108) (pc' := 112) rfl (hb hby at_108) (by decide) (by decide) k) ?_
  show Go p.tables e below _ (T56.setTop (mkF m 112 #[.val (.int p1), .val (.int p2), .val (.ref b), .val (.int (2 : Int32)), .val (.int (2 : Int32)), .val (.ref w_UNKNOWN), .val (.ref w_UNKNOWN), .val (.ref w_UNKNOWN), .val (.ref w_UNKNOWN), .val (.ref w_UNKNOWN), .val (.int (1 : Int32)), .unset, .unset, .unset] [(.int (1 : Int32))]))
  refine own_go (fun t k => XS.istore X56.here hx rfl (hb hby at_112) rfl (l' := #[.val (.int p1), .val (.int p2), .val (.ref b), .val (.int (2 : Int32)), .val (.int (2 : Int32)), .val (.ref w_UNKNOWN), .val (.ref w_UNKNOWN), .val (.ref w_UNKNOWN), .val (.ref w_UNKNOWN), .val (.ref w_UNKNOWN), .val (.int (1 : Int32)), .val (.int (1 : Int32)), .unset, .unset]) rfl k) ?_
  show Go p.tables e below _ (T56.setTop (mkF m 114 #[.val (.int p1), .val (.int p2), .val (.ref b), .val (.int (2 : Int32)), .val (.int (2 : Int32)), .val (.ref w_UNKNOWN), .val (.ref w_UNKNOWN), .val (.ref w_UNKNOWN), .val (.ref w_UNKNOWN), .val (.ref w_UNKNOWN), .val (.int (1 : Int32)), .val (.int (1 : Int32)), .unset, .unset] []))
  refine own_go (fun t k => XS.aload X56.here hx rfl (hb hby at_114) rfl rfl k) ?_
  show Go p.tables e below _ (T56.setTop (mkF m 116 #[.val (.int p1), .val (.int p2), .val (.ref b), .val (.int (2 : Int32)), .val (.int (2 : Int32)), .val (.ref w_UNKNOWN), .val (.ref w_UNKNOWN), .val (.ref w_UNKNOWN), .val (.ref w_UNKNOWN), .val (.ref w_UNKNOWN), .val (.int (1 : Int32)), .val (.int (1 : Int32)), .unset, .unset] [(.ref w_UNKNOWN)]))
  refine own_go (fun t k => XS.aload X56.here hx rfl (hb hby at_116) rfl rfl k) ?_
  show Go p.tables e below _ (T56.setTop (mkF m 118 #[.val (.int p1), .val (.int p2), .val (.ref b), .val (.int (2 : Int32)), .val (.int (2 : Int32)), .val (.ref w_UNKNOWN), .val (.ref w_UNKNOWN), .val (.ref w_UNKNOWN), .val (.ref w_UNKNOWN), .val (.ref w_UNKNOWN), .val (.int (1 : Int32)), .val (.int (1 : Int32)), .unset, .unset] [(.ref w_UNKNOWN), (.ref w_UNKNOWN)]))
  obtain ⟨cq57, kq57, q57a, q57b, q57c⟩ := isOf hZ e56 EH_UNKNOWN
  obtain ⟨v57, _, ⟨T57, L57, k57, n57⟩, -, X57, ⟨Lc57, hQ57, l57, y57, z57⟩, st57⟩ := X56.virtualBack hx (y := (⟨"com/example/casewright/casewright/types/Answer", "and", "(Lcom/example/casewright/casewright/types/Answer;)Lcom/example/casewright/casewright/types/Answer;"⟩ : MethodName)) (z := (⟨"com/example/casewright/casewright/types/Answer", "and", "(Lcom/example/casewright/casewright/types/Answer;)Lcom/example/casewright/casewright/types/Answer;"⟩ : MethodName)) hown (mvT hZ (hw _ (List.mem_of_getElem? (i := 18) rfl))) (mvT hZ (hw _ (List.mem_of_getElem? (i := 19) rfl))) (notFace_of_selects (args := #[]) (mvT hZ (hw _ (List.mem_of_getElem? (i := 21) rfl)))) (mvT hZ (hw _ (List.mem_of_getElem? (i := 21) rfl))) (mvT hZ (hw _ (List.mem_of_getElem? (i := 20) rfl))) (by decide) (backOf (W := 0) (rm_and l Z a0 hw [] w_UNKNOWN w_UNKNOWN w_YES w_NO w_UNKNOWN h4 n0 SSh) hZ (hw _ (List.mem_of_getElem? (i := 22) rfl)) (hw _ (List.mem_of_getElem? (i := 3) rfl)) (by decide) (by decide)) q57a q57c (g := (mkF m 118 #[.val (.int p1), .val (.int p2), .val (.ref b), .val (.int (2 : Int32)), .val (.int (2 : Int32)), .val (.ref w_UNKNOWN), .val (.ref w_UNKNOWN), .val (.ref w_UNKNOWN), .val (.ref w_UNKNOWN), .val (.ref w_UNKNOWN), .val (.int (1 : Int32)), .val (.int (1 : Int32)), .unset, .unset] [(.ref w_UNKNOWN), (.ref w_UNKNOWN)])) rfl (by rw [hml]; rfl) (Steps.refl _) (argsL := [(.ref w_UNKNOWN)]) (rest := []) (lenOf pd_1 rfl) rfl (by show 2 * 0 + _ ≤ _; exact Nat.le_of_eq rfl) (hb hby at_118) (fun _ _ => ⟨rfl, e56, (by decide : 0 + 1 + 0 ≤ _), (by decide : 0 + 3 + 0 ≤ _)⟩)
  dsimp only [Pt.U, Pt.locs, Pt.cells, Pt.slots] at X57 l57 y57 z57 st57 hQ57
  subst l57 y57 z57
  obtain ⟨hv57, N57q, e57⟩ := hQ57
  rw [show ((.ref (own_and w_NO w_UNKNOWN w_YES w_UNKNOWN w_UNKNOWN)) : Value) = (.ref w_UNKNOWN) from by simp [own_and, nUN, nYN, nYU, nUN.symm, nYN.symm, nYU.symm]] at hv57
  subst hv57
  have N57 := Fr.app N56 N57q
  refine own_go (fun t k => st57.trans k) ?_
  show Go p.tables e below _ (T57.setTop (mkF m 121 #[.val (.int p1), .val (.int p2), .val (.ref b), .val (.int (2 : Int32)), .val (.int (2 : Int32)), .val (.ref w_UNKNOWN), .val (.ref w_UNKNOWN), .val (.ref w_UNKNOWN), .val (.ref w_UNKNOWN), .val (.ref w_UNKNOWN), .val (.int (1 : Int32)), .val (.int (1 : Int32)), .unset, .unset] [(.ref w_UNKNOWN)]))
  obtain ⟨cq58, kq58, q58a, q58b, q58c⟩ := isOf hZ e57 EH_UNKNOWN
  obtain ⟨v58, _, ⟨T58, L58, k58, n58⟩, -, X58, ⟨Lc58, hQ58, l58, y58, z58⟩, st58⟩ := X57.virtualBack hx (y := (⟨"com/example/casewright/casewright/types/Answer", "not", "()Lcom/example/casewright/casewright/types/Answer;"⟩ : MethodName)) (z := (⟨"com/example/casewright/casewright/types/Answer", "not", "()Lcom/example/casewright/casewright/types/Answer;"⟩ : MethodName)) hown (mvT hZ (hw _ (List.mem_of_getElem? (i := 11) rfl))) (mvT hZ (hw _ (List.mem_of_getElem? (i := 12) rfl))) (notFace_of_selects (args := #[]) (mvT hZ (hw _ (List.mem_of_getElem? (i := 14) rfl)))) (mvT hZ (hw _ (List.mem_of_getElem? (i := 14) rfl))) (mvT hZ (hw _ (List.mem_of_getElem? (i := 13) rfl))) (by decide) (backOf (W := 0) (rm_not l Z a0 hw [] w_UNKNOWN w_YES w_NO w_UNKNOWN h4 n0 SSh) hZ (hw _ (List.mem_of_getElem? (i := 15) rfl)) (hw _ (List.mem_of_getElem? (i := 3) rfl)) (by decide) (by decide)) q58a q58c (g := (mkF m 121 #[.val (.int p1), .val (.int p2), .val (.ref b), .val (.int (2 : Int32)), .val (.int (2 : Int32)), .val (.ref w_UNKNOWN), .val (.ref w_UNKNOWN), .val (.ref w_UNKNOWN), .val (.ref w_UNKNOWN), .val (.ref w_UNKNOWN), .val (.int (1 : Int32)), .val (.int (1 : Int32)), .unset, .unset] [(.ref w_UNKNOWN)])) rfl (by rw [hml]; rfl) (Steps.refl _) (argsL := []) (rest := []) (lenOf pd_0 rfl) rfl (by show 2 * 0 + _ ≤ _; exact Nat.le_of_eq rfl) (hb hby at_121) (fun _ _ => ⟨rfl, e57, (by decide : 0 + 1 + 0 ≤ _), (by decide : 0 + 3 + 0 ≤ _)⟩)
  dsimp only [Pt.U, Pt.locs, Pt.cells, Pt.slots] at X58 l58 y58 z58 st58 hQ58
  subst l58 y58 z58
  obtain ⟨hv58, N58q, e58⟩ := hQ58
  rw [show ((.ref (own_not w_NO w_UNKNOWN w_YES w_UNKNOWN)) : Value) = (.ref w_UNKNOWN) from by simp [own_not, nUN, nYN, nYU, nUN.symm, nYN.symm, nYU.symm]] at hv58
  subst hv58
  have N58 := Fr.app N57 N58q
  refine own_go (fun t k => st58.trans k) ?_
  show Go p.tables e below _ (T58.setTop (mkF m 124 #[.val (.int p1), .val (.int p2), .val (.ref b), .val (.int (2 : Int32)), .val (.int (2 : Int32)), .val (.ref w_UNKNOWN), .val (.ref w_UNKNOWN), .val (.ref w_UNKNOWN), .val (.ref w_UNKNOWN), .val (.ref w_UNKNOWN), .val (.int (1 : Int32)), .val (.int (1 : Int32)), .unset, .unset] [(.ref w_UNKNOWN)]))
  refine own_go (fun t k => XS.aload X58.here hx rfl (hb hby at_124) rfl rfl k) ?_
  show Go p.tables e below _ (T58.setTop (mkF m 126 #[.val (.int p1), .val (.int p2), .val (.ref b), .val (.int (2 : Int32)), .val (.int (2 : Int32)), .val (.ref w_UNKNOWN), .val (.ref w_UNKNOWN), .val (.ref w_UNKNOWN), .val (.ref w_UNKNOWN), .val (.ref w_UNKNOWN), .val (.int (1 : Int32)), .val (.int (1 : Int32)), .unset, .unset] [(.ref w_UNKNOWN), (.ref w_UNKNOWN)]))
  refine own_go (fun t k => XS.aload X58.here hx rfl (hb hby at_126) rfl rfl k) ?_
  show Go p.tables e below _ (T58.setTop (mkF m 128 #[.val (.int p1), .val (.int p2), .val (.ref b), .val (.int (2 : Int32)), .val (.int (2 : Int32)), .val (.ref w_UNKNOWN), .val (.ref w_UNKNOWN), .val (.ref w_UNKNOWN), .val (.ref w_UNKNOWN), .val (.ref w_UNKNOWN), .val (.int (1 : Int32)), .val (.int (1 : Int32)), .unset, .unset] [(.ref w_UNKNOWN), (.ref w_UNKNOWN), (.ref w_UNKNOWN)]))
  obtain ⟨cq59, kq59, q59a, q59b, q59c⟩ := isOf hZ e58 EH_UNKNOWN
  obtain ⟨v59, _, ⟨T59, L59, k59, n59⟩, -, X59, ⟨Lc59, hQ59, l59, y59, z59⟩, st59⟩ := X58.virtualBack hx (y := (⟨"com/example/casewright/casewright/types/Answer", "or", "(Lcom/example/casewright/casewright/types/Answer;)Lcom/example/casewright/casewright/types/Answer;"⟩ : MethodName)) (z := (⟨"com/example/casewright/casewright/types/Answer", "or", "(Lcom/example/casewright/casewright/types/Answer;)Lcom/example/casewright/casewright/types/Answer;"⟩ : MethodName)) hown (mvT hZ (hw _ (List.mem_of_getElem? (i := 24) rfl))) (mvT hZ (hw _ (List.mem_of_getElem? (i := 25) rfl))) (notFace_of_selects (args := #[]) (mvT hZ (hw _ (List.mem_of_getElem? (i := 27) rfl)))) (mvT hZ (hw _ (List.mem_of_getElem? (i := 27) rfl))) (mvT hZ (hw _ (List.mem_of_getElem? (i := 26) rfl))) (by decide) (backOf (W := 1) (rm_or l Z a0 hw [] w_UNKNOWN w_UNKNOWN w_YES w_NO w_UNKNOWN h4 n0 SSh) hZ (hw _ (List.mem_of_getElem? (i := 28) rfl)) (hw _ (List.mem_of_getElem? (i := 3) rfl)) (by decide) (by decide)) q59a q59c (g := (mkF m 128 #[.val (.int p1), .val (.int p2), .val (.ref b), .val (.int (2 : Int32)), .val (.int (2 : Int32)), .val (.ref w_UNKNOWN), .val (.ref w_UNKNOWN), .val (.ref w_UNKNOWN), .val (.ref w_UNKNOWN), .val (.ref w_UNKNOWN), .val (.int (1 : Int32)), .val (.int (1 : Int32)), .unset, .unset] [(.ref w_UNKNOWN), (.ref w_UNKNOWN), (.ref w_UNKNOWN)])) rfl (by rw [hml]; rfl) (Steps.refl _) (argsL := [(.ref w_UNKNOWN)]) (rest := [(.ref w_UNKNOWN)]) (lenOf pd_1 rfl) rfl (by show 2 * 0 + _ ≤ _; exact Nat.le_of_eq rfl) (hb hby at_128) (fun _ _ => ⟨rfl, e58, (by decide : 0 + 1 + 0 ≤ _), (by decide : 0 + 3 + 0 ≤ _)⟩)
  dsimp only [Pt.U, Pt.locs, Pt.cells, Pt.slots] at X59 l59 y59 z59 st59 hQ59
  subst l59 y59 z59
  obtain ⟨hv59, N59q, e59⟩ := hQ59
  rw [show ((.ref (own_or w_NO w_UNKNOWN w_YES w_UNKNOWN w_UNKNOWN)) : Value) = (.ref w_UNKNOWN) from by simp [own_or, nUN, nYN, nYU, nUN.symm, nYN.symm, nYU.symm]] at hv59
  subst hv59
  have N59 := Fr.app N58 N59q
  refine own_go (fun t k => st59.trans k) ?_
  show Go p.tables e below _ (T59.setTop (mkF m 131 #[.val (.int p1), .val (.int p2), .val (.ref b), .val (.int (2 : Int32)), .val (.int (2 : Int32)), .val (.ref w_UNKNOWN), .val (.ref w_UNKNOWN), .val (.ref w_UNKNOWN), .val (.ref w_UNKNOWN), .val (.ref w_UNKNOWN), .val (.int (1 : Int32)), .val (.int (1 : Int32)), .unset, .unset] [(.ref w_UNKNOWN), (.ref w_UNKNOWN)]))
  refine own_go (fun t k => XT.acmpNo X59.here hx rfl (hb hby at_131) rfl rfl rfl (XT.aa_ne_f (congrArg Value.ref rfl)) k) ?_
  show Go p.tables e below _ (T59.setTop (mkF m 134 #[.val (.int p1), .val (.int p2), .val (.ref b), .val (.int (2 : Int32)), .val (.int (2 : Int32)), .val (.ref w_UNKNOWN), .val (.ref w_UNKNOWN), .val (.ref w_UNKNOWN), .val (.ref w_UNKNOWN), .val (.ref w_UNKNOWN), .val (.int (1 : Int32)), .val (.int (1 : Int32)), .unset, .unset] []))
  refine own_go (fun t k => XS.iconst X59.here hx rfl (hb hby at_134) k) ?_
  show Go p.tables e below _ (T59.setTop (mkF m 135 #[.val (.int p1), .val (.int p2), .val (.ref b), .val (.int (2 : Int32)), .val (.int (2 : Int32)), .val (.ref w_UNKNOWN), .val (.ref w_UNKNOWN), .val (.ref w_UNKNOWN), .val (.ref w_UNKNOWN), .val (.ref w_UNKNOWN), .val (.int (1 : Int32)), .val (.int (1 : Int32)), .unset, .unset] [(.int (1 : Int32))]))
  refine own_go (fun t k => XS.goto X59.here hx rfl (pc0 := 135) (pc' := 139) rfl (hb hby at_135) (by decide) (by decide) k) ?_
  show Go p.tables e below _ (T59.setTop (mkF m 139 #[.val (.int p1), .val (.int p2), .val (.ref b), .val (.int (2 : Int32)), .val (.int (2 : Int32)), .val (.ref w_UNKNOWN), .val (.ref w_UNKNOWN), .val (.ref w_UNKNOWN), .val (.ref w_UNKNOWN), .val (.ref w_UNKNOWN), .val (.int (1 : Int32)), .val (.int (1 : Int32)), .unset, .unset] [(.int (1 : Int32))]))
  refine own_go (fun t k => XS.istore X59.here hx rfl (hb hby at_139) rfl (l' := #[.val (.int p1), .val (.int p2), .val (.ref b), .val (.int (2 : Int32)), .val (.int (2 : Int32)), .val (.ref w_UNKNOWN), .val (.ref w_UNKNOWN), .val (.ref w_UNKNOWN), .val (.ref w_UNKNOWN), .val (.ref w_UNKNOWN), .val (.int (1 : Int32)), .val (.int (1 : Int32)), .val (.int (1 : Int32)), .unset]) rfl k) ?_
  show Go p.tables e below _ (T59.setTop (mkF m 141 #[.val (.int p1), .val (.int p2), .val (.ref b), .val (.int (2 : Int32)), .val (.int (2 : Int32)), .val (.ref w_UNKNOWN), .val (.ref w_UNKNOWN), .val (.ref w_UNKNOWN), .val (.ref w_UNKNOWN), .val (.ref w_UNKNOWN), .val (.int (1 : Int32)), .val (.int (1 : Int32)), .val (.int (1 : Int32)), .unset] []))
  refine own_go (fun t k => XS.aload X59.here hx rfl (hb hby at_141) rfl rfl k) ?_
  show Go p.tables e below _ (T59.setTop (mkF m 143 #[.val (.int p1), .val (.int p2), .val (.ref b), .val (.int (2 : Int32)), .val (.int (2 : Int32)), .val (.ref w_UNKNOWN), .val (.ref w_UNKNOWN), .val (.ref w_UNKNOWN), .val (.ref w_UNKNOWN), .val (.ref w_UNKNOWN), .val (.int (1 : Int32)), .val (.int (1 : Int32)), .val (.int (1 : Int32)), .unset] [(.ref w_UNKNOWN)]))
  refine own_go (fun t k => XS.aload X59.here hx rfl (hb hby at_143) rfl rfl k) ?_
  show Go p.tables e below _ (T59.setTop (mkF m 145 #[.val (.int p1), .val (.int p2), .val (.ref b), .val (.int (2 : Int32)), .val (.int (2 : Int32)), .val (.ref w_UNKNOWN), .val (.ref w_UNKNOWN), .val (.ref w_UNKNOWN), .val (.ref w_UNKNOWN), .val (.ref w_UNKNOWN), .val (.int (1 : Int32)), .val (.int (1 : Int32)), .val (.int (1 : Int32)), .unset] [(.ref w_UNKNOWN), (.ref w_UNKNOWN)]))
  obtain ⟨cq60, kq60, q60a, q60b, q60c⟩ := isOf hZ e59 EH_UNKNOWN
  obtain ⟨v60, _, ⟨T60, L60, k60, n60⟩, -, X60, ⟨Lc60, hQ60, l60, y60, z60⟩, st60⟩ := X59.virtualBack hx (y := (⟨"com/example/casewright/casewright/types/Answer", "or", "(Lcom/example/casewright/casewright/types/Answer;)Lcom/example/casewright/casewright/types/Answer;"⟩ : MethodName)) (z := (⟨"com/example/casewright/casewright/types/Answer", "or", "(Lcom/example/casewright/casewright/types/Answer;)Lcom/example/casewright/casewright/types/Answer;"⟩ : MethodName)) hown (mvT hZ (hw _ (List.mem_of_getElem? (i := 24) rfl))) (mvT hZ (hw _ (List.mem_of_getElem? (i := 25) rfl))) (notFace_of_selects (args := #[]) (mvT hZ (hw _ (List.mem_of_getElem? (i := 27) rfl)))) (mvT hZ (hw _ (List.mem_of_getElem? (i := 27) rfl))) (mvT hZ (hw _ (List.mem_of_getElem? (i := 26) rfl))) (by decide) (backOf (W := 0) (rm_or l Z a0 hw [] w_UNKNOWN w_UNKNOWN w_YES w_NO w_UNKNOWN h4 n0 SSh) hZ (hw _ (List.mem_of_getElem? (i := 28) rfl)) (hw _ (List.mem_of_getElem? (i := 3) rfl)) (by decide) (by decide)) q60a q60c (g := (mkF m 145 #[.val (.int p1), .val (.int p2), .val (.ref b), .val (.int (2 : Int32)), .val (.int (2 : Int32)), .val (.ref w_UNKNOWN), .val (.ref w_UNKNOWN), .val (.ref w_UNKNOWN), .val (.ref w_UNKNOWN), .val (.ref w_UNKNOWN), .val (.int (1 : Int32)), .val (.int (1 : Int32)), .val (.int (1 : Int32)), .unset] [(.ref w_UNKNOWN), (.ref w_UNKNOWN)])) rfl (by rw [hml]; rfl) (Steps.refl _) (argsL := [(.ref w_UNKNOWN)]) (rest := []) (lenOf pd_1 rfl) rfl (by show 2 * 0 + _ ≤ _; exact Nat.le_of_eq rfl) (hb hby at_145) (fun _ _ => ⟨rfl, e59, (by decide : 0 + 1 + 0 ≤ _), (by decide : 0 + 3 + 0 ≤ _)⟩)
  dsimp only [Pt.U, Pt.locs, Pt.cells, Pt.slots] at X60 l60 y60 z60 st60 hQ60
  subst l60 y60 z60
  obtain ⟨hv60, N60q, e60⟩ := hQ60
  rw [show ((.ref (own_or w_NO w_UNKNOWN w_YES w_UNKNOWN w_UNKNOWN)) : Value) = (.ref w_UNKNOWN) from by simp [own_or, nUN, nYN, nYU, nUN.symm, nYN.symm, nYU.symm]] at hv60
  subst hv60
  have N60 := Fr.app N59 N60q
  refine own_go (fun t k => st60.trans k) ?_
  show Go p.tables e below _ (T60.setTop (mkF m 148 #[.val (.int p1), .val (.int p2), .val (.ref b), .val (.int (2 : Int32)), .val (.int (2 : Int32)), .val (.ref w_UNKNOWN), .val (.ref w_UNKNOWN), .val (.ref w_UNKNOWN), .val (.ref w_UNKNOWN), .val (.ref w_UNKNOWN), .val (.int (1 : Int32)), .val (.int (1 : Int32)), .val (.int (1 : Int32)), .unset] [(.ref w_UNKNOWN)]))
  obtain ⟨cq61, kq61, q61a, q61b, q61c⟩ := isOf hZ e60 EH_UNKNOWN
  obtain ⟨v61, _, ⟨T61, L61, k61, n61⟩, -, X61, ⟨Lc61, hQ61, l61, y61, z61⟩, st61⟩ := X60.virtualBack hx (y := (⟨"com/example/casewright/casewright/types/Answer", "not", "()Lcom/example/casewright/casewright/types/Answer;"⟩ : MethodName)) (z := (⟨"com/example/casewright/casewright/types/Answer", "not", "()Lcom/example/casewright/casewright/types/Answer;"⟩ : MethodName)) hown (mvT hZ (hw _ (List.mem_of_getElem? (i := 11) rfl))) (mvT hZ (hw _ (List.mem_of_getElem? (i := 12) rfl))) (notFace_of_selects (args := #[]) (mvT hZ (hw _ (List.mem_of_getElem? (i := 14) rfl)))) (mvT hZ (hw _ (List.mem_of_getElem? (i := 14) rfl))) (mvT hZ (hw _ (List.mem_of_getElem? (i := 13) rfl))) (by decide) (backOf (W := 0) (rm_not l Z a0 hw [] w_UNKNOWN w_YES w_NO w_UNKNOWN h4 n0 SSh) hZ (hw _ (List.mem_of_getElem? (i := 15) rfl)) (hw _ (List.mem_of_getElem? (i := 3) rfl)) (by decide) (by decide)) q61a q61c (g := (mkF m 148 #[.val (.int p1), .val (.int p2), .val (.ref b), .val (.int (2 : Int32)), .val (.int (2 : Int32)), .val (.ref w_UNKNOWN), .val (.ref w_UNKNOWN), .val (.ref w_UNKNOWN), .val (.ref w_UNKNOWN), .val (.ref w_UNKNOWN), .val (.int (1 : Int32)), .val (.int (1 : Int32)), .val (.int (1 : Int32)), .unset] [(.ref w_UNKNOWN)])) rfl (by rw [hml]; rfl) (Steps.refl _) (argsL := []) (rest := []) (lenOf pd_0 rfl) rfl (by show 2 * 0 + _ ≤ _; exact Nat.le_of_eq rfl) (hb hby at_148) (fun _ _ => ⟨rfl, e60, (by decide : 0 + 1 + 0 ≤ _), (by decide : 0 + 3 + 0 ≤ _)⟩)
  dsimp only [Pt.U, Pt.locs, Pt.cells, Pt.slots] at X61 l61 y61 z61 st61 hQ61
  subst l61 y61 z61
  obtain ⟨hv61, N61q, e61⟩ := hQ61
  rw [show ((.ref (own_not w_NO w_UNKNOWN w_YES w_UNKNOWN)) : Value) = (.ref w_UNKNOWN) from by simp [own_not, nUN, nYN, nYU, nUN.symm, nYN.symm, nYU.symm]] at hv61
  subst hv61
  have N61 := Fr.app N60 N61q
  refine own_go (fun t k => st61.trans k) ?_
  show Go p.tables e below _ (T61.setTop (mkF m 151 #[.val (.int p1), .val (.int p2), .val (.ref b), .val (.int (2 : Int32)), .val (.int (2 : Int32)), .val (.ref w_UNKNOWN), .val (.ref w_UNKNOWN), .val (.ref w_UNKNOWN), .val (.ref w_UNKNOWN), .val (.ref w_UNKNOWN), .val (.int (1 : Int32)), .val (.int (1 : Int32)), .val (.int (1 : Int32)), .unset] [(.ref w_UNKNOWN)]))
  refine own_go (fun t k => XS.aload X61.here hx rfl (hb hby at_151) rfl rfl k) ?_
  show Go p.tables e below _ (T61.setTop (mkF m 153 #[.val (.int p1), .val (.int p2), .val (.ref b), .val (.int (2 : Int32)), .val (.int (2 : Int32)), .val (.ref w_UNKNOWN), .val (.ref w_UNKNOWN), .val (.ref w_UNKNOWN), .val (.ref w_UNKNOWN), .val (.ref w_UNKNOWN), .val (.int (1 : Int32)), .val (.int (1 : Int32)), .val (.int (1 : Int32)), .unset] [(.ref w_UNKNOWN), (.ref w_UNKNOWN)]))
  refine own_go (fun t k => XS.aload X61.here hx rfl (hb hby at_153) rfl rfl k) ?_
  show Go p.tables e below _ (T61.setTop (mkF m 155 #[.val (.int p1), .val (.int p2), .val (.ref b), .val (.int (2 : Int32)), .val (.int (2 : Int32)), .val (.ref w_UNKNOWN), .val (.ref w_UNKNOWN), .val (.ref w_UNKNOWN), .val (.ref w_UNKNOWN), .val (.ref w_UNKNOWN), .val (.int (1 : Int32)), .val (.int (1 : Int32)), .val (.int (1 : Int32)), .unset] [(.ref w_UNKNOWN), (.ref w_UNKNOWN), (.ref w_UNKNOWN)]))
  obtain ⟨cq62, kq62, q62a, q62b, q62c⟩ := isOf hZ e61 EH_UNKNOWN
  obtain ⟨v62, _, ⟨T62, L62, k62, n62⟩, -, X62, ⟨Lc62, hQ62, l62, y62, z62⟩, st62⟩ := X61.virtualBack hx (y := (⟨"com/example/casewright/casewright/types/Answer", "and", "(Lcom/example/casewright/casewright/types/Answer;)Lcom/example/casewright/casewright/types/Answer;"⟩ : MethodName)) (z := (⟨"com/example/casewright/casewright/types/Answer", "and", "(Lcom/example/casewright/casewright/types/Answer;)Lcom/example/casewright/casewright/types/Answer;"⟩ : MethodName)) hown (mvT hZ (hw _ (List.mem_of_getElem? (i := 18) rfl))) (mvT hZ (hw _ (List.mem_of_getElem? (i := 19) rfl))) (notFace_of_selects (args := #[]) (mvT hZ (hw _ (List.mem_of_getElem? (i := 21) rfl)))) (mvT hZ (hw _ (List.mem_of_getElem? (i := 21) rfl))) (mvT hZ (hw _ (List.mem_of_getElem? (i := 20) rfl))) (by decide) (backOf (W := 1) (rm_and l Z a0 hw [] w_UNKNOWN w_UNKNOWN w_YES w_NO w_UNKNOWN h4 n0 SSh) hZ (hw _ (List.mem_of_getElem? (i := 22) rfl)) (hw _ (List.mem_of_getElem? (i := 3) rfl)) (by decide) (by decide)) q62a q62c (g := (mkF m 155 #[.val (.int p1), .val (.int p2), .val (.ref b), .val (.int (2 : Int32)), .val (.int (2 : Int32)), .val (.ref w_UNKNOWN), .val (.ref w_UNKNOWN), .val (.ref w_UNKNOWN), .val (.ref w_UNKNOWN), .val (.ref w_UNKNOWN), .val (.int (1 : Int32)), .val (.int (1 : Int32)), .val (.int (1 : Int32)), .unset] [(.ref w_UNKNOWN), (.ref w_UNKNOWN), (.ref w_UNKNOWN)])) rfl (by rw [hml]; rfl) (Steps.refl _) (argsL := [(.ref w_UNKNOWN)]) (rest := [(.ref w_UNKNOWN)]) (lenOf pd_1 rfl) rfl (by show 2 * 0 + _ ≤ _; exact Nat.le_of_eq rfl) (hb hby at_155) (fun _ _ => ⟨rfl, e61, (by decide : 0 + 1 + 0 ≤ _), (by decide : 0 + 3 + 0 ≤ _)⟩)
  dsimp only [Pt.U, Pt.locs, Pt.cells, Pt.slots] at X62 l62 y62 z62 st62 hQ62
  subst l62 y62 z62
  obtain ⟨hv62, N62q, e62⟩ := hQ62
  rw [show ((.ref (own_and w_NO w_UNKNOWN w_YES w_UNKNOWN w_UNKNOWN)) : Value) = (.ref w_UNKNOWN) from by simp [own_and, nUN, nYN, nYU, nUN.symm, nYN.symm, nYU.symm]] at hv62
  subst hv62
  have N62 := Fr.app N61 N62q
  refine own_go (fun t k => st62.trans k) ?_
  show Go p.tables e below _ (T62.setTop (mkF m 158 #[.val (.int p1), .val (.int p2), .val (.ref b), .val (.int (2 : Int32)), .val (.int (2 : Int32)), .val (.ref w_UNKNOWN), .val (.ref w_UNKNOWN), .val (.ref w_UNKNOWN), .val (.ref w_UNKNOWN), .val (.ref w_UNKNOWN), .val (.int (1 : Int32)), .val (.int (1 : Int32)), .val (.int (1 : Int32)), .unset] [(.ref w_UNKNOWN), (.ref w_UNKNOWN)]))
  refine own_go (fun t k => XT.acmpNo X62.here hx rfl (hb hby at_158) rfl rfl rfl (XT.aa_ne_f (congrArg Value.ref rfl)) k) ?_
  show Go p.tables e below _ (T62.setTop (mkF m 161 #[.val (.int p1), .val (.int p2), .val (.ref b), .val (.int (2 : Int32)), .val (.int (2 : Int32)), .val (.ref w_UNKNOWN), .val (.ref w_UNKNOWN), .val (.ref w_UNKNOWN), .val (.ref w_UNKNOWN), .val (.ref w_UNKNOWN), .val (.int (1 : Int32)), .val (.int (1 : Int32)), .val (.int (1 : Int32)), .unset] []))
  refine own_go (fun t k => XS.iconst X62.here hx rfl (hb hby at_161) k) ?_
  show Go p.tables e below _ (T62.setTop (mkF m 162 #[.val (.int p1), .val (.int p2), .val (.ref b), .val (.int (2 : Int32)), .val (.int (2 : Int32)), .val (.ref w_UNKNOWN), .val (.ref w_UNKNOWN), .val (.ref w_UNKNOWN), .val (.ref w_UNKNOWN), .val (.ref w_UNKNOWN), .val (.int (1 : Int32)), .val (.int (1 : Int32)), .val (.int (1 : Int32)), .unset] [(.int (1 : Int32))]))
  refine own_go (fun t k => XS.goto X62.here hx rfl (pc0 := 162) (pc' := 166) rfl (hb hby at_162) (by decide) (by decide) k) ?_
  show Go p.tables e below _ (T62.setTop (mkF m 166 #[.val (.int p1), .val (.int p2), .val (.ref b), .val (.int (2 : Int32)), .val (.int (2 : Int32)), .val (.ref w_UNKNOWN), .val (.ref w_UNKNOWN), .val (.ref w_UNKNOWN), .val (.ref w_UNKNOWN), .val (.ref w_UNKNOWN), .val (.int (1 : Int32)), .val (.int (1 : Int32)), .val (.int (1 : Int32)), .unset] [(.int (1 : Int32))]))
  refine own_go (fun t k => XS.istore X62.here hx rfl (hb hby at_166) rfl (l' := #[.val (.int p1), .val (.int p2), .val (.ref b), .val (.int (2 : Int32)), .val (.int (2 : Int32)), .val (.ref w_UNKNOWN), .val (.ref w_UNKNOWN), .val (.ref w_UNKNOWN), .val (.ref w_UNKNOWN), .val (.ref w_UNKNOWN), .val (.int (1 : Int32)), .val (.int (1 : Int32)), .val (.int (1 : Int32)), .val (.int (1 : Int32))]) rfl k) ?_
  show Go p.tables e below _ (T62.setTop (mkF m 168 #[.val (.int p1), .val (.int p2), .val (.ref b), .val (.int (2 : Int32)), .val (.int (2 : Int32)), .val (.ref w_UNKNOWN), .val (.ref w_UNKNOWN), .val (.ref w_UNKNOWN), .val (.ref w_UNKNOWN), .val (.ref w_UNKNOWN), .val (.int (1 : Int32)), .val (.int (1 : Int32)), .val (.int (1 : Int32)), .val (.int (1 : Int32))] []))
  refine own_go (fun t k => XS.iload X62.here hx rfl (hb hby at_168) rfl k) ?_
  show Go p.tables e below _ (T62.setTop (mkF m 170 #[.val (.int p1), .val (.int p2), .val (.ref b), .val (.int (2 : Int32)), .val (.int (2 : Int32)), .val (.ref w_UNKNOWN), .val (.ref w_UNKNOWN), .val (.ref w_UNKNOWN), .val (.ref w_UNKNOWN), .val (.ref w_UNKNOWN), .val (.int (1 : Int32)), .val (.int (1 : Int32)), .val (.int (1 : Int32)), .val (.int (1 : Int32))] [(.int (1 : Int32))]))
  refine own_go (fun t k => XS.ifNo X62.here hx rfl (hb hby at_170) rfl (XT.i0_eq_f (by decide)) k) ?_
  show Go p.tables e below _ (T62.setTop (mkF m 173 #[.val (.int p1), .val (.int p2), .val (.ref b), .val (.int (2 : Int32)), .val (.int (2 : Int32)), .val (.ref w_UNKNOWN), .val (.ref w_UNKNOWN), .val (.ref w_UNKNOWN), .val (.ref w_UNKNOWN), .val (.ref w_UNKNOWN), .val (.int (1 : Int32)), .val (.int (1 : Int32)), .val (.int (1 : Int32)), .val (.int (1 : Int32))] []))
  refine own_go (fun t k => XS.iload X62.here hx rfl (hb hby at_173) rfl k) ?_
  show Go p.tables e below _ (T62.setTop (mkF m 175 #[.val (.int p1), .val (.int p2), .val (.ref b), .val (.int (2 : Int32)), .val (.int (2 : Int32)), .val (.ref w_UNKNOWN), .val (.ref w_UNKNOWN), .val (.ref w_UNKNOWN), .val (.ref w_UNKNOWN), .val (.ref w_UNKNOWN), .val (.int (1 : Int32)), .val (.int (1 : Int32)), .val (.int (1 : Int32)), .val (.int (1 : Int32))] [(.int (1 : Int32))]))
  refine own_go (fun t k => XS.ifNo X62.here hx rfl (hb hby at_175) rfl (XT.i0_eq_f (by decide)) k) ?_
  show Go p.tables e below _ (T62.setTop (mkF m 178 #[.val (.int p1), .val (.int p2), .val (.ref b), .val (.int (2 : Int32)), .val (.int (2 : Int32)), .val (.ref w_UNKNOWN), .val (.ref w_UNKNOWN), .val (.ref w_UNKNOWN), .val (.ref w_UNKNOWN), .val (.ref w_UNKNOWN), .val (.int (1 : Int32)), .val (.int (1 : Int32)), .val (.int (1 : Int32)), .val (.int (1 : Int32))] []))
  refine own_go (fun t k => XS.iload X62.here hx rfl (hb hby at_178) rfl k) ?_
  show Go p.tables e below _ (T62.setTop (mkF m 180 #[.val (.int p1), .val (.int p2), .val (.ref b), .val (.int (2 : Int32)), .val (.int (2 : Int32)), .val (.ref w_UNKNOWN), .val (.ref w_UNKNOWN), .val (.ref w_UNKNOWN), .val (.ref w_UNKNOWN), .val (.ref w_UNKNOWN), .val (.int (1 : Int32)), .val (.int (1 : Int32)), .val (.int (1 : Int32)), .val (.int (1 : Int32))] [(.int (1 : Int32))]))
  refine own_go (fun t k => XS.ifNo X62.here hx rfl (hb hby at_180) rfl (XT.i0_eq_f (by decide)) k) ?_
  show Go p.tables e below _ (T62.setTop (mkF m 183 #[.val (.int p1), .val (.int p2), .val (.ref b), .val (.int (2 : Int32)), .val (.int (2 : Int32)), .val (.ref w_UNKNOWN), .val (.ref w_UNKNOWN), .val (.ref w_UNKNOWN), .val (.ref w_UNKNOWN), .val (.ref w_UNKNOWN), .val (.int (1 : Int32)), .val (.int (1 : Int32)), .val (.int (1 : Int32)), .val (.int (1 : Int32))] []))
  refine own_go (fun t k => XS.iload X62.here hx rfl (hb hby at_183) rfl k) ?_
  show Go p.tables e below _ (T62.setTop (mkF m 185 #[.val (.int p1), .val (.int p2), .val (.ref b), .val (.int (2 : Int32)), .val (.int (2 : Int32)), .val (.ref w_UNKNOWN), .val (.ref w_UNKNOWN), .val (.ref w_UNKNOWN), .val (.ref w_UNKNOWN), .val (.ref w_UNKNOWN), .val (.int (1 : Int32)), .val (.int (1 : Int32)), .val (.int (1 : Int32)), .val (.int (1 : Int32))] [(.int (1 : Int32))]))
  refine own_go (fun t k => XS.ifNo X62.here hx rfl (hb hby at_185) rfl (XT.i0_eq_f (by decide)) k) ?_
  show Go p.tables e below _ (T62.setTop (mkF m 188 #[.val (.int p1), .val (.int p2), .val (.ref b), .val (.int (2 : Int32)), .val (.int (2 : Int32)), .val (.ref w_UNKNOWN), .val (.ref w_UNKNOWN), .val (.ref w_UNKNOWN), .val (.ref w_UNKNOWN), .val (.ref w_UNKNOWN), .val (.int (1 : Int32)), .val (.int (1 : Int32)), .val (.int (1 : Int32)), .val (.int (1 : Int32))] []))
  refine own_go (fun t k => XS.iconst X62.here hx rfl (hb hby at_188) k) ?_
  show Go p.tables e below _ (T62.setTop (mkF m 189 #[.val (.int p1), .val (.int p2), .val (.ref b), .val (.int (2 : Int32)), .val (.int (2 : Int32)), .val (.ref w_UNKNOWN), .val (.ref w_UNKNOWN), .val (.ref w_UNKNOWN), .val (.ref w_UNKNOWN), .val (.ref w_UNKNOWN), .val (.int (1 : Int32)), .val (.int (1 : Int32)), .val (.int (1 : Int32)), .val (.int (1 : Int32))] [(.int (1 : Int32))]))
  refine own_go (fun t k => XS.goto X62.here hx rfl (pc0 := 189) (pc' := 193) rfl (hb hby at_189) (by decide) (by decide) k) ?_
  show Go p.tables e below _ (T62.setTop (mkF m 193 #[.val (.int p1), .val (.int p2), .val (.ref b), .val (.int (2 : Int32)), .val (.int (2 : Int32)), .val (.ref w_UNKNOWN), .val (.ref w_UNKNOWN), .val (.ref w_UNKNOWN), .val (.ref w_UNKNOWN), .val (.ref w_UNKNOWN), .val (.int (1 : Int32)), .val (.int (1 : Int32)), .val (.int (1 : Int32)), .val (.int (1 : Int32))] [(.int (1 : Int32))]))
  exact own_ret X62 hx hlk Bd.returns rfl (Or.inl ⟨rfl, Or.inr (Or.inl rfl), _, rfl⟩) (hb hby at_193) ⟨rfl, N62⟩ (by decide) (by decide)
set_option maxRecDepth 65536 in
theorem rm_law (l : Launch) (Z : State) (a0 : Array Value) (hw : ∀ d ∈ tables_1, d.before a0 Z = true) (ws : List Jvm.Cond) (p1 p2 : Int32) (w_YES w_NO w_UNKNOWN : Addr) (h0 : Heap) (n0 : Nat) (SS : own_S Z h0 w_YES w_NO w_UNKNOWN) (EE : own_E Z h0 w_YES w_NO w_UNKNOWN) (OO : own_O Z h0 w_YES w_NO w_UNKNOWN) (Z0 : n0 ≤ h0.size) :
    MetFree l x (head1 (Jvm.Cond.code x code maxLocals ret :: ws) room_1) (fun aa U => aa = #[(.int p1), (.int p2)] ∧ Z.Warmed39 U.vm ∧ U.heap = h0) (fun _ _ _ _ _ => True) (fun _ U o U' => ∃ v L, o = .returned v ∧ LQ n0 v U'.heap L ∧ FrameEnd U o U' L room_1.cells room_1.slots) := by
  rcases own_cases p1 with q1 | q1 | q1 <;> rcases own_cases p2 with q2 | q2 | q2
  · exact rm_law_00 l Z a0 hw ws p1 p2 w_YES w_NO w_UNKNOWN h0 n0 SS EE OO Z0 q1 q2
  · exact rm_law_01 l Z a0 hw ws p1 p2 w_YES w_NO w_UNKNOWN h0 n0 SS EE OO Z0 q1 q2
  · exact rm_law_02 l Z a0 hw ws p1 p2 w_YES w_NO w_UNKNOWN h0 n0 SS EE OO Z0 q1 q2
  · exact rm_law_10 l Z a0 hw ws p1 p2 w_YES w_NO w_UNKNOWN h0 n0 SS EE OO Z0 q1 q2
  · exact rm_law_11 l Z a0 hw ws p1 p2 w_YES w_NO w_UNKNOWN h0 n0 SS EE OO Z0 q1 q2
  · exact rm_law_12 l Z a0 hw ws p1 p2 w_YES w_NO w_UNKNOWN h0 n0 SS EE OO Z0 q1 q2
  · exact rm_law_20 l Z a0 hw ws p1 p2 w_YES w_NO w_UNKNOWN h0 n0 SS EE OO Z0 q1 q2
  · exact rm_law_21 l Z a0 hw ws p1 p2 w_YES w_NO w_UNKNOWN h0 n0 SS EE OO Z0 q1 q2
  · exact rm_law_22 l Z a0 hw ws p1 p2 w_YES w_NO w_UNKNOWN h0 n0 SS EE OO Z0 q1 q2
set_option maxRecDepth 65536 in
set_option maxHeartbeats 40000000 in
theorem comes_1 {Post : Tables → Env → Array Value → State → Outcome → State → Prop} (hpost : ∀ tb e args s v u, (limb_1_1.after args s (.returned v) u = true ∧ limb_1_2.after args s (.returned v) u = true ∧ True) → FrameEnd s (.returned v) u (Jvm.fieldLocs frame_1_writes args s ++ Jvm.arrayLocs frame_1_arrays args s ++ Jvm.staticLocs frame_1_statics s) 16 128 → Post tb e args s (.returned v) u) :
    ArmFor flags0 classFile x code maxLocals ret World_1 tables_1 room_1 Calls_1 rest_1 Pre_1 Post := by
  intro l hfl _ _ p e ha hc hk s m args below hf hA hF happ hP
  obtain ⟨hcalls, hrest, hpre⟩ := hP
  obtain ⟨-, -, -, hnamed, -, -, -, hat⟩ := (Spec.applies_iff hf).mp happ
  obtain ⟨hg, hn⟩ := and_e (Cond.before_iff.mp (show (Jvm.Cond.and given_1 narrow_1).before args s = true from hpre))
  obtain ⟨gc, ga0⟩ := and_e hg
  obtain ⟨gi0, ga1⟩ := and_e ga0
  have gi1 := ga1
  obtain ⟨w0, w1, rfl⟩ : ∃ w0 w1 : Value, args = #[w0, w1] := by
    have hs : args.size = 2 := by simpa [Cond.value, given_1] using gc
    obtain ⟨L⟩ := args
    match L, hs with
    | [w0, w1], _ => exact ⟨w0, w1, rfl⟩
  have hw := fun d (hd : d ∈ tables_1) => atoms_spec (ws := Jvm.Cond.code x code maxLocals ret :: tables_1) hat d (List.mem_cons_of_mem _ hd)
  obtain ⟨i0, ei0⟩ := is_v gi0
  obtain rfl : w0 = (.int i0) := Option.some.inj ei0
  obtain ⟨i1, ei1⟩ := is_v gi1
  obtain rfl : w1 = (.int i1) := Option.some.inj ei1
  obtain ⟨c0, r0⟩ := and_e hn
  obtain ⟨c1, r1⟩ := and_e r0
  obtain ⟨c2, r2⟩ := and_e r1
  obtain ⟨c3, r3⟩ := and_e r2
  obtain ⟨c4, r4⟩ := and_e r3
  have c5 := r4
  obtain ⟨w_YES, ev_YES⟩ := exa_v c0
  have E_YES := Exa.start ev_YES c0
  have S_YES := Sta.start ev_YES (Or.inr ⟨(hw _ (List.mem_of_getElem? (i := 3) rfl)), (hw _ (List.mem_of_getElem? (i := 4) rfl))⟩)
  obtain ⟨w_NO, ev_NO⟩ := exa_v c1
  have E_NO := Exa.start ev_NO c1
  have S_NO := Sta.start ev_NO (Or.inr ⟨(hw _ (List.mem_of_getElem? (i := 3) rfl)), (hw _ (List.mem_of_getElem? (i := 7) rfl))⟩)
  obtain ⟨w_UNKNOWN, ev_UNKNOWN⟩ := exa_v c2
  have E_UNKNOWN := Exa.start ev_UNKNOWN c2
  have S_UNKNOWN := Sta.start ev_UNKNOWN (Or.inr ⟨(hw _ (List.mem_of_getElem? (i := 3) rfl)), (hw _ (List.mem_of_getElem? (i := 9) rfl))⟩)
  have F_NO_ordinal := own_fld ev_NO c3
  have F_YES_ordinal := own_fld ev_YES c4
  have F_UNKNOWN_ordinal := own_fld ev_UNKNOWN c5
  obtain ⟨n, o, h1, h2, h3, _, L, rfl, ⟨rfl, N⟩, hq⟩ := rm_law l s _ hw tables_1 i0 i1 w_YES w_NO w_UNKNOWN s.heap s.heap.size ⟨S_YES, S_NO, S_UNKNOWN⟩ ⟨E_YES, E_NO, E_UNKNOWN⟩ ⟨F_NO_ordinal, F_YES_ordinal, F_UNKNOWN_ordinal⟩ (Nat.le_refl _) p e ha hc hk s m _ below hf ((Spec.applies_iff_loose hf).mp happ).1 ⟨rfl, State.Warmed39.refl s, rfl⟩ trivial
  refine ⟨n, _, h1, h2, h3, hpost _ _ _ _ _ _ ⟨Cond.after_iff.mpr rfl, Cond.after_iff.mpr (eq_i res_at (Term.int_eval (1)) rfl), trivial⟩ ⟨hq.1, hq.2.1, (hq.2.2.sift fun y hy => Or.inr (N y hy)).mono (by decide) (by decide)⟩⟩
theorem main_1_1 : Claimed_1_1 := comes_1 fun _ _ _ _ _ _ h hF => ⟨h.1, hF⟩
theorem main_1_2 : Claimed_1_2 := comes_1 fun _ _ _ _ _ _ h hF => ⟨h.2.1, hF⟩
end Jvm.Pilot.@@N@@
namespace Jvm.Pilot.@@N@@
open Jvm Jvm.ClassFile Sem Op Lib Jvm.Free Jvm.Stand Jvm.Pilot.@@N@@.Jvm.D
/-! MADE BY PROGRAM (witnessworld.py) out of the Statement's table words and the real class files: 13 classes; the members and pool entries that the words name. The judged class is class 1, her method 1. -/
namespace start1
open Jvm.ClassFile
def u (s : String) : CpInfo := .utf8 (stringToUtf16 s)
/-- a pool by its gaps: so many unusable entries, then the entry; so many at the end -/
def gap : Nat → List CpInfo → List CpInfo
  | 0, r => r
  | n + 1, r => .unusable :: gap n r
def poolList (es : List (Nat × CpInfo)) (last : Nat) : List CpInfo := es.foldr (fun e r => gap e.1 (e.2 :: r)) (gap last [])
def pool (es : List (Nat × CpInfo)) (last : Nat) : Array CpInfo := ⟨poolList es last⟩
def fileOf (pool : Array CpInfo) (this : Nat) (attrs : Array Attribute := #[]) (ms : Array MethodInfo := #[]) (fl : Nat := 33) (sup : Nat := 0) (ifs : Array Nat := #[]) (fds : Array FieldInfo := #[]) : ClassFile where
  minorVersion := 0
  majorVersion := 65
  constantPool := pool
  accessFlags := fl
  thisClass := this
  superClass := sup
  interfaces := ifs
  fields := fds
  methods := ms
  attributes := attrs
def plain (name : String) (sup : Option ClassId) : Class where
  name := name
  kind := .ordinary
  loader := none
  accessFlags := 33
  super := sup
  interfaces := #[]
  cf := none
  fields := #[]
  methods := #[]
  instanceTypes := #[]
  staticTypes := #[]
  resolved := #[]
  callSites := []
  init := .initialized
  statics := none
  mirror := none

def pool0 : Array CpInfo := pool [(5, u "<init>"), (0, u "()V"), (1, .class_ 10), (1, u "java/lang/Object")] 113

def k0m0 : Method := { name := "<init>", desc := "()V", sig := { parameters := [], returnType := none }, accessFlags := 1, code := none }
/-- java/lang/Object -/
def k0 : Class := { plain "java/lang/Object" none with
  accessFlags := 33
  interfaces := #[]
  cf := some (fileOf pool0 8 #[] #[{ accessFlags := 1, nameIndex := 5, descriptorIndex := 6, attributes := #[] }] 33 0 #[] #[])
  fields := #[]
  methods := #[k0m0]
  instanceTypes := #[]
  staticTypes := #[]
  resolved := Array.replicate 124 none
  statics := none }

def pool1 : Array CpInfo := pool [(2, .class_ 4), (1, u "java/lang/Object"), (0, u "<init>"), (0, u "()V"), (0, .class_ 8), (0, u "com/example/casewright/casewright/types/Answer"), (0, .fieldref 7 10), (0, .nameAndType 11 12), (0, u "YES"), (0, u "Lcom/example/casewright/casewright/types/Answer;"), (0, .fieldref 7 14), (0, .nameAndType 15 12), (0, u "NO"), (0, .fieldref 7 17), (0, .nameAndType 18 12), (0, u "UNKNOWN"), (0, .integer 2147483647), (0, .methodref 7 21), (0, .nameAndType 22 23), (0, u "not"), (0, u "()Lcom/example/casewright/casewright/types/Answer;"), (0, .methodref 7 25), (0, .nameAndType 26 27), (0, u "and"), (0, u "(Lcom/example/casewright/casewright/types/Answer;)Lcom/example/casewright/casewright/types/Answer;"), (0, .methodref 7 29), (0, .nameAndType 30 27), (0, u "or"), (0, .class_ 32), (0, u "com/example/casewright/casewright/types/AnswerNotPinLaw"), (2, u "law"), (0, u "(II)Z")] 5

def k1m0 : Method := { name := "<init>", desc := "()V", sig := { parameters := [], returnType := none }, accessFlags := 1, code := none }
def k1c1 : Code := { maxStack := 4, maxLocals := 14, code := code, exceptionTable := #[], attributes := #[] }
def k1m1 : Method := { name := "law", desc := "(II)Z", sig := { parameters := [.int, .int], returnType := some .boolean }, accessFlags := 9, code := some k1c1 }
/-- com/example/casewright/casewright/types/AnswerNotPinLaw -/
def k1 : Class := { plain "com/example/casewright/casewright/types/AnswerNotPinLaw" (some 0) with
  accessFlags := 49
  interfaces := #[]
  cf := some (fileOf pool1 31 #[] #[{ accessFlags := 1, nameIndex := 5, descriptorIndex := 6, attributes := #[] }, { accessFlags := 9, nameIndex := 35, descriptorIndex := 36, attributes := #[] }] 49 2 #[] #[])
  fields := #[]
  methods := #[k1m0, k1m1]
  instanceTypes := #[]
  staticTypes := #[]
  resolved := Array.replicate 42 none
  statics := none }

def pool2 : Array CpInfo := pool [(1, .class_ 2), (0, u "java/lang/constant/Constable"), (0, .class_ 4), (0, u "java/lang/Object")] 6

/-- java/lang/constant/Constable -/
def k2 : Class := { plain "java/lang/constant/Constable" (some 0) with
  accessFlags := 1537
  interfaces := #[]
  cf := some (fileOf pool2 1 #[] #[] 1537 3 #[] #[])
  fields := #[]
  methods := #[]
  instanceTypes := #[]
  staticTypes := #[]
  resolved := Array.replicate 11 none
  statics := none }

def pool3 : Array CpInfo := pool [(1, .class_ 2), (0, u "java/lang/Comparable"), (0, .class_ 4), (0, u "java/lang/Object")] 7

/-- java/lang/Comparable -/
def k3 : Class := { plain "java/lang/Comparable" (some 0) with
  accessFlags := 1537
  interfaces := #[]
  cf := some (fileOf pool3 1 #[] #[] 1537 3 #[] #[])
  fields := #[]
  methods := #[]
  instanceTypes := #[]
  staticTypes := #[]
  resolved := Array.replicate 12 none
  statics := none }

def pool4 : Array CpInfo := pool [(1, .class_ 2), (0, u "java/io/Serializable"), (0, .class_ 4), (0, u "java/lang/Object")] 2

/-- java/io/Serializable -/
def k4 : Class := { plain "java/io/Serializable" (some 0) with
  accessFlags := 1537
  interfaces := #[]
  cf := some (fileOf pool4 1 #[] #[] 1537 3 #[] #[])
  fields := #[]
  methods := #[]
  instanceTypes := #[]
  staticTypes := #[]
  resolved := Array.replicate 7 none
  statics := none }

def pool5 : Array CpInfo := pool [(2, .class_ 4), (1, u "java/lang/Enum"), (0, u "name"), (0, u "Ljava/lang/String;"), (2, u "ordinal"), (0, u "I"), (1, .class_ 14), (1, u "java/lang/Object"), (4, u "hash"), (86, .class_ 108), (1, u "java/lang/Enum$EnumDesc"), (2, .class_ 112), (0, u "java/lang/constant/Constable"), (0, .class_ 114), (0, u "java/lang/Comparable"), (0, .class_ 116), (0, u "java/io/Serializable")] 87

/-- java/lang/Enum -/
def k5 : Class := { plain "java/lang/Enum" (some 0) with
  accessFlags := 1057
  interfaces := #[2, 3, 4]
  cf := some (fileOf pool5 2 #[.nestMembers #[106]] #[] 1057 12 #[111, 113, 115] #[{ accessFlags := 18, nameIndex := 5, descriptorIndex := 6, attributes := #[] }, { accessFlags := 18, nameIndex := 9, descriptorIndex := 10, attributes := #[] }, { accessFlags := 2, nameIndex := 19, descriptorIndex := 10, attributes := #[] }])
  fields := #[{ name := "name", type := (.object "java/lang/String"), accessFlags := 18, slot := 0, constantValue := 0 }, { name := "ordinal", type := .int, accessFlags := 18, slot := 1, constantValue := 0 }, { name := "hash", type := .int, accessFlags := 2, slot := 2, constantValue := 0 }]
  methods := #[]
  instanceTypes := #[(.object "java/lang/String"), .int, .int]
  staticTypes := #[]
  resolved := Array.replicate 204 none
  statics := none }

def pool6 : Array CpInfo := pool [(1, .class_ 2), (0, u "com/example/casewright/casewright/types/Answer"), (0, .fieldref 1 4), (0, .nameAndType 5 6), (0, u "YES"), (0, u "Lcom/example/casewright/casewright/types/Answer;"), (0, .fieldref 1 8), (0, .nameAndType 9 6), (0, u "NO"), (0, .fieldref 1 11), (0, .nameAndType 12 6), (0, u "UNKNOWN"), (2, u "$VALUES"), (0, u "[Lcom/example/casewright/casewright/types/Answer;"), (6, .class_ 25), (1, u "java/lang/Enum"), (24, u "and"), (0, u "(Lcom/example/casewright/casewright/types/Answer;)Lcom/example/casewright/casewright/types/Answer;"), (0, u "or"), (0, u "not"), (0, u "()Lcom/example/casewright/casewright/types/Answer;")] 4

def k6c0 : Code := { maxStack := 2, maxLocals := 3, code := prog_15_method_5_code, exceptionTable := #[], attributes := #[] }
def k6m0 : Method := { name := "and", desc := "(Lcom/example/casewright/casewright/types/Answer;)Lcom/example/casewright/casewright/types/Answer;", sig := { parameters := [(.object "com/example/casewright/casewright/types/Answer")], returnType := some (.object "com/example/casewright/casewright/types/Answer") }, accessFlags := 1, code := some k6c0 }
def k6c1 : Code := { maxStack := 2, maxLocals := 3, code := prog_15_method_6_code, exceptionTable := #[], attributes := #[] }
def k6m1 : Method := { name := "or", desc := "(Lcom/example/casewright/casewright/types/Answer;)Lcom/example/casewright/casewright/types/Answer;", sig := { parameters := [(.object "com/example/casewright/casewright/types/Answer")], returnType := some (.object "com/example/casewright/casewright/types/Answer") }, accessFlags := 1, code := some k6c1 }
def k6c2 : Code := { maxStack := 2, maxLocals := 2, code := prog_15_method_7_code, exceptionTable := #[], attributes := #[] }
def k6m2 : Method := { name := "not", desc := "()Lcom/example/casewright/casewright/types/Answer;", sig := { parameters := [], returnType := some (.object "com/example/casewright/casewright/types/Answer") }, accessFlags := 1, code := some k6c2 }
/-- com/example/casewright/casewright/types/Answer -/
def k6 : Class := { plain "com/example/casewright/casewright/types/Answer" (some 5) with
  accessFlags := 16433
  interfaces := #[]
  cf := some (fileOf pool6 1 #[] #[{ accessFlags := 1, nameIndex := 50, descriptorIndex := 51, attributes := #[] }, { accessFlags := 1, nameIndex := 52, descriptorIndex := 51, attributes := #[] }, { accessFlags := 1, nameIndex := 53, descriptorIndex := 54, attributes := #[] }] 16433 23 #[] #[{ accessFlags := 16409, nameIndex := 5, descriptorIndex := 6, attributes := #[] }, { accessFlags := 16409, nameIndex := 9, descriptorIndex := 6, attributes := #[] }, { accessFlags := 16409, nameIndex := 12, descriptorIndex := 6, attributes := #[] }, { accessFlags := 4122, nameIndex := 15, descriptorIndex := 16, attributes := #[] }])
  fields := #[{ name := "YES", type := (.object "com/example/casewright/casewright/types/Answer"), accessFlags := 16409, slot := 0, constantValue := 0 }, { name := "NO", type := (.object "com/example/casewright/casewright/types/Answer"), accessFlags := 16409, slot := 1, constantValue := 0 }, { name := "UNKNOWN", type := (.object "com/example/casewright/casewright/types/Answer"), accessFlags := 16409, slot := 2, constantValue := 0 }, { name := "$VALUES", type := (.array (.object "com/example/casewright/casewright/types/Answer")), accessFlags := 4122, slot := 3, constantValue := 0 }]
  methods := #[k6m0, k6m1, k6m2]
  instanceTypes := #[(.object "java/lang/String"), .int, .int]
  staticTypes := #[(.object "com/example/casewright/casewright/types/Answer"), (.object "com/example/casewright/casewright/types/Answer"), (.object "com/example/casewright/casewright/types/Answer"), (.array (.object "com/example/casewright/casewright/types/Answer"))]
  resolved := Array.replicate 59 none
  statics := some 0 }

def pool7 : Array CpInfo := pool [(1, u "java/lang/Cloneable"), (0, .class_ 1), (0, u "java/lang/Object"), (0, .class_ 3)] 3

/-- java/lang/Cloneable -/
def k7 : Class := { plain "java/lang/Cloneable" (some 0) with
  accessFlags := 1537
  interfaces := #[]
  cf := some (fileOf pool7 2 #[] #[] 1537 4 #[] #[])
  fields := #[]
  methods := #[]
  instanceTypes := #[]
  staticTypes := #[]
  resolved := Array.replicate 8 none
  statics := none }

/-- the primitive byte -/
def k8 : Class := { plain "byte" none with kind := .primitive 'B', accessFlags := 0x411 }
/-- [B -/
def k9 : Class := { plain "[B" (some 0) with kind := .array 8 .byte, interfaces := #[7, 4], accessFlags := 1041 }

/-- the primitive int -/
def k10 : Class := { plain "int" none with kind := .primitive 'I', accessFlags := 0x411 }
/-- [I -/
def k11 : Class := { plain "[I" (some 0) with kind := .array 10 .int, interfaces := #[7, 4], accessFlags := 1041 }

/-- [Lcom/example/casewright/casewright/types/Answer; -/
def k12 : Class := { plain "[Lcom/example/casewright/casewright/types/Answer;" (some 0) with kind := .array 6 (.object "com/example/casewright/casewright/types/Answer"), interfaces := #[7, 4], accessFlags := 1041 }

def heap : Heap := #[{ cls := 6, slots := #[.ref 1, .ref 2, .ref 3, .null], vm := .statics 6 },
  { cls := 6, slots := #[.null, .int 0, .int 0], vm := .none },
  { cls := 6, slots := #[.null, .int 1, .int 0], vm := .none },
  { cls := 6, slots := #[.null, .int 2, .int 0], vm := .none }]
def classes : Array Class := #[k0, k1, k2, k3, k4, k5, k6, k7, k8, k9, k10, k11, k12]
def interned : List (Array UInt16 × Addr) := []
def slotsUsed : Nat := 13
def theMethod : MethodId := ⟨1, 1⟩
def args0 : Array Value := #[.int 5, .int 3]
def aboutOver (below : List Frame) : State where
  vm := { classes := classes, interned := interned.toArray }
  heap := heap
  slotsUsed := slotsUsed
  threads := #[{ frames := .invoking theMethod args0 :: below }]
def below0 : List Frame := [.native { method := ⟨0, 0⟩, args := #[] }]
def about1 : State := aboutOver below0
def p0 : Program := .bare "" "" ""
def e0 : Env := launch0.env 0 0 0
theorem w_frames : about1.frames = Frame.invoking theMethod args0 :: below0 := rfl
set_option maxRecDepth 65536 in
theorem w_args : argsFit about1.vm theMethod args0 = true := by decide +kernel
set_option maxRecDepth 65536 in
theorem w_heap : heapFits about1 = true := by decide +kernel
set_option maxRecDepth 65536 in
theorem w_runnable : about1.curStatus? = some .runnable := by decide +kernel
set_option maxRecDepth 65536 in
theorem w_alone : about1.alone = true := by decide +kernel
set_option maxRecDepth 65536 in
theorem w_named : about1.methodNamed? x = some theMethod := by decide +kernel
set_option maxRecDepth 65536 in
theorem w_hears : about1.hears theMethod below0 = true := by decide +kernel
set_option maxRecDepth 65536 in
theorem w_ripe : about1.ripe theMethod args0 below0 = true := by decide +kernel
theorem w_running : about1.status = .running := rfl
set_option maxRecDepth 65536 in
theorem w_room : about1.hasRoom e0.platform room_1 = true :=
  launch0.hasRoom_least _ room_1 (by decide +kernel) (by decide +kernel) (by decide +kernel) (by decide +kernel) (by decide +kernel) (by decide +kernel)
theorem allAtoms_all (ts : List Jvm.Cond) (a : Array Jvm.Value) (st : Jvm.State) : (allAtoms ts).before a st = ts.all (fun c => c.before a st) := by
  induction ts with
  | nil => rfl
  | cons c t ih =>
    show (Jvm.Cond.and c (allAtoms t)).before a st = _
    rw [Jvm.Cond.before_and, ih, List.all_cons]
def words1 : List Jvm.Cond := Jvm.Cond.code x code maxLocals ret :: tables_1
/-- a 'code' word, met by the world's own term for the bytes: nothing is compared byte by byte -/
theorem code_word {y : MethodName} {bytes : ByteArray} {mx : Nat} {rt : Option FieldType} {a : Array Value} {s : State} {m : MethodId} {meth : Method} {c : Code} (h1 : s.methodNamed? y = some m) (h2 : s.vm.method? m = some meth) (h3 : meth.code = some c) (h4 : c.code = bytes)
    (h5 : (c.maxLocals == mx && c.exceptionTable.isEmpty && decide (c.maxStack ≤ mostOperands) && decide (meth.sig.returnType = rt) && !meth.locks && decide (parseMethodDescriptor y.desc = some meth.sig)) = true) : (Jvm.Cond.code y bytes mx rt).before a s = true := by
  simp only [Bool.and_eq_true, beq_iff_eq, Bool.not_eq_true', decide_eq_true_eq] at h5
  obtain ⟨⟨⟨⟨⟨g1, g2⟩, g3⟩, g4⟩, g5⟩, g6⟩ := h5
  simp [Cond.before, Cond.holds, Cond.value, h1, h2, h3, h4, g1, g2, g3, g4, g5, g6]
def isCode : Jvm.Cond → Bool
  | .code _ _ _ _ => true
  | _ => false
theorem all_split {L : List Jvm.Cond} {P : Jvm.Cond → Bool} (h1 : L.all (fun c => isCode c || P c) = true) (h2 : ∀ c ∈ L.filter isCode, P c = true) : L.all P = true := by
  refine List.all_eq_true.mpr fun c hc => ?_
  have h := List.all_eq_true.mp h1 c hc
  rcases Bool.eq_false_or_eq_true (isCode c) with hi | hi
  · exact h2 c (List.mem_filter.mpr ⟨hc, hi⟩)
  · simpa [hi] using h
set_option maxRecDepth 65536 in
theorem w_c0 : (Jvm.Cond.code x code maxLocals ret).before args0 about1 = true := code_word (m := ⟨1, 1⟩) (meth := k1m1) (c := k1c1) (by decide +kernel) rfl rfl rfl (by decide +kernel)
set_option maxRecDepth 65536 in
theorem w_c1 : (Jvm.Cond.code ({ cls := "com/example/casewright/casewright/types/Answer", name := "not", desc := "()Lcom/example/casewright/casewright/types/Answer;" } : Jvm.MethodName) prog_15_method_7_code (2 : Nat) (Option.some (Jvm.ClassFile.FieldType.object "com/example/casewright/casewright/types/Answer"))).before args0 about1 = true := code_word (m := ⟨6, 2⟩) (meth := k6m2) (c := k6c2) (by decide +kernel) rfl rfl rfl (by decide +kernel)
set_option maxRecDepth 65536 in
theorem w_c2 : (Jvm.Cond.code ({ cls := "com/example/casewright/casewright/types/Answer", name := "and", desc := "(Lcom/example/casewright/casewright/types/Answer;)Lcom/example/casewright/casewright/types/Answer;" } : Jvm.MethodName) prog_15_method_5_code (3 : Nat) (Option.some (Jvm.ClassFile.FieldType.object "com/example/casewright/casewright/types/Answer"))).before args0 about1 = true := code_word (m := ⟨6, 0⟩) (meth := k6m0) (c := k6c0) (by decide +kernel) rfl rfl rfl (by decide +kernel)
set_option maxRecDepth 65536 in
theorem w_c3 : (Jvm.Cond.code ({ cls := "com/example/casewright/casewright/types/Answer", name := "or", desc := "(Lcom/example/casewright/casewright/types/Answer;)Lcom/example/casewright/casewright/types/Answer;" } : Jvm.MethodName) prog_15_method_6_code (3 : Nat) (Option.some (Jvm.ClassFile.FieldType.object "com/example/casewright/casewright/types/Answer"))).before args0 about1 = true := code_word (m := ⟨6, 1⟩) (meth := k6m1) (c := k6c1) (by decide +kernel) rfl rfl rfl (by decide +kernel)
def codes1 : List Jvm.Cond := [Jvm.Cond.code x code maxLocals ret, Jvm.Cond.code ({ cls := "com/example/casewright/casewright/types/Answer", name := "not", desc := "()Lcom/example/casewright/casewright/types/Answer;" } : Jvm.MethodName) prog_15_method_7_code (2 : Nat) (Option.some (Jvm.ClassFile.FieldType.object "com/example/casewright/casewright/types/Answer")), Jvm.Cond.code ({ cls := "com/example/casewright/casewright/types/Answer", name := "and", desc := "(Lcom/example/casewright/casewright/types/Answer;)Lcom/example/casewright/casewright/types/Answer;" } : Jvm.MethodName) prog_15_method_5_code (3 : Nat) (Option.some (Jvm.ClassFile.FieldType.object "com/example/casewright/casewright/types/Answer")), Jvm.Cond.code ({ cls := "com/example/casewright/casewright/types/Answer", name := "or", desc := "(Lcom/example/casewright/casewright/types/Answer;)Lcom/example/casewright/casewright/types/Answer;" } : Jvm.MethodName) prog_15_method_6_code (3 : Nat) (Option.some (Jvm.ClassFile.FieldType.object "com/example/casewright/casewright/types/Answer"))]
set_option maxRecDepth 65536 in
theorem codes_eq : words1.filter isCode = codes1 := rfl
theorem w_codes : ∀ c ∈ words1.filter isCode, c.before args0 about1 = true := by
  rw [codes_eq]
  intro c hc
  simp only [codes1, List.mem_cons, List.not_mem_nil, or_false] at hc
  rcases hc with rfl | rfl | rfl | rfl
  · exact w_c0
  · exact w_c1
  · exact w_c2
  · exact w_c3
set_option maxRecDepth 65536 in
theorem w_t1 : (words1.take 24).all (fun c => isCode c || c.before args0 about1) = true := by decide +kernel
set_option maxRecDepth 65536 in
theorem w_t2 : (words1.drop 24).all (fun c => isCode c || c.before args0 about1) = true := by decide +kernel
theorem w_tables : (allAtoms (Jvm.Cond.code x code maxLocals ret :: tables_1)).before args0 about1 = true := by
  rw [allAtoms_all]
  show words1.all (fun c => c.before args0 about1) = true
  refine all_split ?_ w_codes
  rw [← List.take_append_drop 24 words1, List.all_append, w_t1, w_t2]
  rfl
set_option maxRecDepth 65536 in
theorem w_case : (Jvm.Cond.and given_1 narrow_1).before args0 about1 = true := by decide +kernel
theorem w_applies : (headSpec (Jvm.Cond.code x code maxLocals ret :: tables_1) room_1).applies x e0.platform about1 = true :=
  (Spec.applies_iff w_frames).mpr ⟨w_running, w_runnable, w_alone, w_named, w_hears, w_ripe, w_room, w_tables⟩
theorem atStart : AtStart classFile x code maxLocals ret World_1 tables_1 room_1 Calls_1 rest_1 Pre_1 launch0 p0 e0 about1 theMethod args0 below0 :=
  ⟨lists_1, trivial, launch0.admits_env _ _ _, launch0.least_env, fairChoices_fair.cas, fairChoices_fair.clock, w_frames, w_args, w_heap, w_applies, trivial, trivial, w_case⟩
end start1
theorem witness_1 : WitnessClaimed_1 := ⟨start1.p0, start1.e0, start1.about1, start1.theMethod, start1.args0, start1.below0, start1.atStart⟩
end Jvm.Pilot.@@N@@
