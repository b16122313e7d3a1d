import JvmDerived
import JvmDerived.Pilot.@@N@@Statement
import JvmDerived.Pilot.@@N@@Code
set_option linter.unusedVariables false
set_option linter.unusedSimpArgs false
namespace Jvm.Pilot.@@N@@
open Jvm Jvm.ClassFile Sem Op Lib Jvm.Free Jvm.Stand Jvm.LawKit Jvm.RoadKit Bundle Jvm.Pilot.@@N@@.Jvm.D
def Go (tb : Tables) (e : Env) (below : List Frame) (P : State → Outcome → Prop) (T : State) : Prop := ∃ s₂ o, Steps tb e below T s₂ ∧ P s₂ o
theorem own_go {tb : Tables} {e : Env} {below : List Frame} {P : State → Outcome → Prop} {T T' : State} (h : ∀ t, Steps tb e below T' t → Steps tb e below T t) (k : Go tb e below P T') : Go tb e below P T := by
  obtain ⟨a, b, c, d⟩ := k
  exact ⟨a, b, h a c, d⟩
def Fin (s : State) (below : List Frame) (Q : Option Value → Heap → List Loc → Prop) (cc ss : Nat) (s₂ : State) (o : Outcome) : Prop := s₂.status = .running ∧ Ended s₂ below o ∧ ∃ v L, o = .returned v ∧ Q v s₂.heap L ∧ FrameEnd s o s₂ L cc ss
def PQ (w : Value) (h0 : Heap) (n0 : Nat) (v : Option Value) (h : Heap) (L : List Loc) : Prop := v = some w ∧ Fr n0 L ∧ h = h0
theorem own_ret {p : Program} {l : Launch} {e : Env} {R : Room} {s : State} {m : MethodId} {args : Array Value} {below : List Frame} {meth : Method} {c : Code} {T : State} {locs : List Loc} {cells slots : Nat} (X : Stand p l e R s m args below meth c T locs cells slots) (hx : p.tables.exec = Jvm.exec) (hlk : meth.locks = false)
    {pc : Nat} {Ls : Array Slot} {w : Value} {t : FieldType} {i : Instr} {rest : List Value} (hret : meth.sig.returnType = some t) (hn : narrow t w = w)
    (hi : (i = .ireturn ∧ (t = .int ∨ t = .boolean ∨ t = .byte ∨ t = .char ∨ t = .short) ∧ ∃ z, w = .int z) ∨ (i = .lreturn ∧ t = .long ∧ ∃ z, w = .long z) ∨ (i = .dreturn ∧ t = .double ∧ ∃ z, w = .double z) ∨ (i = .freturn ∧ t = .float ∧ ∃ z, w = .float z) ∨ (i = .areturn ∧ t.isReference = true ∧ w.isRef = true))
    (hd : decode c.code pc = .ok (i, 1)) {Q : Option Value → Heap → List Loc → Prop} (hQ : Q (some w) T.heap locs) {cc ss : Nat} (hc : cells ≤ cc) (hs : slots ≤ ss) :
    Go p.tables e below (Fin s below Q cc ss) (T.setTop (mkF m pc Ls (w :: rest))) := by
  obtain ⟨fs, hr, hrun, hended, hW, hsame⟩ := X.leave (v := some w) (fun h => by rw [hret] at h; cases h) hlk
  exact ⟨_, _, retOut X hx hret hn hi hd hr, hrun, hended, _, _, rfl, hQ, ⟨_, rfl⟩, hW, hsame.mono hc hs⟩
theorem own_fld {Z : State} {args : Array Value} {t : Term} {a : Addr} {C n d : String} {k : Int32} (ev : t.eval args Z none [] Z = some (.ref a)) (h : (Jvm.Cond.eq (.field t C n d) (.int k)).value args Z none Z [] = some true) : Fld Z Z.heap a C n d (.int k) := by
  have e1 : (Term.field t C n d).eval args Z none [] Z = Z.fieldOf? a C n d := fld_at ev
  obtain ⟨x, y, h1, h2, h3, h4⟩ := cmp_v (Or.inl h)
  have e2 : (Term.int k).eval args Z none [] Z = some (.int k) := Term.int_eval k
  cases e2.symm.trans h2
  obtain ⟨z, rfl⟩ := h4
  have q := gotT (u := (Jvm.Cond.eq (.field t C n d) (.int k)).value args Z none Z []) (P := z = k) (by simp [Cond.value, h1, e2]) h
  subst q
  exact Fld.start (e1 ▸ h1)
theorem own_ne {Z : State} {h : Heap} {a b : Addr} {C n d : String} {v w : Value} (F : Fld Z h a C n d v) (G : Fld Z h b C n d w) (hn : v ≠ w) : a ≠ b := by
  rintro rfl
  obtain ⟨c1, cf1, k1, i1, f1, a1, a2, a3, a4, a5, a6, a7⟩ := F
  obtain ⟨c2, cf2, k2, i2, f2, b1, b2, b3, b4, b5, b6, b7⟩ := G
  cases a1.symm.trans b1
  cases a2.symm.trans b2
  exact hn (Option.some.inj (a7.symm.trans b7))
theorem own_mask (x : Int32) : 0 ≤ (x &&& 2147483647).toInt ∧ (x &&& 2147483647).toInt < 2147483648 := by
  have h1 : (x &&& 2147483647).toBitVec.toNat < 2 ^ 31 := by
    rw [Int32.toBitVec_and, BitVec.toNat_and]
    exact Nat.lt_of_le_of_lt Nat.and_le_right (by decide)
  have h2 : (x &&& 2147483647).toInt = ((x &&& 2147483647).toBitVec.toNat : Int) := by
    show (x &&& 2147483647).toBitVec.toInt = _
    rw [BitVec.toInt_eq_toNat_of_lt (by omega)]
  omega
theorem own_mod (x : Int32) (k : Int32) (hk : 0 < k.toInt) : 0 ≤ ((x &&& 2147483647) % k).toInt ∧ ((x &&& 2147483647) % k).toInt < k.toInt := by
  have h := own_mask x
  rw [Int32.toInt_mod]
  rw [Int.tmod_eq_emod_of_nonneg h.1]
  exact ⟨Int.emod_nonneg _ (by omega), Int.emod_lt_of_pos _ hk⟩
theorem own_cases (x : Int32) : (x &&& 2147483647) % 3 = 0 ∨ (x &&& 2147483647) % 3 = 1 ∨ (x &&& 2147483647) % 3 = 2 := by
  have h := own_mod x 3 (by decide)
  have h3 : (3 : Int32).toInt = 3 := rfl
  have c : ((x &&& 2147483647) % 3).toInt = 0 ∨ ((x &&& 2147483647) % 3).toInt = 1 ∨ ((x &&& 2147483647) % 3).toInt = 2 := by omega
  rcases c with c | c | c
  · exact Or.inl (Int32.toInt_inj.mp c)
  · exact Or.inr (Or.inl (Int32.toInt_inj.mp c))
  · exact Or.inr (Or.inr (Int32.toInt_inj.mp c))
def own_S (Z : State) (h0 : Heap) (w_NO w_YES w_UNKNOWN : Addr) : Prop := Sta Z h0 "com/example/casewright/casewright/types/Answer" "NO" "Lcom/example/casewright/casewright/types/Answer;" (.ref w_NO) ∧ Sta Z h0 "com/example/casewright/casewright/types/Answer" "YES" "Lcom/example/casewright/casewright/types/Answer;" (.ref w_YES) ∧ Sta Z h0 "com/example/casewright/casewright/types/Answer" "UNKNOWN" "Lcom/example/casewright/casewright/types/Answer;" (.ref w_UNKNOWN)
def own_E (Z : State) (h0 : Heap) (w_NO w_YES w_UNKNOWN : Addr) : Prop := Exa Z h0 w_NO "com/example/casewright/casewright/types/Answer" ∧ Exa Z h0 w_YES "com/example/casewright/casewright/types/Answer" ∧ Exa Z h0 w_UNKNOWN "com/example/casewright/casewright/types/Answer"
def own_O (Z : State) (h0 : Heap) (w_NO w_YES w_UNKNOWN : Addr) : Prop := Fld Z h0 w_NO "java/lang/Enum" "ordinal" "I" (.int 1) ∧ Fld Z h0 w_YES "java/lang/Enum" "ordinal" "I" (.int 0) ∧ Fld Z h0 w_UNKNOWN "java/lang/Enum" "ordinal" "I" (.int 2)
def own_pick (a b c : Addr) (i : Int32) : Addr := if (i &&& 2147483647) % 3 = 0 then a else if (i &&& 2147483647) % 3 = 1 then b else c
def own_max (a b : Int32) : Int32 := if a < b then b else a
def own_or (wN wU wY a b : Addr) : Addr := if a = wY then wY else if b = wY then wY else if a = wU then wU else if b = wU then wU else wN
def own_rank (wN wU wY a : Addr) : Int32 := if a = wN then 0 else if a = wU then 1 else if a = wY then 2 else -1
theorem d1_0 : decode method_2_code 0 = .ok (.iload_n 0, 1) := by decide +kernel
theorem d1_1 : decode method_2_code 1 = .ok (.ldc 7, 2) := by decide +kernel
theorem d1_3 : decode method_2_code 3 = .ok (.iand, 1) := by decide +kernel
theorem d1_4 : decode method_2_code 4 = .ok (.iconst 3, 1) := by decide +kernel
theorem d1_5 : decode method_2_code 5 = .ok (.irem, 1) := by decide +kernel
theorem d1_6 : decode method_2_code 6 = .ok (.istore_n 1, 1) := by decide +kernel
theorem d1_7 : decode method_2_code 7 = .ok (.iload_n 1, 1) := by decide +kernel
theorem d1_8 : decode method_2_code 8 = .ok (.ifCond .ne 7, 3) := by decide +kernel
theorem d1_11 : decode method_2_code 11 = .ok (.getstatic 8, 3) := by decide +kernel
theorem d1_14 : decode method_2_code 14 = .ok (.areturn, 1) := by decide +kernel
theorem d1_15 : decode method_2_code 15 = .ok (.iload_n 1, 1) := by decide +kernel
theorem d1_16 : decode method_2_code 16 = .ok (.iconst 1, 1) := by decide +kernel
theorem d1_17 : decode method_2_code 17 = .ok (.if_icmp .ne 7, 3) := by decide +kernel
theorem d1_20 : decode method_2_code 20 = .ok (.getstatic 14, 3) := by decide +kernel
theorem d1_23 : decode method_2_code 23 = .ok (.areturn, 1) := by decide +kernel
theorem d1_24 : decode method_2_code 24 = .ok (.getstatic 17, 3) := by decide +kernel
theorem d1_27 : decode method_2_code 27 = .ok (.areturn, 1) := by decide +kernel
theorem pn_0 : plainName "com/example/casewright/casewright/types/AnswerOrPinLaw" = true := by first | (simp [plainName, overriddenIn]; done) | decide +kernel
theorem ef_rm_pick (m : MethodId) (x0 : Int32) : entryFrame m #[(.int x0)] 2 = mkF m 0 #[.val (.int x0), .unset] [] := by first | (simp [entryFrame, mkF, argsToLocals, Value.category]; done) | rfl
set_option maxRecDepth 65536 in
set_option maxHeartbeats 40000000 in
theorem rm_pick (l : Launch) (Z : State) (a0 : Array Value) (hw : ∀ d ∈ tables_1, d.before a0 Z = true) (ws : List Jvm.Cond) (i : Int32) (w_NO w_YES w_UNKNOWN : Addr) (h0 : Heap) (n0 : Nat) (SS : own_S Z h0 w_NO w_YES w_UNKNOWN) :
    MetFree l (⟨"com/example/casewright/casewright/types/AnswerOrPinLaw", "pick", "(I)Lcom/example/casewright/casewright/types/Answer;"⟩ : MethodName) (head1 (Jvm.Cond.code (⟨"com/example/casewright/casewright/types/AnswerOrPinLaw", "pick", "(I)Lcom/example/casewright/casewright/types/Answer;"⟩ : MethodName) method_2_code 2 (some (.object "com/example/casewright/casewright/types/Answer")) :: ws) ({ frames := 0, cells := 0, slots := 0, locals := 0 } : Room)) (fun aa U => aa = #[(.int i)] ∧ Z.Warmed39 U.vm ∧ U.heap = h0) (fun _ _ _ _ _ => True) (fun _ U o U' => ∃ v L, o = .returned v ∧ PQ (.ref (own_pick w_NO w_UNKNOWN w_YES i)) h0 n0 v U'.heap L ∧ FrameEnd U o U' L ({ frames := 0, cells := 0, slots := 0, locals := 0 } : Room).cells ({ frames := 0, cells := 0, slots := 0, locals := 0 } : Room).slots) := by
  refine MetFree.of_bodySF (plainFor_of_name pn_0) hisR ?_
  intro p e s m args below meth c s₁ Bd hml0 hP hK
  obtain ⟨rfl, hZ, hh⟩ := hP
  have hx := Bd.exec
  have hby := Bd.bytes
  have hlk := Bd.notSynchronized
  have hml : c.maxLocals = 2 := hml0
  have hown : s.vm.findClass "com/example/casewright/casewright/types/AnswerOrPinLaw" = some m.cls := findClass_of_methodNamed Bd.named
  have X0 : Stand p l e ({ frames := 0, cells := 0, slots := 0, locals := 0 } : Room) s m #[(.int i)] below meth c s₁ [] 0 0 := Stand.of_body Bd
  have e0 : s₁.heap = h0 := by rw [← hh, Bd.state]; rfl
  have N0 := Fr.nil n0
  obtain ⟨S_NO, S_YES, S_UNKNOWN⟩ := SS
  show Go p.tables e below (Fin s below (PQ (.ref (own_pick w_NO w_UNKNOWN w_YES i)) h0 n0) ({ frames := 0, cells := 0, slots := 0, locals := 0 } : Room).cells ({ frames := 0, cells := 0, slots := 0, locals := 0 } : Room).slots) (s₁.setTop (entryFrame m #[(.int i)] 2))
  refine own_go (fun t k => castTop (ef_rm_pick m i) k) ?_
  show Go p.tables e below _ (s₁.setTop (mkF m 0 #[.val (.int i), .unset] []))
  refine own_go (fun t k => XS.iloadN X0.here hx rfl (hb hby d1_0) rfl k) ?_
  show Go p.tables e below _ (s₁.setTop (mkF m 1 #[.val (.int i), .unset] [(.int i)]))
  refine own_go (fun t k => Jvm.Stand.ldcI X0 hx hown (mvT hZ (hw _ (List.mem_of_getElem? (i := 4) rfl))) rfl (hb hby d1_1) k) ?_
  show Go p.tables e below _ (s₁.setTop (mkF m 3 #[.val (.int i), .unset] [(.int (2147483647 : Int32)), (.int i)]))
  refine own_go (fun t k => XS.iand X0.here hx rfl (hb hby d1_3) rfl k) ?_
  show Go p.tables e below _ (s₁.setTop (mkF m 4 #[.val (.int i), .unset] [(.int (i &&& (2147483647 : Int32)))]))
  refine own_go (fun t k => XS.iconst X0.here hx rfl (hb hby d1_4) k) ?_
  show Go p.tables e below _ (s₁.setTop (mkF m 5 #[.val (.int i), .unset] [(.int (3 : Int32)), (.int (i &&& (2147483647 : Int32)))]))
  refine own_go (fun t k => iremM (g := (mkF m 5 #[.val (.int i), .unset] [(.int (3 : Int32)), (.int (i &&& (2147483647 : Int32)))])) X0 hx rfl (hb hby d1_5) rfl (by decide) k) ?_
  show Go p.tables e below _ (s₁.setTop (mkF m 6 #[.val (.int i), .unset] [(.int ((i &&& (2147483647 : Int32)) % (3 : Int32)))]))
  refine own_go (fun t k => XS.istoreN X0.here hx rfl (hb hby d1_6) rfl (l' := #[.val (.int i), .val (.int ((i &&& (2147483647 : Int32)) % (3 : Int32)))]) rfl k) ?_
  show Go p.tables e below _ (s₁.setTop (mkF m 7 #[.val (.int i), .val (.int ((i &&& (2147483647 : Int32)) % (3 : Int32)))] []))
  refine own_go (fun t k => XS.iloadN X0.here hx rfl (hb hby d1_7) rfl k) ?_
  show Go p.tables e below _ (s₁.setTop (mkF m 8 #[.val (.int i), .val (.int ((i &&& (2147483647 : Int32)) % (3 : Int32)))] [(.int ((i &&& (2147483647 : Int32)) % (3 : Int32)))]))
  by_cases hc1 : ((i &&& (2147483647 : Int32)) % (3 : Int32)) = 0
  · refine own_go (fun t k => XS.ifNo X0.here hx rfl (hb hby d1_8) rfl (XT.i0_ne_f hc1) k) ?_
    show Go p.tables e below _ (s₁.setTop (mkF m 11 #[.val (.int i), .val (.int ((i &&& (2147483647 : Int32)) % (3 : Int32)))] []))
    obtain ⟨T2, X2, e2, st2⟩ := getS2 X0 hx hZ hown (host := "") (Or.inl (hw _ (List.mem_of_getElem? (i := 5) rfl))) Via.refl e0 S_NO (g := (mkF m 11 #[.val (.int i), .val (.int ((i &&& (2147483647 : Int32)) % (3 : Int32)))] [])) rfl (hb hby d1_11)
    refine own_go (fun t k => st2 t k) ?_
    show Go p.tables e below _ (T2.setTop (mkF m 14 #[.val (.int i), .val (.int ((i &&& (2147483647 : Int32)) % (3 : Int32)))] [(.ref w_NO)]))
    exact own_ret X2 hx hlk Bd.returns rfl (Or.inr (Or.inr (Or.inr (Or.inr ⟨rfl, rfl, rfl⟩)))) (hb hby d1_14) ⟨by first | (simp [own_pick, hc1]; done) | rw [own_pick, if_pos hc1], N0, e2⟩ (by decide) (by decide)
  · refine own_go (fun t k => XS.ifYes X0.here hx rfl (pc0 := 8) (pc' := 15) rfl (hb hby d1_8) rfl (XT.i0_ne_t hc1) (by decide) (by decide) k) ?_
    show Go p.tables e below _ (s₁.setTop (mkF m 15 #[.val (.int i), .val (.int ((i &&& (2147483647 : Int32)) % (3 : Int32)))] []))
    refine own_go (fun t k => XS.iloadN X0.here hx rfl (hb hby d1_15) rfl k) ?_
    show Go p.tables e below _ (s₁.setTop (mkF m 16 #[.val (.int i), .val (.int ((i &&& (2147483647 : Int32)) % (3 : Int32)))] [(.int ((i &&& (2147483647 : Int32)) % (3 : Int32)))]))
    refine own_go (fun t k => XS.iconst X0.here hx rfl (hb hby d1_16) k) ?_
    show Go p.tables e below _ (s₁.setTop (mkF m 17 #[.val (.int i), .val (.int ((i &&& (2147483647 : Int32)) % (3 : Int32)))] [(.int (1 : Int32)), (.int ((i &&& (2147483647 : Int32)) % (3 : Int32)))]))
    by_cases hc3 : ((i &&& (2147483647 : Int32)) % (3 : Int32)) = (1 : Int32)
    · refine own_go (fun t k => XS.icmpNo X0.here hx rfl (hb hby d1_17) rfl (XT.ii_ne_f hc3) k) ?_
      show Go p.tables e below _ (s₁.setTop (mkF m 20 #[.val (.int i), .val (.int ((i &&& (2147483647 : Int32)) % (3 : Int32)))] []))
      obtain ⟨T4, X4, e4, st4⟩ := getS2 X0 hx hZ hown (host := "") (Or.inl (hw _ (List.mem_of_getElem? (i := 26) rfl))) Via.refl e0 S_UNKNOWN (g := (mkF m 20 #[.val (.int i), .val (.int ((i &&& (2147483647 : Int32)) % (3 : Int32)))] [])) rfl (hb hby d1_20)
      refine own_go (fun t k => st4 t k) ?_
      show Go p.tables e below _ (T4.setTop (mkF m 23 #[.val (.int i), .val (.int ((i &&& (2147483647 : Int32)) % (3 : Int32)))] [(.ref w_UNKNOWN)]))
      exact own_ret X4 hx hlk Bd.returns rfl (Or.inr (Or.inr (Or.inr (Or.inr ⟨rfl, rfl, rfl⟩)))) (hb hby d1_23) ⟨by first | (simp [own_pick, hc1, hc3]; done) | rw [own_pick, if_neg hc1, if_pos hc3], N0, e4⟩ (by decide) (by decide)
    · refine own_go (fun t k => XS.icmpYes X0.here hx rfl (pc0 := 17) (pc' := 24) rfl (hb hby d1_17) rfl (XT.ii_ne_t hc3) (by decide) (by decide) k) ?_
      show Go p.tables e below _ (s₁.setTop (mkF m 24 #[.val (.int i), .val (.int ((i &&& (2147483647 : Int32)) % (3 : Int32)))] []))
      obtain ⟨T5, X5, e5, st5⟩ := getS2 X0 hx hZ hown (host := "") (Or.inl (hw _ (List.mem_of_getElem? (i := 25) rfl))) Via.refl e0 S_YES (g := (mkF m 24 #[.val (.int i), .val (.int ((i &&& (2147483647 : Int32)) % (3 : Int32)))] [])) rfl (hb hby d1_24)
      refine own_go (fun t k => st5 t k) ?_
      show Go p.tables e below _ (T5.setTop (mkF m 27 #[.val (.int i), .val (.int ((i &&& (2147483647 : Int32)) % (3 : Int32)))] [(.ref w_YES)]))
      exact own_ret X5 hx hlk Bd.returns rfl (Or.inr (Or.inr (Or.inr (Or.inr ⟨rfl, rfl, rfl⟩)))) (hb hby d1_27) ⟨by first | (simp [own_pick, hc1, hc3]; done) | rw [own_pick, if_neg hc1, if_neg hc3], N0, e5⟩ (by decide) (by decide)
theorem d4_0 : decode jdk_29_method_65_code 0 = .ok (.iload_n 0, 1) := by decide +kernel
theorem d4_1 : decode jdk_29_method_65_code 1 = .ok (.iload_n 1, 1) := by decide +kernel
theorem d4_2 : decode jdk_29_method_65_code 2 = .ok (.if_icmp .lt 7, 3) := by decide +kernel
theorem d4_5 : decode jdk_29_method_65_code 5 = .ok (.iload_n 0, 1) := by decide +kernel
theorem d4_6 : decode jdk_29_method_65_code 6 = .ok (.goto 4, 3) := by decide +kernel
theorem d4_9 : decode jdk_29_method_65_code 9 = .ok (.iload_n 1, 1) := by decide +kernel
theorem d4_10 : decode jdk_29_method_65_code 10 = .ok (.ireturn, 1) := by decide +kernel
theorem ef_rm_max (m : MethodId) (x0 : Int32) (x1 : Int32) : entryFrame m #[(.int x0), (.int x1)] 2 = mkF m 0 #[.val (.int x0), .val (.int x1)] [] := by first | (simp [entryFrame, mkF, argsToLocals, Value.category]; done) | rfl
set_option maxRecDepth 65536 in
set_option maxHeartbeats 40000000 in
theorem rm_max (l : Launch) (Z : State) (a0 : Array Value) (hw : ∀ d ∈ tables_1, d.before a0 Z = true) (ws : List Jvm.Cond) (a b : Int32) (h0 : Heap) (n0 : Nat)  :
    MetFree l (⟨"java/lang/Math", "max", "(II)I"⟩ : MethodName) (head1 (Jvm.Cond.code (⟨"java/lang/Math", "max", "(II)I"⟩ : MethodName) jdk_29_method_65_code 2 (some .int) :: ws) ({ frames := 0, cells := 0, slots := 0, locals := 0 } : Room)) (fun aa U => aa = #[(.int a), (.int b)] ∧ Z.Warmed39 U.vm ∧ U.heap = h0) (fun _ _ _ _ _ => True) (fun _ U o U' => ∃ v L, o = .returned v ∧ PQ (.int (own_max a b)) h0 n0 v U'.heap L ∧ FrameEnd U o U' L ({ frames := 0, cells := 0, slots := 0, locals := 0 } : Room).cells ({ frames := 0, cells := 0, slots := 0, locals := 0 } : Room).slots) := by
  refine MetFree.of_bodySF (Jvm.Free.JP.mathPlain rfl (by decide +kernel)) hisR ?_
  intro p e s m args below meth c s₁ Bd hml0 hP hK
  obtain ⟨rfl, hZ, hh⟩ := hP
  have hx := Bd.exec
  have hby := Bd.bytes
  have hlk := Bd.notSynchronized
  have hml : c.maxLocals = 2 := hml0
  have hown : s.vm.findClass "java/lang/Math" = some m.cls := findClass_of_methodNamed Bd.named
  have X0 : Stand p l e ({ frames := 0, cells := 0, slots := 0, locals := 0 } : Room) s m #[(.int a), (.int b)] below meth c s₁ [] 0 0 := Stand.of_body Bd
  have e0 : s₁.heap = h0 := by rw [← hh, Bd.state]; rfl
  have N0 := Fr.nil n0
  show Go p.tables e below (Fin s below (PQ (.int (own_max a b)) h0 n0) ({ frames := 0, cells := 0, slots := 0, locals := 0 } : Room).cells ({ frames := 0, cells := 0, slots := 0, locals := 0 } : Room).slots) (s₁.setTop (entryFrame m #[(.int a), (.int b)] 2))
  refine own_go (fun t k => castTop (ef_rm_max m a b) k) ?_
  show Go p.tables e below _ (s₁.setTop (mkF m 0 #[.val (.int a), .val (.int b)] []))
  refine own_go (fun t k => XS.iloadN X0.here hx rfl (hb hby d4_0) rfl k) ?_
  show Go p.tables e below _ (s₁.setTop (mkF m 1 #[.val (.int a), .val (.int b)] [(.int a)]))
  refine own_go (fun t k => XS.iloadN X0.here hx rfl (hb hby d4_1) rfl k) ?_
  show Go p.tables e below _ (s₁.setTop (mkF m 2 #[.val (.int a), .val (.int b)] [(.int b), (.int a)]))
  by_cases hc1 : a < b
  · refine own_go (fun t k => XS.icmpYes X0.here hx rfl (pc0 := 2) (pc' := 9) rfl (hb hby d4_2) rfl (XT.ii_lt_t hc1) (by decide) (by decide) k) ?_
    show Go p.tables e below _ (s₁.setTop (mkF m 9 #[.val (.int a), .val (.int b)] []))
    refine own_go (fun t k => XS.iloadN X0.here hx rfl (hb hby d4_9) rfl k) ?_
    show Go p.tables e below _ (s₁.setTop (mkF m 10 #[.val (.int a), .val (.int b)] [(.int b)]))
    exact own_ret X0 hx hlk Bd.returns rfl (Or.inl ⟨rfl, Or.inl rfl, _, rfl⟩) (hb hby d4_10) ⟨by first | (simp [own_max, hc1]; done) | rw [own_max, if_pos hc1], N0, e0⟩ (by decide) (by decide)
  · refine own_go (fun t k => XS.icmpNo X0.here hx rfl (hb hby d4_2) rfl (XT.ii_lt_f hc1) k) ?_
    show Go p.tables e below _ (s₁.setTop (mkF m 5 #[.val (.int a), .val (.int b)] []))
    refine own_go (fun t k => XS.iloadN X0.here hx rfl (hb hby d4_5) rfl k) ?_
    show Go p.tables e below _ (s₁.setTop (mkF m 6 #[.val (.int a), .val (.int b)] [(.int a)]))
    refine own_go (fun t k => XS.goto X0.here hx rfl (pc0 := 6) (pc' := 10) rfl (hb hby d4_6) (by decide) (by decide) k) ?_
    show Go p.tables e below _ (s₁.setTop (mkF m 10 #[.val (.int a), .val (.int b)] [(.int a)]))
    exact own_ret X0 hx hlk Bd.returns rfl (Or.inl ⟨rfl, Or.inl rfl, _, rfl⟩) (hb hby d4_10) ⟨by first | (simp [own_max, hc1]; done) | rw [own_max, if_neg hc1], N0, e0⟩ (by decide) (by decide)
theorem d2_0 : decode prog_15_method_6_code 0 = .ok (.aload_n 0, 1) := by decide +kernel
theorem d2_1 : decode prog_15_method_6_code 1 = .ok (.getstatic 3, 3) := by decide +kernel
theorem d2_4 : decode prog_15_method_6_code 4 = .ok (.if_acmp .eq 10, 3) := by decide +kernel
theorem d2_7 : decode prog_15_method_6_code 7 = .ok (.aload_n 1, 1) := by decide +kernel
theorem d2_8 : decode prog_15_method_6_code 8 = .ok (.getstatic 3, 3) := by decide +kernel
theorem d2_11 : decode prog_15_method_6_code 11 = .ok (.if_acmp .ne 10, 3) := by decide +kernel
theorem d2_14 : decode prog_15_method_6_code 14 = .ok (.getstatic 3, 3) := by decide +kernel
theorem d2_17 : decode prog_15_method_6_code 17 = .ok (.astore_n 2, 1) := by decide +kernel
theorem d2_18 : decode prog_15_method_6_code 18 = .ok (.goto 28, 3) := by decide +kernel
theorem d2_21 : decode prog_15_method_6_code 21 = .ok (.aload_n 0, 1) := by decide +kernel
theorem d2_22 : decode prog_15_method_6_code 22 = .ok (.getstatic 10, 3) := by decide +kernel
theorem d2_25 : decode prog_15_method_6_code 25 = .ok (.if_acmp .eq 10, 3) := by decide +kernel
theorem d2_28 : decode prog_15_method_6_code 28 = .ok (.aload_n 1, 1) := by decide +kernel
theorem d2_29 : decode prog_15_method_6_code 29 = .ok (.getstatic 10, 3) := by decide +kernel
theorem d2_32 : decode prog_15_method_6_code 32 = .ok (.if_acmp .ne 10, 3) := by decide +kernel
theorem d2_35 : decode prog_15_method_6_code 35 = .ok (.getstatic 10, 3) := by decide +kernel
theorem d2_38 : decode prog_15_method_6_code 38 = .ok (.astore_n 2, 1) := by decide +kernel
theorem d2_39 : decode prog_15_method_6_code 39 = .ok (.goto 7, 3) := by decide +kernel
theorem d2_42 : decode prog_15_method_6_code 42 = .ok (.getstatic 7, 3) := by decide +kernel
theorem d2_45 : decode prog_15_method_6_code 45 = .ok (.astore_n 2, 1) := by decide +kernel
theorem d2_46 : decode prog_15_method_6_code 46 = .ok (.aload_n 2, 1) := by decide +kernel
theorem d2_47 : decode prog_15_method_6_code 47 = .ok (.areturn, 1) := by decide +kernel
theorem pn_1 : plainName "com/example/casewright/casewright/types/Answer" = true := by first | (simp [plainName, overriddenIn]; done) | decide +kernel
theorem ef_rm_or (m : MethodId) (x0 : Addr) (x1 : Addr) : entryFrame m #[(.ref x0), (.ref x1)] 3 = mkF m 0 #[.val (.ref x0), .val (.ref x1), .unset] [] := by first | (simp [entryFrame, mkF, argsToLocals, Value.category]; done) | rfl
set_option maxRecDepth 65536 in
set_option maxHeartbeats 40000000 in
theorem rm_or (l : Launch) (Z : State) (a0 : Array Value) (hw : ∀ d ∈ tables_1, d.before a0 Z = true) (ws : List Jvm.Cond) (a b : Addr) (w_NO w_YES w_UNKNOWN : Addr) (h0 : Heap) (n0 : Nat) (SS : own_S Z h0 w_NO w_YES w_UNKNOWN) :
    MetFree l (⟨"com/example/casewright/casewright/types/Answer", "or", "(Lcom/example/casewright/casewright/types/Answer;)Lcom/example/casewright/casewright/types/Answer;"⟩ : MethodName) (head1 (Jvm.Cond.code (⟨"com/example/casewright/casewright/types/Answer", "or", "(Lcom/example/casewright/casewright/types/Answer;)Lcom/example/casewright/casewright/types/Answer;"⟩ : MethodName) prog_15_method_6_code 3 (some (.object "com/example/casewright/casewright/types/Answer")) :: ws) ({ frames := 0, cells := 0, slots := 0, locals := 0 } : Room)) (fun aa U => aa = #[(.ref a), (.ref b)] ∧ Z.Warmed39 U.vm ∧ U.heap = h0) (fun _ _ _ _ _ => True) (fun _ U o U' => ∃ v L, o = .returned v ∧ PQ (.ref (own_or w_NO w_UNKNOWN w_YES a b)) h0 n0 v U'.heap L ∧ FrameEnd U o U' L ({ frames := 0, cells := 0, slots := 0, locals := 0 } : Room).cells ({ frames := 0, cells := 0, slots := 0, locals := 0 } : Room).slots) := by
  refine MetFree.of_bodySF (plainFor_of_name pn_1) hisR ?_
  intro p e s m args below meth c s₁ Bd hml0 hP hK
  obtain ⟨rfl, hZ, hh⟩ := hP
  have hx := Bd.exec
  have hby := Bd.bytes
  have hlk := Bd.notSynchronized
  have hml : c.maxLocals = 3 := hml0
  have hown : s.vm.findClass "com/example/casewright/casewright/types/Answer" = some m.cls := findClass_of_methodNamed Bd.named
  have X0 : Stand p l e ({ frames := 0, cells := 0, slots := 0, locals := 0 } : Room) s m #[(.ref a), (.ref b)] below meth c s₁ [] 0 0 := Stand.of_body Bd
  have e0 : s₁.heap = h0 := by rw [← hh, Bd.state]; rfl
  have N0 := Fr.nil n0
  obtain ⟨S_NO, S_YES, S_UNKNOWN⟩ := SS
  show Go p.tables e below (Fin s below (PQ (.ref (own_or w_NO w_UNKNOWN w_YES a b)) h0 n0) ({ frames := 0, cells := 0, slots := 0, locals := 0 } : Room).cells ({ frames := 0, cells := 0, slots := 0, locals := 0 } : Room).slots) (s₁.setTop (entryFrame m #[(.ref a), (.ref b)] 3))
  refine own_go (fun t k => castTop (ef_rm_or m a b) k) ?_
  show Go p.tables e below _ (s₁.setTop (mkF m 0 #[.val (.ref a), .val (.ref b), .unset] []))
  refine own_go (fun t k => XS.aloadN X0.here hx rfl (hb hby d2_0) rfl rfl k) ?_
  show Go p.tables e below _ (s₁.setTop (mkF m 1 #[.val (.ref a), .val (.ref b), .unset] [(.ref a)]))
  obtain ⟨T1, X1, e1, st1⟩ := getS2 X0 hx hZ hown (host := "") (Or.inl (hw _ (List.mem_of_getElem? (i := 13) rfl))) Via.refl e0 S_YES (g := (mkF m 1 #[.val (.ref a), .val (.ref b), .unset] [(.ref a)])) rfl (hb hby d2_1)
  refine own_go (fun t k => st1 t k) ?_
  show Go p.tables e below _ (T1.setTop (mkF m 4 #[.val (.ref a), .val (.ref b), .unset] [(.ref w_YES), (.ref a)]))
  by_cases hc2 : a = w_YES
  · refine own_go (fun t k => XT.acmpYes X1.here hx rfl (pc0 := 4) (pc' := 14) rfl (hb hby d2_4) rfl rfl rfl (XT.aa_eq_t (congrArg Value.ref hc2)) (by decide) (by decide) k) ?_
    show Go p.tables e below _ (T1.setTop (mkF m 14 #[.val (.ref a), .val (.ref b), .unset] []))
    obtain ⟨T3, X3, e3, st3⟩ := getS2 X1 hx hZ hown (host := "") (Or.inl (hw _ (List.mem_of_getElem? (i := 13) rfl))) Via.refl e1 S_YES (g := (mkF m 14 #[.val (.ref a), .val (.ref b), .unset] [])) rfl (hb hby d2_14)
    refine own_go (fun t k => st3 t k) ?_
    show Go p.tables e below _ (T3.setTop (mkF m 17 #[.val (.ref a), .val (.ref b), .unset] [(.ref w_YES)]))
    refine own_go (fun t k => XS.astoreN X3.here hx rfl (hb hby d2_17) rfl rfl (l' := #[.val (.ref a), .val (.ref b), .val (.ref w_YES)]) rfl k) ?_
    show Go p.tables e below _ (T3.setTop (mkF m 18 #[.val (.ref a), .val (.ref b), .val (.ref w_YES)] []))
    refine own_go (fun t k => XS.goto X3.here hx rfl (pc0 := 18) (pc' := 46) rfl (hb hby d2_18) (by decide) (by decide) k) ?_
    show Go p.tables e below _ (T3.setTop (mkF m 46 #[.val (.ref a), .val (.ref b), .val (.ref w_YES)] []))
    refine own_go (fun t k => XS.aloadN X3.here hx rfl (hb hby d2_46) rfl rfl k) ?_
    show Go p.tables e below _ (T3.setTop (mkF m 47 #[.val (.ref a), .val (.ref b), .val (.ref w_YES)] [(.ref w_YES)]))
    exact own_ret X3 hx hlk Bd.returns rfl (Or.inr (Or.inr (Or.inr (Or.inr ⟨rfl, rfl, rfl⟩)))) (hb hby d2_47) ⟨by first | (simp [own_or, hc2]; done) | rw [own_or, if_pos hc2], N0, e3⟩ (by decide) (by decide)
  · refine own_go (fun t k => XT.acmpNo X1.here hx rfl (hb hby d2_4) rfl rfl rfl (XT.aa_eq_f (fun q => hc2 (Value.ref.inj q))) k) ?_
    show Go p.tables e below _ (T1.setTop (mkF m 7 #[.val (.ref a), .val (.ref b), .unset] []))
    refine own_go (fun t k => XS.aloadN X1.here hx rfl (hb hby d2_7) rfl rfl k) ?_
    show Go p.tables e below _ (T1.setTop (mkF m 8 #[.val (.ref a), .val (.ref b), .unset] [(.ref b)]))
    obtain ⟨T4, X4, e4, st4⟩ := getS2 X1 hx hZ hown (host := "") (Or.inl (hw _ (List.mem_of_getElem? (i := 13) rfl))) Via.refl e1 S_YES (g := (mkF m 8 #[.val (.ref a), .val (.ref b), .unset] [(.ref b)])) rfl (hb hby d2_8)
    refine own_go (fun t k => st4 t k) ?_
    show Go p.tables e below _ (T4.setTop (mkF m 11 #[.val (.ref a), .val (.ref b), .unset] [(.ref w_YES), (.ref b)]))
    by_cases hc5 : b = w_YES
    · refine own_go (fun t k => XT.acmpNo X4.here hx rfl (hb hby d2_11) rfl rfl rfl (XT.aa_ne_f (congrArg Value.ref hc5)) k) ?_
      show Go p.tables e below _ (T4.setTop (mkF m 14 #[.val (.ref a), .val (.ref b), .unset] []))
      obtain ⟨T6, X6, e6, st6⟩ := getS2 X4 hx hZ hown (host := "") (Or.inl (hw _ (List.mem_of_getElem? (i := 13) rfl))) Via.refl e4 S_YES (g := (mkF m 14 #[.val (.ref a), .val (.ref b), .unset] [])) rfl (hb hby d2_14)
      refine own_go (fun t k => st6 t k) ?_
      show Go p.tables e below _ (T6.setTop (mkF m 17 #[.val (.ref a), .val (.ref b), .unset] [(.ref w_YES)]))
      refine own_go (fun t k => XS.astoreN X6.here hx rfl (hb hby d2_17) rfl rfl (l' := #[.val (.ref a), .val (.ref b), .val (.ref w_YES)]) rfl k) ?_
      show Go p.tables e below _ (T6.setTop (mkF m 18 #[.val (.ref a), .val (.ref b), .val (.ref w_YES)] []))
      refine own_go (fun t k => XS.goto X6.here hx rfl (pc0 := 18) (pc' := 46) rfl (hb hby d2_18) (by decide) (by decide) k) ?_
      show Go p.tables e below _ (T6.setTop (mkF m 46 #[.val (.ref a), .val (.ref b), .val (.ref w_YES)] []))
      refine own_go (fun t k => XS.aloadN X6.here hx rfl (hb hby d2_46) rfl rfl k) ?_
      show Go p.tables e below _ (T6.setTop (mkF m 47 #[.val (.ref a), .val (.ref b), .val (.ref w_YES)] [(.ref w_YES)]))
      exact own_ret X6 hx hlk Bd.returns rfl (Or.inr (Or.inr (Or.inr (Or.inr ⟨rfl, rfl, rfl⟩)))) (hb hby d2_47) ⟨by first | (simp [own_or, hc2, hc5]; done) | rw [own_or, if_neg hc2, if_pos hc5], N0, e6⟩ (by decide) (by decide)
    · refine own_go (fun t k => XT.acmpYes X4.here hx rfl (pc0 := 11) (pc' := 21) rfl (hb hby d2_11) rfl rfl rfl (XT.aa_ne_t (fun q => hc5 (Value.ref.inj q))) (by decide) (by decide) k) ?_
      show Go p.tables e below _ (T4.setTop (mkF m 21 #[.val (.ref a), .val (.ref b), .unset] []))
      refine own_go (fun t k => XS.aloadN X4.here hx rfl (hb hby d2_21) rfl rfl k) ?_
      show Go p.tables e below _ (T4.setTop (mkF m 22 #[.val (.ref a), .val (.ref b), .unset] [(.ref a)]))
      obtain ⟨T7, X7, e7, st7⟩ := getS2 X4 hx hZ hown (host := "") (Or.inl (hw _ (List.mem_of_getElem? (i := 15) rfl))) Via.refl e4 S_UNKNOWN (g := (mkF m 22 #[.val (.ref a), .val (.ref b), .unset] [(.ref a)])) rfl (hb hby d2_22)
      refine own_go (fun t k => st7 t k) ?_
      show Go p.tables e below _ (T7.setTop (mkF m 25 #[.val (.ref a), .val (.ref b), .unset] [(.ref w_UNKNOWN), (.ref a)]))
      by_cases hc8 : a = w_UNKNOWN
      · refine own_go (fun t k => XT.acmpYes X7.here hx rfl (pc0 := 25) (pc' := 35) rfl (hb hby d2_25) rfl rfl rfl (XT.aa_eq_t (congrArg Value.ref hc8)) (by decide) (by decide) k) ?_
        show Go p.tables e below _ (T7.setTop (mkF m 35 #[.val (.ref a), .val (.ref b), .unset] []))
        obtain ⟨T9, X9, e9, st9⟩ := getS2 X7 hx hZ hown (host := "") (Or.inl (hw _ (List.mem_of_getElem? (i := 15) rfl))) Via.refl e7 S_UNKNOWN (g := (mkF m 35 #[.val (.ref a), .val (.ref b), .unset] [])) rfl (hb hby d2_35)
        refine own_go (fun t k => st9 t k) ?_
        show Go p.tables e below _ (T9.setTop (mkF m 38 #[.val (.ref a), .val (.ref b), .unset] [(.ref w_UNKNOWN)]))
        refine own_go (fun t k => XS.astoreN X9.here hx rfl (hb hby d2_38) rfl rfl (l' := #[.val (.ref a), .val (.ref b), .val (.ref w_UNKNOWN)]) rfl k) ?_
        show Go p.tables e below _ (T9.setTop (mkF m 39 #[.val (.ref a), .val (.ref b), .val (.ref w_UNKNOWN)] []))
        refine own_go (fun t k => XS.goto X9.here hx rfl (pc0 := 39) (pc' := 46) rfl (hb hby d2_39) (by decide) (by decide) k) ?_
        show Go p.tables e below _ (T9.setTop (mkF m 46 #[.val (.ref a), .val (.ref b), .val (.ref w_UNKNOWN)] []))
        refine own_go (fun t k => XS.aloadN X9.here hx rfl (hb hby d2_46) rfl rfl k) ?_
        show Go p.tables e below _ (T9.setTop (mkF m 47 #[.val (.ref a), .val (.ref b), .val (.ref w_UNKNOWN)] [(.ref w_UNKNOWN)]))
        exact own_ret X9 hx hlk Bd.returns rfl (Or.inr (Or.inr (Or.inr (Or.inr ⟨rfl, rfl, rfl⟩)))) (hb hby d2_47) ⟨by first | (simp [own_or, hc2, hc5, hc8]; done) | rw [own_or, if_neg hc2, if_neg hc5, if_pos hc8], N0, e9⟩ (by decide) (by decide)
      · refine own_go (fun t k => XT.acmpNo X7.here hx rfl (hb hby d2_25) rfl rfl rfl (XT.aa_eq_f (fun q => hc8 (Value.ref.inj q))) k) ?_
        show Go p.tables e below _ (T7.setTop (mkF m 28 #[.val (.ref a), .val (.ref b), .unset] []))
        refine own_go (fun t k => XS.aloadN X7.here hx rfl (hb hby d2_28) rfl rfl k) ?_
        show Go p.tables e below _ (T7.setTop (mkF m 29 #[.val (.ref a), .val (.ref b), .unset] [(.ref b)]))
        obtain ⟨T10, X10, e10, st10⟩ := getS2 X7 hx hZ hown (host := "") (Or.inl (hw _ (List.mem_of_getElem? (i := 15) rfl))) Via.refl e7 S_UNKNOWN (g := (mkF m 29 #[.val (.ref a), .val (.ref b), .unset] [(.ref b)])) rfl (hb hby d2_29)
        refine own_go (fun t k => st10 t k) ?_
        show Go p.tables e below _ (T10.setTop (mkF m 32 #[.val (.ref a), .val (.ref b), .unset] [(.ref w_UNKNOWN), (.ref b)]))
        by_cases hc11 : b = w_UNKNOWN
        · refine own_go (fun t k => XT.acmpNo X10.here hx rfl (hb hby d2_32) rfl rfl rfl (XT.aa_ne_f (congrArg Value.ref hc11)) k) ?_
          show Go p.tables e below _ (T10.setTop (mkF m 35 #[.val (.ref a), .val (.ref b), .unset] []))
          obtain ⟨T12, X12, e12, st12⟩ := getS2 X10 hx hZ hown (host := "") (Or.inl (hw _ (List.mem_of_getElem? (i := 15) rfl))) Via.refl e10 S_UNKNOWN (g := (mkF m 35 #[.val (.ref a), .val (.ref b), .unset] [])) rfl (hb hby d2_35)
          refine own_go (fun t k => st12 t k) ?_
          show Go p.tables e below _ (T12.setTop (mkF m 38 #[.val (.ref a), .val (.ref b), .unset] [(.ref w_UNKNOWN)]))
          refine own_go (fun t k => XS.astoreN X12.here hx rfl (hb hby d2_38) rfl rfl (l' := #[.val (.ref a), .val (.ref b), .val (.ref w_UNKNOWN)]) rfl k) ?_
          show Go p.tables e below _ (T12.setTop (mkF m 39 #[.val (.ref a), .val (.ref b), .val (.ref w_UNKNOWN)] []))
          refine own_go (fun t k => XS.goto X12.here hx rfl (pc0 := 39) (pc' := 46) rfl (hb hby d2_39) (by decide) (by decide) k) ?_
          show Go p.tables e below _ (T12.setTop (mkF m 46 #[.val (.ref a), .val (.ref b), .val (.ref w_UNKNOWN)] []))
          refine own_go (fun t k => XS.aloadN X12.here hx rfl (hb hby d2_46) rfl rfl k) ?_
          show Go p.tables e below _ (T12.setTop (mkF m 47 #[.val (.ref a), .val (.ref b), .val (.ref w_UNKNOWN)] [(.ref w_UNKNOWN)]))
          exact own_ret X12 hx hlk Bd.returns rfl (Or.inr (Or.inr (Or.inr (Or.inr ⟨rfl, rfl, rfl⟩)))) (hb hby d2_47) ⟨by first | (simp [own_or, hc2, hc5, hc8, hc11]; done) | rw [own_or, if_neg hc2, if_neg hc5, if_neg hc8, if_pos hc11], N0, e12⟩ (by decide) (by decide)
        · refine own_go (fun t k => XT.acmpYes X10.here hx rfl (pc0 := 32) (pc' := 42) rfl (hb hby d2_32) rfl rfl rfl (XT.aa_ne_t (fun q => hc11 (Value.ref.inj q))) (by decide) (by decide) k) ?_
          show Go p.tables e below _ (T10.setTop (mkF m 42 #[.val (.ref a), .val (.ref b), .unset] []))
          obtain ⟨T13, X13, e13, st13⟩ := getS2 X10 hx hZ hown (host := "") (Or.inl (hw _ (List.mem_of_getElem? (i := 17) rfl))) Via.refl e10 S_NO (g := (mkF m 42 #[.val (.ref a), .val (.ref b), .unset] [])) rfl (hb hby d2_42)
          refine own_go (fun t k => st13 t k) ?_
          show Go p.tables e below _ (T13.setTop (mkF m 45 #[.val (.ref a), .val (.ref b), .unset] [(.ref w_NO)]))
          refine own_go (fun t k => XS.astoreN X13.here hx rfl (hb hby d2_45) rfl rfl (l' := #[.val (.ref a), .val (.ref b), .val (.ref w_NO)]) rfl k) ?_
          show Go p.tables e below _ (T13.setTop (mkF m 46 #[.val (.ref a), .val (.ref b), .val (.ref w_NO)] []))
          refine own_go (fun t k => XS.aloadN X13.here hx rfl (hb hby d2_46) rfl rfl k) ?_
          show Go p.tables e below _ (T13.setTop (mkF m 47 #[.val (.ref a), .val (.ref b), .val (.ref w_NO)] [(.ref w_NO)]))
          exact own_ret X13 hx hlk Bd.returns rfl (Or.inr (Or.inr (Or.inr (Or.inr ⟨rfl, rfl, rfl⟩)))) (hb hby d2_47) ⟨by first | (simp [own_or, hc2, hc5, hc8, hc11]; done) | rw [own_or, if_neg hc2, if_neg hc5, if_neg hc8, if_neg hc11], N0, e13⟩ (by decide) (by decide)
theorem d3_0 : decode method_3_code 0 = .ok (.aload_n 0, 1) := by decide +kernel
theorem d3_1 : decode method_3_code 1 = .ok (.getstatic 8, 3) := by decide +kernel
theorem d3_4 : decode method_3_code 4 = .ok (.if_acmp .ne 5, 3) := by decide +kernel
theorem d3_7 : decode method_3_code 7 = .ok (.iconst 0, 1) := by decide +kernel
theorem d3_8 : decode method_3_code 8 = .ok (.ireturn, 1) := by decide +kernel
theorem d3_9 : decode method_3_code 9 = .ok (.aload_n 0, 1) := by decide +kernel
theorem d3_10 : decode method_3_code 10 = .ok (.getstatic 14, 3) := by decide +kernel
theorem d3_13 : decode method_3_code 13 = .ok (.if_acmp .ne 5, 3) := by decide +kernel
theorem d3_16 : decode method_3_code 16 = .ok (.iconst 1, 1) := by decide +kernel
theorem d3_17 : decode method_3_code 17 = .ok (.ireturn, 1) := by decide +kernel
theorem d3_18 : decode method_3_code 18 = .ok (.aload_n 0, 1) := by decide +kernel
theorem d3_19 : decode method_3_code 19 = .ok (.getstatic 17, 3) := by decide +kernel
theorem d3_22 : decode method_3_code 22 = .ok (.if_acmp .ne 5, 3) := by decide +kernel
theorem d3_25 : decode method_3_code 25 = .ok (.iconst 2, 1) := by decide +kernel
theorem d3_26 : decode method_3_code 26 = .ok (.ireturn, 1) := by decide +kernel
theorem d3_27 : decode method_3_code 27 = .ok (.iconst (-1), 1) := by decide +kernel
theorem d3_28 : decode method_3_code 28 = .ok (.ireturn, 1) := by decide +kernel
theorem ef_rm_rank (m : MethodId) (x0 : Addr) : entryFrame m #[(.ref x0)] 1 = mkF m 0 #[.val (.ref x0)] [] := by first | (simp [entryFrame, mkF, argsToLocals, Value.category]; done) | rfl
set_option maxRecDepth 65536 in
set_option maxHeartbeats 40000000 in
theorem rm_rank (l : Launch) (Z : State) (a0 : Array Value) (hw : ∀ d ∈ tables_1, d.before a0 Z = true) (ws : List Jvm.Cond) (a : Addr) (w_NO w_YES w_UNKNOWN : Addr) (h0 : Heap) (n0 : Nat) (SS : own_S Z h0 w_NO w_YES w_UNKNOWN) :
    MetFree l (⟨"com/example/casewright/casewright/types/AnswerOrPinLaw", "rank", "(Lcom/example/casewright/casewright/types/Answer;)I"⟩ : MethodName) (head1 (Jvm.Cond.code (⟨"com/example/casewright/casewright/types/AnswerOrPinLaw", "rank", "(Lcom/example/casewright/casewright/types/Answer;)I"⟩ : MethodName) method_3_code 1 (some .int) :: ws) ({ frames := 0, cells := 0, slots := 0, locals := 0 } : Room)) (fun aa U => aa = #[(.ref a)] ∧ Z.Warmed39 U.vm ∧ U.heap = h0) (fun _ _ _ _ _ => True) (fun _ U o U' => ∃ v L, o = .returned v ∧ PQ (.int (own_rank w_NO w_UNKNOWN w_YES a)) h0 n0 v U'.heap L ∧ FrameEnd U o U' L ({ frames := 0, cells := 0, slots := 0, locals := 0 } : Room).cells ({ frames := 0, cells := 0, slots := 0, locals := 0 } : Room).slots) := by
  refine MetFree.of_bodySF (plainFor_of_name pn_0) hisR ?_
  intro p e s m args below meth c s₁ Bd hml0 hP hK
  obtain ⟨rfl, hZ, hh⟩ := hP
  have hx := Bd.exec
  have hby := Bd.bytes
  have hlk := Bd.notSynchronized
  have hml : c.maxLocals = 1 := hml0
  have hown : s.vm.findClass "com/example/casewright/casewright/types/AnswerOrPinLaw" = some m.cls := findClass_of_methodNamed Bd.named
  have X0 : Stand p l e ({ frames := 0, cells := 0, slots := 0, locals := 0 } : Room) s m #[(.ref a)] below meth c s₁ [] 0 0 := Stand.of_body Bd
  have e0 : s₁.heap = h0 := by rw [← hh, Bd.state]; rfl
  have N0 := Fr.nil n0
  obtain ⟨S_NO, S_YES, S_UNKNOWN⟩ := SS
  show Go p.tables e below (Fin s below (PQ (.int (own_rank w_NO w_UNKNOWN w_YES a)) h0 n0) ({ frames := 0, cells := 0, slots := 0, locals := 0 } : Room).cells ({ frames := 0, cells := 0, slots := 0, locals := 0 } : Room).slots) (s₁.setTop (entryFrame m #[(.ref a)] 1))
  refine own_go (fun t k => castTop (ef_rm_rank m a) k) ?_
  show Go p.tables e below _ (s₁.setTop (mkF m 0 #[.val (.ref a)] []))
  refine own_go (fun t k => XS.aloadN X0.here hx rfl (hb hby d3_0) rfl rfl k) ?_
  show Go p.tables e below _ (s₁.setTop (mkF m 1 #[.val (.ref a)] [(.ref a)]))
  obtain ⟨T1, X1, e1, st1⟩ := getS2 X0 hx hZ hown (host := "") (Or.inl (hw _ (List.mem_of_getElem? (i := 5) rfl))) Via.refl e0 S_NO (g := (mkF m 1 #[.val (.ref a)] [(.ref a)])) rfl (hb hby d3_1)
  refine own_go (fun t k => st1 t k) ?_
  show Go p.tables e below _ (T1.setTop (mkF m 4 #[.val (.ref a)] [(.ref w_NO), (.ref a)]))
  by_cases hc2 : a = w_NO
  · refine own_go (fun t k => XT.acmpNo X1.here hx rfl (hb hby d3_4) rfl rfl rfl (XT.aa_ne_f (congrArg Value.ref hc2)) k) ?_
    show Go p.tables e below _ (T1.setTop (mkF m 7 #[.val (.ref a)] []))
    refine own_go (fun t k => XS.iconst X1.here hx rfl (hb hby d3_7) k) ?_
    show Go p.tables e below _ (T1.setTop (mkF m 8 #[.val (.ref a)] [(.int (0 : Int32))]))
    exact own_ret X1 hx hlk Bd.returns rfl (Or.inl ⟨rfl, Or.inl rfl, _, rfl⟩) (hb hby d3_8) ⟨by first | (simp [own_rank, hc2]; done) | rw [own_rank, if_pos hc2], N0, e1⟩ (by decide) (by decide)
  · refine own_go (fun t k => XT.acmpYes X1.here hx rfl (pc0 := 4) (pc' := 9) rfl (hb hby d3_4) rfl rfl rfl (XT.aa_ne_t (fun q => hc2 (Value.ref.inj q))) (by decide) (by decide) k) ?_
    show Go p.tables e below _ (T1.setTop (mkF m 9 #[.val (.ref a)] []))
    refine own_go (fun t k => XS.aloadN X1.here hx rfl (hb hby d3_9) rfl rfl k) ?_
    show Go p.tables e below _ (T1.setTop (mkF m 10 #[.val (.ref a)] [(.ref a)]))
    obtain ⟨T3, X3, e3, st3⟩ := getS2 X1 hx hZ hown (host := "") (Or.inl (hw _ (List.mem_of_getElem? (i := 26) rfl))) Via.refl e1 S_UNKNOWN (g := (mkF m 10 #[.val (.ref a)] [(.ref a)])) rfl (hb hby d3_10)
    refine own_go (fun t k => st3 t k) ?_
    show Go p.tables e below _ (T3.setTop (mkF m 13 #[.val (.ref a)] [(.ref w_UNKNOWN), (.ref a)]))
    by_cases hc4 : a = w_UNKNOWN
    · refine own_go (fun t k => XT.acmpNo X3.here hx rfl (hb hby d3_13) rfl rfl rfl (XT.aa_ne_f (congrArg Value.ref hc4)) k) ?_
      show Go p.tables e below _ (T3.setTop (mkF m 16 #[.val (.ref a)] []))
      refine own_go (fun t k => XS.iconst X3.here hx rfl (hb hby d3_16) k) ?_
      show Go p.tables e below _ (T3.setTop (mkF m 17 #[.val (.ref a)] [(.int (1 : Int32))]))
      exact own_ret X3 hx hlk Bd.returns rfl (Or.inl ⟨rfl, Or.inl rfl, _, rfl⟩) (hb hby d3_17) ⟨by first | (simp [own_rank, hc2, hc4]; done) | rw [own_rank, if_neg hc2, if_pos hc4], N0, e3⟩ (by decide) (by decide)
    · refine own_go (fun t k => XT.acmpYes X3.here hx rfl (pc0 := 13) (pc' := 18) rfl (hb hby d3_13) rfl rfl rfl (XT.aa_ne_t (fun q => hc4 (Value.ref.inj q))) (by decide) (by decide) k) ?_
      show Go p.tables e below _ (T3.setTop (mkF m 18 #[.val (.ref a)] []))
      refine own_go (fun t k => XS.aloadN X3.here hx rfl (hb hby d3_18) rfl rfl k) ?_
      show Go p.tables e below _ (T3.setTop (mkF m 19 #[.val (.ref a)] [(.ref a)]))
      obtain ⟨T5, X5, e5, st5⟩ := getS2 X3 hx hZ hown (host := "") (Or.inl (hw _ (List.mem_of_getElem? (i := 25) rfl))) Via.refl e3 S_YES (g := (mkF m 19 #[.val (.ref a)] [(.ref a)])) rfl (hb hby d3_19)
      refine own_go (fun t k => st5 t k) ?_
      show Go p.tables e below _ (T5.setTop (mkF m 22 #[.val (.ref a)] [(.ref w_YES), (.ref a)]))
      by_cases hc6 : a = w_YES
      · refine own_go (fun t k => XT.acmpNo X5.here hx rfl (hb hby d3_22) rfl rfl rfl (XT.aa_ne_f (congrArg Value.ref hc6)) k) ?_
        show Go p.tables e below _ (T5.setTop (mkF m 25 #[.val (.ref a)] []))
        refine own_go (fun t k => XS.iconst X5.here hx rfl (hb hby d3_25) k) ?_
        show Go p.tables e below _ (T5.setTop (mkF m 26 #[.val (.ref a)] [(.int (2 : Int32))]))
        exact own_ret X5 hx hlk Bd.returns rfl (Or.inl ⟨rfl, Or.inl rfl, _, rfl⟩) (hb hby d3_26) ⟨by first | (simp [own_rank, hc2, hc4, hc6]; done) | rw [own_rank, if_neg hc2, if_neg hc4, if_pos hc6], N0, e5⟩ (by decide) (by decide)
      · refine own_go (fun t k => XT.acmpYes X5.here hx rfl (pc0 := 22) (pc' := 27) rfl (hb hby d3_22) rfl rfl rfl (XT.aa_ne_t (fun q => hc6 (Value.ref.inj q))) (by decide) (by decide) k) ?_
        show Go p.tables e below _ (T5.setTop (mkF m 27 #[.val (.ref a)] []))
        refine own_go (fun t k => XS.iconst X5.here hx rfl (hb hby d3_27) k) ?_
        show Go p.tables e below _ (T5.setTop (mkF m 28 #[.val (.ref a)] [(.int ((-1) : Int32))]))
        exact own_ret X5 hx hlk Bd.returns rfl (Or.inl ⟨rfl, Or.inl rfl, _, rfl⟩) (hb hby d3_28) ⟨by first | (simp [own_rank, hc2, hc4, hc6]; done) | rw [own_rank, if_neg hc2, if_neg hc4, if_neg hc6], N0, e5⟩ (by decide) (by decide)
theorem pd_0 : parseMethodDescriptor "(I)Lcom/example/casewright/casewright/types/Answer;" = some ⟨[.int], some (.object "com/example/casewright/casewright/types/Answer")⟩ := by decide +kernel
theorem pd_1 : parseMethodDescriptor "(Lcom/example/casewright/casewright/types/Answer;)Lcom/example/casewright/casewright/types/Answer;" = some ⟨[(.object "com/example/casewright/casewright/types/Answer")], some (.object "com/example/casewright/casewright/types/Answer")⟩ := by decide +kernel
theorem pd_2 : parseMethodDescriptor "(Lcom/example/casewright/casewright/types/Answer;)I" = some ⟨[(.object "com/example/casewright/casewright/types/Answer")], some .int⟩ := by decide +kernel
theorem pd_3 : parseMethodDescriptor "(II)I" = some ⟨[.int, .int], some .int⟩ := by decide +kernel
theorem ef_rm_law_00 (m : MethodId) (x0 : Int32) (x1 : Int32) : entryFrame m #[(.int x0), (.int x1)] maxLocals = mkF m 0 #[.val (.int x0), .val (.int x1), .unset, .unset, .unset, .unset] [] := by first | (simp [entryFrame, mkF, argsToLocals, Value.category, maxLocals]; done) | rfl
set_option maxRecDepth 65536 in
set_option maxHeartbeats 40000000 in
theorem rm_law_00 (l : Launch) (Z : State) (a0 : Array Value) (hw : ∀ d ∈ tables_1, d.before a0 Z = true) (ws : List Jvm.Cond) (p1 p2 : Int32) (w_NO w_YES w_UNKNOWN : Addr) (h0 : Heap) (n0 : Nat) (SS : own_S Z h0 w_NO w_YES w_UNKNOWN) (EE : own_E Z h0 w_NO w_YES w_UNKNOWN) (OO : own_O Z h0 w_NO w_YES w_UNKNOWN) (q1 : (p1 &&& 2147483647) % 3 = 0) (q2 : (p2 &&& 2147483647) % 3 = 0) :
    MetFree l x (head1 (Jvm.Cond.code x code maxLocals ret :: ws) room_1) (fun aa U => aa = #[(.int p1), (.int p2)] ∧ Z.Warmed39 U.vm ∧ U.heap = h0) (fun _ _ _ _ _ => True) (fun _ U o U' => ∃ v L, o = .returned v ∧ PQ (.int 1) h0 n0 v U'.heap L ∧ FrameEnd U o U' L room_1.cells room_1.slots) := by
  refine MetFree.of_bodySF (plainFor_of_name pn_0) hisR ?_
  intro p e s m args below meth c s₁ Bd hml0 hP hK
  obtain ⟨rfl, hZ, hh⟩ := hP
  have hx := Bd.exec
  have hby := Bd.bytes
  have hlk := Bd.notSynchronized
  have hml : c.maxLocals = 6 := hml0
  have hown : s.vm.findClass "com/example/casewright/casewright/types/AnswerOrPinLaw" = some m.cls := findClass_of_methodNamed Bd.named
  have X0 : Stand p l e room_1 s m #[(.int p1), (.int p2)] below meth c s₁ [] 0 0 := Stand.of_body Bd
  have e0 : s₁.heap = h0 := by rw [← hh, Bd.state]; rfl
  have N0 := Fr.nil n0
  have SS' := SS
  obtain ⟨S_NO, S_YES, S_UNKNOWN⟩ := SS'
  obtain ⟨E_NO, E_YES, E_UNKNOWN⟩ := EE
  obtain ⟨F_NO_ordinal, F_YES_ordinal, F_UNKNOWN_ordinal⟩ := OO
  have nUN : w_UNKNOWN ≠ w_NO := (own_ne F_UNKNOWN_ordinal F_NO_ordinal (by decide))
  have nYN : w_YES ≠ w_NO := (own_ne F_YES_ordinal F_NO_ordinal (by decide))
  have nYU : w_YES ≠ w_UNKNOWN := (own_ne F_YES_ordinal F_UNKNOWN_ordinal (by decide))
  show Go p.tables e below (Fin s below (PQ (.int 1) h0 n0) room_1.cells room_1.slots) (s₁.setTop (entryFrame m #[(.int p1), (.int p2)] maxLocals))
  refine own_go (fun t k => castTop (ef_rm_law_00 m p1 p2) k) ?_
  show Go p.tables e below _ (s₁.setTop (mkF m 0 #[.val (.int p1), .val (.int p2), .unset, .unset, .unset, .unset] []))
  refine own_go (fun t k => XS.iloadN X0.here hx rfl (hb hby at_0) rfl k) ?_
  show Go p.tables e below _ (s₁.setTop (mkF m 1 #[.val (.int p1), .val (.int p2), .unset, .unset, .unset, .unset] [(.int p1)]))
  obtain ⟨v1, _, ⟨T1, L1, k1, n1⟩, -, X1, ⟨Lc1, hQ1, l1, y1, z1⟩, st1⟩ := Jvm.LawKit.callS X0 hx (y := (⟨"com/example/casewright/casewright/types/AnswerOrPinLaw", "pick", "(I)Lcom/example/casewright/casewright/types/Answer;"⟩ : MethodName)) hown (mvT hZ (hw _ (List.mem_of_getElem? (i := 0) rfl))) (mvT hZ (hw _ (List.mem_of_getElem? (i := 1) rfl))) (mvT hZ (hw _ (List.mem_of_getElem? (i := 2) rfl))) (mvT hZ (hw _ (List.mem_of_getElem? (i := 3) rfl))) (by decide) (backOf (W := 0) (rm_pick l Z a0 hw [] p1 w_NO w_YES w_UNKNOWN h0 n0 SS) hZ (hw _ (List.mem_of_getElem? (i := 3) rfl)) (hw _ (List.mem_of_getElem? (i := 2) rfl)) (by decide) (by decide)) (g := (mkF m 1 #[.val (.int p1), .val (.int p2), .unset, .unset, .unset, .unset] [(.int p1)])) rfl (by rw [hml]; rfl) (argsL := [(.int p1)]) (rest := []) (lenOf pd_0 rfl) rfl (by show 2 * 0 + _ ≤ _; exact Nat.le_of_eq rfl) (hb hby at_1) (fun _ _ => ⟨rfl, e0, (by decide : 0 + 0 ≤ _), (by decide : 0 + 0 ≤ _)⟩)
  dsimp only [Pt.U, Pt.locs, Pt.cells, Pt.slots] at X1 l1 y1 z1 st1 hQ1
  subst l1 y1 z1
  obtain ⟨hv1, N1q, e1⟩ := hQ1
  rw [show ((.ref (own_pick w_NO w_UNKNOWN w_YES p1)) : Value) = (.ref w_NO) from by rw [own_pick, q1]; rfl] at hv1
  subst hv1
  have N1 := Fr.app N0 N1q
  refine own_go (fun t k => st1 t k) ?_
  show Go p.tables e below _ (T1.setTop (mkF m 4 #[.val (.int p1), .val (.int p2), .unset, .unset, .unset, .unset] [(.ref w_NO)]))
  refine own_go (fun t k => XS.astoreN X1.here hx rfl (hb hby at_4) rfl rfl (l' := #[.val (.int p1), .val (.int p2), .val (.ref w_NO), .unset, .unset, .unset]) rfl k) ?_
  show Go p.tables e below _ (T1.setTop (mkF m 5 #[.val (.int p1), .val (.int p2), .val (.ref w_NO), .unset, .unset, .unset] []))
  refine own_go (fun t k => XS.iloadN X1.here hx rfl (hb hby at_5) rfl k) ?_
  show Go p.tables e below _ (T1.setTop (mkF m 6 #[.val (.int p1), .val (.int p2), .val (.ref w_NO), .unset, .unset, .unset] [(.int p2)]))
  obtain ⟨v2, _, ⟨T2, L2, k2, n2⟩, -, X2, ⟨Lc2, hQ2, l2, y2, z2⟩, st2⟩ := Jvm.LawKit.callS X1 hx (y := (⟨"com/example/casewright/casewright/types/AnswerOrPinLaw", "pick", "(I)Lcom/example/casewright/casewright/types/Answer;"⟩ : MethodName)) hown (mvT hZ (hw _ (List.mem_of_getElem? (i := 0) rfl))) (mvT hZ (hw _ (List.mem_of_getElem? (i := 1) rfl))) (mvT hZ (hw _ (List.mem_of_getElem? (i := 2) rfl))) (mvT hZ (hw _ (List.mem_of_getElem? (i := 3) rfl))) (by decide) (backOf (W := 0) (rm_pick l Z a0 hw [] p2 w_NO w_YES w_UNKNOWN h0 n0 SS) hZ (hw _ (List.mem_of_getElem? (i := 3) rfl)) (hw _ (List.mem_of_getElem? (i := 2) rfl)) (by decide) (by decide)) (g := (mkF m 6 #[.val (.int p1), .val (.int p2), .val (.ref w_NO), .unset, .unset, .unset] [(.int p2)])) rfl (by rw [hml]; rfl) (argsL := [(.int p2)]) (rest := []) (lenOf pd_0 rfl) rfl (by show 2 * 0 + _ ≤ _; exact Nat.le_of_eq rfl) (hb hby at_6) (fun _ _ => ⟨rfl, e1, (by decide : 0 + 0 ≤ _), (by decide : 0 + 0 ≤ _)⟩)
  dsimp only [Pt.U, Pt.locs, Pt.cells, Pt.slots] at X2 l2 y2 z2 st2 hQ2
  subst l2 y2 z2
  obtain ⟨hv2, N2q, e2⟩ := hQ2
  rw [show ((.ref (own_pick w_NO w_UNKNOWN w_YES p2)) : Value) = (.ref w_NO) from by rw [own_pick, q2]; rfl] at hv2
  subst hv2
  have N2 := Fr.app N1 N2q
  refine own_go (fun t k => st2 t k) ?_
  show Go p.tables e below _ (T2.setTop (mkF m 9 #[.val (.int p1), .val (.int p2), .val (.ref w_NO), .unset, .unset, .unset] [(.ref w_NO)]))
  refine own_go (fun t k => XS.astoreN X2.here hx rfl (hb hby at_9) rfl rfl (l' := #[.val (.int p1), .val (.int p2), .val (.ref w_NO), .val (.ref w_NO), .unset, .unset]) rfl k) ?_
  show Go p.tables e below _ (T2.setTop (mkF m 10 #[.val (.int p1), .val (.int p2), .val (.ref w_NO), .val (.ref w_NO), .unset, .unset] []))
  refine own_go (fun t k => XS.aloadN X2.here hx rfl (hb hby at_10) rfl rfl k) ?_
  show Go p.tables e below _ (T2.setTop (mkF m 11 #[.val (.int p1), .val (.int p2), .val (.ref w_NO), .val (.ref w_NO), .unset, .unset] [(.ref w_NO)]))
  refine own_go (fun t k => XS.aloadN X2.here hx rfl (hb hby at_11) rfl rfl k) ?_
  show Go p.tables e below _ (T2.setTop (mkF m 12 #[.val (.int p1), .val (.int p2), .val (.ref w_NO), .val (.ref w_NO), .unset, .unset] [(.ref w_NO), (.ref w_NO)]))
  obtain ⟨cq3, kq3, q3a, q3b, q3c⟩ := isOf hZ e2 E_NO
  obtain ⟨v3, _, ⟨T3, L3, k3, n3⟩, -, X3, ⟨Lc3, hQ3, l3, y3, z3⟩, st3⟩ := X2.virtualBack hx (y := (⟨"com/example/casewright/casewright/types/Answer", "or", "(Lcom/example/casewright/casewright/types/Answer;)Lcom/example/casewright/casewright/types/Answer;"⟩ : MethodName)) (z := (⟨"com/example/casewright/casewright/types/Answer", "or", "(Lcom/example/casewright/casewright/types/Answer;)Lcom/example/casewright/casewright/types/Answer;"⟩ : MethodName)) hown (mvT hZ (hw _ (List.mem_of_getElem? (i := 8) rfl))) (mvT hZ (hw _ (List.mem_of_getElem? (i := 9) rfl))) (notFace_of_selects (args := #[]) (mvT hZ (hw _ (List.mem_of_getElem? (i := 11) rfl)))) (mvT hZ (hw _ (List.mem_of_getElem? (i := 11) rfl))) (mvT hZ (hw _ (List.mem_of_getElem? (i := 10) rfl))) (by decide) (backOf (W := 0) (rm_or l Z a0 hw [] w_NO w_NO w_NO w_YES w_UNKNOWN h0 n0 SS) hZ (hw _ (List.mem_of_getElem? (i := 12) rfl)) (hw _ (List.mem_of_getElem? (i := 6) rfl)) (by decide) (by decide)) q3a q3c (g := (mkF m 12 #[.val (.int p1), .val (.int p2), .val (.ref w_NO), .val (.ref w_NO), .unset, .unset] [(.ref w_NO), (.ref w_NO)])) rfl (by rw [hml]; rfl) (Steps.refl _) (argsL := [(.ref w_NO)]) (rest := []) (lenOf pd_1 rfl) rfl (by show 2 * 0 + _ ≤ _; exact Nat.le_of_eq rfl) (hb hby at_12) (fun _ _ => ⟨rfl, e2, (by decide : 0 + 0 ≤ _), (by decide : 0 + 0 ≤ _)⟩)
  dsimp only [Pt.U, Pt.locs, Pt.cells, Pt.slots] at X3 l3 y3 z3 st3 hQ3
  subst l3 y3 z3
  obtain ⟨hv3, N3q, e3⟩ := hQ3
  rw [show ((.ref (own_or w_NO w_UNKNOWN w_YES w_NO w_NO)) : Value) = (.ref w_NO) from by simp [own_or, nUN, nYN, nYU, nUN.symm, nYN.symm, nYU.symm]] at hv3
  subst hv3
  have N3 := Fr.app N2 N3q
  refine own_go (fun t k => st3.trans k) ?_
  show Go p.tables e below _ (T3.setTop (mkF m 15 #[.val (.int p1), .val (.int p2), .val (.ref w_NO), .val (.ref w_NO), .unset, .unset] [(.ref w_NO)]))
  refine own_go (fun t k => XS.astore X3.here hx rfl (hb hby at_15) rfl rfl (l' := #[.val (.int p1), .val (.int p2), .val (.ref w_NO), .val (.ref w_NO), .val (.ref w_NO), .unset]) rfl k) ?_
  show Go p.tables e below _ (T3.setTop (mkF m 17 #[.val (.int p1), .val (.int p2), .val (.ref w_NO), .val (.ref w_NO), .val (.ref w_NO), .unset] []))
  refine own_go (fun t k => XS.aloadN X3.here hx rfl (hb hby at_17) rfl rfl k) ?_
  show Go p.tables e below _ (T3.setTop (mkF m 18 #[.val (.int p1), .val (.int p2), .val (.ref w_NO), .val (.ref w_NO), .val (.ref w_NO), .unset] [(.ref w_NO)]))
  obtain ⟨v4, _, ⟨T4, L4, k4, n4⟩, -, X4, ⟨Lc4, hQ4, l4, y4, z4⟩, st4⟩ := Jvm.LawKit.callS X3 hx (y := (⟨"com/example/casewright/casewright/types/AnswerOrPinLaw", "rank", "(Lcom/example/casewright/casewright/types/Answer;)I"⟩ : MethodName)) hown (mvT hZ (hw _ (List.mem_of_getElem? (i := 18) rfl))) (mvT hZ (hw _ (List.mem_of_getElem? (i := 19) rfl))) (mvT hZ (hw _ (List.mem_of_getElem? (i := 2) rfl))) (mvT hZ (hw _ (List.mem_of_getElem? (i := 20) rfl))) (by decide) (backOf (W := 0) (rm_rank l Z a0 hw [] w_NO w_NO w_YES w_UNKNOWN h0 n0 SS) hZ (hw _ (List.mem_of_getElem? (i := 20) rfl)) (hw _ (List.mem_of_getElem? (i := 2) rfl)) (by decide) (by decide)) (g := (mkF m 18 #[.val (.int p1), .val (.int p2), .val (.ref w_NO), .val (.ref w_NO), .val (.ref w_NO), .unset] [(.ref w_NO)])) rfl (by rw [hml]; rfl) (argsL := [(.ref w_NO)]) (rest := []) (lenOf pd_2 rfl) rfl (by show 2 * 0 + _ ≤ _; exact Nat.le_of_eq rfl) (hb hby at_18) (fun _ _ => ⟨rfl, e3, (by decide : 0 + 0 ≤ _), (by decide : 0 + 0 ≤ _)⟩)
  dsimp only [Pt.U, Pt.locs, Pt.cells, Pt.slots] at X4 l4 y4 z4 st4 hQ4
  subst l4 y4 z4
  obtain ⟨hv4, N4q, e4⟩ := hQ4
  rw [show ((.int (own_rank w_NO w_UNKNOWN w_YES w_NO)) : Value) = (.int (0 : Int32)) from by simp [own_rank, nUN, nYN, nYU]] at hv4
  subst hv4
  have N4 := Fr.app N3 N4q
  refine own_go (fun t k => st4 t k) ?_
  show Go p.tables e below _ (T4.setTop (mkF m 21 #[.val (.int p1), .val (.int p2), .val (.ref w_NO), .val (.ref w_NO), .val (.ref w_NO), .unset] [(.int (0 : Int32))]))
  refine own_go (fun t k => XS.aloadN X4.here hx rfl (hb hby at_21) rfl rfl k) ?_
  show Go p.tables e below _ (T4.setTop (mkF m 22 #[.val (.int p1), .val (.int p2), .val (.ref w_NO), .val (.ref w_NO), .val (.ref w_NO), .unset] [(.ref w_NO), (.int (0 : Int32))]))
  obtain ⟨v5, _, ⟨T5, L5, k5, n5⟩, -, X5, ⟨Lc5, hQ5, l5, y5, z5⟩, st5⟩ := Jvm.LawKit.callS X4 hx (y := (⟨"com/example/casewright/casewright/types/AnswerOrPinLaw", "rank", "(Lcom/example/casewright/casewright/types/Answer;)I"⟩ : MethodName)) hown (mvT hZ (hw _ (List.mem_of_getElem? (i := 18) rfl))) (mvT hZ (hw _ (List.mem_of_getElem? (i := 19) rfl))) (mvT hZ (hw _ (List.mem_of_getElem? (i := 2) rfl))) (mvT hZ (hw _ (List.mem_of_getElem? (i := 20) rfl))) (by decide) (backOf (W := 1) (rm_rank l Z a0 hw [] w_NO w_NO w_YES w_UNKNOWN h0 n0 SS) hZ (hw _ (List.mem_of_getElem? (i := 20) rfl)) (hw _ (List.mem_of_getElem? (i := 2) rfl)) (by decide) (by decide)) (g := (mkF m 22 #[.val (.int p1), .val (.int p2), .val (.ref w_NO), .val (.ref w_NO), .val (.ref w_NO), .unset] [(.ref w_NO), (.int (0 : Int32))])) rfl (by rw [hml]; rfl) (argsL := [(.ref w_NO)]) (rest := [(.int (0 : Int32))]) (lenOf pd_2 rfl) rfl (by show 2 * 0 + _ ≤ _; exact Nat.le_of_eq rfl) (hb hby at_22) (fun _ _ => ⟨rfl, e4, (by decide : 0 + 0 ≤ _), (by decide : 0 + 0 ≤ _)⟩)
  dsimp only [Pt.U, Pt.locs, Pt.cells, Pt.slots] at X5 l5 y5 z5 st5 hQ5
  subst l5 y5 z5
  obtain ⟨hv5, N5q, e5⟩ := hQ5
  rw [show ((.int (own_rank w_NO w_UNKNOWN w_YES w_NO)) : Value) = (.int (0 : Int32)) from by simp [own_rank, nUN, nYN, nYU]] at hv5
  subst hv5
  have N5 := Fr.app N4 N5q
  refine own_go (fun t k => st5 t k) ?_
  show Go p.tables e below _ (T5.setTop (mkF m 25 #[.val (.int p1), .val (.int p2), .val (.ref w_NO), .val (.ref w_NO), .val (.ref w_NO), .unset] [(.int (0 : Int32)), (.int (0 : Int32))]))
  obtain ⟨v6, _, ⟨T6, L6, k6, n6⟩, -, X6, ⟨Lc6, hQ6, l6, y6, z6⟩, st6⟩ := Jvm.LawKit.callS X5 hx (y := (⟨"java/lang/Math", "max", "(II)I"⟩ : MethodName)) hown (mvT hZ (hw _ (List.mem_of_getElem? (i := 21) rfl))) (mvT hZ (hw _ (List.mem_of_getElem? (i := 22) rfl))) (mvT hZ (hw _ (List.mem_of_getElem? (i := 23) rfl))) (mvT hZ (hw _ (List.mem_of_getElem? (i := 24) rfl))) (by decide) (backOf (W := 0) (rm_max l Z a0 hw [] (0 : Int32) (0 : Int32) h0 n0) hZ (hw _ (List.mem_of_getElem? (i := 24) rfl)) (hw _ (List.mem_of_getElem? (i := 23) rfl)) (by decide) (by decide)) (g := (mkF m 25 #[.val (.int p1), .val (.int p2), .val (.ref w_NO), .val (.ref w_NO), .val (.ref w_NO), .unset] [(.int (0 : Int32)), (.int (0 : Int32))])) rfl (by rw [hml]; rfl) (argsL := [(.int (0 : Int32)), (.int (0 : Int32))]) (rest := []) (lenOf pd_3 rfl) rfl (by show 2 * 0 + _ ≤ _; exact Nat.le_of_eq rfl) (hb hby at_25) (fun _ _ => ⟨rfl, e5, (by decide : 0 + 0 ≤ _), (by decide : 0 + 0 ≤ _)⟩)
  dsimp only [Pt.U, Pt.locs, Pt.cells, Pt.slots] at X6 l6 y6 z6 st6 hQ6
  subst l6 y6 z6
  obtain ⟨hv6, N6q, e6⟩ := hQ6
  rw [show ((.int (own_max (0 : Int32) (0 : Int32))) : Value) = (.int (0 : Int32)) from rfl] at hv6
  subst hv6
  have N6 := Fr.app N5 N6q
  refine own_go (fun t k => st6 t k) ?_
  show Go p.tables e below _ (T6.setTop (mkF m 28 #[.val (.int p1), .val (.int p2), .val (.ref w_NO), .val (.ref w_NO), .val (.ref w_NO), .unset] [(.int (0 : Int32))]))
  refine own_go (fun t k => XS.istore X6.here hx rfl (hb hby at_28) rfl (l' := #[.val (.int p1), .val (.int p2), .val (.ref w_NO), .val (.ref w_NO), .val (.ref w_NO), .val (.int (0 : Int32))]) rfl k) ?_
  show Go p.tables e below _ (T6.setTop (mkF m 30 #[.val (.int p1), .val (.int p2), .val (.ref w_NO), .val (.ref w_NO), .val (.ref w_NO), .val (.int (0 : Int32))] []))
  refine own_go (fun t k => XS.aload X6.here hx rfl (hb hby at_30) rfl rfl k) ?_
  show Go p.tables e below _ (T6.setTop (mkF m 32 #[.val (.int p1), .val (.int p2), .val (.ref w_NO), .val (.ref w_NO), .val (.ref w_NO), .val (.int (0 : Int32))] [(.ref w_NO)]))
  obtain ⟨v7, _, ⟨T7, L7, k7, n7⟩, -, X7, ⟨Lc7, hQ7, l7, y7, z7⟩, st7⟩ := Jvm.LawKit.callS X6 hx (y := (⟨"com/example/casewright/casewright/types/AnswerOrPinLaw", "rank", "(Lcom/example/casewright/casewright/types/Answer;)I"⟩ : MethodName)) hown (mvT hZ (hw _ (List.mem_of_getElem? (i := 18) rfl))) (mvT hZ (hw _ (List.mem_of_getElem? (i := 19) rfl))) (mvT hZ (hw _ (List.mem_of_getElem? (i := 2) rfl))) (mvT hZ (hw _ (List.mem_of_getElem? (i := 20) rfl))) (by decide) (backOf (W := 0) (rm_rank l Z a0 hw [] w_NO w_NO w_YES w_UNKNOWN h0 n0 SS) hZ (hw _ (List.mem_of_getElem? (i := 20) rfl)) (hw _ (List.mem_of_getElem? (i := 2) rfl)) (by decide) (by decide)) (g := (mkF m 32 #[.val (.int p1), .val (.int p2), .val (.ref w_NO), .val (.ref w_NO), .val (.ref w_NO), .val (.int (0 : Int32))] [(.ref w_NO)])) rfl (by rw [hml]; rfl) (argsL := [(.ref w_NO)]) (rest := []) (lenOf pd_2 rfl) rfl (by show 2 * 0 + _ ≤ _; exact Nat.le_of_eq rfl) (hb hby at_32) (fun _ _ => ⟨rfl, e6, (by decide : 0 + 0 ≤ _), (by decide : 0 + 0 ≤ _)⟩)
  dsimp only [Pt.U, Pt.locs, Pt.cells, Pt.slots] at X7 l7 y7 z7 st7 hQ7
  subst l7 y7 z7
  obtain ⟨hv7, N7q, e7⟩ := hQ7
  rw [show ((.int (own_rank w_NO w_UNKNOWN w_YES w_NO)) : Value) = (.int (0 : Int32)) from by simp [own_rank, nUN, nYN, nYU]] at hv7
  subst hv7
  have N7 := Fr.app N6 N7q
  refine own_go (fun t k => st7 t k) ?_
  show Go p.tables e below _ (T7.setTop (mkF m 35 #[.val (.int p1), .val (.int p2), .val (.ref w_NO), .val (.ref w_NO), .val (.ref w_NO), .val (.int (0 : Int32))] [(.int (0 : Int32))]))
  refine own_go (fun t k => XS.iload X7.here hx rfl (hb hby at_35) rfl k) ?_
  show Go p.tables e below _ (T7.setTop (mkF m 37 #[.val (.int p1), .val (.int p2), .val (.ref w_NO), .val (.ref w_NO), .val (.ref w_NO), .val (.int (0 : Int32))] [(.int (0 : Int32)), (.int (0 : Int32))]))
  refine own_go (fun t k => XS.icmpNo X7.here hx rfl (hb hby at_37) rfl (XT.ii_ne_f (by decide)) k) ?_
  show Go p.tables e below _ (T7.setTop (mkF m 40 #[.val (.int p1), .val (.int p2), .val (.ref w_NO), .val (.ref w_NO), .val (.ref w_NO), .val (.int (0 : Int32))] []))
  refine own_go (fun t k => XS.iconst X7.here hx rfl (hb hby at_40) k) ?_
  show Go p.tables e below _ (T7.setTop (mkF m 41 #[.val (.int p1), .val (.int p2), .val (.ref w_NO), .val (.ref w_NO), .val (.ref w_NO), .val (.int (0 : Int32))] [(.int (1 : Int32))]))
  refine own_go (fun t k => XS.goto X7.here hx rfl (pc0 := 41) (pc' := 45) rfl (hb hby at_41) (by decide) (by decide) k) ?_
  show Go p.tables e below _ (T7.setTop (mkF m 45 #[.val (.int p1), .val (.int p2), .val (.ref w_NO), .val (.ref w_NO), .val (.ref w_NO), .val (.int (0 : Int32))] [(.int (1 : Int32))]))
  exact own_ret X7 hx hlk Bd.returns rfl (Or.inl ⟨rfl, Or.inr (Or.inl rfl), _, rfl⟩) (hb hby at_45) ⟨rfl, N7, e7⟩ (by decide) (by decide)
theorem ef_rm_law_01 (m : MethodId) (x0 : Int32) (x1 : Int32) : entryFrame m #[(.int x0), (.int x1)] maxLocals = mkF m 0 #[.val (.int x0), .val (.int x1), .unset, .unset, .unset, .unset] [] := by first | (simp [entryFrame, mkF, argsToLocals, Value.category, maxLocals]; done) | rfl
set_option maxRecDepth 65536 in
set_option maxHeartbeats 40000000 in
theorem rm_law_01 (l : Launch) (Z : State) (a0 : Array Value) (hw : ∀ d ∈ tables_1, d.before a0 Z = true) (ws : List Jvm.Cond) (p1 p2 : Int32) (w_NO w_YES w_UNKNOWN : Addr) (h0 : Heap) (n0 : Nat) (SS : own_S Z h0 w_NO w_YES w_UNKNOWN) (EE : own_E Z h0 w_NO w_YES w_UNKNOWN) (OO : own_O Z h0 w_NO w_YES w_UNKNOWN) (q1 : (p1 &&& 2147483647) % 3 = 0) (q2 : (p2 &&& 2147483647) % 3 = 1) :
    MetFree l x (head1 (Jvm.Cond.code x code maxLocals ret :: ws) room_1) (fun aa U => aa = #[(.int p1), (.int p2)] ∧ Z.Warmed39 U.vm ∧ U.heap = h0) (fun _ _ _ _ _ => True) (fun _ U o U' => ∃ v L, o = .returned v ∧ PQ (.int 1) h0 n0 v U'.heap L ∧ FrameEnd U o U' L room_1.cells room_1.slots) := by
  refine MetFree.of_bodySF (plainFor_of_name pn_0) hisR ?_
  intro p e s m args below meth c s₁ Bd hml0 hP hK
  obtain ⟨rfl, hZ, hh⟩ := hP
  have hx := Bd.exec
  have hby := Bd.bytes
  have hlk := Bd.notSynchronized
  have hml : c.maxLocals = 6 := hml0
  have hown : s.vm.findClass "com/example/casewright/casewright/types/AnswerOrPinLaw" = some m.cls := findClass_of_methodNamed Bd.named
  have X0 : Stand p l e room_1 s m #[(.int p1), (.int p2)] below meth c s₁ [] 0 0 := Stand.of_body Bd
  have e0 : s₁.heap = h0 := by rw [← hh, Bd.state]; rfl
  have N0 := Fr.nil n0
  have SS' := SS
  obtain ⟨S_NO, S_YES, S_UNKNOWN⟩ := SS'
  obtain ⟨E_NO, E_YES, E_UNKNOWN⟩ := EE
  obtain ⟨F_NO_ordinal, F_YES_ordinal, F_UNKNOWN_ordinal⟩ := OO
  have nUN : w_UNKNOWN ≠ w_NO := (own_ne F_UNKNOWN_ordinal F_NO_ordinal (by decide))
  have nYN : w_YES ≠ w_NO := (own_ne F_YES_ordinal F_NO_ordinal (by decide))
  have nYU : w_YES ≠ w_UNKNOWN := (own_ne F_YES_ordinal F_UNKNOWN_ordinal (by decide))
  show Go p.tables e below (Fin s below (PQ (.int 1) h0 n0) room_1.cells room_1.slots) (s₁.setTop (entryFrame m #[(.int p1), (.int p2)] maxLocals))
  refine own_go (fun t k => castTop (ef_rm_law_01 m p1 p2) k) ?_
  show Go p.tables e below _ (s₁.setTop (mkF m 0 #[.val (.int p1), .val (.int p2), .unset, .unset, .unset, .unset] []))
  refine own_go (fun t k => XS.iloadN X0.here hx rfl (hb hby at_0) rfl k) ?_
  show Go p.tables e below _ (s₁.setTop (mkF m 1 #[.val (.int p1), .val (.int p2), .unset, .unset, .unset, .unset] [(.int p1)]))
  obtain ⟨v1, _, ⟨T1, L1, k1, n1⟩, -, X1, ⟨Lc1, hQ1, l1, y1, z1⟩, st1⟩ := Jvm.LawKit.callS X0 hx (y := (⟨"com/example/casewright/casewright/types/AnswerOrPinLaw", "pick", "(I)Lcom/example/casewright/casewright/types/Answer;"⟩ : MethodName)) hown (mvT hZ (hw _ (List.mem_of_getElem? (i := 0) rfl))) (mvT hZ (hw _ (List.mem_of_getElem? (i := 1) rfl))) (mvT hZ (hw _ (List.mem_of_getElem? (i := 2) rfl))) (mvT hZ (hw _ (List.mem_of_getElem? (i := 3) rfl))) (by decide) (backOf (W := 0) (rm_pick l Z a0 hw [] p1 w_NO w_YES w_UNKNOWN h0 n0 SS) hZ (hw _ (List.mem_of_getElem? (i := 3) rfl)) (hw _ (List.mem_of_getElem? (i := 2) rfl)) (by decide) (by decide)) (g := (mkF m 1 #[.val (.int p1), .val (.int p2), .unset, .unset, .unset, .unset] [(.int p1)])) rfl (by rw [hml]; rfl) (argsL := [(.int p1)]) (rest := []) (lenOf pd_0 rfl) rfl (by show 2 * 0 + _ ≤ _; exact Nat.le_of_eq rfl) (hb hby at_1) (fun _ _ => ⟨rfl, e0, (by decide : 0 + 0 ≤ _), (by decide : 0 + 0 ≤ _)⟩)
  dsimp only [Pt.U, Pt.locs, Pt.cells, Pt.slots] at X1 l1 y1 z1 st1 hQ1
  subst l1 y1 z1
  obtain ⟨hv1, N1q, e1⟩ := hQ1
  rw [show ((.ref (own_pick w_NO w_UNKNOWN w_YES p1)) : Value) = (.ref w_NO) from by rw [own_pick, q1]; rfl] at hv1
  subst hv1
  have N1 := Fr.app N0 N1q
  refine own_go (fun t k => st1 t k) ?_
  show Go p.tables e below _ (T1.setTop (mkF m 4 #[.val (.int p1), .val (.int p2), .unset, .unset, .unset, .unset] [(.ref w_NO)]))
  refine own_go (fun t k => XS.astoreN X1.here hx rfl (hb hby at_4) rfl rfl (l' := #[.val (.int p1), .val (.int p2), .val (.ref w_NO), .unset, .unset, .unset]) rfl k) ?_
  show Go p.tables e below _ (T1.setTop (mkF m 5 #[.val (.int p1), .val (.int p2), .val (.ref w_NO), .unset, .unset, .unset] []))
  refine own_go (fun t k => XS.iloadN X1.here hx rfl (hb hby at_5) rfl k) ?_
  show Go p.tables e below _ (T1.setTop (mkF m 6 #[.val (.int p1), .val (.int p2), .val (.ref w_NO), .unset, .unset, .unset] [(.int p2)]))
  obtain ⟨v2, _, ⟨T2, L2, k2, n2⟩, -, X2, ⟨Lc2, hQ2, l2, y2, z2⟩, st2⟩ := Jvm.LawKit.callS X1 hx (y := (⟨"com/example/casewright/casewright/types/AnswerOrPinLaw", "pick", "(I)Lcom/example/casewright/casewright/types/Answer;"⟩ : MethodName)) hown (mvT hZ (hw _ (List.mem_of_getElem? (i := 0) rfl))) (mvT hZ (hw _ (List.mem_of_getElem? (i := 1) rfl))) (mvT hZ (hw _ (List.mem_of_getElem? (i := 2) rfl))) (mvT hZ (hw _ (List.mem_of_getElem? (i := 3) rfl))) (by decide) (backOf (W := 0) (rm_pick l Z a0 hw [] p2 w_NO w_YES w_UNKNOWN h0 n0 SS) hZ (hw _ (List.mem_of_getElem? (i := 3) rfl)) (hw _ (List.mem_of_getElem? (i := 2) rfl)) (by decide) (by decide)) (g := (mkF m 6 #[.val (.int p1), .val (.int p2), .val (.ref w_NO), .unset, .unset, .unset] [(.int p2)])) rfl (by rw [hml]; rfl) (argsL := [(.int p2)]) (rest := []) (lenOf pd_0 rfl) rfl (by show 2 * 0 + _ ≤ _; exact Nat.le_of_eq rfl) (hb hby at_6) (fun _ _ => ⟨rfl, e1, (by decide : 0 + 0 ≤ _), (by decide : 0 + 0 ≤ _)⟩)
  dsimp only [Pt.U, Pt.locs, Pt.cells, Pt.slots] at X2 l2 y2 z2 st2 hQ2
  subst l2 y2 z2
  obtain ⟨hv2, N2q, e2⟩ := hQ2
  rw [show ((.ref (own_pick w_NO w_UNKNOWN w_YES p2)) : Value) = (.ref w_UNKNOWN) from by rw [own_pick, q2]; rfl] at hv2
  subst hv2
  have N2 := Fr.app N1 N2q
  refine own_go (fun t k => st2 t k) ?_
  show Go p.tables e below _ (T2.setTop (mkF m 9 #[.val (.int p1), .val (.int p2), .val (.ref w_NO), .unset, .unset, .unset] [(.ref w_UNKNOWN)]))
  refine own_go (fun t k => XS.astoreN X2.here hx rfl (hb hby at_9) rfl rfl (l' := #[.val (.int p1), .val (.int p2), .val (.ref w_NO), .val (.ref w_UNKNOWN), .unset, .unset]) rfl k) ?_
  show Go p.tables e below _ (T2.setTop (mkF m 10 #[.val (.int p1), .val (.int p2), .val (.ref w_NO), .val (.ref w_UNKNOWN), .unset, .unset] []))
  refine own_go (fun t k => XS.aloadN X2.here hx rfl (hb hby at_10) rfl rfl k) ?_
  show Go p.tables e below _ (T2.setTop (mkF m 11 #[.val (.int p1), .val (.int p2), .val (.ref w_NO), .val (.ref w_UNKNOWN), .unset, .unset] [(.ref w_NO)]))
  refine own_go (fun t k => XS.aloadN X2.here hx rfl (hb hby at_11) rfl rfl k) ?_
  show Go p.tables e below _ (T2.setTop (mkF m 12 #[.val (.int p1), .val (.int p2), .val (.ref w_NO), .val (.ref w_UNKNOWN), .unset, .unset] [(.ref w_UNKNOWN), (.ref w_NO)]))
  obtain ⟨cq3, kq3, q3a, q3b, q3c⟩ := isOf hZ e2 E_NO
  obtain ⟨v3, _, ⟨T3, L3, k3, n3⟩, -, X3, ⟨Lc3, hQ3, l3, y3, z3⟩, st3⟩ := X2.virtualBack hx (y := (⟨"com/example/casewright/casewright/types/Answer", "or", "(Lcom/example/casewright/casewright/types/Answer;)Lcom/example/casewright/casewright/types/Answer;"⟩ : MethodName)) (z := (⟨"com/example/casewright/casewright/types/Answer", "or", "(Lcom/example/casewright/casewright/types/Answer;)Lcom/example/casewright/casewright/types/Answer;"⟩ : MethodName)) hown (mvT hZ (hw _ (List.mem_of_getElem? (i := 8) rfl))) (mvT hZ (hw _ (List.mem_of_getElem? (i := 9) rfl))) (notFace_of_selects (args := #[]) (mvT hZ (hw _ (List.mem_of_getElem? (i := 11) rfl)))) (mvT hZ (hw _ (List.mem_of_getElem? (i := 11) rfl))) (mvT hZ (hw _ (List.mem_of_getElem? (i := 10) rfl))) (by decide) (backOf (W := 0) (rm_or l Z a0 hw [] w_NO w_UNKNOWN w_NO w_YES w_UNKNOWN h0 n0 SS) hZ (hw _ (List.mem_of_getElem? (i := 12) rfl)) (hw _ (List.mem_of_getElem? (i := 6) rfl)) (by decide) (by decide)) q3a q3c (g := (mkF m 12 #[.val (.int p1), .val (.int p2), .val (.ref w_NO), .val (.ref w_UNKNOWN), .unset, .unset] [(.ref w_UNKNOWN), (.ref w_NO)])) rfl (by rw [hml]; rfl) (Steps.refl _) (argsL := [(.ref w_UNKNOWN)]) (rest := []) (lenOf pd_1 rfl) rfl (by show 2 * 0 + _ ≤ _; exact Nat.le_of_eq rfl) (hb hby at_12) (fun _ _ => ⟨rfl, e2, (by decide : 0 + 0 ≤ _), (by decide : 0 + 0 ≤ _)⟩)
  dsimp only [Pt.U, Pt.locs, Pt.cells, Pt.slots] at X3 l3 y3 z3 st3 hQ3
  subst l3 y3 z3
  obtain ⟨hv3, N3q, e3⟩ := hQ3
  rw [show ((.ref (own_or w_NO w_UNKNOWN w_YES w_NO w_UNKNOWN)) : Value) = (.ref w_UNKNOWN) from by simp [own_or, nUN, nYN, nYU, nUN.symm, nYN.symm, nYU.symm]] at hv3
  subst hv3
  have N3 := Fr.app N2 N3q
  refine own_go (fun t k => st3.trans k) ?_
  show Go p.tables e below _ (T3.setTop (mkF m 15 #[.val (.int p1), .val (.int p2), .val (.ref w_NO), .val (.ref w_UNKNOWN), .unset, .unset] [(.ref w_UNKNOWN)]))
  refine own_go (fun t k => XS.astore X3.here hx rfl (hb hby at_15) rfl rfl (l' := #[.val (.int p1), .val (.int p2), .val (.ref w_NO), .val (.ref w_UNKNOWN), .val (.ref w_UNKNOWN), .unset]) rfl k) ?_
  show Go p.tables e below _ (T3.setTop (mkF m 17 #[.val (.int p1), .val (.int p2), .val (.ref w_NO), .val (.ref w_UNKNOWN), .val (.ref w_UNKNOWN), .unset] []))
  refine own_go (fun t k => XS.aloadN X3.here hx rfl (hb hby at_17) rfl rfl k) ?_
  show Go p.tables e below _ (T3.setTop (mkF m 18 #[.val (.int p1), .val (.int p2), .val (.ref w_NO), .val (.ref w_UNKNOWN), .val (.ref w_UNKNOWN), .unset] [(.ref w_NO)]))
  obtain ⟨v4, _, ⟨T4, L4, k4, n4⟩, -, X4, ⟨Lc4, hQ4, l4, y4, z4⟩, st4⟩ := Jvm.LawKit.callS X3 hx (y := (⟨"com/example/casewright/casewright/types/AnswerOrPinLaw", "rank", "(Lcom/example/casewright/casewright/types/Answer;)I"⟩ : MethodName)) hown (mvT hZ (hw _ (List.mem_of_getElem? (i := 18) rfl))) (mvT hZ (hw _ (List.mem_of_getElem? (i := 19) rfl))) (mvT hZ (hw _ (List.mem_of_getElem? (i := 2) rfl))) (mvT hZ (hw _ (List.mem_of_getElem? (i := 20) rfl))) (by decide) (backOf (W := 0) (rm_rank l Z a0 hw [] w_NO w_NO w_YES w_UNKNOWN h0 n0 SS) hZ (hw _ (List.mem_of_getElem? (i := 20) rfl)) (hw _ (List.mem_of_getElem? (i := 2) rfl)) (by decide) (by decide)) (g := (mkF m 18 #[.val (.int p1), .val (.int p2), .val (.ref w_NO), .val (.ref w_UNKNOWN), .val (.ref w_UNKNOWN), .unset] [(.ref w_NO)])) rfl (by rw [hml]; rfl) (argsL := [(.ref w_NO)]) (rest := []) (lenOf pd_2 rfl) rfl (by show 2 * 0 + _ ≤ _; exact Nat.le_of_eq rfl) (hb hby at_18) (fun _ _ => ⟨rfl, e3, (by decide : 0 + 0 ≤ _), (by decide : 0 + 0 ≤ _)⟩)
  dsimp only [Pt.U, Pt.locs, Pt.cells, Pt.slots] at X4 l4 y4 z4 st4 hQ4
  subst l4 y4 z4
  obtain ⟨hv4, N4q, e4⟩ := hQ4
  rw [show ((.int (own_rank w_NO w_UNKNOWN w_YES w_NO)) : Value) = (.int (0 : Int32)) from by simp [own_rank, nUN, nYN, nYU]] at hv4
  subst hv4
  have N4 := Fr.app N3 N4q
  refine own_go (fun t k => st4 t k) ?_
  show Go p.tables e below _ (T4.setTop (mkF m 21 #[.val (.int p1), .val (.int p2), .val (.ref w_NO), .val (.ref w_UNKNOWN), .val (.ref w_UNKNOWN), .unset] [(.int (0 : Int32))]))
  refine own_go (fun t k => XS.aloadN X4.here hx rfl (hb hby at_21) rfl rfl k) ?_
  show Go p.tables e below _ (T4.setTop (mkF m 22 #[.val (.int p1), .val (.int p2), .val (.ref w_NO), .val (.ref w_UNKNOWN), .val (.ref w_UNKNOWN), .unset] [(.ref w_UNKNOWN), (.int (0 : Int32))]))
  obtain ⟨v5, _, ⟨T5, L5, k5, n5⟩, -, X5, ⟨Lc5, hQ5, l5, y5, z5⟩, st5⟩ := Jvm.LawKit.callS X4 hx (y := (⟨"com/example/casewright/casewright/types/AnswerOrPinLaw", "rank", "(Lcom/example/casewright/casewright/types/Answer;)I"⟩ : MethodName)) hown (mvT hZ (hw _ (List.mem_of_getElem? (i := 18) rfl))) (mvT hZ (hw _ (List.mem_of_getElem? (i := 19) rfl))) (mvT hZ (hw _ (List.mem_of_getElem? (i := 2) rfl))) (mvT hZ (hw _ (List.mem_of_getElem? (i := 20) rfl))) (by decide) (backOf (W := 1) (rm_rank l Z a0 hw [] w_UNKNOWN w_NO w_YES w_UNKNOWN h0 n0 SS) hZ (hw _ (List.mem_of_getElem? (i := 20) rfl)) (hw _ (List.mem_of_getElem? (i := 2) rfl)) (by decide) (by decide)) (g := (mkF m 22 #[.val (.int p1), .val (.int p2), .val (.ref w_NO), .val (.ref w_UNKNOWN), .val (.ref w_UNKNOWN), .unset] [(.ref w_UNKNOWN), (.int (0 : Int32))])) rfl (by rw [hml]; rfl) (argsL := [(.ref w_UNKNOWN)]) (rest := [(.int (0 : Int32))]) (lenOf pd_2 rfl) rfl (by show 2 * 0 + _ ≤ _; exact Nat.le_of_eq rfl) (hb hby at_22) (fun _ _ => ⟨rfl, e4, (by decide : 0 + 0 ≤ _), (by decide : 0 + 0 ≤ _)⟩)
  dsimp only [Pt.U, Pt.locs, Pt.cells, Pt.slots] at X5 l5 y5 z5 st5 hQ5
  subst l5 y5 z5
  obtain ⟨hv5, N5q, e5⟩ := hQ5
  rw [show ((.int (own_rank w_NO w_UNKNOWN w_YES w_UNKNOWN)) : Value) = (.int (1 : Int32)) from by simp [own_rank, nUN, nYN, nYU]] at hv5
  subst hv5
  have N5 := Fr.app N4 N5q
  refine own_go (fun t k => st5 t k) ?_
  show Go p.tables e below _ (T5.setTop (mkF m 25 #[.val (.int p1), .val (.int p2), .val (.ref w_NO), .val (.ref w_UNKNOWN), .val (.ref w_UNKNOWN), .unset] [(.int (1 : Int32)), (.int (0 : Int32))]))
  obtain ⟨v6, _, ⟨T6, L6, k6, n6⟩, -, X6, ⟨Lc6, hQ6, l6, y6, z6⟩, st6⟩ := Jvm.LawKit.callS X5 hx (y := (⟨"java/lang/Math", "max", "(II)I"⟩ : MethodName)) hown (mvT hZ (hw _ (List.mem_of_getElem? (i := 21) rfl))) (mvT hZ (hw _ (List.mem_of_getElem? (i := 22) rfl))) (mvT hZ (hw _ (List.mem_of_getElem? (i := 23) rfl))) (mvT hZ (hw _ (List.mem_of_getElem? (i := 24) rfl))) (by decide) (backOf (W := 0) (rm_max l Z a0 hw [] (0 : Int32) (1 : Int32) h0 n0) hZ (hw _ (List.mem_of_getElem? (i := 24) rfl)) (hw _ (List.mem_of_getElem? (i := 23) rfl)) (by decide) (by decide)) (g := (mkF m 25 #[.val (.int p1), .val (.int p2), .val (.ref w_NO), .val (.ref w_UNKNOWN), .val (.ref w_UNKNOWN), .unset] [(.int (1 : Int32)), (.int (0 : Int32))])) rfl (by rw [hml]; rfl) (argsL := [(.int (0 : Int32)), (.int (1 : Int32))]) (rest := []) (lenOf pd_3 rfl) rfl (by show 2 * 0 + _ ≤ _; exact Nat.le_of_eq rfl) (hb hby at_25) (fun _ _ => ⟨rfl, e5, (by decide : 0 + 0 ≤ _), (by decide : 0 + 0 ≤ _)⟩)
  dsimp only [Pt.U, Pt.locs, Pt.cells, Pt.slots] at X6 l6 y6 z6 st6 hQ6
  subst l6 y6 z6
  obtain ⟨hv6, N6q, e6⟩ := hQ6
  rw [show ((.int (own_max (0 : Int32) (1 : Int32))) : Value) = (.int (1 : Int32)) from rfl] at hv6
  subst hv6
  have N6 := Fr.app N5 N6q
  refine own_go (fun t k => st6 t k) ?_
  show Go p.tables e below _ (T6.setTop (mkF m 28 #[.val (.int p1), .val (.int p2), .val (.ref w_NO), .val (.ref w_UNKNOWN), .val (.ref w_UNKNOWN), .unset] [(.int (1 : Int32))]))
  refine own_go (fun t k => XS.istore X6.here hx rfl (hb hby at_28) rfl (l' := #[.val (.int p1), .val (.int p2), .val (.ref w_NO), .val (.ref w_UNKNOWN), .val (.ref w_UNKNOWN), .val (.int (1 : Int32))]) rfl k) ?_
  show Go p.tables e below _ (T6.setTop (mkF m 30 #[.val (.int p1), .val (.int p2), .val (.ref w_NO), .val (.ref w_UNKNOWN), .val (.ref w_UNKNOWN), .val (.int (1 : Int32))] []))
  refine own_go (fun t k => XS.aload X6.here hx rfl (hb hby at_30) rfl rfl k) ?_
  show Go p.tables e below _ (T6.setTop (mkF m 32 #[.val (.int p1), .val (.int p2), .val (.ref w_NO), .val (.ref w_UNKNOWN), .val (.ref w_UNKNOWN), .val (.int (1 : Int32))] [(.ref w_UNKNOWN)]))
  obtain ⟨v7, _, ⟨T7, L7, k7, n7⟩, -, X7, ⟨Lc7, hQ7, l7, y7, z7⟩, st7⟩ := Jvm.LawKit.callS X6 hx (y := (⟨"com/example/casewright/casewright/types/AnswerOrPinLaw", "rank", "(Lcom/example/casewright/casewright/types/Answer;)I"⟩ : MethodName)) hown (mvT hZ (hw _ (List.mem_of_getElem? (i := 18) rfl))) (mvT hZ (hw _ (List.mem_of_getElem? (i := 19) rfl))) (mvT hZ (hw _ (List.mem_of_getElem? (i := 2) rfl))) (mvT hZ (hw _ (List.mem_of_getElem? (i := 20) rfl))) (by decide) (backOf (W := 0) (rm_rank l Z a0 hw [] w_UNKNOWN w_NO w_YES w_UNKNOWN h0 n0 SS) hZ (hw _ (List.mem_of_getElem? (i := 20) rfl)) (hw _ (List.mem_of_getElem? (i := 2) rfl)) (by decide) (by decide)) (g := (mkF m 32 #[.val (.int p1), .val (.int p2), .val (.ref w_NO), .val (.ref w_UNKNOWN), .val (.ref w_UNKNOWN), .val (.int (1 : Int32))] [(.ref w_UNKNOWN)])) rfl (by rw [hml]; rfl) (argsL := [(.ref w_UNKNOWN)]) (rest := []) (lenOf pd_2 rfl) rfl (by show 2 * 0 + _ ≤ _; exact Nat.le_of_eq rfl) (hb hby at_32) (fun _ _ => ⟨rfl, e6, (by decide : 0 + 0 ≤ _), (by decide : 0 + 0 ≤ _)⟩)
  dsimp only [Pt.U, Pt.locs, Pt.cells, Pt.slots] at X7 l7 y7 z7 st7 hQ7
  subst l7 y7 z7
  obtain ⟨hv7, N7q, e7⟩ := hQ7
  rw [show ((.int (own_rank w_NO w_UNKNOWN w_YES w_UNKNOWN)) : Value) = (.int (1 : Int32)) from by simp [own_rank, nUN, nYN, nYU]] at hv7
  subst hv7
  have N7 := Fr.app N6 N7q
  refine own_go (fun t k => st7 t k) ?_
  show Go p.tables e below _ (T7.setTop (mkF m 35 #[.val (.int p1), .val (.int p2), .val (.ref w_NO), .val (.ref w_UNKNOWN), .val (.ref w_UNKNOWN), .val (.int (1 : Int32))] [(.int (1 : Int32))]))
  refine own_go (fun t k => XS.iload X7.here hx rfl (hb hby at_35) rfl k) ?_
  show Go p.tables e below _ (T7.setTop (mkF m 37 #[.val (.int p1), .val (.int p2), .val (.ref w_NO), .val (.ref w_UNKNOWN), .val (.ref w_UNKNOWN), .val (.int (1 : Int32))] [(.int (1 : Int32)), (.int (1 : Int32))]))
  refine own_go (fun t k => XS.icmpNo X7.here hx rfl (hb hby at_37) rfl (XT.ii_ne_f (by decide)) k) ?_
  show Go p.tables e below _ (T7.setTop (mkF m 40 #[.val (.int p1), .val (.int p2), .val (.ref w_NO), .val (.ref w_UNKNOWN), .val (.ref w_UNKNOWN), .val (.int (1 : Int32))] []))
  refine own_go (fun t k => XS.iconst X7.here hx rfl (hb hby at_40) k) ?_
  show Go p.tables e below _ (T7.setTop (mkF m 41 #[.val (.int p1), .val (.int p2), .val (.ref w_NO), .val (.ref w_UNKNOWN), .val (.ref w_UNKNOWN), .val (.int (1 : Int32))] [(.int (1 : Int32))]))
  refine own_go (fun t k => XS.goto X7.here hx rfl (pc0 := 41) (pc' := 45) rfl (hb hby at_41) (by decide) (by decide) k) ?_
  show Go p.tables e below _ (T7.setTop (mkF m 45 #[.val (.int p1), .val (.int p2), .val (.ref w_NO), .val (.ref w_UNKNOWN), .val (.ref w_UNKNOWN), .val (.int (1 : Int32))] [(.int (1 : Int32))]))
  exact own_ret X7 hx hlk Bd.returns rfl (Or.inl ⟨rfl, Or.inr (Or.inl rfl), _, rfl⟩) (hb hby at_45) ⟨rfl, N7, e7⟩ (by decide) (by decide)
theorem ef_rm_law_02 (m : MethodId) (x0 : Int32) (x1 : Int32) : entryFrame m #[(.int x0), (.int x1)] maxLocals = mkF m 0 #[.val (.int x0), .val (.int x1), .unset, .unset, .unset, .unset] [] := by first | (simp [entryFrame, mkF, argsToLocals, Value.category, maxLocals]; done) | rfl
set_option maxRecDepth 65536 in
set_option maxHeartbeats 40000000 in
theorem rm_law_02 (l : Launch) (Z : State) (a0 : Array Value) (hw : ∀ d ∈ tables_1, d.before a0 Z = true) (ws : List Jvm.Cond) (p1 p2 : Int32) (w_NO w_YES w_UNKNOWN : Addr) (h0 : Heap) (n0 : Nat) (SS : own_S Z h0 w_NO w_YES w_UNKNOWN) (EE : own_E Z h0 w_NO w_YES w_UNKNOWN) (OO : own_O Z h0 w_NO w_YES w_UNKNOWN) (q1 : (p1 &&& 2147483647) % 3 = 0) (q2 : (p2 &&& 2147483647) % 3 = 2) :
    MetFree l x (head1 (Jvm.Cond.code x code maxLocals ret :: ws) room_1) (fun aa U => aa = #[(.int p1), (.int p2)] ∧ Z.Warmed39 U.vm ∧ U.heap = h0) (fun _ _ _ _ _ => True) (fun _ U o U' => ∃ v L, o = .returned v ∧ PQ (.int 1) h0 n0 v U'.heap L ∧ FrameEnd U o U' L room_1.cells room_1.slots) := by
  refine MetFree.of_bodySF (plainFor_of_name pn_0) hisR ?_
  intro p e s m args below meth c s₁ Bd hml0 hP hK
  obtain ⟨rfl, hZ, hh⟩ := hP
  have hx := Bd.exec
  have hby := Bd.bytes
  have hlk := Bd.notSynchronized
  have hml : c.maxLocals = 6 := hml0
  have hown : s.vm.findClass "com/example/casewright/casewright/types/AnswerOrPinLaw" = some m.cls := findClass_of_methodNamed Bd.named
  have X0 : Stand p l e room_1 s m #[(.int p1), (.int p2)] below meth c s₁ [] 0 0 := Stand.of_body Bd
  have e0 : s₁.heap = h0 := by rw [← hh, Bd.state]; rfl
  have N0 := Fr.nil n0
  have SS' := SS
  obtain ⟨S_NO, S_YES, S_UNKNOWN⟩ := SS'
  obtain ⟨E_NO, E_YES, E_UNKNOWN⟩ := EE
  obtain ⟨F_NO_ordinal, F_YES_ordinal, F_UNKNOWN_ordinal⟩ := OO
  have nUN : w_UNKNOWN ≠ w_NO := (own_ne F_UNKNOWN_ordinal F_NO_ordinal (by decide))
  have nYN : w_YES ≠ w_NO := (own_ne F_YES_ordinal F_NO_ordinal (by decide))
  have nYU : w_YES ≠ w_UNKNOWN := (own_ne F_YES_ordinal F_UNKNOWN_ordinal (by decide))
  show Go p.tables e below (Fin s below (PQ (.int 1) h0 n0) room_1.cells room_1.slots) (s₁.setTop (entryFrame m #[(.int p1), (.int p2)] maxLocals))
  refine own_go (fun t k => castTop (ef_rm_law_02 m p1 p2) k) ?_
  show Go p.tables e below _ (s₁.setTop (mkF m 0 #[.val (.int p1), .val (.int p2), .unset, .unset, .unset, .unset] []))
  refine own_go (fun t k => XS.iloadN X0.here hx rfl (hb hby at_0) rfl k) ?_
  show Go p.tables e below _ (s₁.setTop (mkF m 1 #[.val (.int p1), .val (.int p2), .unset, .unset, .unset, .unset] [(.int p1)]))
  obtain ⟨v1, _, ⟨T1, L1, k1, n1⟩, -, X1, ⟨Lc1, hQ1, l1, y1, z1⟩, st1⟩ := Jvm.LawKit.callS X0 hx (y := (⟨"com/example/casewright/casewright/types/AnswerOrPinLaw", "pick", "(I)Lcom/example/casewright/casewright/types/Answer;"⟩ : MethodName)) hown (mvT hZ (hw _ (List.mem_of_getElem? (i := 0) rfl))) (mvT hZ (hw _ (List.mem_of_getElem? (i := 1) rfl))) (mvT hZ (hw _ (List.mem_of_getElem? (i := 2) rfl))) (mvT hZ (hw _ (List.mem_of_getElem? (i := 3) rfl))) (by decide) (backOf (W := 0) (rm_pick l Z a0 hw [] p1 w_NO w_YES w_UNKNOWN h0 n0 SS) hZ (hw _ (List.mem_of_getElem? (i := 3) rfl)) (hw _ (List.mem_of_getElem? (i := 2) rfl)) (by decide) (by decide)) (g := (mkF m 1 #[.val (.int p1), .val (.int p2), .unset, .unset, .unset, .unset] [(.int p1)])) rfl (by rw [hml]; rfl) (argsL := [(.int p1)]) (rest := []) (lenOf pd_0 rfl) rfl (by show 2 * 0 + _ ≤ _; exact Nat.le_of_eq rfl) (hb hby at_1) (fun _ _ => ⟨rfl, e0, (by decide : 0 + 0 ≤ _), (by decide : 0 + 0 ≤ _)⟩)
  dsimp only [Pt.U, Pt.locs, Pt.cells, Pt.slots] at X1 l1 y1 z1 st1 hQ1
  subst l1 y1 z1
  obtain ⟨hv1, N1q, e1⟩ := hQ1
  rw [show ((.ref (own_pick w_NO w_UNKNOWN w_YES p1)) : Value) = (.ref w_NO) from by rw [own_pick, q1]; rfl] at hv1
  subst hv1
  have N1 := Fr.app N0 N1q
  refine own_go (fun t k => st1 t k) ?_
  show Go p.tables e below _ (T1.setTop (mkF m 4 #[.val (.int p1), .val (.int p2), .unset, .unset, .unset, .unset] [(.ref w_NO)]))
  refine own_go (fun t k => XS.astoreN X1.here hx rfl (hb hby at_4) rfl rfl (l' := #[.val (.int p1), .val (.int p2), .val (.ref w_NO), .unset, .unset, .unset]) rfl k) ?_
  show Go p.tables e below _ (T1.setTop (mkF m 5 #[.val (.int p1), .val (.int p2), .val (.ref w_NO), .unset, .unset, .unset] []))
  refine own_go (fun t k => XS.iloadN X1.here hx rfl (hb hby at_5) rfl k) ?_
  show Go p.tables e below _ (T1.setTop (mkF m 6 #[.val (.int p1), .val (.int p2), .val (.ref w_NO), .unset, .unset, .unset] [(.int p2)]))
  obtain ⟨v2, _, ⟨T2, L2, k2, n2⟩, -, X2, ⟨Lc2, hQ2, l2, y2, z2⟩, st2⟩ := Jvm.LawKit.callS X1 hx (y := (⟨"com/example/casewright/casewright/types/AnswerOrPinLaw", "pick", "(I)Lcom/example/casewright/casewright/types/Answer;"⟩ : MethodName)) hown (mvT hZ (hw _ (List.mem_of_getElem? (i := 0) rfl))) (mvT hZ (hw _ (List.mem_of_getElem? (i := 1) rfl))) (mvT hZ (hw _ (List.mem_of_getElem? (i := 2) rfl))) (mvT hZ (hw _ (List.mem_of_getElem? (i := 3) rfl))) (by decide) (backOf (W := 0) (rm_pick l Z a0 hw [] p2 w_NO w_YES w_UNKNOWN h0 n0 SS) hZ (hw _ (List.mem_of_getElem? (i := 3) rfl)) (hw _ (List.mem_of_getElem? (i := 2) rfl)) (by decide) (by decide)) (g := (mkF m 6 #[.val (.int p1), .val (.int p2), .val (.ref w_NO), .unset, .unset, .unset] [(.int p2)])) rfl (by rw [hml]; rfl) (argsL := [(.int p2)]) (rest := []) (lenOf pd_0 rfl) rfl (by show 2 * 0 + _ ≤ _; exact Nat.le_of_eq rfl) (hb hby at_6) (fun _ _ => ⟨rfl, e1, (by decide : 0 + 0 ≤ _), (by decide : 0 + 0 ≤ _)⟩)
  dsimp only [Pt.U, Pt.locs, Pt.cells, Pt.slots] at X2 l2 y2 z2 st2 hQ2
  subst l2 y2 z2
  obtain ⟨hv2, N2q, e2⟩ := hQ2
  rw [show ((.ref (own_pick w_NO w_UNKNOWN w_YES p2)) : Value) = (.ref w_YES) from by rw [own_pick, q2]; rfl] at hv2
  subst hv2
  have N2 := Fr.app N1 N2q
  refine own_go (fun t k => st2 t k) ?_
  show Go p.tables e below _ (T2.setTop (mkF m 9 #[.val (.int p1), .val (.int p2), .val (.ref w_NO), .unset, .unset, .unset] [(.ref w_YES)]))
  refine own_go (fun t k => XS.astoreN X2.here hx rfl (hb hby at_9) rfl rfl (l' := #[.val (.int p1), .val (.int p2), .val (.ref w_NO), .val (.ref w_YES), .unset, .unset]) rfl k) ?_
  show Go p.tables e below _ (T2.setTop (mkF m 10 #[.val (.int p1), .val (.int p2), .val (.ref w_NO), .val (.ref w_YES), .unset, .unset] []))
  refine own_go (fun t k => XS.aloadN X2.here hx rfl (hb hby at_10) rfl rfl k) ?_
  show Go p.tables e below _ (T2.setTop (mkF m 11 #[.val (.int p1), .val (.int p2), .val (.ref w_NO), .val (.ref w_YES), .unset, .unset] [(.ref w_NO)]))
  refine own_go (fun t k => XS.aloadN X2.here hx rfl (hb hby at_11) rfl rfl k) ?_
  show Go p.tables e below _ (T2.setTop (mkF m 12 #[.val (.int p1), .val (.int p2), .val (.ref w_NO), .val (.ref w_YES), .unset, .unset] [(.ref w_YES), (.ref w_NO)]))
  obtain ⟨cq3, kq3, q3a, q3b, q3c⟩ := isOf hZ e2 E_NO
  obtain ⟨v3, _, ⟨T3, L3, k3, n3⟩, -, X3, ⟨Lc3, hQ3, l3, y3, z3⟩, st3⟩ := X2.virtualBack hx (y := (⟨"com/example/casewright/casewright/types/Answer", "or", "(Lcom/example/casewright/casewright/types/Answer;)Lcom/example/casewright/casewright/types/Answer;"⟩ : MethodName)) (z := (⟨"com/example/casewright/casewright/types/Answer", "or", "(Lcom/example/casewright/casewright/types/Answer;)Lcom/example/casewright/casewright/types/Answer;"⟩ : MethodName)) hown (mvT hZ (hw _ (List.mem_of_getElem? (i := 8) rfl))) (mvT hZ (hw _ (List.mem_of_getElem? (i := 9) rfl))) (notFace_of_selects (args := #[]) (mvT hZ (hw _ (List.mem_of_getElem? (i := 11) rfl)))) (mvT hZ (hw _ (List.mem_of_getElem? (i := 11) rfl))) (mvT hZ (hw _ (List.mem_of_getElem? (i := 10) rfl))) (by decide) (backOf (W := 0) (rm_or l Z a0 hw [] w_NO w_YES w_NO w_YES w_UNKNOWN h0 n0 SS) hZ (hw _ (List.mem_of_getElem? (i := 12) rfl)) (hw _ (List.mem_of_getElem? (i := 6) rfl)) (by decide) (by decide)) q3a q3c (g := (mkF m 12 #[.val (.int p1), .val (.int p2), .val (.ref w_NO), .val (.ref w_YES), .unset, .unset] [(.ref w_YES), (.ref w_NO)])) rfl (by rw [hml]; rfl) (Steps.refl _) (argsL := [(.ref w_YES)]) (rest := []) (lenOf pd_1 rfl) rfl (by show 2 * 0 + _ ≤ _; exact Nat.le_of_eq rfl) (hb hby at_12) (fun _ _ => ⟨rfl, e2, (by decide : 0 + 0 ≤ _), (by decide : 0 + 0 ≤ _)⟩)
  dsimp only [Pt.U, Pt.locs, Pt.cells, Pt.slots] at X3 l3 y3 z3 st3 hQ3
  subst l3 y3 z3
  obtain ⟨hv3, N3q, e3⟩ := hQ3
  rw [show ((.ref (own_or w_NO w_UNKNOWN w_YES w_NO w_YES)) : Value) = (.ref w_YES) from by simp [own_or, nUN, nYN, nYU, nUN.symm, nYN.symm, nYU.symm]] at hv3
  subst hv3
  have N3 := Fr.app N2 N3q
  refine own_go (fun t k => st3.trans k) ?_
  show Go p.tables e below _ (T3.setTop (mkF m 15 #[.val (.int p1), .val (.int p2), .val (.ref w_NO), .val (.ref w_YES), .unset, .unset] [(.ref w_YES)]))
  refine own_go (fun t k => XS.astore X3.here hx rfl (hb hby at_15) rfl rfl (l' := #[.val (.int p1), .val (.int p2), .val (.ref w_NO), .val (.ref w_YES), .val (.ref w_YES), .unset]) rfl k) ?_
  show Go p.tables e below _ (T3.setTop (mkF m 17 #[.val (.int p1), .val (.int p2), .val (.ref w_NO), .val (.ref w_YES), .val (.ref w_YES), .unset] []))
  refine own_go (fun t k => XS.aloadN X3.here hx rfl (hb hby at_17) rfl rfl k) ?_
  show Go p.tables e below _ (T3.setTop (mkF m 18 #[.val (.int p1), .val (.int p2), .val (.ref w_NO), .val (.ref w_YES), .val (.ref w_YES), .unset] [(.ref w_NO)]))
  obtain ⟨v4, _, ⟨T4, L4, k4, n4⟩, -, X4, ⟨Lc4, hQ4, l4, y4, z4⟩, st4⟩ := Jvm.LawKit.callS X3 hx (y := (⟨"com/example/casewright/casewright/types/AnswerOrPinLaw", "rank", "(Lcom/example/casewright/casewright/types/Answer;)I"⟩ : MethodName)) hown (mvT hZ (hw _ (List.mem_of_getElem? (i := 18) rfl))) (mvT hZ (hw _ (List.mem_of_getElem? (i := 19) rfl))) (mvT hZ (hw _ (List.mem_of_getElem? (i := 2) rfl))) (mvT hZ (hw _ (List.mem_of_getElem? (i := 20) rfl))) (by decide) (backOf (W := 0) (rm_rank l Z a0 hw [] w_NO w_NO w_YES w_UNKNOWN h0 n0 SS) hZ (hw _ (List.mem_of_getElem? (i := 20) rfl)) (hw _ (List.mem_of_getElem? (i := 2) rfl)) (by decide) (by decide)) (g := (mkF m 18 #[.val (.int p1), .val (.int p2), .val (.ref w_NO), .val (.ref w_YES), .val (.ref w_YES), .unset] [(.ref w_NO)])) rfl (by rw [hml]; rfl) (argsL := [(.ref w_NO)]) (rest := []) (lenOf pd_2 rfl) rfl (by show 2 * 0 + _ ≤ _; exact Nat.le_of_eq rfl) (hb hby at_18) (fun _ _ => ⟨rfl, e3, (by decide : 0 + 0 ≤ _), (by decide : 0 + 0 ≤ _)⟩)
  dsimp only [Pt.U, Pt.locs, Pt.cells, Pt.slots] at X4 l4 y4 z4 st4 hQ4
  subst l4 y4 z4
  obtain ⟨hv4, N4q, e4⟩ := hQ4
  rw [show ((.int (own_rank w_NO w_UNKNOWN w_YES w_NO)) : Value) = (.int (0 : Int32)) from by simp [own_rank, nUN, nYN, nYU]] at hv4
  subst hv4
  have N4 := Fr.app N3 N4q
  refine own_go (fun t k => st4 t k) ?_
  show Go p.tables e below _ (T4.setTop (mkF m 21 #[.val (.int p1), .val (.int p2), .val (.ref w_NO), .val (.ref w_YES), .val (.ref w_YES), .unset] [(.int (0 : Int32))]))
  refine own_go (fun t k => XS.aloadN X4.here hx rfl (hb hby at_21) rfl rfl k) ?_
  show Go p.tables e below _ (T4.setTop (mkF m 22 #[.val (.int p1), .val (.int p2), .val (.ref w_NO), .val (.ref w_YES), .val (.ref w_YES), .unset] [(.ref w_YES), (.int (0 : Int32))]))
  obtain ⟨v5, _, ⟨T5, L5, k5, n5⟩, -, X5, ⟨Lc5, hQ5, l5, y5, z5⟩, st5⟩ := Jvm.LawKit.callS X4 hx (y := (⟨"com/example/casewright/casewright/types/AnswerOrPinLaw", "rank", "(Lcom/example/casewright/casewright/types/Answer;)I"⟩ : MethodName)) hown (mvT hZ (hw _ (List.mem_of_getElem? (i := 18) rfl))) (mvT hZ (hw _ (List.mem_of_getElem? (i := 19) rfl))) (mvT hZ (hw _ (List.mem_of_getElem? (i := 2) rfl))) (mvT hZ (hw _ (List.mem_of_getElem? (i := 20) rfl))) (by decide) (backOf (W := 1) (rm_rank l Z a0 hw [] w_YES w_NO w_YES w_UNKNOWN h0 n0 SS) hZ (hw _ (List.mem_of_getElem? (i := 20) rfl)) (hw _ (List.mem_of_getElem? (i := 2) rfl)) (by decide) (by decide)) (g := (mkF m 22 #[.val (.int p1), .val (.int p2), .val (.ref w_NO), .val (.ref w_YES), .val (.ref w_YES), .unset] [(.ref w_YES), (.int (0 : Int32))])) rfl (by rw [hml]; rfl) (argsL := [(.ref w_YES)]) (rest := [(.int (0 : Int32))]) (lenOf pd_2 rfl) rfl (by show 2 * 0 + _ ≤ _; exact Nat.le_of_eq rfl) (hb hby at_22) (fun _ _ => ⟨rfl, e4, (by decide : 0 + 0 ≤ _), (by decide : 0 + 0 ≤ _)⟩)
  dsimp only [Pt.U, Pt.locs, Pt.cells, Pt.slots] at X5 l5 y5 z5 st5 hQ5
  subst l5 y5 z5
  obtain ⟨hv5, N5q, e5⟩ := hQ5
  rw [show ((.int (own_rank w_NO w_UNKNOWN w_YES w_YES)) : Value) = (.int (2 : Int32)) from by simp [own_rank, nUN, nYN, nYU]] at hv5
  subst hv5
  have N5 := Fr.app N4 N5q
  refine own_go (fun t k => st5 t k) ?_
  show Go p.tables e below _ (T5.setTop (mkF m 25 #[.val (.int p1), .val (.int p2), .val (.ref w_NO), .val (.ref w_YES), .val (.ref w_YES), .unset] [(.int (2 : Int32)), (.int (0 : Int32))]))
  obtain ⟨v6, _, ⟨T6, L6, k6, n6⟩, -, X6, ⟨Lc6, hQ6, l6, y6, z6⟩, st6⟩ := Jvm.LawKit.callS X5 hx (y := (⟨"java/lang/Math", "max", "(II)I"⟩ : MethodName)) hown (mvT hZ (hw _ (List.mem_of_getElem? (i := 21) rfl))) (mvT hZ (hw _ (List.mem_of_getElem? (i := 22) rfl))) (mvT hZ (hw _ (List.mem_of_getElem? (i := 23) rfl))) (mvT hZ (hw _ (List.mem_of_getElem? (i := 24) rfl))) (by decide) (backOf (W := 0) (rm_max l Z a0 hw [] (0 : Int32) (2 : Int32) h0 n0) hZ (hw _ (List.mem_of_getElem? (i := 24) rfl)) (hw _ (List.mem_of_getElem? (i := 23) rfl)) (by decide) (by decide)) (g := (mkF m 25 #[.val (.int p1), .val (.int p2), .val (.ref w_NO), .val (.ref w_YES), .val (.ref w_YES), .unset] [(.int (2 : Int32)), (.int (0 : Int32))])) rfl (by rw [hml]; rfl) (argsL := [(.int (0 : Int32)), (.int (2 : Int32))]) (rest := []) (lenOf pd_3 rfl) rfl (by show 2 * 0 + _ ≤ _; exact Nat.le_of_eq rfl) (hb hby at_25) (fun _ _ => ⟨rfl, e5, (by decide : 0 + 0 ≤ _), (by decide : 0 + 0 ≤ _)⟩)
  dsimp only [Pt.U, Pt.locs, Pt.cells, Pt.slots] at X6 l6 y6 z6 st6 hQ6
  subst l6 y6 z6
  obtain ⟨hv6, N6q, e6⟩ := hQ6
  rw [show ((.int (own_max (0 : Int32) (2 : Int32))) : Value) = (.int (2 : Int32)) from rfl] at hv6
  subst hv6
  have N6 := Fr.app N5 N6q
  refine own_go (fun t k => st6 t k) ?_
  show Go p.tables e below _ (T6.setTop (mkF m 28 #[.val (.int p1), .val (.int p2), .val (.ref w_NO), .val (.ref w_YES), .val (.ref w_YES), .unset] [(.int (2 : Int32))]))
  refine own_go (fun t k => XS.istore X6.here hx rfl (hb hby at_28) rfl (l' := #[.val (.int p1), .val (.int p2), .val (.ref w_NO), .val (.ref w_YES), .val (.ref w_YES), .val (.int (2 : Int32))]) rfl k) ?_
  show Go p.tables e below _ (T6.setTop (mkF m 30 #[.val (.int p1), .val (.int p2), .val (.ref w_NO), .val (.ref w_YES), .val (.ref w_YES), .val (.int (2 : Int32))] []))
  refine own_go (fun t k => XS.aload X6.here hx rfl (hb hby at_30) rfl rfl k) ?_
  show Go p.tables e below _ (T6.setTop (mkF m 32 #[.val (.int p1), .val (.int p2), .val (.ref w_NO), .val (.ref w_YES), .val (.ref w_YES), .val (.int (2 : Int32))] [(.ref w_YES)]))
  obtain ⟨v7, _, ⟨T7, L7, k7, n7⟩, -, X7, ⟨Lc7, hQ7, l7, y7, z7⟩, st7⟩ := Jvm.LawKit.callS X6 hx (y := (⟨"com/example/casewright/casewright/types/AnswerOrPinLaw", "rank", "(Lcom/example/casewright/casewright/types/Answer;)I"⟩ : MethodName)) hown (mvT hZ (hw _ (List.mem_of_getElem? (i := 18) rfl))) (mvT hZ (hw _ (List.mem_of_getElem? (i := 19) rfl))) (mvT hZ (hw _ (List.mem_of_getElem? (i := 2) rfl))) (mvT hZ (hw _ (List.mem_of_getElem? (i := 20) rfl))) (by decide) (backOf (W := 0) (rm_rank l Z a0 hw [] w_YES w_NO w_YES w_UNKNOWN h0 n0 SS) hZ (hw _ (List.mem_of_getElem? (i := 20) rfl)) (hw _ (List.mem_of_getElem? (i := 2) rfl)) (by decide) (by decide)) (g := (mkF m 32 #[.val (.int p1), .val (.int p2), .val (.ref w_NO), .val (.ref w_YES), .val (.ref w_YES), .val (.int (2 : Int32))] [(.ref w_YES)])) rfl (by rw [hml]; rfl) (argsL := [(.ref w_YES)]) (rest := []) (lenOf pd_2 rfl) rfl (by show 2 * 0 + _ ≤ _; exact Nat.le_of_eq rfl) (hb hby at_32) (fun _ _ => ⟨rfl, e6, (by decide : 0 + 0 ≤ _), (by decide : 0 + 0 ≤ _)⟩)
  dsimp only [Pt.U, Pt.locs, Pt.cells, Pt.slots] at X7 l7 y7 z7 st7 hQ7
  subst l7 y7 z7
  obtain ⟨hv7, N7q, e7⟩ := hQ7
  rw [show ((.int (own_rank w_NO w_UNKNOWN w_YES w_YES)) : Value) = (.int (2 : Int32)) from by simp [own_rank, nUN, nYN, nYU]] at hv7
  subst hv7
  have N7 := Fr.app N6 N7q
  refine own_go (fun t k => st7 t k) ?_
  show Go p.tables e below _ (T7.setTop (mkF m 35 #[.val (.int p1), .val (.int p2), .val (.ref w_NO), .val (.ref w_YES), .val (.ref w_YES), .val (.int (2 : Int32))] [(.int (2 : Int32))]))
  refine own_go (fun t k => XS.iload X7.here hx rfl (hb hby at_35) rfl k) ?_
  show Go p.tables e below _ (T7.setTop (mkF m 37 #[.val (.int p1), .val (.int p2), .val (.ref w_NO), .val (.ref w_YES), .val (.ref w_YES), .val (.int (2 : Int32))] [(.int (2 : Int32)), (.int (2 : Int32))]))
  refine own_go (fun t k => XS.icmpNo X7.here hx rfl (hb hby at_37) rfl (XT.ii_ne_f (by decide)) k) ?_
  show Go p.tables e below _ (T7.setTop (mkF m 40 #[.val (.int p1), .val (.int p2), .val (.ref w_NO), .val (.ref w_YES), .val (.ref w_YES), .val (.int (2 : Int32))] []))
  refine own_go (fun t k => XS.iconst X7.here hx rfl (hb hby at_40) k) ?_
  show Go p.tables e below _ (T7.setTop (mkF m 41 #[.val (.int p1), .val (.int p2), .val (.ref w_NO), .val (.ref w_YES), .val (.ref w_YES), .val (.int (2 : Int32))] [(.int (1 : Int32))]))
  refine own_go (fun t k => XS.goto X7.here hx rfl (pc0 := 41) (pc' := 45) rfl (hb hby at_41) (by decide) (by decide) k) ?_
  show Go p.tables e below _ (T7.setTop (mkF m 45 #[.val (.int p1), .val (.int p2), .val (.ref w_NO), .val (.ref w_YES), .val (.ref w_YES), .val (.int (2 : Int32))] [(.int (1 : Int32))]))
  exact own_ret X7 hx hlk Bd.returns rfl (Or.inl ⟨rfl, Or.inr (Or.inl rfl), _, rfl⟩) (hb hby at_45) ⟨rfl, N7, e7⟩ (by decide) (by decide)
theorem ef_rm_law_10 (m : MethodId) (x0 : Int32) (x1 : Int32) : entryFrame m #[(.int x0), (.int x1)] maxLocals = mkF m 0 #[.val (.int x0), .val (.int x1), .unset, .unset, .unset, .unset] [] := by first | (simp [entryFrame, mkF, argsToLocals, Value.category, maxLocals]; done) | rfl
set_option maxRecDepth 65536 in
set_option maxHeartbeats 40000000 in
theorem rm_law_10 (l : Launch) (Z : State) (a0 : Array Value) (hw : ∀ d ∈ tables_1, d.before a0 Z = true) (ws : List Jvm.Cond) (p1 p2 : Int32) (w_NO w_YES w_UNKNOWN : Addr) (h0 : Heap) (n0 : Nat) (SS : own_S Z h0 w_NO w_YES w_UNKNOWN) (EE : own_E Z h0 w_NO w_YES w_UNKNOWN) (OO : own_O Z h0 w_NO w_YES w_UNKNOWN) (q1 : (p1 &&& 2147483647) % 3 = 1) (q2 : (p2 &&& 2147483647) % 3 = 0) :
    MetFree l x (head1 (Jvm.Cond.code x code maxLocals ret :: ws) room_1) (fun aa U => aa = #[(.int p1), (.int p2)] ∧ Z.Warmed39 U.vm ∧ U.heap = h0) (fun _ _ _ _ _ => True) (fun _ U o U' => ∃ v L, o = .returned v ∧ PQ (.int 1) h0 n0 v U'.heap L ∧ FrameEnd U o U' L room_1.cells room_1.slots) := by
  refine MetFree.of_bodySF (plainFor_of_name pn_0) hisR ?_
  intro p e s m args below meth c s₁ Bd hml0 hP hK
  obtain ⟨rfl, hZ, hh⟩ := hP
  have hx := Bd.exec
  have hby := Bd.bytes
  have hlk := Bd.notSynchronized
  have hml : c.maxLocals = 6 := hml0
  have hown : s.vm.findClass "com/example/casewright/casewright/types/AnswerOrPinLaw" = some m.cls := findClass_of_methodNamed Bd.named
  have X0 : Stand p l e room_1 s m #[(.int p1), (.int p2)] below meth c s₁ [] 0 0 := Stand.of_body Bd
  have e0 : s₁.heap = h0 := by rw [← hh, Bd.state]; rfl
  have N0 := Fr.nil n0
  have SS' := SS
  obtain ⟨S_NO, S_YES, S_UNKNOWN⟩ := SS'
  obtain ⟨E_NO, E_YES, E_UNKNOWN⟩ := EE
  obtain ⟨F_NO_ordinal, F_YES_ordinal, F_UNKNOWN_ordinal⟩ := OO
  have nUN : w_UNKNOWN ≠ w_NO := (own_ne F_UNKNOWN_ordinal F_NO_ordinal (by decide))
  have nYN : w_YES ≠ w_NO := (own_ne F_YES_ordinal F_NO_ordinal (by decide))
  have nYU : w_YES ≠ w_UNKNOWN := (own_ne F_YES_ordinal F_UNKNOWN_ordinal (by decide))
  show Go p.tables e below (Fin s below (PQ (.int 1) h0 n0) room_1.cells room_1.slots) (s₁.setTop (entryFrame m #[(.int p1), (.int p2)] maxLocals))
  refine own_go (fun t k => castTop (ef_rm_law_10 m p1 p2) k) ?_
  show Go p.tables e below _ (s₁.setTop (mkF m 0 #[.val (.int p1), .val (.int p2), .unset, .unset, .unset, .unset] []))
  refine own_go (fun t k => XS.iloadN X0.here hx rfl (hb hby at_0) rfl k) ?_
  show Go p.tables e below _ (s₁.setTop (mkF m 1 #[.val (.int p1), .val (.int p2), .unset, .unset, .unset, .unset] [(.int p1)]))
  obtain ⟨v1, _, ⟨T1, L1, k1, n1⟩, -, X1, ⟨Lc1, hQ1, l1, y1, z1⟩, st1⟩ := Jvm.LawKit.callS X0 hx (y := (⟨"com/example/casewright/casewright/types/AnswerOrPinLaw", "pick", "(I)Lcom/example/casewright/casewright/types/Answer;"⟩ : MethodName)) hown (mvT hZ (hw _ (List.mem_of_getElem? (i := 0) rfl))) (mvT hZ (hw _ (List.mem_of_getElem? (i := 1) rfl))) (mvT hZ (hw _ (List.mem_of_getElem? (i := 2) rfl))) (mvT hZ (hw _ (List.mem_of_getElem? (i := 3) rfl))) (by decide) (backOf (W := 0) (rm_pick l Z a0 hw [] p1 w_NO w_YES w_UNKNOWN h0 n0 SS) hZ (hw _ (List.mem_of_getElem? (i := 3) rfl)) (hw _ (List.mem_of_getElem? (i := 2) rfl)) (by decide) (by decide)) (g := (mkF m 1 #[.val (.int p1), .val (.int p2), .unset, .unset, .unset, .unset] [(.int p1)])) rfl (by rw [hml]; rfl) (argsL := [(.int p1)]) (rest := []) (lenOf pd_0 rfl) rfl (by show 2 * 0 + _ ≤ _; exact Nat.le_of_eq rfl) (hb hby at_1) (fun _ _ => ⟨rfl, e0, (by decide : 0 + 0 ≤ _), (by decide : 0 + 0 ≤ _)⟩)
  dsimp only [Pt.U, Pt.locs, Pt.cells, Pt.slots] at X1 l1 y1 z1 st1 hQ1
  subst l1 y1 z1
  obtain ⟨hv1, N1q, e1⟩ := hQ1
  rw [show ((.ref (own_pick w_NO w_UNKNOWN w_YES p1)) : Value) = (.ref w_UNKNOWN) from by rw [own_pick, q1]; rfl] at hv1
  subst hv1
  have N1 := Fr.app N0 N1q
  refine own_go (fun t k => st1 t k) ?_
  show Go p.tables e below _ (T1.setTop (mkF m 4 #[.val (.int p1), .val (.int p2), .unset, .unset, .unset, .unset] [(.ref w_UNKNOWN)]))
  refine own_go (fun t k => XS.astoreN X1.here hx rfl (hb hby at_4) rfl rfl (l' := #[.val (.int p1), .val (.int p2), .val (.ref w_UNKNOWN), .unset, .unset, .unset]) rfl k) ?_
  show Go p.tables e below _ (T1.setTop (mkF m 5 #[.val (.int p1), .val (.int p2), .val (.ref w_UNKNOWN), .unset, .unset, .unset] []))
  refine own_go (fun t k => XS.iloadN X1.here hx rfl (hb hby at_5) rfl k) ?_
  show Go p.tables e below _ (T1.setTop (mkF m 6 #[.val (.int p1), .val (.int p2), .val (.ref w_UNKNOWN), .unset, .unset, .unset] [(.int p2)]))
  obtain ⟨v2, _, ⟨T2, L2, k2, n2⟩, -, X2, ⟨Lc2, hQ2, l2, y2, z2⟩, st2⟩ := Jvm.LawKit.callS X1 hx (y := (⟨"com/example/casewright/casewright/types/AnswerOrPinLaw", "pick", "(I)Lcom/example/casewright/casewright/types/Answer;"⟩ : MethodName)) hown (mvT hZ (hw _ (List.mem_of_getElem? (i := 0) rfl))) (mvT hZ (hw _ (List.mem_of_getElem? (i := 1) rfl))) (mvT hZ (hw _ (List.mem_of_getElem? (i := 2) rfl))) (mvT hZ (hw _ (List.mem_of_getElem? (i := 3) rfl))) (by decide) (backOf (W := 0) (rm_pick l Z a0 hw [] p2 w_NO w_YES w_UNKNOWN h0 n0 SS) hZ (hw _ (List.mem_of_getElem? (i := 3) rfl)) (hw _ (List.mem_of_getElem? (i := 2) rfl)) (by decide) (by decide)) (g := (mkF m 6 #[.val (.int p1), .val (.int p2), .val (.ref w_UNKNOWN), .unset, .unset, .unset] [(.int p2)])) rfl (by rw [hml]; rfl) (argsL := [(.int p2)]) (rest := []) (lenOf pd_0 rfl) rfl (by show 2 * 0 + _ ≤ _; exact Nat.le_of_eq rfl) (hb hby at_6) (fun _ _ => ⟨rfl, e1, (by decide : 0 + 0 ≤ _), (by decide : 0 + 0 ≤ _)⟩)
  dsimp only [Pt.U, Pt.locs, Pt.cells, Pt.slots] at X2 l2 y2 z2 st2 hQ2
  subst l2 y2 z2
  obtain ⟨hv2, N2q, e2⟩ := hQ2
  rw [show ((.ref (own_pick w_NO w_UNKNOWN w_YES p2)) : Value) = (.ref w_NO) from by rw [own_pick, q2]; rfl] at hv2
  subst hv2
  have N2 := Fr.app N1 N2q
  refine own_go (fun t k => st2 t k) ?_
  show Go p.tables e below _ (T2.setTop (mkF m 9 #[.val (.int p1), .val (.int p2), .val (.ref w_UNKNOWN), .unset, .unset, .unset] [(.ref w_NO)]))
  refine own_go (fun t k => XS.astoreN X2.here hx rfl (hb hby at_9) rfl rfl (l' := #[.val (.int p1), .val (.int p2), .val (.ref w_UNKNOWN), .val (.ref w_NO), .unset, .unset]) rfl k) ?_
  show Go p.tables e below _ (T2.setTop (mkF m 10 #[.val (.int p1), .val (.int p2), .val (.ref w_UNKNOWN), .val (.ref w_NO), .unset, .unset] []))
  refine own_go (fun t k => XS.aloadN X2.here hx rfl (hb hby at_10) rfl rfl k) ?_
  show Go p.tables e below _ (T2.setTop (mkF m 11 #[.val (.int p1), .val (.int p2), .val (.ref w_UNKNOWN), .val (.ref w_NO), .unset, .unset] [(.ref w_UNKNOWN)]))
  refine own_go (fun t k => XS.aloadN X2.here hx rfl (hb hby at_11) rfl rfl k) ?_
  show Go p.tables e below _ (T2.setTop (mkF m 12 #[.val (.int p1), .val (.int p2), .val (.ref w_UNKNOWN), .val (.ref w_NO), .unset, .unset] [(.ref w_NO), (.ref w_UNKNOWN)]))
  obtain ⟨cq3, kq3, q3a, q3b, q3c⟩ := isOf hZ e2 E_UNKNOWN
  obtain ⟨v3, _, ⟨T3, L3, k3, n3⟩, -, X3, ⟨Lc3, hQ3, l3, y3, z3⟩, st3⟩ := X2.virtualBack hx (y := (⟨"com/example/casewright/casewright/types/Answer", "or", "(Lcom/example/casewright/casewright/types/Answer;)Lcom/example/casewright/casewright/types/Answer;"⟩ : MethodName)) (z := (⟨"com/example/casewright/casewright/types/Answer", "or", "(Lcom/example/casewright/casewright/types/Answer;)Lcom/example/casewright/casewright/types/Answer;"⟩ : MethodName)) hown (mvT hZ (hw _ (List.mem_of_getElem? (i := 8) rfl))) (mvT hZ (hw _ (List.mem_of_getElem? (i := 9) rfl))) (notFace_of_selects (args := #[]) (mvT hZ (hw _ (List.mem_of_getElem? (i := 11) rfl)))) (mvT hZ (hw _ (List.mem_of_getElem? (i := 11) rfl))) (mvT hZ (hw _ (List.mem_of_getElem? (i := 10) rfl))) (by decide) (backOf (W := 0) (rm_or l Z a0 hw [] w_UNKNOWN w_NO w_NO w_YES w_UNKNOWN h0 n0 SS) hZ (hw _ (List.mem_of_getElem? (i := 12) rfl)) (hw _ (List.mem_of_getElem? (i := 6) rfl)) (by decide) (by decide)) q3a q3c (g := (mkF m 12 #[.val (.int p1), .val (.int p2), .val (.ref w_UNKNOWN), .val (.ref w_NO), .unset, .unset] [(.ref w_NO), (.ref w_UNKNOWN)])) rfl (by rw [hml]; rfl) (Steps.refl _) (argsL := [(.ref w_NO)]) (rest := []) (lenOf pd_1 rfl) rfl (by show 2 * 0 + _ ≤ _; exact Nat.le_of_eq rfl) (hb hby at_12) (fun _ _ => ⟨rfl, e2, (by decide : 0 + 0 ≤ _), (by decide : 0 + 0 ≤ _)⟩)
  dsimp only [Pt.U, Pt.locs, Pt.cells, Pt.slots] at X3 l3 y3 z3 st3 hQ3
  subst l3 y3 z3
  obtain ⟨hv3, N3q, e3⟩ := hQ3
  rw [show ((.ref (own_or w_NO w_UNKNOWN w_YES w_UNKNOWN w_NO)) : Value) = (.ref w_UNKNOWN) from by simp [own_or, nUN, nYN, nYU, nUN.symm, nYN.symm, nYU.symm]] at hv3
  subst hv3
  have N3 := Fr.app N2 N3q
  refine own_go (fun t k => st3.trans k) ?_
  show Go p.tables e below _ (T3.setTop (mkF m 15 #[.val (.int p1), .val (.int p2), .val (.ref w_UNKNOWN), .val (.ref w_NO), .unset, .unset] [(.ref w_UNKNOWN)]))
  refine own_go (fun t k => XS.astore X3.here hx rfl (hb hby at_15) rfl rfl (l' := #[.val (.int p1), .val (.int p2), .val (.ref w_UNKNOWN), .val (.ref w_NO), .val (.ref w_UNKNOWN), .unset]) rfl k) ?_
  show Go p.tables e below _ (T3.setTop (mkF m 17 #[.val (.int p1), .val (.int p2), .val (.ref w_UNKNOWN), .val (.ref w_NO), .val (.ref w_UNKNOWN), .unset] []))
  refine own_go (fun t k => XS.aloadN X3.here hx rfl (hb hby at_17) rfl rfl k) ?_
  show Go p.tables e below _ (T3.setTop (mkF m 18 #[.val (.int p1), .val (.int p2), .val (.ref w_UNKNOWN), .val (.ref w_NO), .val (.ref w_UNKNOWN), .unset] [(.ref w_UNKNOWN)]))
  obtain ⟨v4, _, ⟨T4, L4, k4, n4⟩, -, X4, ⟨Lc4, hQ4, l4, y4, z4⟩, st4⟩ := Jvm.LawKit.callS X3 hx (y := (⟨"com/example/casewright/casewright/types/AnswerOrPinLaw", "rank", "(Lcom/example/casewright/casewright/types/Answer;)I"⟩ : MethodName)) hown (mvT hZ (hw _ (List.mem_of_getElem? (i := 18) rfl))) (mvT hZ (hw _ (List.mem_of_getElem? (i := 19) rfl))) (mvT hZ (hw _ (List.mem_of_getElem? (i := 2) rfl))) (mvT hZ (hw _ (List.mem_of_getElem? (i := 20) rfl))) (by decide) (backOf (W := 0) (rm_rank l Z a0 hw [] w_UNKNOWN w_NO w_YES w_UNKNOWN h0 n0 SS) hZ (hw _ (List.mem_of_getElem? (i := 20) rfl)) (hw _ (List.mem_of_getElem? (i := 2) rfl)) (by decide) (by decide)) (g := (mkF m 18 #[.val (.int p1), .val (.int p2), .val (.ref w_UNKNOWN), .val (.ref w_NO), .val (.ref w_UNKNOWN), .unset] [(.ref w_UNKNOWN)])) rfl (by rw [hml]; rfl) (argsL := [(.ref w_UNKNOWN)]) (rest := []) (lenOf pd_2 rfl) rfl (by show 2 * 0 + _ ≤ _; exact Nat.le_of_eq rfl) (hb hby at_18) (fun _ _ => ⟨rfl, e3, (by decide : 0 + 0 ≤ _), (by decide : 0 + 0 ≤ _)⟩)
  dsimp only [Pt.U, Pt.locs, Pt.cells, Pt.slots] at X4 l4 y4 z4 st4 hQ4
  subst l4 y4 z4
  obtain ⟨hv4, N4q, e4⟩ := hQ4
  rw [show ((.int (own_rank w_NO w_UNKNOWN w_YES w_UNKNOWN)) : Value) = (.int (1 : Int32)) from by simp [own_rank, nUN, nYN, nYU]] at hv4
  subst hv4
  have N4 := Fr.app N3 N4q
  refine own_go (fun t k => st4 t k) ?_
  show Go p.tables e below _ (T4.setTop (mkF m 21 #[.val (.int p1), .val (.int p2), .val (.ref w_UNKNOWN), .val (.ref w_NO), .val (.ref w_UNKNOWN), .unset] [(.int (1 : Int32))]))
  refine own_go (fun t k => XS.aloadN X4.here hx rfl (hb hby at_21) rfl rfl k) ?_
  show Go p.tables e below _ (T4.setTop (mkF m 22 #[.val (.int p1), .val (.int p2), .val (.ref w_UNKNOWN), .val (.ref w_NO), .val (.ref w_UNKNOWN), .unset] [(.ref w_NO), (.int (1 : Int32))]))
  obtain ⟨v5, _, ⟨T5, L5, k5, n5⟩, -, X5, ⟨Lc5, hQ5, l5, y5, z5⟩, st5⟩ := Jvm.LawKit.callS X4 hx (y := (⟨"com/example/casewright/casewright/types/AnswerOrPinLaw", "rank", "(Lcom/example/casewright/casewright/types/Answer;)I"⟩ : MethodName)) hown (mvT hZ (hw _ (List.mem_of_getElem? (i := 18) rfl))) (mvT hZ (hw _ (List.mem_of_getElem? (i := 19) rfl))) (mvT hZ (hw _ (List.mem_of_getElem? (i := 2) rfl))) (mvT hZ (hw _ (List.mem_of_getElem? (i := 20) rfl))) (by decide) (backOf (W := 1) (rm_rank l Z a0 hw [] w_NO w_NO w_YES w_UNKNOWN h0 n0 SS) hZ (hw _ (List.mem_of_getElem? (i := 20) rfl)) (hw _ (List.mem_of_getElem? (i := 2) rfl)) (by decide) (by decide)) (g := (mkF m 22 #[.val (.int p1), .val (.int p2), .val (.ref w_UNKNOWN), .val (.ref w_NO), .val (.ref w_UNKNOWN), .unset] [(.ref w_NO), (.int (1 : Int32))])) rfl (by rw [hml]; rfl) (argsL := [(.ref w_NO)]) (rest := [(.int (1 : Int32))]) (lenOf pd_2 rfl) rfl (by show 2 * 0 + _ ≤ _; exact Nat.le_of_eq rfl) (hb hby at_22) (fun _ _ => ⟨rfl, e4, (by decide : 0 + 0 ≤ _), (by decide : 0 + 0 ≤ _)⟩)
  dsimp only [Pt.U, Pt.locs, Pt.cells, Pt.slots] at X5 l5 y5 z5 st5 hQ5
  subst l5 y5 z5
  obtain ⟨hv5, N5q, e5⟩ := hQ5
  rw [show ((.int (own_rank w_NO w_UNKNOWN w_YES w_NO)) : Value) = (.int (0 : Int32)) from by simp [own_rank, nUN, nYN, nYU]] at hv5
  subst hv5
  have N5 := Fr.app N4 N5q
  refine own_go (fun t k => st5 t k) ?_
  show Go p.tables e below _ (T5.setTop (mkF m 25 #[.val (.int p1), .val (.int p2), .val (.ref w_UNKNOWN), .val (.ref w_NO), .val (.ref w_UNKNOWN), .unset] [(.int (0 : Int32)), (.int (1 : Int32))]))
  obtain ⟨v6, _, ⟨T6, L6, k6, n6⟩, -, X6, ⟨Lc6, hQ6, l6, y6, z6⟩, st6⟩ := Jvm.LawKit.callS X5 hx (y := (⟨"java/lang/Math", "max", "(II)I"⟩ : MethodName)) hown (mvT hZ (hw _ (List.mem_of_getElem? (i := 21) rfl))) (mvT hZ (hw _ (List.mem_of_getElem? (i := 22) rfl))) (mvT hZ (hw _ (List.mem_of_getElem? (i := 23) rfl))) (mvT hZ (hw _ (List.mem_of_getElem? (i := 24) rfl))) (by decide) (backOf (W := 0) (rm_max l Z a0 hw [] (1 : Int32) (0 : Int32) h0 n0) hZ (hw _ (List.mem_of_getElem? (i := 24) rfl)) (hw _ (List.mem_of_getElem? (i := 23) rfl)) (by decide) (by decide)) (g := (mkF m 25 #[.val (.int p1), .val (.int p2), .val (.ref w_UNKNOWN), .val (.ref w_NO), .val (.ref w_UNKNOWN), .unset] [(.int (0 : Int32)), (.int (1 : Int32))])) rfl (by rw [hml]; rfl) (argsL := [(.int (1 : Int32)), (.int (0 : Int32))]) (rest := []) (lenOf pd_3 rfl) rfl (by show 2 * 0 + _ ≤ _; exact Nat.le_of_eq rfl) (hb hby at_25) (fun _ _ => ⟨rfl, e5, (by decide : 0 + 0 ≤ _), (by decide : 0 + 0 ≤ _)⟩)
  dsimp only [Pt.U, Pt.locs, Pt.cells, Pt.slots] at X6 l6 y6 z6 st6 hQ6
  subst l6 y6 z6
  obtain ⟨hv6, N6q, e6⟩ := hQ6
  rw [show ((.int (own_max (1 : Int32) (0 : Int32))) : Value) = (.int (1 : Int32)) from rfl] at hv6
  subst hv6
  have N6 := Fr.app N5 N6q
  refine own_go (fun t k => st6 t k) ?_
  show Go p.tables e below _ (T6.setTop (mkF m 28 #[.val (.int p1), .val (.int p2), .val (.ref w_UNKNOWN), .val (.ref w_NO), .val (.ref w_UNKNOWN), .unset] [(.int (1 : Int32))]))
  refine own_go (fun t k => XS.istore X6.here hx rfl (hb hby at_28) rfl (l' := #[.val (.int p1), .val (.int p2), .val (.ref w_UNKNOWN), .val (.ref w_NO), .val (.ref w_UNKNOWN), .val (.int (1 : Int32))]) rfl k) ?_
  show Go p.tables e below _ (T6.setTop (mkF m 30 #[.val (.int p1), .val (.int p2), .val (.ref w_UNKNOWN), .val (.ref w_NO), .val (.ref w_UNKNOWN), .val (.int (1 : Int32))] []))
  refine own_go (fun t k => XS.aload X6.here hx rfl (hb hby at_30) rfl rfl k) ?_
  show Go p.tables e below _ (T6.setTop (mkF m 32 #[.val (.int p1), .val (.int p2), .val (.ref w_UNKNOWN), .val (.ref w_NO), .val (.ref w_UNKNOWN), .val (.int (1 : Int32))] [(.ref w_UNKNOWN)]))
  obtain ⟨v7, _, ⟨T7, L7, k7, n7⟩, -, X7, ⟨Lc7, hQ7, l7, y7, z7⟩, st7⟩ := Jvm.LawKit.callS X6 hx (y := (⟨"com/example/casewright/casewright/types/AnswerOrPinLaw", "rank", "(Lcom/example/casewright/casewright/types/Answer;)I"⟩ : MethodName)) hown (mvT hZ (hw _ (List.mem_of_getElem? (i := 18) rfl))) (mvT hZ (hw _ (List.mem_of_getElem? (i := 19) rfl))) (mvT hZ (hw _ (List.mem_of_getElem? (i := 2) rfl))) (mvT hZ (hw _ (List.mem_of_getElem? (i := 20) rfl))) (by decide) (backOf (W := 0) (rm_rank l Z a0 hw [] w_UNKNOWN w_NO w_YES w_UNKNOWN h0 n0 SS) hZ (hw _ (List.mem_of_getElem? (i := 20) rfl)) (hw _ (List.mem_of_getElem? (i := 2) rfl)) (by decide) (by decide)) (g := (mkF m 32 #[.val (.int p1), .val (.int p2), .val (.ref w_UNKNOWN), .val (.ref w_NO), .val (.ref w_UNKNOWN), .val (.int (1 : Int32))] [(.ref w_UNKNOWN)])) rfl (by rw [hml]; rfl) (argsL := [(.ref w_UNKNOWN)]) (rest := []) (lenOf pd_2 rfl) rfl (by show 2 * 0 + _ ≤ _; exact Nat.le_of_eq rfl) (hb hby at_32) (fun _ _ => ⟨rfl, e6, (by decide : 0 + 0 ≤ _), (by decide : 0 + 0 ≤ _)⟩)
  dsimp only [Pt.U, Pt.locs, Pt.cells, Pt.slots] at X7 l7 y7 z7 st7 hQ7
  subst l7 y7 z7
  obtain ⟨hv7, N7q, e7⟩ := hQ7
  rw [show ((.int (own_rank w_NO w_UNKNOWN w_YES w_UNKNOWN)) : Value) = (.int (1 : Int32)) from by simp [own_rank, nUN, nYN, nYU]] at hv7
  subst hv7
  have N7 := Fr.app N6 N7q
  refine own_go (fun t k => st7 t k) ?_
  show Go p.tables e below _ (T7.setTop (mkF m 35 #[.val (.int p1), .val (.int p2), .val (.ref w_UNKNOWN), .val (.ref w_NO), .val (.ref w_UNKNOWN), .val (.int (1 : Int32))] [(.int (1 : Int32))]))
  refine own_go (fun t k => XS.iload X7.here hx rfl (hb hby at_35) rfl k) ?_
  show Go p.tables e below _ (T7.setTop (mkF m 37 #[.val (.int p1), .val (.int p2), .val (.ref w_UNKNOWN), .val (.ref w_NO), .val (.ref w_UNKNOWN), .val (.int (1 : Int32))] [(.int (1 : Int32)), (.int (1 : Int32))]))
  refine own_go (fun t k => XS.icmpNo X7.here hx rfl (hb hby at_37) rfl (XT.ii_ne_f (by decide)) k) ?_
  show Go p.tables e below _ (T7.setTop (mkF m 40 #[.val (.int p1), .val (.int p2), .val (.ref w_UNKNOWN), .val (.ref w_NO), .val (.ref w_UNKNOWN), .val (.int (1 : Int32))] []))
  refine own_go (fun t k => XS.iconst X7.here hx rfl (hb hby at_40) k) ?_
  show Go p.tables e below _ (T7.setTop (mkF m 41 #[.val (.int p1), .val (.int p2), .val (.ref w_UNKNOWN), .val (.ref w_NO), .val (.ref w_UNKNOWN), .val (.int (1 : Int32))] [(.int (1 : Int32))]))
  refine own_go (fun t k => XS.goto X7.here hx rfl (pc0 := 41) (pc' := 45) rfl (hb hby at_41) (by decide) (by decide) k) ?_
  show Go p.tables e below _ (T7.setTop (mkF m 45 #[.val (.int p1), .val (.int p2), .val (.ref w_UNKNOWN), .val (.ref w_NO), .val (.ref w_UNKNOWN), .val (.int (1 : Int32))] [(.int (1 : Int32))]))
  exact own_ret X7 hx hlk Bd.returns rfl (Or.inl ⟨rfl, Or.inr (Or.inl rfl), _, rfl⟩) (hb hby at_45) ⟨rfl, N7, e7⟩ (by decide) (by decide)
theorem ef_rm_law_11 (m : MethodId) (x0 : Int32) (x1 : Int32) : entryFrame m #[(.int x0), (.int x1)] maxLocals = mkF m 0 #[.val (.int x0), .val (.int x1), .unset, .unset, .unset, .unset] [] := by first | (simp [entryFrame, mkF, argsToLocals, Value.category, maxLocals]; done) | rfl
set_option maxRecDepth 65536 in
set_option maxHeartbeats 40000000 in
theorem rm_law_11 (l : Launch) (Z : State) (a0 : Array Value) (hw : ∀ d ∈ tables_1, d.before a0 Z = true) (ws : List Jvm.Cond) (p1 p2 : Int32) (w_NO w_YES w_UNKNOWN : Addr) (h0 : Heap) (n0 : Nat) (SS : own_S Z h0 w_NO w_YES w_UNKNOWN) (EE : own_E Z h0 w_NO w_YES w_UNKNOWN) (OO : own_O Z h0 w_NO w_YES w_UNKNOWN) (q1 : (p1 &&& 2147483647) % 3 = 1) (q2 : (p2 &&& 2147483647) % 3 = 1) :
    MetFree l x (head1 (Jvm.Cond.code x code maxLocals ret :: ws) room_1) (fun aa U => aa = #[(.int p1), (.int p2)] ∧ Z.Warmed39 U.vm ∧ U.heap = h0) (fun _ _ _ _ _ => True) (fun _ U o U' => ∃ v L, o = .returned v ∧ PQ (.int 1) h0 n0 v U'.heap L ∧ FrameEnd U o U' L room_1.cells room_1.slots) := by
  refine MetFree.of_bodySF (plainFor_of_name pn_0) hisR ?_
  intro p e s m args below meth c s₁ Bd hml0 hP hK
  obtain ⟨rfl, hZ, hh⟩ := hP
  have hx := Bd.exec
  have hby := Bd.bytes
  have hlk := Bd.notSynchronized
  have hml : c.maxLocals = 6 := hml0
  have hown : s.vm.findClass "com/example/casewright/casewright/types/AnswerOrPinLaw" = some m.cls := findClass_of_methodNamed Bd.named
  have X0 : Stand p l e room_1 s m #[(.int p1), (.int p2)] below meth c s₁ [] 0 0 := Stand.of_body Bd
  have e0 : s₁.heap = h0 := by rw [← hh, Bd.state]; rfl
  have N0 := Fr.nil n0
  have SS' := SS
  obtain ⟨S_NO, S_YES, S_UNKNOWN⟩ := SS'
  obtain ⟨E_NO, E_YES, E_UNKNOWN⟩ := EE
  obtain ⟨F_NO_ordinal, F_YES_ordinal, F_UNKNOWN_ordinal⟩ := OO
  have nUN : w_UNKNOWN ≠ w_NO := (own_ne F_UNKNOWN_ordinal F_NO_ordinal (by decide))
  have nYN : w_YES ≠ w_NO := (own_ne F_YES_ordinal F_NO_ordinal (by decide))
  have nYU : w_YES ≠ w_UNKNOWN := (own_ne F_YES_ordinal F_UNKNOWN_ordinal (by decide))
  show Go p.tables e below (Fin s below (PQ (.int 1) h0 n0) room_1.cells room_1.slots) (s₁.setTop (entryFrame m #[(.int p1), (.int p2)] maxLocals))
  refine own_go (fun t k => castTop (ef_rm_law_11 m p1 p2) k) ?_
  show Go p.tables e below _ (s₁.setTop (mkF m 0 #[.val (.int p1), .val (.int p2), .unset, .unset, .unset, .unset] []))
  refine own_go (fun t k => XS.iloadN X0.here hx rfl (hb hby at_0) rfl k) ?_
  show Go p.tables e below _ (s₁.setTop (mkF m 1 #[.val (.int p1), .val (.int p2), .unset, .unset, .unset, .unset] [(.int p1)]))
  obtain ⟨v1, _, ⟨T1, L1, k1, n1⟩, -, X1, ⟨Lc1, hQ1, l1, y1, z1⟩, st1⟩ := Jvm.LawKit.callS X0 hx (y := (⟨"com/example/casewright/casewright/types/AnswerOrPinLaw", "pick", "(I)Lcom/example/casewright/casewright/types/Answer;"⟩ : MethodName)) hown (mvT hZ (hw _ (List.mem_of_getElem? (i := 0) rfl))) (mvT hZ (hw _ (List.mem_of_getElem? (i := 1) rfl))) (mvT hZ (hw _ (List.mem_of_getElem? (i := 2) rfl))) (mvT hZ (hw _ (List.mem_of_getElem? (i := 3) rfl))) (by decide) (backOf (W := 0) (rm_pick l Z a0 hw [] p1 w_NO w_YES w_UNKNOWN h0 n0 SS) hZ (hw _ (List.mem_of_getElem? (i := 3) rfl)) (hw _ (List.mem_of_getElem? (i := 2) rfl)) (by decide) (by decide)) (g := (mkF m 1 #[.val (.int p1), .val (.int p2), .unset, .unset, .unset, .unset] [(.int p1)])) rfl (by rw [hml]; rfl) (argsL := [(.int p1)]) (rest := []) (lenOf pd_0 rfl) rfl (by show 2 * 0 + _ ≤ _; exact Nat.le_of_eq rfl) (hb hby at_1) (fun _ _ => ⟨rfl, e0, (by decide : 0 + 0 ≤ _), (by decide : 0 + 0 ≤ _)⟩)
  dsimp only [Pt.U, Pt.locs, Pt.cells, Pt.slots] at X1 l1 y1 z1 st1 hQ1
  subst l1 y1 z1
  obtain ⟨hv1, N1q, e1⟩ := hQ1
  rw [show ((.ref (own_pick w_NO w_UNKNOWN w_YES p1)) : Value) = (.ref w_UNKNOWN) from by rw [own_pick, q1]; rfl] at hv1
  subst hv1
  have N1 := Fr.app N0 N1q
  refine own_go (fun t k => st1 t k) ?_
  show Go p.tables e below _ (T1.setTop (mkF m 4 #[.val (.int p1), .val (.int p2), .unset, .unset, .unset, .unset] [(.ref w_UNKNOWN)]))
  refine own_go (fun t k => XS.astoreN X1.here hx rfl (hb hby at_4) rfl rfl (l' := #[.val (.int p1), .val (.int p2), .val (.ref w_UNKNOWN), .unset, .unset, .unset]) rfl k) ?_
  show Go p.tables e below _ (T1.setTop (mkF m 5 #[.val (.int p1), .val (.int p2), .val (.ref w_UNKNOWN), .unset, .unset, .unset] []))
  refine own_go (fun t k => XS.iloadN X1.here hx rfl (hb hby at_5) rfl k) ?_
  show Go p.tables e below _ (T1.setTop (mkF m 6 #[.val (.int p1), .val (.int p2), .val (.ref w_UNKNOWN), .unset, .unset, .unset] [(.int p2)]))
  obtain ⟨v2, _, ⟨T2, L2, k2, n2⟩, -, X2, ⟨Lc2, hQ2, l2, y2, z2⟩, st2⟩ := Jvm.LawKit.callS X1 hx (y := (⟨"com/example/casewright/casewright/types/AnswerOrPinLaw", "pick", "(I)Lcom/example/casewright/casewright/types/Answer;"⟩ : MethodName)) hown (mvT hZ (hw _ (List.mem_of_getElem? (i := 0) rfl))) (mvT hZ (hw _ (List.mem_of_getElem? (i := 1) rfl))) (mvT hZ (hw _ (List.mem_of_getElem? (i := 2) rfl))) (mvT hZ (hw _ (List.mem_of_getElem? (i := 3) rfl))) (by decide) (backOf (W := 0) (rm_pick l Z a0 hw [] p2 w_NO w_YES w_UNKNOWN h0 n0 SS) hZ (hw _ (List.mem_of_getElem? (i := 3) rfl)) (hw _ (List.mem_of_getElem? (i := 2) rfl)) (by decide) (by decide)) (g := (mkF m 6 #[.val (.int p1), .val (.int p2), .val (.ref w_UNKNOWN), .unset, .unset, .unset] [(.int p2)])) rfl (by rw [hml]; rfl) (argsL := [(.int p2)]) (rest := []) (lenOf pd_0 rfl) rfl (by show 2 * 0 + _ ≤ _; exact Nat.le_of_eq rfl) (hb hby at_6) (fun _ _ => ⟨rfl, e1, (by decide : 0 + 0 ≤ _), (by decide : 0 + 0 ≤ _)⟩)
  dsimp only [Pt.U, Pt.locs, Pt.cells, Pt.slots] at X2 l2 y2 z2 st2 hQ2
  subst l2 y2 z2
  obtain ⟨hv2, N2q, e2⟩ := hQ2
  rw [show ((.ref (own_pick w_NO w_UNKNOWN w_YES p2)) : Value) = (.ref w_UNKNOWN) from by rw [own_pick, q2]; rfl] at hv2
  subst hv2
  have N2 := Fr.app N1 N2q
  refine own_go (fun t k => st2 t k) ?_
  show Go p.tables e below _ (T2.setTop (mkF m 9 #[.val (.int p1), .val (.int p2), .val (.ref w_UNKNOWN), .unset, .unset, .unset] [(.ref w_UNKNOWN)]))
  refine own_go (fun t k => XS.astoreN X2.here hx rfl (hb hby at_9) rfl rfl (l' := #[.val (.int p1), .val (.int p2), .val (.ref w_UNKNOWN), .val (.ref w_UNKNOWN), .unset, .unset]) rfl k) ?_
  show Go p.tables e below _ (T2.setTop (mkF m 10 #[.val (.int p1), .val (.int p2), .val (.ref w_UNKNOWN), .val (.ref w_UNKNOWN), .unset, .unset] []))
  refine own_go (fun t k => XS.aloadN X2.here hx rfl (hb hby at_10) rfl rfl k) ?_
  show Go p.tables e below _ (T2.setTop (mkF m 11 #[.val (.int p1), .val (.int p2), .val (.ref w_UNKNOWN), .val (.ref w_UNKNOWN), .unset, .unset] [(.ref w_UNKNOWN)]))
  refine own_go (fun t k => XS.aloadN X2.here hx rfl (hb hby at_11) rfl rfl k) ?_
  show Go p.tables e below _ (T2.setTop (mkF m 12 #[.val (.int p1), .val (.int p2), .val (.ref w_UNKNOWN), .val (.ref w_UNKNOWN), .unset, .unset] [(.ref w_UNKNOWN), (.ref w_UNKNOWN)]))
  obtain ⟨cq3, kq3, q3a, q3b, q3c⟩ := isOf hZ e2 E_UNKNOWN
  obtain ⟨v3, _, ⟨T3, L3, k3, n3⟩, -, X3, ⟨Lc3, hQ3, l3, y3, z3⟩, st3⟩ := X2.virtualBack hx (y := (⟨"com/example/casewright/casewright/types/Answer", "or", "(Lcom/example/casewright/casewright/types/Answer;)Lcom/example/casewright/casewright/types/Answer;"⟩ : MethodName)) (z := (⟨"com/example/casewright/casewright/types/Answer", "or", "(Lcom/example/casewright/casewright/types/Answer;)Lcom/example/casewright/casewright/types/Answer;"⟩ : MethodName)) hown (mvT hZ (hw _ (List.mem_of_getElem? (i := 8) rfl))) (mvT hZ (hw _ (List.mem_of_getElem? (i := 9) rfl))) (notFace_of_selects (args := #[]) (mvT hZ (hw _ (List.mem_of_getElem? (i := 11) rfl)))) (mvT hZ (hw _ (List.mem_of_getElem? (i := 11) rfl))) (mvT hZ (hw _ (List.mem_of_getElem? (i := 10) rfl))) (by decide) (backOf (W := 0) (rm_or l Z a0 hw [] w_UNKNOWN w_UNKNOWN w_NO w_YES w_UNKNOWN h0 n0 SS) hZ (hw _ (List.mem_of_getElem? (i := 12) rfl)) (hw _ (List.mem_of_getElem? (i := 6) rfl)) (by decide) (by decide)) q3a q3c (g := (mkF m 12 #[.val (.int p1), .val (.int p2), .val (.ref w_UNKNOWN), .val (.ref w_UNKNOWN), .unset, .unset] [(.ref w_UNKNOWN), (.ref w_UNKNOWN)])) rfl (by rw [hml]; rfl) (Steps.refl _) (argsL := [(.ref w_UNKNOWN)]) (rest := []) (lenOf pd_1 rfl) rfl (by show 2 * 0 + _ ≤ _; exact Nat.le_of_eq rfl) (hb hby at_12) (fun _ _ => ⟨rfl, e2, (by decide : 0 + 0 ≤ _), (by decide : 0 + 0 ≤ _)⟩)
  dsimp only [Pt.U, Pt.locs, Pt.cells, Pt.slots] at X3 l3 y3 z3 st3 hQ3
  subst l3 y3 z3
  obtain ⟨hv3, N3q, e3⟩ := hQ3
  rw [show ((.ref (own_or w_NO w_UNKNOWN w_YES w_UNKNOWN w_UNKNOWN)) : Value) = (.ref w_UNKNOWN) from by simp [own_or, nUN, nYN, nYU, nUN.symm, nYN.symm, nYU.symm]] at hv3
  subst hv3
  have N3 := Fr.app N2 N3q
  refine own_go (fun t k => st3.trans k) ?_
  show Go p.tables e below _ (T3.setTop (mkF m 15 #[.val (.int p1), .val (.int p2), .val (.ref w_UNKNOWN), .val (.ref w_UNKNOWN), .unset, .unset] [(.ref w_UNKNOWN)]))
  refine own_go (fun t k => XS.astore X3.here hx rfl (hb hby at_15) rfl rfl (l' := #[.val (.int p1), .val (.int p2), .val (.ref w_UNKNOWN), .val (.ref w_UNKNOWN), .val (.ref w_UNKNOWN), .unset]) rfl k) ?_
  show Go p.tables e below _ (T3.setTop (mkF m 17 #[.val (.int p1), .val (.int p2), .val (.ref w_UNKNOWN), .val (.ref w_UNKNOWN), .val (.ref w_UNKNOWN), .unset] []))
  refine own_go (fun t k => XS.aloadN X3.here hx rfl (hb hby at_17) rfl rfl k) ?_
  show Go p.tables e below _ (T3.setTop (mkF m 18 #[.val (.int p1), .val (.int p2), .val (.ref w_UNKNOWN), .val (.ref w_UNKNOWN), .val (.ref w_UNKNOWN), .unset] [(.ref w_UNKNOWN)]))
  obtain ⟨v4, _, ⟨T4, L4, k4, n4⟩, -, X4, ⟨Lc4, hQ4, l4, y4, z4⟩, st4⟩ := Jvm.LawKit.callS X3 hx (y := (⟨"com/example/casewright/casewright/types/AnswerOrPinLaw", "rank", "(Lcom/example/casewright/casewright/types/Answer;)I"⟩ : MethodName)) hown (mvT hZ (hw _ (List.mem_of_getElem? (i := 18) rfl))) (mvT hZ (hw _ (List.mem_of_getElem? (i := 19) rfl))) (mvT hZ (hw _ (List.mem_of_getElem? (i := 2) rfl))) (mvT hZ (hw _ (List.mem_of_getElem? (i := 20) rfl))) (by decide) (backOf (W := 0) (rm_rank l Z a0 hw [] w_UNKNOWN w_NO w_YES w_UNKNOWN h0 n0 SS) hZ (hw _ (List.mem_of_getElem? (i := 20) rfl)) (hw _ (List.mem_of_getElem? (i := 2) rfl)) (by decide) (by decide)) (g := (mkF m 18 #[.val (.int p1), .val (.int p2), .val (.ref w_UNKNOWN), .val (.ref w_UNKNOWN), .val (.ref w_UNKNOWN), .unset] [(.ref w_UNKNOWN)])) rfl (by rw [hml]; rfl) (argsL := [(.ref w_UNKNOWN)]) (rest := []) (lenOf pd_2 rfl) rfl (by show 2 * 0 + _ ≤ _; exact Nat.le_of_eq rfl) (hb hby at_18) (fun _ _ => ⟨rfl, e3, (by decide : 0 + 0 ≤ _), (by decide : 0 + 0 ≤ _)⟩)
  dsimp only [Pt.U, Pt.locs, Pt.cells, Pt.slots] at X4 l4 y4 z4 st4 hQ4
  subst l4 y4 z4
  obtain ⟨hv4, N4q, e4⟩ := hQ4
  rw [show ((.int (own_rank w_NO w_UNKNOWN w_YES w_UNKNOWN)) : Value) = (.int (1 : Int32)) from by simp [own_rank, nUN, nYN, nYU]] at hv4
  subst hv4
  have N4 := Fr.app N3 N4q
  refine own_go (fun t k => st4 t k) ?_
  show Go p.tables e below _ (T4.setTop (mkF m 21 #[.val (.int p1), .val (.int p2), .val (.ref w_UNKNOWN), .val (.ref w_UNKNOWN), .val (.ref w_UNKNOWN), .unset] [(.int (1 : Int32))]))
  refine own_go (fun t k => XS.aloadN X4.here hx rfl (hb hby at_21) rfl rfl k) ?_
  show Go p.tables e below _ (T4.setTop (mkF m 22 #[.val (.int p1), .val (.int p2), .val (.ref w_UNKNOWN), .val (.ref w_UNKNOWN), .val (.ref w_UNKNOWN), .unset] [(.ref w_UNKNOWN), (.int (1 : Int32))]))
  obtain ⟨v5, _, ⟨T5, L5, k5, n5⟩, -, X5, ⟨Lc5, hQ5, l5, y5, z5⟩, st5⟩ := Jvm.LawKit.callS X4 hx (y := (⟨"com/example/casewright/casewright/types/AnswerOrPinLaw", "rank", "(Lcom/example/casewright/casewright/types/Answer;)I"⟩ : MethodName)) hown (mvT hZ (hw _ (List.mem_of_getElem? (i := 18) rfl))) (mvT hZ (hw _ (List.mem_of_getElem? (i := 19) rfl))) (mvT hZ (hw _ (List.mem_of_getElem? (i := 2) rfl))) (mvT hZ (hw _ (List.mem_of_getElem? (i := 20) rfl))) (by decide) (backOf (W := 1) (rm_rank l Z a0 hw [] w_UNKNOWN w_NO w_YES w_UNKNOWN h0 n0 SS) hZ (hw _ (List.mem_of_getElem? (i := 20) rfl)) (hw _ (List.mem_of_getElem? (i := 2) rfl)) (by decide) (by decide)) (g := (mkF m 22 #[.val (.int p1), .val (.int p2), .val (.ref w_UNKNOWN), .val (.ref w_UNKNOWN), .val (.ref w_UNKNOWN), .unset] [(.ref w_UNKNOWN), (.int (1 : Int32))])) rfl (by rw [hml]; rfl) (argsL := [(.ref w_UNKNOWN)]) (rest := [(.int (1 : Int32))]) (lenOf pd_2 rfl) rfl (by show 2 * 0 + _ ≤ _; exact Nat.le_of_eq rfl) (hb hby at_22) (fun _ _ => ⟨rfl, e4, (by decide : 0 + 0 ≤ _), (by decide : 0 + 0 ≤ _)⟩)
  dsimp only [Pt.U, Pt.locs, Pt.cells, Pt.slots] at X5 l5 y5 z5 st5 hQ5
  subst l5 y5 z5
  obtain ⟨hv5, N5q, e5⟩ := hQ5
  rw [show ((.int (own_rank w_NO w_UNKNOWN w_YES w_UNKNOWN)) : Value) = (.int (1 : Int32)) from by simp [own_rank, nUN, nYN, nYU]] at hv5
  subst hv5
  have N5 := Fr.app N4 N5q
  refine own_go (fun t k => st5 t k) ?_
  show Go p.tables e below _ (T5.setTop (mkF m 25 #[.val (.int p1), .val (.int p2), .val (.ref w_UNKNOWN), .val (.ref w_UNKNOWN), .val (.ref w_UNKNOWN), .unset] [(.int (1 : Int32)), (.int (1 : Int32))]))
  obtain ⟨v6, _, ⟨T6, L6, k6, n6⟩, -, X6, ⟨Lc6, hQ6, l6, y6, z6⟩, st6⟩ := Jvm.LawKit.callS X5 hx (y := (⟨"java/lang/Math", "max", "(II)I"⟩ : MethodName)) hown (mvT hZ (hw _ (List.mem_of_getElem? (i := 21) rfl))) (mvT hZ (hw _ (List.mem_of_getElem? (i := 22) rfl))) (mvT hZ (hw _ (List.mem_of_getElem? (i := 23) rfl))) (mvT hZ (hw _ (List.mem_of_getElem? (i := 24) rfl))) (by decide) (backOf (W := 0) (rm_max l Z a0 hw [] (1 : Int32) (1 : Int32) h0 n0) hZ (hw _ (List.mem_of_getElem? (i := 24) rfl)) (hw _ (List.mem_of_getElem? (i := 23) rfl)) (by decide) (by decide)) (g := (mkF m 25 #[.val (.int p1), .val (.int p2), .val (.ref w_UNKNOWN), .val (.ref w_UNKNOWN), .val (.ref w_UNKNOWN), .unset] [(.int (1 : Int32)), (.int (1 : Int32))])) rfl (by rw [hml]; rfl) (argsL := [(.int (1 : Int32)), (.int (1 : Int32))]) (rest := []) (lenOf pd_3 rfl) rfl (by show 2 * 0 + _ ≤ _; exact Nat.le_of_eq rfl) (hb hby at_25) (fun _ _ => ⟨rfl, e5, (by decide : 0 + 0 ≤ _), (by decide : 0 + 0 ≤ _)⟩)
  dsimp only [Pt.U, Pt.locs, Pt.cells, Pt.slots] at X6 l6 y6 z6 st6 hQ6
  subst l6 y6 z6
  obtain ⟨hv6, N6q, e6⟩ := hQ6
  rw [show ((.int (own_max (1 : Int32) (1 : Int32))) : Value) = (.int (1 : Int32)) from rfl] at hv6
  subst hv6
  have N6 := Fr.app N5 N6q
  refine own_go (fun t k => st6 t k) ?_
  show Go p.tables e below _ (T6.setTop (mkF m 28 #[.val (.int p1), .val (.int p2), .val (.ref w_UNKNOWN), .val (.ref w_UNKNOWN), .val (.ref w_UNKNOWN), .unset] [(.int (1 : Int32))]))
  refine own_go (fun t k => XS.istore X6.here hx rfl (hb hby at_28) rfl (l' := #[.val (.int p1), .val (.int p2), .val (.ref w_UNKNOWN), .val (.ref w_UNKNOWN), .val (.ref w_UNKNOWN), .val (.int (1 : Int32))]) rfl k) ?_
  show Go p.tables e below _ (T6.setTop (mkF m 30 #[.val (.int p1), .val (.int p2), .val (.ref w_UNKNOWN), .val (.ref w_UNKNOWN), .val (.ref w_UNKNOWN), .val (.int (1 : Int32))] []))
  refine own_go (fun t k => XS.aload X6.here hx rfl (hb hby at_30) rfl rfl k) ?_
  show Go p.tables e below _ (T6.setTop (mkF m 32 #[.val (.int p1), .val (.int p2), .val (.ref w_UNKNOWN), .val (.ref w_UNKNOWN), .val (.ref w_UNKNOWN), .val (.int (1 : Int32))] [(.ref w_UNKNOWN)]))
  obtain ⟨v7, _, ⟨T7, L7, k7, n7⟩, -, X7, ⟨Lc7, hQ7, l7, y7, z7⟩, st7⟩ := Jvm.LawKit.callS X6 hx (y := (⟨"com/example/casewright/casewright/types/AnswerOrPinLaw", "rank", "(Lcom/example/casewright/casewright/types/Answer;)I"⟩ : MethodName)) hown (mvT hZ (hw _ (List.mem_of_getElem? (i := 18) rfl))) (mvT hZ (hw _ (List.mem_of_getElem? (i := 19) rfl))) (mvT hZ (hw _ (List.mem_of_getElem? (i := 2) rfl))) (mvT hZ (hw _ (List.mem_of_getElem? (i := 20) rfl))) (by decide) (backOf (W := 0) (rm_rank l Z a0 hw [] w_UNKNOWN w_NO w_YES w_UNKNOWN h0 n0 SS) hZ (hw _ (List.mem_of_getElem? (i := 20) rfl)) (hw _ (List.mem_of_getElem? (i := 2) rfl)) (by decide) (by decide)) (g := (mkF m 32 #[.val (.int p1), .val (.int p2), .val (.ref w_UNKNOWN), .val (.ref w_UNKNOWN), .val (.ref w_UNKNOWN), .val (.int (1 : Int32))] [(.ref w_UNKNOWN)])) rfl (by rw [hml]; rfl) (argsL := [(.ref w_UNKNOWN)]) (rest := []) (lenOf pd_2 rfl) rfl (by show 2 * 0 + _ ≤ _; exact Nat.le_of_eq rfl) (hb hby at_32) (fun _ _ => ⟨rfl, e6, (by decide : 0 + 0 ≤ _), (by decide : 0 + 0 ≤ _)⟩)
  dsimp only [Pt.U, Pt.locs, Pt.cells, Pt.slots] at X7 l7 y7 z7 st7 hQ7
  subst l7 y7 z7
  obtain ⟨hv7, N7q, e7⟩ := hQ7
  rw [show ((.int (own_rank w_NO w_UNKNOWN w_YES w_UNKNOWN)) : Value) = (.int (1 : Int32)) from by simp [own_rank, nUN, nYN, nYU]] at hv7
  subst hv7
  have N7 := Fr.app N6 N7q
  refine own_go (fun t k => st7 t k) ?_
  show Go p.tables e below _ (T7.setTop (mkF m 35 #[.val (.int p1), .val (.int p2), .val (.ref w_UNKNOWN), .val (.ref w_UNKNOWN), .val (.ref w_UNKNOWN), .val (.int (1 : Int32))] [(.int (1 : Int32))]))
  refine own_go (fun t k => XS.iload X7.here hx rfl (hb hby at_35) rfl k) ?_
  show Go p.tables e below _ (T7.setTop (mkF m 37 #[.val (.int p1), .val (.int p2), .val (.ref w_UNKNOWN), .val (.ref w_UNKNOWN), .val (.ref w_UNKNOWN), .val (.int (1 : Int32))] [(.int (1 : Int32)), (.int (1 : Int32))]))
  refine own_go (fun t k => XS.icmpNo X7.here hx rfl (hb hby at_37) rfl (XT.ii_ne_f (by decide)) k) ?_
  show Go p.tables e below _ (T7.setTop (mkF m 40 #[.val (.int p1), .val (.int p2), .val (.ref w_UNKNOWN), .val (.ref w_UNKNOWN), .val (.ref w_UNKNOWN), .val (.int (1 : Int32))] []))
  refine own_go (fun t k => XS.iconst X7.here hx rfl (hb hby at_40) k) ?_
  show Go p.tables e below _ (T7.setTop (mkF m 41 #[.val (.int p1), .val (.int p2), .val (.ref w_UNKNOWN), .val (.ref w_UNKNOWN), .val (.ref w_UNKNOWN), .val (.int (1 : Int32))] [(.int (1 : Int32))]))
  refine own_go (fun t k => XS.goto X7.here hx rfl (pc0 := 41) (pc' := 45) rfl (hb hby at_41) (by decide) (by decide) k) ?_
  show Go p.tables e below _ (T7.setTop (mkF m 45 #[.val (.int p1), .val (.int p2), .val (.ref w_UNKNOWN), .val (.ref w_UNKNOWN), .val (.ref w_UNKNOWN), .val (.int (1 : Int32))] [(.int (1 : Int32))]))
  exact own_ret X7 hx hlk Bd.returns rfl (Or.inl ⟨rfl, Or.inr (Or.inl rfl), _, rfl⟩) (hb hby at_45) ⟨rfl, N7, e7⟩ (by decide) (by decide)
theorem ef_rm_law_12 (m : MethodId) (x0 : Int32) (x1 : Int32) : entryFrame m #[(.int x0), (.int x1)] maxLocals = mkF m 0 #[.val (.int x0), .val (.int x1), .unset, .unset, .unset, .unset] [] := by first | (simp [entryFrame, mkF, argsToLocals, Value.category, maxLocals]; done) | rfl
set_option maxRecDepth 65536 in
set_option maxHeartbeats 40000000 in
theorem rm_law_12 (l : Launch) (Z : State) (a0 : Array Value) (hw : ∀ d ∈ tables_1, d.before a0 Z = true) (ws : List Jvm.Cond) (p1 p2 : Int32) (w_NO w_YES w_UNKNOWN : Addr) (h0 : Heap) (n0 : Nat) (SS : own_S Z h0 w_NO w_YES w_UNKNOWN) (EE : own_E Z h0 w_NO w_YES w_UNKNOWN) (OO : own_O Z h0 w_NO w_YES w_UNKNOWN) (q1 : (p1 &&& 2147483647) % 3 = 1) (q2 : (p2 &&& 2147483647) % 3 = 2) :
    MetFree l x (head1 (Jvm.Cond.code x code maxLocals ret :: ws) room_1) (fun aa U => aa = #[(.int p1), (.int p2)] ∧ Z.Warmed39 U.vm ∧ U.heap = h0) (fun _ _ _ _ _ => True) (fun _ U o U' => ∃ v L, o = .returned v ∧ PQ (.int 1) h0 n0 v U'.heap L ∧ FrameEnd U o U' L room_1.cells room_1.slots) := by
  refine MetFree.of_bodySF (plainFor_of_name pn_0) hisR ?_
  intro p e s m args below meth c s₁ Bd hml0 hP hK
  obtain ⟨rfl, hZ, hh⟩ := hP
  have hx := Bd.exec
  have hby := Bd.bytes
  have hlk := Bd.notSynchronized
  have hml : c.maxLocals = 6 := hml0
  have hown : s.vm.findClass "com/example/casewright/casewright/types/AnswerOrPinLaw" = some m.cls := findClass_of_methodNamed Bd.named
  have X0 : Stand p l e room_1 s m #[(.int p1), (.int p2)] below meth c s₁ [] 0 0 := Stand.of_body Bd
  have e0 : s₁.heap = h0 := by rw [← hh, Bd.state]; rfl
  have N0 := Fr.nil n0
  have SS' := SS
  obtain ⟨S_NO, S_YES, S_UNKNOWN⟩ := SS'
  obtain ⟨E_NO, E_YES, E_UNKNOWN⟩ := EE
  obtain ⟨F_NO_ordinal, F_YES_ordinal, F_UNKNOWN_ordinal⟩ := OO
  have nUN : w_UNKNOWN ≠ w_NO := (own_ne F_UNKNOWN_ordinal F_NO_ordinal (by decide))
  have nYN : w_YES ≠ w_NO := (own_ne F_YES_ordinal F_NO_ordinal (by decide))
  have nYU : w_YES ≠ w_UNKNOWN := (own_ne F_YES_ordinal F_UNKNOWN_ordinal (by decide))
  show Go p.tables e below (Fin s below (PQ (.int 1) h0 n0) room_1.cells room_1.slots) (s₁.setTop (entryFrame m #[(.int p1), (.int p2)] maxLocals))
  refine own_go (fun t k => castTop (ef_rm_law_12 m p1 p2) k) ?_
  show Go p.tables e below _ (s₁.setTop (mkF m 0 #[.val (.int p1), .val (.int p2), .unset, .unset, .unset, .unset] []))
  refine own_go (fun t k => XS.iloadN X0.here hx rfl (hb hby at_0) rfl k) ?_
  show Go p.tables e below _ (s₁.setTop (mkF m 1 #[.val (.int p1), .val (.int p2), .unset, .unset, .unset, .unset] [(.int p1)]))
  obtain ⟨v1, _, ⟨T1, L1, k1, n1⟩, -, X1, ⟨Lc1, hQ1, l1, y1, z1⟩, st1⟩ := Jvm.LawKit.callS X0 hx (y := (⟨"com/example/casewright/casewright/types/AnswerOrPinLaw", "pick", "(I)Lcom/example/casewright/casewright/types/Answer;"⟩ : MethodName)) hown (mvT hZ (hw _ (List.mem_of_getElem? (i := 0) rfl))) (mvT hZ (hw _ (List.mem_of_getElem? (i := 1) rfl))) (mvT hZ (hw _ (List.mem_of_getElem? (i := 2) rfl))) (mvT hZ (hw _ (List.mem_of_getElem? (i := 3) rfl))) (by decide) (backOf (W := 0) (rm_pick l Z a0 hw [] p1 w_NO w_YES w_UNKNOWN h0 n0 SS) hZ (hw _ (List.mem_of_getElem? (i := 3) rfl)) (hw _ (List.mem_of_getElem? (i := 2) rfl)) (by decide) (by decide)) (g := (mkF m 1 #[.val (.int p1), .val (.int p2), .unset, .unset, .unset, .unset] [(.int p1)])) rfl (by rw [hml]; rfl) (argsL := [(.int p1)]) (rest := []) (lenOf pd_0 rfl) rfl (by show 2 * 0 + _ ≤ _; exact Nat.le_of_eq rfl) (hb hby at_1) (fun _ _ => ⟨rfl, e0, (by decide : 0 + 0 ≤ _), (by decide : 0 + 0 ≤ _)⟩)
  dsimp only [Pt.U, Pt.locs, Pt.cells, Pt.slots] at X1 l1 y1 z1 st1 hQ1
  subst l1 y1 z1
  obtain ⟨hv1, N1q, e1⟩ := hQ1
  rw [show ((.ref (own_pick w_NO w_UNKNOWN w_YES p1)) : Value) = (.ref w_UNKNOWN) from by rw [own_pick, q1]; rfl] at hv1
  subst hv1
  have N1 := Fr.app N0 N1q
  refine own_go (fun t k => st1 t k) ?_
  show Go p.tables e below _ (T1.setTop (mkF m 4 #[.val (.int p1), .val (.int p2), .unset, .unset, .unset, .unset] [(.ref w_UNKNOWN)]))
  refine own_go (fun t k => XS.astoreN X1.here hx rfl (hb hby at_4) rfl rfl (l' := #[.val (.int p1), .val (.int p2), .val (.ref w_UNKNOWN), .unset, .unset, .unset]) rfl k) ?_
  show Go p.tables e below _ (T1.setTop (mkF m 5 #[.val (.int p1), .val (.int p2), .val (.ref w_UNKNOWN), .unset, .unset, .unset] []))
  refine own_go (fun t k => XS.iloadN X1.here hx rfl (hb hby at_5) rfl k) ?_
  show Go p.tables e below _ (T1.setTop (mkF m 6 #[.val (.int p1), .val (.int p2), .val (.ref w_UNKNOWN), .unset, .unset, .unset] [(.int p2)]))
  obtain ⟨v2, _, ⟨T2, L2, k2, n2⟩, -, X2, ⟨Lc2, hQ2, l2, y2, z2⟩, st2⟩ := Jvm.LawKit.callS X1 hx (y := (⟨"com/example/casewright/casewright/types/AnswerOrPinLaw", "pick", "(I)Lcom/example/casewright/casewright/types/Answer;"⟩ : MethodName)) hown (mvT hZ (hw _ (List.mem_of_getElem? (i := 0) rfl))) (mvT hZ (hw _ (List.mem_of_getElem? (i := 1) rfl))) (mvT hZ (hw _ (List.mem_of_getElem? (i := 2) rfl))) (mvT hZ (hw _ (List.mem_of_getElem? (i := 3) rfl))) (by decide) (backOf (W := 0) (rm_pick l Z a0 hw [] p2 w_NO w_YES w_UNKNOWN h0 n0 SS) hZ (hw _ (List.mem_of_getElem? (i := 3) rfl)) (hw _ (List.mem_of_getElem? (i := 2) rfl)) (by decide) (by decide)) (g := (mkF m 6 #[.val (.int p1), .val (.int p2), .val (.ref w_UNKNOWN), .unset, .unset, .unset] [(.int p2)])) rfl (by rw [hml]; rfl) (argsL := [(.int p2)]) (rest := []) (lenOf pd_0 rfl) rfl (by show 2 * 0 + _ ≤ _; exact Nat.le_of_eq rfl) (hb hby at_6) (fun _ _ => ⟨rfl, e1, (by decide : 0 + 0 ≤ _), (by decide : 0 + 0 ≤ _)⟩)
  dsimp only [Pt.U, Pt.locs, Pt.cells, Pt.slots] at X2 l2 y2 z2 st2 hQ2
  subst l2 y2 z2
  obtain ⟨hv2, N2q, e2⟩ := hQ2
  rw [show ((.ref (own_pick w_NO w_UNKNOWN w_YES p2)) : Value) = (.ref w_YES) from by rw [own_pick, q2]; rfl] at hv2
  subst hv2
  have N2 := Fr.app N1 N2q
  refine own_go (fun t k => st2 t k) ?_
  show Go p.tables e below _ (T2.setTop (mkF m 9 #[.val (.int p1), .val (.int p2), .val (.ref w_UNKNOWN), .unset, .unset, .unset] [(.ref w_YES)]))
  refine own_go (fun t k => XS.astoreN X2.here hx rfl (hb hby at_9) rfl rfl (l' := #[.val (.int p1), .val (.int p2), .val (.ref w_UNKNOWN), .val (.ref w_YES), .unset, .unset]) rfl k) ?_
  show Go p.tables e below _ (T2.setTop (mkF m 10 #[.val (.int p1), .val (.int p2), .val (.ref w_UNKNOWN), .val (.ref w_YES), .unset, .unset] []))
  refine own_go (fun t k => XS.aloadN X2.here hx rfl (hb hby at_10) rfl rfl k) ?_
  show Go p.tables e below _ (T2.setTop (mkF m 11 #[.val (.int p1), .val (.int p2), .val (.ref w_UNKNOWN), .val (.ref w_YES), .unset, .unset] [(.ref w_UNKNOWN)]))
  refine own_go (fun t k => XS.aloadN X2.here hx rfl (hb hby at_11) rfl rfl k) ?_
  show Go p.tables e below _ (T2.setTop (mkF m 12 #[.val (.int p1), .val (.int p2), .val (.ref w_UNKNOWN), .val (.ref w_YES), .unset, .unset] [(.ref w_YES), (.ref w_UNKNOWN)]))
  obtain ⟨cq3, kq3, q3a, q3b, q3c⟩ := isOf hZ e2 E_UNKNOWN
  obtain ⟨v3, _, ⟨T3, L3, k3, n3⟩, -, X3, ⟨Lc3, hQ3, l3, y3, z3⟩, st3⟩ := X2.virtualBack hx (y := (⟨"com/example/casewright/casewright/types/Answer", "or", "(Lcom/example/casewright/casewright/types/Answer;)Lcom/example/casewright/casewright/types/Answer;"⟩ : MethodName)) (z := (⟨"com/example/casewright/casewright/types/Answer", "or", "(Lcom/example/casewright/casewright/types/Answer;)Lcom/example/casewright/casewright/types/Answer;"⟩ : MethodName)) hown (mvT hZ (hw _ (List.mem_of_getElem? (i := 8) rfl))) (mvT hZ (hw _ (List.mem_of_getElem? (i := 9) rfl))) (notFace_of_selects (args := #[]) (mvT hZ (hw _ (List.mem_of_getElem? (i := 11) rfl)))) (mvT hZ (hw _ (List.mem_of_getElem? (i := 11) rfl))) (mvT hZ (hw _ (List.mem_of_getElem? (i := 10) rfl))) (by decide) (backOf (W := 0) (rm_or l Z a0 hw [] w_UNKNOWN w_YES w_NO w_YES w_UNKNOWN h0 n0 SS) hZ (hw _ (List.mem_of_getElem? (i := 12) rfl)) (hw _ (List.mem_of_getElem? (i := 6) rfl)) (by decide) (by decide)) q3a q3c (g := (mkF m 12 #[.val (.int p1), .val (.int p2), .val (.ref w_UNKNOWN), .val (.ref w_YES), .unset, .unset] [(.ref w_YES), (.ref w_UNKNOWN)])) rfl (by rw [hml]; rfl) (Steps.refl _) (argsL := [(.ref w_YES)]) (rest := []) (lenOf pd_1 rfl) rfl (by show 2 * 0 + _ ≤ _; exact Nat.le_of_eq rfl) (hb hby at_12) (fun _ _ => ⟨rfl, e2, (by decide : 0 + 0 ≤ _), (by decide : 0 + 0 ≤ _)⟩)
  dsimp only [Pt.U, Pt.locs, Pt.cells, Pt.slots] at X3 l3 y3 z3 st3 hQ3
  subst l3 y3 z3
  obtain ⟨hv3, N3q, e3⟩ := hQ3
  rw [show ((.ref (own_or w_NO w_UNKNOWN w_YES w_UNKNOWN w_YES)) : Value) = (.ref w_YES) from by simp [own_or, nUN, nYN, nYU, nUN.symm, nYN.symm, nYU.symm]] at hv3
  subst hv3
  have N3 := Fr.app N2 N3q
  refine own_go (fun t k => st3.trans k) ?_
  show Go p.tables e below _ (T3.setTop (mkF m 15 #[.val (.int p1), .val (.int p2), .val (.ref w_UNKNOWN), .val (.ref w_YES), .unset, .unset] [(.ref w_YES)]))
  refine own_go (fun t k => XS.astore X3.here hx rfl (hb hby at_15) rfl rfl (l' := #[.val (.int p1), .val (.int p2), .val (.ref w_UNKNOWN), .val (.ref w_YES), .val (.ref w_YES), .unset]) rfl k) ?_
  show Go p.tables e below _ (T3.setTop (mkF m 17 #[.val (.int p1), .val (.int p2), .val (.ref w_UNKNOWN), .val (.ref w_YES), .val (.ref w_YES), .unset] []))
  refine own_go (fun t k => XS.aloadN X3.here hx rfl (hb hby at_17) rfl rfl k) ?_
  show Go p.tables e below _ (T3.setTop (mkF m 18 #[.val (.int p1), .val (.int p2), .val (.ref w_UNKNOWN), .val (.ref w_YES), .val (.ref w_YES), .unset] [(.ref w_UNKNOWN)]))
  obtain ⟨v4, _, ⟨T4, L4, k4, n4⟩, -, X4, ⟨Lc4, hQ4, l4, y4, z4⟩, st4⟩ := Jvm.LawKit.callS X3 hx (y := (⟨"com/example/casewright/casewright/types/AnswerOrPinLaw", "rank", "(Lcom/example/casewright/casewright/types/Answer;)I"⟩ : MethodName)) hown (mvT hZ (hw _ (List.mem_of_getElem? (i := 18) rfl))) (mvT hZ (hw _ (List.mem_of_getElem? (i := 19) rfl))) (mvT hZ (hw _ (List.mem_of_getElem? (i := 2) rfl))) (mvT hZ (hw _ (List.mem_of_getElem? (i := 20) rfl))) (by decide) (backOf (W := 0) (rm_rank l Z a0 hw [] w_UNKNOWN w_NO w_YES w_UNKNOWN h0 n0 SS) hZ (hw _ (List.mem_of_getElem? (i := 20) rfl)) (hw _ (List.mem_of_getElem? (i := 2) rfl)) (by decide) (by decide)) (g := (mkF m 18 #[.val (.int p1), .val (.int p2), .val (.ref w_UNKNOWN), .val (.ref w_YES), .val (.ref w_YES), .unset] [(.ref w_UNKNOWN)])) rfl (by rw [hml]; rfl) (argsL := [(.ref w_UNKNOWN)]) (rest := []) (lenOf pd_2 rfl) rfl (by show 2 * 0 + _ ≤ _; exact Nat.le_of_eq rfl) (hb hby at_18) (fun _ _ => ⟨rfl, e3, (by decide : 0 + 0 ≤ _), (by decide : 0 + 0 ≤ _)⟩)
  dsimp only [Pt.U, Pt.locs, Pt.cells, Pt.slots] at X4 l4 y4 z4 st4 hQ4
  subst l4 y4 z4
  obtain ⟨hv4, N4q, e4⟩ := hQ4
  rw [show ((.int (own_rank w_NO w_UNKNOWN w_YES w_UNKNOWN)) : Value) = (.int (1 : Int32)) from by simp [own_rank, nUN, nYN, nYU]] at hv4
  subst hv4
  have N4 := Fr.app N3 N4q
  refine own_go (fun t k => st4 t k) ?_
  show Go p.tables e below _ (T4.setTop (mkF m 21 #[.val (.int p1), .val (.int p2), .val (.ref w_UNKNOWN), .val (.ref w_YES), .val (.ref w_YES), .unset] [(.int (1 : Int32))]))
  refine own_go (fun t k => XS.aloadN X4.here hx rfl (hb hby at_21) rfl rfl k) ?_
  show Go p.tables e below _ (T4.setTop (mkF m 22 #[.val (.int p1), .val (.int p2), .val (.ref w_UNKNOWN), .val (.ref w_YES), .val (.ref w_YES), .unset] [(.ref w_YES), (.int (1 : Int32))]))
  obtain ⟨v5, _, ⟨T5, L5, k5, n5⟩, -, X5, ⟨Lc5, hQ5, l5, y5, z5⟩, st5⟩ := Jvm.LawKit.callS X4 hx (y := (⟨"com/example/casewright/casewright/types/AnswerOrPinLaw", "rank", "(Lcom/example/casewright/casewright/types/Answer;)I"⟩ : MethodName)) hown (mvT hZ (hw _ (List.mem_of_getElem? (i := 18) rfl))) (mvT hZ (hw _ (List.mem_of_getElem? (i := 19) rfl))) (mvT hZ (hw _ (List.mem_of_getElem? (i := 2) rfl))) (mvT hZ (hw _ (List.mem_of_getElem? (i := 20) rfl))) (by decide) (backOf (W := 1) (rm_rank l Z a0 hw [] w_YES w_NO w_YES w_UNKNOWN h0 n0 SS) hZ (hw _ (List.mem_of_getElem? (i := 20) rfl)) (hw _ (List.mem_of_getElem? (i := 2) rfl)) (by decide) (by decide)) (g := (mkF m 22 #[.val (.int p1), .val (.int p2), .val (.ref w_UNKNOWN), .val (.ref w_YES), .val (.ref w_YES), .unset] [(.ref w_YES), (.int (1 : Int32))])) rfl (by rw [hml]; rfl) (argsL := [(.ref w_YES)]) (rest := [(.int (1 : Int32))]) (lenOf pd_2 rfl) rfl (by show 2 * 0 + _ ≤ _; exact Nat.le_of_eq rfl) (hb hby at_22) (fun _ _ => ⟨rfl, e4, (by decide : 0 + 0 ≤ _), (by decide : 0 + 0 ≤ _)⟩)
  dsimp only [Pt.U, Pt.locs, Pt.cells, Pt.slots] at X5 l5 y5 z5 st5 hQ5
  subst l5 y5 z5
  obtain ⟨hv5, N5q, e5⟩ := hQ5
  rw [show ((.int (own_rank w_NO w_UNKNOWN w_YES w_YES)) : Value) = (.int (2 : Int32)) from by simp [own_rank, nUN, nYN, nYU]] at hv5
  subst hv5
  have N5 := Fr.app N4 N5q
  refine own_go (fun t k => st5 t k) ?_
  show Go p.tables e below _ (T5.setTop (mkF m 25 #[.val (.int p1), .val (.int p2), .val (.ref w_UNKNOWN), .val (.ref w_YES), .val (.ref w_YES), .unset] [(.int (2 : Int32)), (.int (1 : Int32))]))
  obtain ⟨v6, _, ⟨T6, L6, k6, n6⟩, -, X6, ⟨Lc6, hQ6, l6, y6, z6⟩, st6⟩ := Jvm.LawKit.callS X5 hx (y := (⟨"java/lang/Math", "max", "(II)I"⟩ : MethodName)) hown (mvT hZ (hw _ (List.mem_of_getElem? (i := 21) rfl))) (mvT hZ (hw _ (List.mem_of_getElem? (i := 22) rfl))) (mvT hZ (hw _ (List.mem_of_getElem? (i := 23) rfl))) (mvT hZ (hw _ (List.mem_of_getElem? (i := 24) rfl))) (by decide) (backOf (W := 0) (rm_max l Z a0 hw [] (1 : Int32) (2 : Int32) h0 n0) hZ (hw _ (List.mem_of_getElem? (i := 24) rfl)) (hw _ (List.mem_of_getElem? (i := 23) rfl)) (by decide) (by decide)) (g := (mkF m 25 #[.val (.int p1), .val (.int p2), .val (.ref w_UNKNOWN), .val (.ref w_YES), .val (.ref w_YES), .unset] [(.int (2 : Int32)), (.int (1 : Int32))])) rfl (by rw [hml]; rfl) (argsL := [(.int (1 : Int32)), (.int (2 : Int32))]) (rest := []) (lenOf pd_3 rfl) rfl (by show 2 * 0 + _ ≤ _; exact Nat.le_of_eq rfl) (hb hby at_25) (fun _ _ => ⟨rfl, e5, (by decide : 0 + 0 ≤ _), (by decide : 0 + 0 ≤ _)⟩)
  dsimp only [Pt.U, Pt.locs, Pt.cells, Pt.slots] at X6 l6 y6 z6 st6 hQ6
  subst l6 y6 z6
  obtain ⟨hv6, N6q, e6⟩ := hQ6
  rw [show ((.int (own_max (1 : Int32) (2 : Int32))) : Value) = (.int (2 : Int32)) from rfl] at hv6
  subst hv6
  have N6 := Fr.app N5 N6q
  refine own_go (fun t k => st6 t k) ?_
  show Go p.tables e below _ (T6.setTop (mkF m 28 #[.val (.int p1), .val (.int p2), .val (.ref w_UNKNOWN), .val (.ref w_YES), .val (.ref w_YES), .unset] [(.int (2 : Int32))]))
  refine own_go (fun t k => XS.istore X6.here hx rfl (hb hby at_28) rfl (l' := #[.val (.int p1), .val (.int p2), .val (.ref w_UNKNOWN), .val (.ref w_YES), .val (.ref w_YES), .val (.int (2 : Int32))]) rfl k) ?_
  show Go p.tables e below _ (T6.setTop (mkF m 30 #[.val (.int p1), .val (.int p2), .val (.ref w_UNKNOWN), .val (.ref w_YES), .val (.ref w_YES), .val (.int (2 : Int32))] []))
  refine own_go (fun t k => XS.aload X6.here hx rfl (hb hby at_30) rfl rfl k) ?_
  show Go p.tables e below _ (T6.setTop (mkF m 32 #[.val (.int p1), .val (.int p2), .val (.ref w_UNKNOWN), .val (.ref w_YES), .val (.ref w_YES), .val (.int (2 : Int32))] [(.ref w_YES)]))
  obtain ⟨v7, _, ⟨T7, L7, k7, n7⟩, -, X7, ⟨Lc7, hQ7, l7, y7, z7⟩, st7⟩ := Jvm.LawKit.callS X6 hx (y := (⟨"com/example/casewright/casewright/types/AnswerOrPinLaw", "rank", "(Lcom/example/casewright/casewright/types/Answer;)I"⟩ : MethodName)) hown (mvT hZ (hw _ (List.mem_of_getElem? (i := 18) rfl))) (mvT hZ (hw _ (List.mem_of_getElem? (i := 19) rfl))) (mvT hZ (hw _ (List.mem_of_getElem? (i := 2) rfl))) (mvT hZ (hw _ (List.mem_of_getElem? (i := 20) rfl))) (by decide) (backOf (W := 0) (rm_rank l Z a0 hw [] w_YES w_NO w_YES w_UNKNOWN h0 n0 SS) hZ (hw _ (List.mem_of_getElem? (i := 20) rfl)) (hw _ (List.mem_of_getElem? (i := 2) rfl)) (by decide) (by decide)) (g := (mkF m 32 #[.val (.int p1), .val (.int p2), .val (.ref w_UNKNOWN), .val (.ref w_YES), .val (.ref w_YES), .val (.int (2 : Int32))] [(.ref w_YES)])) rfl (by rw [hml]; rfl) (argsL := [(.ref w_YES)]) (rest := []) (lenOf pd_2 rfl) rfl (by show 2 * 0 + _ ≤ _; exact Nat.le_of_eq rfl) (hb hby at_32) (fun _ _ => ⟨rfl, e6, (by decide : 0 + 0 ≤ _), (by decide : 0 + 0 ≤ _)⟩)
  dsimp only [Pt.U, Pt.locs, Pt.cells, Pt.slots] at X7 l7 y7 z7 st7 hQ7
  subst l7 y7 z7
  obtain ⟨hv7, N7q, e7⟩ := hQ7
  rw [show ((.int (own_rank w_NO w_UNKNOWN w_YES w_YES)) : Value) = (.int (2 : Int32)) from by simp [own_rank, nUN, nYN, nYU]] at hv7
  subst hv7
  have N7 := Fr.app N6 N7q
  refine own_go (fun t k => st7 t k) ?_
  show Go p.tables e below _ (T7.setTop (mkF m 35 #[.val (.int p1), .val (.int p2), .val (.ref w_UNKNOWN), .val (.ref w_YES), .val (.ref w_YES), .val (.int (2 : Int32))] [(.int (2 : Int32))]))
  refine own_go (fun t k => XS.iload X7.here hx rfl (hb hby at_35) rfl k) ?_
  show Go p.tables e below _ (T7.setTop (mkF m 37 #[.val (.int p1), .val (.int p2), .val (.ref w_UNKNOWN), .val (.ref w_YES), .val (.ref w_YES), .val (.int (2 : Int32))] [(.int (2 : Int32)), (.int (2 : Int32))]))
  refine own_go (fun t k => XS.icmpNo X7.here hx rfl (hb hby at_37) rfl (XT.ii_ne_f (by decide)) k) ?_
  show Go p.tables e below _ (T7.setTop (mkF m 40 #[.val (.int p1), .val (.int p2), .val (.ref w_UNKNOWN), .val (.ref w_YES), .val (.ref w_YES), .val (.int (2 : Int32))] []))
  refine own_go (fun t k => XS.iconst X7.here hx rfl (hb hby at_40) k) ?_
  show Go p.tables e below _ (T7.setTop (mkF m 41 #[.val (.int p1), .val (.int p2), .val (.ref w_UNKNOWN), .val (.ref w_YES), .val (.ref w_YES), .val (.int (2 : Int32))] [(.int (1 : Int32))]))
  refine own_go (fun t k => XS.goto X7.here hx rfl (pc0 := 41) (pc' := 45) rfl (hb hby at_41) (by decide) (by decide) k) ?_
  show Go p.tables e below _ (T7.setTop (mkF m 45 #[.val (.int p1), .val (.int p2), .val (.ref w_UNKNOWN), .val (.ref w_YES), .val (.ref w_YES), .val (.int (2 : Int32))] [(.int (1 : Int32))]))
  exact own_ret X7 hx hlk Bd.returns rfl (Or.inl ⟨rfl, Or.inr (Or.inl rfl), _, rfl⟩) (hb hby at_45) ⟨rfl, N7, e7⟩ (by decide) (by decide)
theorem ef_rm_law_20 (m : MethodId) (x0 : Int32) (x1 : Int32) : entryFrame m #[(.int x0), (.int x1)] maxLocals = mkF m 0 #[.val (.int x0), .val (.int x1), .unset, .unset, .unset, .unset] [] := by first | (simp [entryFrame, mkF, argsToLocals, Value.category, maxLocals]; done) | rfl
set_option maxRecDepth 65536 in
set_option maxHeartbeats 40000000 in
theorem rm_law_20 (l : Launch) (Z : State) (a0 : Array Value) (hw : ∀ d ∈ tables_1, d.before a0 Z = true) (ws : List Jvm.Cond) (p1 p2 : Int32) (w_NO w_YES w_UNKNOWN : Addr) (h0 : Heap) (n0 : Nat) (SS : own_S Z h0 w_NO w_YES w_UNKNOWN) (EE : own_E Z h0 w_NO w_YES w_UNKNOWN) (OO : own_O Z h0 w_NO w_YES w_UNKNOWN) (q1 : (p1 &&& 2147483647) % 3 = 2) (q2 : (p2 &&& 2147483647) % 3 = 0) :
    MetFree l x (head1 (Jvm.Cond.code x code maxLocals ret :: ws) room_1) (fun aa U => aa = #[(.int p1), (.int p2)] ∧ Z.Warmed39 U.vm ∧ U.heap = h0) (fun _ _ _ _ _ => True) (fun _ U o U' => ∃ v L, o = .returned v ∧ PQ (.int 1) h0 n0 v U'.heap L ∧ FrameEnd U o U' L room_1.cells room_1.slots) := by
  refine MetFree.of_bodySF (plainFor_of_name pn_0) hisR ?_
  intro p e s m args below meth c s₁ Bd hml0 hP hK
  obtain ⟨rfl, hZ, hh⟩ := hP
  have hx := Bd.exec
  have hby := Bd.bytes
  have hlk := Bd.notSynchronized
  have hml : c.maxLocals = 6 := hml0
  have hown : s.vm.findClass "com/example/casewright/casewright/types/AnswerOrPinLaw" = some m.cls := findClass_of_methodNamed Bd.named
  have X0 : Stand p l e room_1 s m #[(.int p1), (.int p2)] below meth c s₁ [] 0 0 := Stand.of_body Bd
  have e0 : s₁.heap = h0 := by rw [← hh, Bd.state]; rfl
  have N0 := Fr.nil n0
  have SS' := SS
  obtain ⟨S_NO, S_YES, S_UNKNOWN⟩ := SS'
  obtain ⟨E_NO, E_YES, E_UNKNOWN⟩ := EE
  obtain ⟨F_NO_ordinal, F_YES_ordinal, F_UNKNOWN_ordinal⟩ := OO
  have nUN : w_UNKNOWN ≠ w_NO := (own_ne F_UNKNOWN_ordinal F_NO_ordinal (by decide))
  have nYN : w_YES ≠ w_NO := (own_ne F_YES_ordinal F_NO_ordinal (by decide))
  have nYU : w_YES ≠ w_UNKNOWN := (own_ne F_YES_ordinal F_UNKNOWN_ordinal (by decide))
  show Go p.tables e below (Fin s below (PQ (.int 1) h0 n0) room_1.cells room_1.slots) (s₁.setTop (entryFrame m #[(.int p1), (.int p2)] maxLocals))
  refine own_go (fun t k => castTop (ef_rm_law_20 m p1 p2) k) ?_
  show Go p.tables e below _ (s₁.setTop (mkF m 0 #[.val (.int p1), .val (.int p2), .unset, .unset, .unset, .unset] []))
  refine own_go (fun t k => XS.iloadN X0.here hx rfl (hb hby at_0) rfl k) ?_
  show Go p.tables e below _ (s₁.setTop (mkF m 1 #[.val (.int p1), .val (.int p2), .unset, .unset, .unset, .unset] [(.int p1)]))
  obtain ⟨v1, _, ⟨T1, L1, k1, n1⟩, -, X1, ⟨Lc1, hQ1, l1, y1, z1⟩, st1⟩ := Jvm.LawKit.callS X0 hx (y := (⟨"com/example/casewright/casewright/types/AnswerOrPinLaw", "pick", "(I)Lcom/example/casewright/casewright/types/Answer;"⟩ : MethodName)) hown (mvT hZ (hw _ (List.mem_of_getElem? (i := 0) rfl))) (mvT hZ (hw _ (List.mem_of_getElem? (i := 1) rfl))) (mvT hZ (hw _ (List.mem_of_getElem? (i := 2) rfl))) (mvT hZ (hw _ (List.mem_of_getElem? (i := 3) rfl))) (by decide) (backOf (W := 0) (rm_pick l Z a0 hw [] p1 w_NO w_YES w_UNKNOWN h0 n0 SS) hZ (hw _ (List.mem_of_getElem? (i := 3) rfl)) (hw _ (List.mem_of_getElem? (i := 2) rfl)) (by decide) (by decide)) (g := (mkF m 1 #[.val (.int p1), .val (.int p2), .unset, .unset, .unset, .unset] [(.int p1)])) rfl (by rw [hml]; rfl) (argsL := [(.int p1)]) (rest := []) (lenOf pd_0 rfl) rfl (by show 2 * 0 + _ ≤ _; exact Nat.le_of_eq rfl) (hb hby at_1) (fun _ _ => ⟨rfl, e0, (by decide : 0 + 0 ≤ _), (by decide : 0 + 0 ≤ _)⟩)
  dsimp only [Pt.U, Pt.locs, Pt.cells, Pt.slots] at X1 l1 y1 z1 st1 hQ1
  subst l1 y1 z1
  obtain ⟨hv1, N1q, e1⟩ := hQ1
  rw [show ((.ref (own_pick w_NO w_UNKNOWN w_YES p1)) : Value) = (.ref w_YES) from by rw [own_pick, q1]; rfl] at hv1
  subst hv1
  have N1 := Fr.app N0 N1q
  refine own_go (fun t k => st1 t k) ?_
  show Go p.tables e below _ (T1.setTop (mkF m 4 #[.val (.int p1), .val (.int p2), .unset, .unset, .unset, .unset] [(.ref w_YES)]))
  refine own_go (fun t k => XS.astoreN X1.here hx rfl (hb hby at_4) rfl rfl (l' := #[.val (.int p1), .val (.int p2), .val (.ref w_YES), .unset, .unset, .unset]) rfl k) ?_
  show Go p.tables e below _ (T1.setTop (mkF m 5 #[.val (.int p1), .val (.int p2), .val (.ref w_YES), .unset, .unset, .unset] []))
  refine own_go (fun t k => XS.iloadN X1.here hx rfl (hb hby at_5) rfl k) ?_
  show Go p.tables e below _ (T1.setTop (mkF m 6 #[.val (.int p1), .val (.int p2), .val (.ref w_YES), .unset, .unset, .unset] [(.int p2)]))
  obtain ⟨v2, _, ⟨T2, L2, k2, n2⟩, -, X2, ⟨Lc2, hQ2, l2, y2, z2⟩, st2⟩ := Jvm.LawKit.callS X1 hx (y := (⟨"com/example/casewright/casewright/types/AnswerOrPinLaw", "pick", "(I)Lcom/example/casewright/casewright/types/Answer;"⟩ : MethodName)) hown (mvT hZ (hw _ (List.mem_of_getElem? (i := 0) rfl))) (mvT hZ (hw _ (List.mem_of_getElem? (i := 1) rfl))) (mvT hZ (hw _ (List.mem_of_getElem? (i := 2) rfl))) (mvT hZ (hw _ (List.mem_of_getElem? (i := 3) rfl))) (by decide) (backOf (W := 0) (rm_pick l Z a0 hw [] p2 w_NO w_YES w_UNKNOWN h0 n0 SS) hZ (hw _ (List.mem_of_getElem? (i := 3) rfl)) (hw _ (List.mem_of_getElem? (i := 2) rfl)) (by decide) (by decide)) (g := (mkF m 6 #[.val (.int p1), .val (.int p2), .val (.ref w_YES), .unset, .unset, .unset] [(.int p2)])) rfl (by rw [hml]; rfl) (argsL := [(.int p2)]) (rest := []) (lenOf pd_0 rfl) rfl (by show 2 * 0 + _ ≤ _; exact Nat.le_of_eq rfl) (hb hby at_6) (fun _ _ => ⟨rfl, e1, (by decide : 0 + 0 ≤ _), (by decide : 0 + 0 ≤ _)⟩)
  dsimp only [Pt.U, Pt.locs, Pt.cells, Pt.slots] at X2 l2 y2 z2 st2 hQ2
  subst l2 y2 z2
  obtain ⟨hv2, N2q, e2⟩ := hQ2
  rw [show ((.ref (own_pick w_NO w_UNKNOWN w_YES p2)) : Value) = (.ref w_NO) from by rw [own_pick, q2]; rfl] at hv2
  subst hv2
  have N2 := Fr.app N1 N2q
  refine own_go (fun t k => st2 t k) ?_
  show Go p.tables e below _ (T2.setTop (mkF m 9 #[.val (.int p1), .val (.int p2), .val (.ref w_YES), .unset, .unset, .unset] [(.ref w_NO)]))
  refine own_go (fun t k => XS.astoreN X2.here hx rfl (hb hby at_9) rfl rfl (l' := #[.val (.int p1), .val (.int p2), .val (.ref w_YES), .val (.ref w_NO), .unset, .unset]) rfl k) ?_
  show Go p.tables e below _ (T2.setTop (mkF m 10 #[.val (.int p1), .val (.int p2), .val (.ref w_YES), .val (.ref w_NO), .unset, .unset] []))
  refine own_go (fun t k => XS.aloadN X2.here hx rfl (hb hby at_10) rfl rfl k) ?_
  show Go p.tables e below _ (T2.setTop (mkF m 11 #[.val (.int p1), .val (.int p2), .val (.ref w_YES), .val (.ref w_NO), .unset, .unset] [(.ref w_YES)]))
  refine own_go (fun t k => XS.aloadN X2.here hx rfl (hb hby at_11) rfl rfl k) ?_
  show Go p.tables e below _ (T2.setTop (mkF m 12 #[.val (.int p1), .val (.int p2), .val (.ref w_YES), .val (.ref w_NO), .unset, .unset] [(.ref w_NO), (.ref w_YES)]))
  obtain ⟨cq3, kq3, q3a, q3b, q3c⟩ := isOf hZ e2 E_YES
  obtain ⟨v3, _, ⟨T3, L3, k3, n3⟩, -, X3, ⟨Lc3, hQ3, l3, y3, z3⟩, st3⟩ := X2.virtualBack hx (y := (⟨"com/example/casewright/casewright/types/Answer", "or", "(Lcom/example/casewright/casewright/types/Answer;)Lcom/example/casewright/casewright/types/Answer;"⟩ : MethodName)) (z := (⟨"com/example/casewright/casewright/types/Answer", "or", "(Lcom/example/casewright/casewright/types/Answer;)Lcom/example/casewright/casewright/types/Answer;"⟩ : MethodName)) hown (mvT hZ (hw _ (List.mem_of_getElem? (i := 8) rfl))) (mvT hZ (hw _ (List.mem_of_getElem? (i := 9) rfl))) (notFace_of_selects (args := #[]) (mvT hZ (hw _ (List.mem_of_getElem? (i := 11) rfl)))) (mvT hZ (hw _ (List.mem_of_getElem? (i := 11) rfl))) (mvT hZ (hw _ (List.mem_of_getElem? (i := 10) rfl))) (by decide) (backOf (W := 0) (rm_or l Z a0 hw [] w_YES w_NO w_NO w_YES w_UNKNOWN h0 n0 SS) hZ (hw _ (List.mem_of_getElem? (i := 12) rfl)) (hw _ (List.mem_of_getElem? (i := 6) rfl)) (by decide) (by decide)) q3a q3c (g := (mkF m 12 #[.val (.int p1), .val (.int p2), .val (.ref w_YES), .val (.ref w_NO), .unset, .unset] [(.ref w_NO), (.ref w_YES)])) rfl (by rw [hml]; rfl) (Steps.refl _) (argsL := [(.ref w_NO)]) (rest := []) (lenOf pd_1 rfl) rfl (by show 2 * 0 + _ ≤ _; exact Nat.le_of_eq rfl) (hb hby at_12) (fun _ _ => ⟨rfl, e2, (by decide : 0 + 0 ≤ _), (by decide : 0 + 0 ≤ _)⟩)
  dsimp only [Pt.U, Pt.locs, Pt.cells, Pt.slots] at X3 l3 y3 z3 st3 hQ3
  subst l3 y3 z3
  obtain ⟨hv3, N3q, e3⟩ := hQ3
  rw [show ((.ref (own_or w_NO w_UNKNOWN w_YES w_YES w_NO)) : Value) = (.ref w_YES) from by simp [own_or, nUN, nYN, nYU, nUN.symm, nYN.symm, nYU.symm]] at hv3
  subst hv3
  have N3 := Fr.app N2 N3q
  refine own_go (fun t k => st3.trans k) ?_
  show Go p.tables e below _ (T3.setTop (mkF m 15 #[.val (.int p1), .val (.int p2), .val (.ref w_YES), .val (.ref w_NO), .unset, .unset] [(.ref w_YES)]))
  refine own_go (fun t k => XS.astore X3.here hx rfl (hb hby at_15) rfl rfl (l' := #[.val (.int p1), .val (.int p2), .val (.ref w_YES), .val (.ref w_NO), .val (.ref w_YES), .unset]) rfl k) ?_
  show Go p.tables e below _ (T3.setTop (mkF m 17 #[.val (.int p1), .val (.int p2), .val (.ref w_YES), .val (.ref w_NO), .val (.ref w_YES), .unset] []))
  refine own_go (fun t k => XS.aloadN X3.here hx rfl (hb hby at_17) rfl rfl k) ?_
  show Go p.tables e below _ (T3.setTop (mkF m 18 #[.val (.int p1), .val (.int p2), .val (.ref w_YES), .val (.ref w_NO), .val (.ref w_YES), .unset] [(.ref w_YES)]))
  obtain ⟨v4, _, ⟨T4, L4, k4, n4⟩, -, X4, ⟨Lc4, hQ4, l4, y4, z4⟩, st4⟩ := Jvm.LawKit.callS X3 hx (y := (⟨"com/example/casewright/casewright/types/AnswerOrPinLaw", "rank", "(Lcom/example/casewright/casewright/types/Answer;)I"⟩ : MethodName)) hown (mvT hZ (hw _ (List.mem_of_getElem? (i := 18) rfl))) (mvT hZ (hw _ (List.mem_of_getElem? (i := 19) rfl))) (mvT hZ (hw _ (List.mem_of_getElem? (i := 2) rfl))) (mvT hZ (hw _ (List.mem_of_getElem? (i := 20) rfl))) (by decide) (backOf (W := 0) (rm_rank l Z a0 hw [] w_YES w_NO w_YES w_UNKNOWN h0 n0 SS) hZ (hw _ (List.mem_of_getElem? (i := 20) rfl)) (hw _ (List.mem_of_getElem? (i := 2) rfl)) (by decide) (by decide)) (g := (mkF m 18 #[.val (.int p1), .val (.int p2), .val (.ref w_YES), .val (.ref w_NO), .val (.ref w_YES), .unset] [(.ref w_YES)])) rfl (by rw [hml]; rfl) (argsL := [(.ref w_YES)]) (rest := []) (lenOf pd_2 rfl) rfl (by show 2 * 0 + _ ≤ _; exact Nat.le_of_eq rfl) (hb hby at_18) (fun _ _ => ⟨rfl, e3, (by decide : 0 + 0 ≤ _), (by decide : 0 + 0 ≤ _)⟩)
  dsimp only [Pt.U, Pt.locs, Pt.cells, Pt.slots] at X4 l4 y4 z4 st4 hQ4
  subst l4 y4 z4
  obtain ⟨hv4, N4q, e4⟩ := hQ4
  rw [show ((.int (own_rank w_NO w_UNKNOWN w_YES w_YES)) : Value) = (.int (2 : Int32)) from by simp [own_rank, nUN, nYN, nYU]] at hv4
  subst hv4
  have N4 := Fr.app N3 N4q
  refine own_go (fun t k => st4 t k) ?_
  show Go p.tables e below _ (T4.setTop (mkF m 21 #[.val (.int p1), .val (.int p2), .val (.ref w_YES), .val (.ref w_NO), .val (.ref w_YES), .unset] [(.int (2 : Int32))]))
  refine own_go (fun t k => XS.aloadN X4.here hx rfl (hb hby at_21) rfl rfl k) ?_
  show Go p.tables e below _ (T4.setTop (mkF m 22 #[.val (.int p1), .val (.int p2), .val (.ref w_YES), .val (.ref w_NO), .val (.ref w_YES), .unset] [(.ref w_NO), (.int (2 : Int32))]))
  obtain ⟨v5, _, ⟨T5, L5, k5, n5⟩, -, X5, ⟨Lc5, hQ5, l5, y5, z5⟩, st5⟩ := Jvm.LawKit.callS X4 hx (y := (⟨"com/example/casewright/casewright/types/AnswerOrPinLaw", "rank", "(Lcom/example/casewright/casewright/types/Answer;)I"⟩ : MethodName)) hown (mvT hZ (hw _ (List.mem_of_getElem? (i := 18) rfl))) (mvT hZ (hw _ (List.mem_of_getElem? (i := 19) rfl))) (mvT hZ (hw _ (List.mem_of_getElem? (i := 2) rfl))) (mvT hZ (hw _ (List.mem_of_getElem? (i := 20) rfl))) (by decide) (backOf (W := 1) (rm_rank l Z a0 hw [] w_NO w_NO w_YES w_UNKNOWN h0 n0 SS) hZ (hw _ (List.mem_of_getElem? (i := 20) rfl)) (hw _ (List.mem_of_getElem? (i := 2) rfl)) (by decide) (by decide)) (g := (mkF m 22 #[.val (.int p1), .val (.int p2), .val (.ref w_YES), .val (.ref w_NO), .val (.ref w_YES), .unset] [(.ref w_NO), (.int (2 : Int32))])) rfl (by rw [hml]; rfl) (argsL := [(.ref w_NO)]) (rest := [(.int (2 : Int32))]) (lenOf pd_2 rfl) rfl (by show 2 * 0 + _ ≤ _; exact Nat.le_of_eq rfl) (hb hby at_22) (fun _ _ => ⟨rfl, e4, (by decide : 0 + 0 ≤ _), (by decide : 0 + 0 ≤ _)⟩)
  dsimp only [Pt.U, Pt.locs, Pt.cells, Pt.slots] at X5 l5 y5 z5 st5 hQ5
  subst l5 y5 z5
  obtain ⟨hv5, N5q, e5⟩ := hQ5
  rw [show ((.int (own_rank w_NO w_UNKNOWN w_YES w_NO)) : Value) = (.int (0 : Int32)) from by simp [own_rank, nUN, nYN, nYU]] at hv5
  subst hv5
  have N5 := Fr.app N4 N5q
  refine own_go (fun t k => st5 t k) ?_
  show Go p.tables e below _ (T5.setTop (mkF m 25 #[.val (.int p1), .val (.int p2), .val (.ref w_YES), .val (.ref w_NO), .val (.ref w_YES), .unset] [(.int (0 : Int32)), (.int (2 : Int32))]))
  obtain ⟨v6, _, ⟨T6, L6, k6, n6⟩, -, X6, ⟨Lc6, hQ6, l6, y6, z6⟩, st6⟩ := Jvm.LawKit.callS X5 hx (y := (⟨"java/lang/Math", "max", "(II)I"⟩ : MethodName)) hown (mvT hZ (hw _ (List.mem_of_getElem? (i := 21) rfl))) (mvT hZ (hw _ (List.mem_of_getElem? (i := 22) rfl))) (mvT hZ (hw _ (List.mem_of_getElem? (i := 23) rfl))) (mvT hZ (hw _ (List.mem_of_getElem? (i := 24) rfl))) (by decide) (backOf (W := 0) (rm_max l Z a0 hw [] (2 : Int32) (0 : Int32) h0 n0) hZ (hw _ (List.mem_of_getElem? (i := 24) rfl)) (hw _ (List.mem_of_getElem? (i := 23) rfl)) (by decide) (by decide)) (g := (mkF m 25 #[.val (.int p1), .val (.int p2), .val (.ref w_YES), .val (.ref w_NO), .val (.ref w_YES), .unset] [(.int (0 : Int32)), (.int (2 : Int32))])) rfl (by rw [hml]; rfl) (argsL := [(.int (2 : Int32)), (.int (0 : Int32))]) (rest := []) (lenOf pd_3 rfl) rfl (by show 2 * 0 + _ ≤ _; exact Nat.le_of_eq rfl) (hb hby at_25) (fun _ _ => ⟨rfl, e5, (by decide : 0 + 0 ≤ _), (by decide : 0 + 0 ≤ _)⟩)
  dsimp only [Pt.U, Pt.locs, Pt.cells, Pt.slots] at X6 l6 y6 z6 st6 hQ6
  subst l6 y6 z6
  obtain ⟨hv6, N6q, e6⟩ := hQ6
  rw [show ((.int (own_max (2 : Int32) (0 : Int32))) : Value) = (.int (2 : Int32)) from rfl] at hv6
  subst hv6
  have N6 := Fr.app N5 N6q
  refine own_go (fun t k => st6 t k) ?_
  show Go p.tables e below _ (T6.setTop (mkF m 28 #[.val (.int p1), .val (.int p2), .val (.ref w_YES), .val (.ref w_NO), .val (.ref w_YES), .unset] [(.int (2 : Int32))]))
  refine own_go (fun t k => XS.istore X6.here hx rfl (hb hby at_28) rfl (l' := #[.val (.int p1), .val (.int p2), .val (.ref w_YES), .val (.ref w_NO), .val (.ref w_YES), .val (.int (2 : Int32))]) rfl k) ?_
  show Go p.tables e below _ (T6.setTop (mkF m 30 #[.val (.int p1), .val (.int p2), .val (.ref w_YES), .val (.ref w_NO), .val (.ref w_YES), .val (.int (2 : Int32))] []))
  refine own_go (fun t k => XS.aload X6.here hx rfl (hb hby at_30) rfl rfl k) ?_
  show Go p.tables e below _ (T6.setTop (mkF m 32 #[.val (.int p1), .val (.int p2), .val (.ref w_YES), .val (.ref w_NO), .val (.ref w_YES), .val (.int (2 : Int32))] [(.ref w_YES)]))
  obtain ⟨v7, _, ⟨T7, L7, k7, n7⟩, -, X7, ⟨Lc7, hQ7, l7, y7, z7⟩, st7⟩ := Jvm.LawKit.callS X6 hx (y := (⟨"com/example/casewright/casewright/types/AnswerOrPinLaw", "rank", "(Lcom/example/casewright/casewright/types/Answer;)I"⟩ : MethodName)) hown (mvT hZ (hw _ (List.mem_of_getElem? (i := 18) rfl))) (mvT hZ (hw _ (List.mem_of_getElem? (i := 19) rfl))) (mvT hZ (hw _ (List.mem_of_getElem? (i := 2) rfl))) (mvT hZ (hw _ (List.mem_of_getElem? (i := 20) rfl))) (by decide) (backOf (W := 0) (rm_rank l Z a0 hw [] w_YES w_NO w_YES w_UNKNOWN h0 n0 SS) hZ (hw _ (List.mem_of_getElem? (i := 20) rfl)) (hw _ (List.mem_of_getElem? (i := 2) rfl)) (by decide) (by decide)) (g := (mkF m 32 #[.val (.int p1), .val (.int p2), .val (.ref w_YES), .val (.ref w_NO), .val (.ref w_YES), .val (.int (2 : Int32))] [(.ref w_YES)])) rfl (by rw [hml]; rfl) (argsL := [(.ref w_YES)]) (rest := []) (lenOf pd_2 rfl) rfl (by show 2 * 0 + _ ≤ _; exact Nat.le_of_eq rfl) (hb hby at_32) (fun _ _ => ⟨rfl, e6, (by decide : 0 + 0 ≤ _), (by decide : 0 + 0 ≤ _)⟩)
  dsimp only [Pt.U, Pt.locs, Pt.cells, Pt.slots] at X7 l7 y7 z7 st7 hQ7
  subst l7 y7 z7
  obtain ⟨hv7, N7q, e7⟩ := hQ7
  rw [show ((.int (own_rank w_NO w_UNKNOWN w_YES w_YES)) : Value) = (.int (2 : Int32)) from by simp [own_rank, nUN, nYN, nYU]] at hv7
  subst hv7
  have N7 := Fr.app N6 N7q
  refine own_go (fun t k => st7 t k) ?_
  show Go p.tables e below _ (T7.setTop (mkF m 35 #[.val (.int p1), .val (.int p2), .val (.ref w_YES), .val (.ref w_NO), .val (.ref w_YES), .val (.int (2 : Int32))] [(.int (2 : Int32))]))
  refine own_go (fun t k => XS.iload X7.here hx rfl (hb hby at_35) rfl k) ?_
  show Go p.tables e below _ (T7.setTop (mkF m 37 #[.val (.int p1), .val (.int p2), .val (.ref w_YES), .val (.ref w_NO), .val (.ref w_YES), .val (.int (2 : Int32))] [(.int (2 : Int32)), (.int (2 : Int32))]))
  refine own_go (fun t k => XS.icmpNo X7.here hx rfl (hb hby at_37) rfl (XT.ii_ne_f (by decide)) k) ?_
  show Go p.tables e below _ (T7.setTop (mkF m 40 #[.val (.int p1), .val (.int p2), .val (.ref w_YES), .val (.ref w_NO), .val (.ref w_YES), .val (.int (2 : Int32))] []))
  refine own_go (fun t k => XS.iconst X7.here hx rfl (hb hby at_40) k) ?_
  show Go p.tables e below _ (T7.setTop (mkF m 41 #[.val (.int p1), .val (.int p2), .val (.ref w_YES), .val (.ref w_NO), .val (.ref w_YES), .val (.int (2 : Int32))] [(.int (1 : Int32))]))
  refine own_go (fun t k => XS.goto X7.here hx rfl (pc0 := 41) (pc' := 45) rfl (hb hby at_41) (by decide) (by decide) k) ?_
  show Go p.tables e below _ (T7.setTop (mkF m 45 #[.val (.int p1), .val (.int p2), .val (.ref w_YES), .val (.ref w_NO), .val (.ref w_YES), .val (.int (2 : Int32))] [(.int (1 : Int32))]))
  exact own_ret X7 hx hlk Bd.returns rfl (Or.inl ⟨rfl, Or.inr (Or.inl rfl), _, rfl⟩) (hb hby at_45) ⟨rfl, N7, e7⟩ (by decide) (by decide)
theorem ef_rm_law_21 (m : MethodId) (x0 : Int32) (x1 : Int32) : entryFrame m #[(.int x0), (.int x1)] maxLocals = mkF m 0 #[.val (.int x0), .val (.int x1), .unset, .unset, .unset, .unset] [] := by first | (simp [entryFrame, mkF, argsToLocals, Value.category, maxLocals]; done) | rfl
set_option maxRecDepth 65536 in
set_option maxHeartbeats 40000000 in
theorem rm_law_21 (l : Launch) (Z : State) (a0 : Array Value) (hw : ∀ d ∈ tables_1, d.before a0 Z = true) (ws : List Jvm.Cond) (p1 p2 : Int32) (w_NO w_YES w_UNKNOWN : Addr) (h0 : Heap) (n0 : Nat) (SS : own_S Z h0 w_NO w_YES w_UNKNOWN) (EE : own_E Z h0 w_NO w_YES w_UNKNOWN) (OO : own_O Z h0 w_NO w_YES w_UNKNOWN) (q1 : (p1 &&& 2147483647) % 3 = 2) (q2 : (p2 &&& 2147483647) % 3 = 1) :
    MetFree l x (head1 (Jvm.Cond.code x code maxLocals ret :: ws) room_1) (fun aa U => aa = #[(.int p1), (.int p2)] ∧ Z.Warmed39 U.vm ∧ U.heap = h0) (fun _ _ _ _ _ => True) (fun _ U o U' => ∃ v L, o = .returned v ∧ PQ (.int 1) h0 n0 v U'.heap L ∧ FrameEnd U o U' L room_1.cells room_1.slots) := by
  refine MetFree.of_bodySF (plainFor_of_name pn_0) hisR ?_
  intro p e s m args below meth c s₁ Bd hml0 hP hK
  obtain ⟨rfl, hZ, hh⟩ := hP
  have hx := Bd.exec
  have hby := Bd.bytes
  have hlk := Bd.notSynchronized
  have hml : c.maxLocals = 6 := hml0
  have hown : s.vm.findClass "com/example/casewright/casewright/types/AnswerOrPinLaw" = some m.cls := findClass_of_methodNamed Bd.named
  have X0 : Stand p l e room_1 s m #[(.int p1), (.int p2)] below meth c s₁ [] 0 0 := Stand.of_body Bd
  have e0 : s₁.heap = h0 := by rw [← hh, Bd.state]; rfl
  have N0 := Fr.nil n0
  have SS' := SS
  obtain ⟨S_NO, S_YES, S_UNKNOWN⟩ := SS'
  obtain ⟨E_NO, E_YES, E_UNKNOWN⟩ := EE
  obtain ⟨F_NO_ordinal, F_YES_ordinal, F_UNKNOWN_ordinal⟩ := OO
  have nUN : w_UNKNOWN ≠ w_NO := (own_ne F_UNKNOWN_ordinal F_NO_ordinal (by decide))
  have nYN : w_YES ≠ w_NO := (own_ne F_YES_ordinal F_NO_ordinal (by decide))
  have nYU : w_YES ≠ w_UNKNOWN := (own_ne F_YES_ordinal F_UNKNOWN_ordinal (by decide))
  show Go p.tables e below (Fin s below (PQ (.int 1) h0 n0) room_1.cells room_1.slots) (s₁.setTop (entryFrame m #[(.int p1), (.int p2)] maxLocals))
  refine own_go (fun t k => castTop (ef_rm_law_21 m p1 p2) k) ?_
  show Go p.tables e below _ (s₁.setTop (mkF m 0 #[.val (.int p1), .val (.int p2), .unset, .unset, .unset, .unset] []))
  refine own_go (fun t k => XS.iloadN X0.here hx rfl (hb hby at_0) rfl k) ?_
  show Go p.tables e below _ (s₁.setTop (mkF m 1 #[.val (.int p1), .val (.int p2), .unset, .unset, .unset, .unset] [(.int p1)]))
  obtain ⟨v1, _, ⟨T1, L1, k1, n1⟩, -, X1, ⟨Lc1, hQ1, l1, y1, z1⟩, st1⟩ := Jvm.LawKit.callS X0 hx (y := (⟨"com/example/casewright/casewright/types/AnswerOrPinLaw", "pick", "(I)Lcom/example/casewright/casewright/types/Answer;"⟩ : MethodName)) hown (mvT hZ (hw _ (List.mem_of_getElem? (i := 0) rfl))) (mvT hZ (hw _ (List.mem_of_getElem? (i := 1) rfl))) (mvT hZ (hw _ (List.mem_of_getElem? (i := 2) rfl))) (mvT hZ (hw _ (List.mem_of_getElem? (i := 3) rfl))) (by decide) (backOf (W := 0) (rm_pick l Z a0 hw [] p1 w_NO w_YES w_UNKNOWN h0 n0 SS) hZ (hw _ (List.mem_of_getElem? (i := 3) rfl)) (hw _ (List.mem_of_getElem? (i := 2) rfl)) (by decide) (by decide)) (g := (mkF m 1 #[.val (.int p1), .val (.int p2), .unset, .unset, .unset, .unset] [(.int p1)])) rfl (by rw [hml]; rfl) (argsL := [(.int p1)]) (rest := []) (lenOf pd_0 rfl) rfl (by show 2 * 0 + _ ≤ _; exact Nat.le_of_eq rfl) (hb hby at_1) (fun _ _ => ⟨rfl, e0, (by decide : 0 + 0 ≤ _), (by decide : 0 + 0 ≤ _)⟩)
  dsimp only [Pt.U, Pt.locs, Pt.cells, Pt.slots] at X1 l1 y1 z1 st1 hQ1
  subst l1 y1 z1
  obtain ⟨hv1, N1q, e1⟩ := hQ1
  rw [show ((.ref (own_pick w_NO w_UNKNOWN w_YES p1)) : Value) = (.ref w_YES) from by rw [own_pick, q1]; rfl] at hv1
  subst hv1
  have N1 := Fr.app N0 N1q
  refine own_go (fun t k => st1 t k) ?_
  show Go p.tables e below _ (T1.setTop (mkF m 4 #[.val (.int p1), .val (.int p2), .unset, .unset, .unset, .unset] [(.ref w_YES)]))
  refine own_go (fun t k => XS.astoreN X1.here hx rfl (hb hby at_4) rfl rfl (l' := #[.val (.int p1), .val (.int p2), .val (.ref w_YES), .unset, .unset, .unset]) rfl k) ?_
  show Go p.tables e below _ (T1.setTop (mkF m 5 #[.val (.int p1), .val (.int p2), .val (.ref w_YES), .unset, .unset, .unset] []))
  refine own_go (fun t k => XS.iloadN X1.here hx rfl (hb hby at_5) rfl k) ?_
  show Go p.tables e below _ (T1.setTop (mkF m 6 #[.val (.int p1), .val (.int p2), .val (.ref w_YES), .unset, .unset, .unset] [(.int p2)]))
  obtain ⟨v2, _, ⟨T2, L2, k2, n2⟩, -, X2, ⟨Lc2, hQ2, l2, y2, z2⟩, st2⟩ := Jvm.LawKit.callS X1 hx (y := (⟨"com/example/casewright/casewright/types/AnswerOrPinLaw", "pick", "(I)Lcom/example/casewright/casewright/types/Answer;"⟩ : MethodName)) hown (mvT hZ (hw _ (List.mem_of_getElem? (i := 0) rfl))) (mvT hZ (hw _ (List.mem_of_getElem? (i := 1) rfl))) (mvT hZ (hw _ (List.mem_of_getElem? (i := 2) rfl))) (mvT hZ (hw _ (List.mem_of_getElem? (i := 3) rfl))) (by decide) (backOf (W := 0) (rm_pick l Z a0 hw [] p2 w_NO w_YES w_UNKNOWN h0 n0 SS) hZ (hw _ (List.mem_of_getElem? (i := 3) rfl)) (hw _ (List.mem_of_getElem? (i := 2) rfl)) (by decide) (by decide)) (g := (mkF m 6 #[.val (.int p1), .val (.int p2), .val (.ref w_YES), .unset, .unset, .unset] [(.int p2)])) rfl (by rw [hml]; rfl) (argsL := [(.int p2)]) (rest := []) (lenOf pd_0 rfl) rfl (by show 2 * 0 + _ ≤ _; exact Nat.le_of_eq rfl) (hb hby at_6) (fun _ _ => ⟨rfl, e1, (by decide : 0 + 0 ≤ _), (by decide : 0 + 0 ≤ _)⟩)
  dsimp only [Pt.U, Pt.locs, Pt.cells, Pt.slots] at X2 l2 y2 z2 st2 hQ2
  subst l2 y2 z2
  obtain ⟨hv2, N2q, e2⟩ := hQ2
  rw [show ((.ref (own_pick w_NO w_UNKNOWN w_YES p2)) : Value) = (.ref w_UNKNOWN) from by rw [own_pick, q2]; rfl] at hv2
  subst hv2
  have N2 := Fr.app N1 N2q
  refine own_go (fun t k => st2 t k) ?_
  show Go p.tables e below _ (T2.setTop (mkF m 9 #[.val (.int p1), .val (.int p2), .val (.ref w_YES), .unset, .unset, .unset] [(.ref w_UNKNOWN)]))
  refine own_go (fun t k => XS.astoreN X2.here hx rfl (hb hby at_9) rfl rfl (l' := #[.val (.int p1), .val (.int p2), .val (.ref w_YES), .val (.ref w_UNKNOWN), .unset, .unset]) rfl k) ?_
  show Go p.tables e below _ (T2.setTop (mkF m 10 #[.val (.int p1), .val (.int p2), .val (.ref w_YES), .val (.ref w_UNKNOWN), .unset, .unset] []))
  refine own_go (fun t k => XS.aloadN X2.here hx rfl (hb hby at_10) rfl rfl k) ?_
  show Go p.tables e below _ (T2.setTop (mkF m 11 #[.val (.int p1), .val (.int p2), .val (.ref w_YES), .val (.ref w_UNKNOWN), .unset, .unset] [(.ref w_YES)]))
  refine own_go (fun t k => XS.aloadN X2.here hx rfl (hb hby at_11) rfl rfl k) ?_
  show Go p.tables e below _ (T2.setTop (mkF m 12 #[.val (.int p1), .val (.int p2), .val (.ref w_YES), .val (.ref w_UNKNOWN), .unset, .unset] [(.ref w_UNKNOWN), (.ref w_YES)]))
  obtain ⟨cq3, kq3, q3a, q3b, q3c⟩ := isOf hZ e2 E_YES
  obtain ⟨v3, _, ⟨T3, L3, k3, n3⟩, -, X3, ⟨Lc3, hQ3, l3, y3, z3⟩, st3⟩ := X2.virtualBack hx (y := (⟨"com/example/casewright/casewright/types/Answer", "or", "(Lcom/example/casewright/casewright/types/Answer;)Lcom/example/casewright/casewright/types/Answer;"⟩ : MethodName)) (z := (⟨"com/example/casewright/casewright/types/Answer", "or", "(Lcom/example/casewright/casewright/types/Answer;)Lcom/example/casewright/casewright/types/Answer;"⟩ : MethodName)) hown (mvT hZ (hw _ (List.mem_of_getElem? (i := 8) rfl))) (mvT hZ (hw _ (List.mem_of_getElem? (i := 9) rfl))) (notFace_of_selects (args := #[]) (mvT hZ (hw _ (List.mem_of_getElem? (i := 11) rfl)))) (mvT hZ (hw _ (List.mem_of_getElem? (i := 11) rfl))) (mvT hZ (hw _ (List.mem_of_getElem? (i := 10) rfl))) (by decide) (backOf (W := 0) (rm_or l Z a0 hw [] w_YES w_UNKNOWN w_NO w_YES w_UNKNOWN h0 n0 SS) hZ (hw _ (List.mem_of_getElem? (i := 12) rfl)) (hw _ (List.mem_of_getElem? (i := 6) rfl)) (by decide) (by decide)) q3a q3c (g := (mkF m 12 #[.val (.int p1), .val (.int p2), .val (.ref w_YES), .val (.ref w_UNKNOWN), .unset, .unset] [(.ref w_UNKNOWN), (.ref w_YES)])) rfl (by rw [hml]; rfl) (Steps.refl _) (argsL := [(.ref w_UNKNOWN)]) (rest := []) (lenOf pd_1 rfl) rfl (by show 2 * 0 + _ ≤ _; exact Nat.le_of_eq rfl) (hb hby at_12) (fun _ _ => ⟨rfl, e2, (by decide : 0 + 0 ≤ _), (by decide : 0 + 0 ≤ _)⟩)
  dsimp only [Pt.U, Pt.locs, Pt.cells, Pt.slots] at X3 l3 y3 z3 st3 hQ3
  subst l3 y3 z3
  obtain ⟨hv3, N3q, e3⟩ := hQ3
  rw [show ((.ref (own_or w_NO w_UNKNOWN w_YES w_YES w_UNKNOWN)) : Value) = (.ref w_YES) from by simp [own_or, nUN, nYN, nYU, nUN.symm, nYN.symm, nYU.symm]] at hv3
  subst hv3
  have N3 := Fr.app N2 N3q
  refine own_go (fun t k => st3.trans k) ?_
  show Go p.tables e below _ (T3.setTop (mkF m 15 #[.val (.int p1), .val (.int p2), .val (.ref w_YES), .val (.ref w_UNKNOWN), .unset, .unset] [(.ref w_YES)]))
  refine own_go (fun t k => XS.astore X3.here hx rfl (hb hby at_15) rfl rfl (l' := #[.val (.int p1), .val (.int p2), .val (.ref w_YES), .val (.ref w_UNKNOWN), .val (.ref w_YES), .unset]) rfl k) ?_
  show Go p.tables e below _ (T3.setTop (mkF m 17 #[.val (.int p1), .val (.int p2), .val (.ref w_YES), .val (.ref w_UNKNOWN), .val (.ref w_YES), .unset] []))
  refine own_go (fun t k => XS.aloadN X3.here hx rfl (hb hby at_17) rfl rfl k) ?_
  show Go p.tables e below _ (T3.setTop (mkF m 18 #[.val (.int p1), .val (.int p2), .val (.ref w_YES), .val (.ref w_UNKNOWN), .val (.ref w_YES), .unset] [(.ref w_YES)]))
  obtain ⟨v4, _, ⟨T4, L4, k4, n4⟩, -, X4, ⟨Lc4, hQ4, l4, y4, z4⟩, st4⟩ := Jvm.LawKit.callS X3 hx (y := (⟨"com/example/casewright/casewright/types/AnswerOrPinLaw", "rank", "(Lcom/example/casewright/casewright/types/Answer;)I"⟩ : MethodName)) hown (mvT hZ (hw _ (List.mem_of_getElem? (i := 18) rfl))) (mvT hZ (hw _ (List.mem_of_getElem? (i := 19) rfl))) (mvT hZ (hw _ (List.mem_of_getElem? (i := 2) rfl))) (mvT hZ (hw _ (List.mem_of_getElem? (i := 20) rfl))) (by decide) (backOf (W := 0) (rm_rank l Z a0 hw [] w_YES w_NO w_YES w_UNKNOWN h0 n0 SS) hZ (hw _ (List.mem_of_getElem? (i := 20) rfl)) (hw _ (List.mem_of_getElem? (i := 2) rfl)) (by decide) (by decide)) (g := (mkF m 18 #[.val (.int p1), .val (.int p2), .val (.ref w_YES), .val (.ref w_UNKNOWN), .val (.ref w_YES), .unset] [(.ref w_YES)])) rfl (by rw [hml]; rfl) (argsL := [(.ref w_YES)]) (rest := []) (lenOf pd_2 rfl) rfl (by show 2 * 0 + _ ≤ _; exact Nat.le_of_eq rfl) (hb hby at_18) (fun _ _ => ⟨rfl, e3, (by decide : 0 + 0 ≤ _), (by decide : 0 + 0 ≤ _)⟩)
  dsimp only [Pt.U, Pt.locs, Pt.cells, Pt.slots] at X4 l4 y4 z4 st4 hQ4
  subst l4 y4 z4
  obtain ⟨hv4, N4q, e4⟩ := hQ4
  rw [show ((.int (own_rank w_NO w_UNKNOWN w_YES w_YES)) : Value) = (.int (2 : Int32)) from by simp [own_rank, nUN, nYN, nYU]] at hv4
  subst hv4
  have N4 := Fr.app N3 N4q
  refine own_go (fun t k => st4 t k) ?_
  show Go p.tables e below _ (T4.setTop (mkF m 21 #[.val (.int p1), .val (.int p2), .val (.ref w_YES), .val (.ref w_UNKNOWN), .val (.ref w_YES), .unset] [(.int (2 : Int32))]))
  refine own_go (fun t k => XS.aloadN X4.here hx rfl (hb hby at_21) rfl rfl k) ?_
  show Go p.tables e below _ (T4.setTop (mkF m 22 #[.val (.int p1), .val (.int p2), .val (.ref w_YES), .val (.ref w_UNKNOWN), .val (.ref w_YES), .unset] [(.ref w_UNKNOWN), (.int (2 : Int32))]))
  obtain ⟨v5, _, ⟨T5, L5, k5, n5⟩, -, X5, ⟨Lc5, hQ5, l5, y5, z5⟩, st5⟩ := Jvm.LawKit.callS X4 hx (y := (⟨"com/example/casewright/casewright/types/AnswerOrPinLaw", "rank", "(Lcom/example/casewright/casewright/types/Answer;)I"⟩ : MethodName)) hown (mvT hZ (hw _ (List.mem_of_getElem? (i := 18) rfl))) (mvT hZ (hw _ (List.mem_of_getElem? (i := 19) rfl))) (mvT hZ (hw _ (List.mem_of_getElem? (i := 2) rfl))) (mvT hZ (hw _ (List.mem_of_getElem? (i := 20) rfl))) (by decide) (backOf (W := 1) (rm_rank l Z a0 hw [] w_UNKNOWN w_NO w_YES w_UNKNOWN h0 n0 SS) hZ (hw _ (List.mem_of_getElem? (i := 20) rfl)) (hw _ (List.mem_of_getElem? (i := 2) rfl)) (by decide) (by decide)) (g := (mkF m 22 #[.val (.int p1), .val (.int p2), .val (.ref w_YES), .val (.ref w_UNKNOWN), .val (.ref w_YES), .unset] [(.ref w_UNKNOWN), (.int (2 : Int32))])) rfl (by rw [hml]; rfl) (argsL := [(.ref w_UNKNOWN)]) (rest := [(.int (2 : Int32))]) (lenOf pd_2 rfl) rfl (by show 2 * 0 + _ ≤ _; exact Nat.le_of_eq rfl) (hb hby at_22) (fun _ _ => ⟨rfl, e4, (by decide : 0 + 0 ≤ _), (by decide : 0 + 0 ≤ _)⟩)
  dsimp only [Pt.U, Pt.locs, Pt.cells, Pt.slots] at X5 l5 y5 z5 st5 hQ5
  subst l5 y5 z5
  obtain ⟨hv5, N5q, e5⟩ := hQ5
  rw [show ((.int (own_rank w_NO w_UNKNOWN w_YES w_UNKNOWN)) : Value) = (.int (1 : Int32)) from by simp [own_rank, nUN, nYN, nYU]] at hv5
  subst hv5
  have N5 := Fr.app N4 N5q
  refine own_go (fun t k => st5 t k) ?_
  show Go p.tables e below _ (T5.setTop (mkF m 25 #[.val (.int p1), .val (.int p2), .val (.ref w_YES), .val (.ref w_UNKNOWN), .val (.ref w_YES), .unset] [(.int (1 : Int32)), (.int (2 : Int32))]))
  obtain ⟨v6, _, ⟨T6, L6, k6, n6⟩, -, X6, ⟨Lc6, hQ6, l6, y6, z6⟩, st6⟩ := Jvm.LawKit.callS X5 hx (y := (⟨"java/lang/Math", "max", "(II)I"⟩ : MethodName)) hown (mvT hZ (hw _ (List.mem_of_getElem? (i := 21) rfl))) (mvT hZ (hw _ (List.mem_of_getElem? (i := 22) rfl))) (mvT hZ (hw _ (List.mem_of_getElem? (i := 23) rfl))) (mvT hZ (hw _ (List.mem_of_getElem? (i := 24) rfl))) (by decide) (backOf (W := 0) (rm_max l Z a0 hw [] (2 : Int32) (1 : Int32) h0 n0) hZ (hw _ (List.mem_of_getElem? (i := 24) rfl)) (hw _ (List.mem_of_getElem? (i := 23) rfl)) (by decide) (by decide)) (g := (mkF m 25 #[.val (.int p1), .val (.int p2), .val (.ref w_YES), .val (.ref w_UNKNOWN), .val (.ref w_YES), .unset] [(.int (1 : Int32)), (.int (2 : Int32))])) rfl (by rw [hml]; rfl) (argsL := [(.int (2 : Int32)), (.int (1 : Int32))]) (rest := []) (lenOf pd_3 rfl) rfl (by show 2 * 0 + _ ≤ _; exact Nat.le_of_eq rfl) (hb hby at_25) (fun _ _ => ⟨rfl, e5, (by decide : 0 + 0 ≤ _), (by decide : 0 + 0 ≤ _)⟩)
  dsimp only [Pt.U, Pt.locs, Pt.cells, Pt.slots] at X6 l6 y6 z6 st6 hQ6
  subst l6 y6 z6
  obtain ⟨hv6, N6q, e6⟩ := hQ6
  rw [show ((.int (own_max (2 : Int32) (1 : Int32))) : Value) = (.int (2 : Int32)) from rfl] at hv6
  subst hv6
  have N6 := Fr.app N5 N6q
  refine own_go (fun t k => st6 t k) ?_
  show Go p.tables e below _ (T6.setTop (mkF m 28 #[.val (.int p1), .val (.int p2), .val (.ref w_YES), .val (.ref w_UNKNOWN), .val (.ref w_YES), .unset] [(.int (2 : Int32))]))
  refine own_go (fun t k => XS.istore X6.here hx rfl (hb hby at_28) rfl (l' := #[.val (.int p1), .val (.int p2), .val (.ref w_YES), .val (.ref w_UNKNOWN), .val (.ref w_YES), .val (.int (2 : Int32))]) rfl k) ?_
  show Go p.tables e below _ (T6.setTop (mkF m 30 #[.val (.int p1), .val (.int p2), .val (.ref w_YES), .val (.ref w_UNKNOWN), .val (.ref w_YES), .val (.int (2 : Int32))] []))
  refine own_go (fun t k => XS.aload X6.here hx rfl (hb hby at_30) rfl rfl k) ?_
  show Go p.tables e below _ (T6.setTop (mkF m 32 #[.val (.int p1), .val (.int p2), .val (.ref w_YES), .val (.ref w_UNKNOWN), .val (.ref w_YES), .val (.int (2 : Int32))] [(.ref w_YES)]))
  obtain ⟨v7, _, ⟨T7, L7, k7, n7⟩, -, X7, ⟨Lc7, hQ7, l7, y7, z7⟩, st7⟩ := Jvm.LawKit.callS X6 hx (y := (⟨"com/example/casewright/casewright/types/AnswerOrPinLaw", "rank", "(Lcom/example/casewright/casewright/types/Answer;)I"⟩ : MethodName)) hown (mvT hZ (hw _ (List.mem_of_getElem? (i := 18) rfl))) (mvT hZ (hw _ (List.mem_of_getElem? (i := 19) rfl))) (mvT hZ (hw _ (List.mem_of_getElem? (i := 2) rfl))) (mvT hZ (hw _ (List.mem_of_getElem? (i := 20) rfl))) (by decide) (backOf (W := 0) (rm_rank l Z a0 hw [] w_YES w_NO w_YES w_UNKNOWN h0 n0 SS) hZ (hw _ (List.mem_of_getElem? (i := 20) rfl)) (hw _ (List.mem_of_getElem? (i := 2) rfl)) (by decide) (by decide)) (g := (mkF m 32 #[.val (.int p1), .val (.int p2), .val (.ref w_YES), .val (.ref w_UNKNOWN), .val (.ref w_YES), .val (.int (2 : Int32))] [(.ref w_YES)])) rfl (by rw [hml]; rfl) (argsL := [(.ref w_YES)]) (rest := []) (lenOf pd_2 rfl) rfl (by show 2 * 0 + _ ≤ _; exact Nat.le_of_eq rfl) (hb hby at_32) (fun _ _ => ⟨rfl, e6, (by decide : 0 + 0 ≤ _), (by decide : 0 + 0 ≤ _)⟩)
  dsimp only [Pt.U, Pt.locs, Pt.cells, Pt.slots] at X7 l7 y7 z7 st7 hQ7
  subst l7 y7 z7
  obtain ⟨hv7, N7q, e7⟩ := hQ7
  rw [show ((.int (own_rank w_NO w_UNKNOWN w_YES w_YES)) : Value) = (.int (2 : Int32)) from by simp [own_rank, nUN, nYN, nYU]] at hv7
  subst hv7
  have N7 := Fr.app N6 N7q
  refine own_go (fun t k => st7 t k) ?_
  show Go p.tables e below _ (T7.setTop (mkF m 35 #[.val (.int p1), .val (.int p2), .val (.ref w_YES), .val (.ref w_UNKNOWN), .val (.ref w_YES), .val (.int (2 : Int32))] [(.int (2 : Int32))]))
  refine own_go (fun t k => XS.iload X7.here hx rfl (hb hby at_35) rfl k) ?_
  show Go p.tables e below _ (T7.setTop (mkF m 37 #[.val (.int p1), .val (.int p2), .val (.ref w_YES), .val (.ref w_UNKNOWN), .val (.ref w_YES), .val (.int (2 : Int32))] [(.int (2 : Int32)), (.int (2 : Int32))]))
  refine own_go (fun t k => XS.icmpNo X7.here hx rfl (hb hby at_37) rfl (XT.ii_ne_f (by decide)) k) ?_
  show Go p.tables e below _ (T7.setTop (mkF m 40 #[.val (.int p1), .val (.int p2), .val (.ref w_YES), .val (.ref w_UNKNOWN), .val (.ref w_YES), .val (.int (2 : Int32))] []))
  refine own_go (fun t k => XS.iconst X7.here hx rfl (hb hby at_40) k) ?_
  show Go p.tables e below _ (T7.setTop (mkF m 41 #[.val (.int p1), .val (.int p2), .val (.ref w_YES), .val (.ref w_UNKNOWN), .val (.ref w_YES), .val (.int (2 : Int32))] [(.int (1 : Int32))]))
  refine own_go (fun t k => XS.goto X7.here hx rfl (pc0 := 41) (pc' := 45) rfl (hb hby at_41) (by decide) (by decide) k) ?_
  show Go p.tables e below _ (T7.setTop (mkF m 45 #[.val (.int p1), .val (.int p2), .val (.ref w_YES), .val (.ref w_UNKNOWN), .val (.ref w_YES), .val (.int (2 : Int32))] [(.int (1 : Int32))]))
  exact own_ret X7 hx hlk Bd.returns rfl (Or.inl ⟨rfl, Or.inr (Or.inl rfl), _, rfl⟩) (hb hby at_45) ⟨rfl, N7, e7⟩ (by decide) (by decide)
theorem ef_rm_law_22 (m : MethodId) (x0 : Int32) (x1 : Int32) : entryFrame m #[(.int x0), (.int x1)] maxLocals = mkF m 0 #[.val (.int x0), .val (.int x1), .unset, .unset, .unset, .unset] [] := by first | (simp [entryFrame, mkF, argsToLocals, Value.category, maxLocals]; done) | rfl
set_option maxRecDepth 65536 in
set_option maxHeartbeats 40000000 in
theorem rm_law_22 (l : Launch) (Z : State) (a0 : Array Value) (hw : ∀ d ∈ tables_1, d.before a0 Z = true) (ws : List Jvm.Cond) (p1 p2 : Int32) (w_NO w_YES w_UNKNOWN : Addr) (h0 : Heap) (n0 : Nat) (SS : own_S Z h0 w_NO w_YES w_UNKNOWN) (EE : own_E Z h0 w_NO w_YES w_UNKNOWN) (OO : own_O Z h0 w_NO w_YES w_UNKNOWN) (q1 : (p1 &&& 2147483647) % 3 = 2) (q2 : (p2 &&& 2147483647) % 3 = 2) :
    MetFree l x (head1 (Jvm.Cond.code x code maxLocals ret :: ws) room_1) (fun aa U => aa = #[(.int p1), (.int p2)] ∧ Z.Warmed39 U.vm ∧ U.heap = h0) (fun _ _ _ _ _ => True) (fun _ U o U' => ∃ v L, o = .returned v ∧ PQ (.int 1) h0 n0 v U'.heap L ∧ FrameEnd U o U' L room_1.cells room_1.slots) := by
  refine MetFree.of_bodySF (plainFor_of_name pn_0) hisR ?_
  intro p e s m args below meth c s₁ Bd hml0 hP hK
  obtain ⟨rfl, hZ, hh⟩ := hP
  have hx := Bd.exec
  have hby := Bd.bytes
  have hlk := Bd.notSynchronized
  have hml : c.maxLocals = 6 := hml0
  have hown : s.vm.findClass "com/example/casewright/casewright/types/AnswerOrPinLaw" = some m.cls := findClass_of_methodNamed Bd.named
  have X0 : Stand p l e room_1 s m #[(.int p1), (.int p2)] below meth c s₁ [] 0 0 := Stand.of_body Bd
  have e0 : s₁.heap = h0 := by rw [← hh, Bd.state]; rfl
  have N0 := Fr.nil n0
  have SS' := SS
  obtain ⟨S_NO, S_YES, S_UNKNOWN⟩ := SS'
  obtain ⟨E_NO, E_YES, E_UNKNOWN⟩ := EE
  obtain ⟨F_NO_ordinal, F_YES_ordinal, F_UNKNOWN_ordinal⟩ := OO
  have nUN : w_UNKNOWN ≠ w_NO := (own_ne F_UNKNOWN_ordinal F_NO_ordinal (by decide))
  have nYN : w_YES ≠ w_NO := (own_ne F_YES_ordinal F_NO_ordinal (by decide))
  have nYU : w_YES ≠ w_UNKNOWN := (own_ne F_YES_ordinal F_UNKNOWN_ordinal (by decide))
  show Go p.tables e below (Fin s below (PQ (.int 1) h0 n0) room_1.cells room_1.slots) (s₁.setTop (entryFrame m #[(.int p1), (.int p2)] maxLocals))
  refine own_go (fun t k => castTop (ef_rm_law_22 m p1 p2) k) ?_
  show Go p.tables e below _ (s₁.setTop (mkF m 0 #[.val (.int p1), .val (.int p2), .unset, .unset, .unset, .unset] []))
  refine own_go (fun t k => XS.iloadN X0.here hx rfl (hb hby at_0) rfl k) ?_
  show Go p.tables e below _ (s₁.setTop (mkF m 1 #[.val (.int p1), .val (.int p2), .unset, .unset, .unset, .unset] [(.int p1)]))
  obtain ⟨v1, _, ⟨T1, L1, k1, n1⟩, -, X1, ⟨Lc1, hQ1, l1, y1, z1⟩, st1⟩ := Jvm.LawKit.callS X0 hx (y := (⟨"com/example/casewright/casewright/types/AnswerOrPinLaw", "pick", "(I)Lcom/example/casewright/casewright/types/Answer;"⟩ : MethodName)) hown (mvT hZ (hw _ (List.mem_of_getElem? (i := 0) rfl))) (mvT hZ (hw _ (List.mem_of_getElem? (i := 1) rfl))) (mvT hZ (hw _ (List.mem_of_getElem? (i := 2) rfl))) (mvT hZ (hw _ (List.mem_of_getElem? (i := 3) rfl))) (by decide) (backOf (W := 0) (rm_pick l Z a0 hw [] p1 w_NO w_YES w_UNKNOWN h0 n0 SS) hZ (hw _ (List.mem_of_getElem? (i := 3) rfl)) (hw _ (List.mem_of_getElem? (i := 2) rfl)) (by decide) (by decide)) (g := (mkF m 1 #[.val (.int p1), .val (.int p2), .unset, .unset, .unset, .unset] [(.int p1)])) rfl (by rw [hml]; rfl) (argsL := [(.int p1)]) (rest := []) (lenOf pd_0 rfl) rfl (by show 2 * 0 + _ ≤ _; exact Nat.le_of_eq rfl) (hb hby at_1) (fun _ _ => ⟨rfl, e0, (by decide : 0 + 0 ≤ _), (by decide : 0 + 0 ≤ _)⟩)
  dsimp only [Pt.U, Pt.locs, Pt.cells, Pt.slots] at X1 l1 y1 z1 st1 hQ1
  subst l1 y1 z1
  obtain ⟨hv1, N1q, e1⟩ := hQ1
  rw [show ((.ref (own_pick w_NO w_UNKNOWN w_YES p1)) : Value) = (.ref w_YES) from by rw [own_pick, q1]; rfl] at hv1
  subst hv1
  have N1 := Fr.app N0 N1q
  refine own_go (fun t k => st1 t k) ?_
  show Go p.tables e below _ (T1.setTop (mkF m 4 #[.val (.int p1), .val (.int p2), .unset, .unset, .unset, .unset] [(.ref w_YES)]))
  refine own_go (fun t k => XS.astoreN X1.here hx rfl (hb hby at_4) rfl rfl (l' := #[.val (.int p1), .val (.int p2), .val (.ref w_YES), .unset, .unset, .unset]) rfl k) ?_
  show Go p.tables e below _ (T1.setTop (mkF m 5 #[.val (.int p1), .val (.int p2), .val (.ref w_YES), .unset, .unset, .unset] []))
  refine own_go (fun t k => XS.iloadN X1.here hx rfl (hb hby at_5) rfl k) ?_
  show Go p.tables e below _ (T1.setTop (mkF m 6 #[.val (.int p1), .val (.int p2), .val (.ref w_YES), .unset, .unset, .unset] [(.int p2)]))
  obtain ⟨v2, _, ⟨T2, L2, k2, n2⟩, -, X2, ⟨Lc2, hQ2, l2, y2, z2⟩, st2⟩ := Jvm.LawKit.callS X1 hx (y := (⟨"com/example/casewright/casewright/types/AnswerOrPinLaw", "pick", "(I)Lcom/example/casewright/casewright/types/Answer;"⟩ : MethodName)) hown (mvT hZ (hw _ (List.mem_of_getElem? (i := 0) rfl))) (mvT hZ (hw _ (List.mem_of_getElem? (i := 1) rfl))) (mvT hZ (hw _ (List.mem_of_getElem? (i := 2) rfl))) (mvT hZ (hw _ (List.mem_of_getElem? (i := 3) rfl))) (by decide) (backOf (W := 0) (rm_pick l Z a0 hw [] p2 w_NO w_YES w_UNKNOWN h0 n0 SS) hZ (hw _ (List.mem_of_getElem? (i := 3) rfl)) (hw _ (List.mem_of_getElem? (i := 2) rfl)) (by decide) (by decide)) (g := (mkF m 6 #[.val (.int p1), .val (.int p2), .val (.ref w_YES), .unset, .unset, .unset] [(.int p2)])) rfl (by rw [hml]; rfl) (argsL := [(.int p2)]) (rest := []) (lenOf pd_0 rfl) rfl (by show 2 * 0 + _ ≤ _; exact Nat.le_of_eq rfl) (hb hby at_6) (fun _ _ => ⟨rfl, e1, (by decide : 0 + 0 ≤ _), (by decide : 0 + 0 ≤ _)⟩)
  dsimp only [Pt.U, Pt.locs, Pt.cells, Pt.slots] at X2 l2 y2 z2 st2 hQ2
  subst l2 y2 z2
  obtain ⟨hv2, N2q, e2⟩ := hQ2
  rw [show ((.ref (own_pick w_NO w_UNKNOWN w_YES p2)) : Value) = (.ref w_YES) from by rw [own_pick, q2]; rfl] at hv2
  subst hv2
  have N2 := Fr.app N1 N2q
  refine own_go (fun t k => st2 t k) ?_
  show Go p.tables e below _ (T2.setTop (mkF m 9 #[.val (.int p1), .val (.int p2), .val (.ref w_YES), .unset, .unset, .unset] [(.ref w_YES)]))
  refine own_go (fun t k => XS.astoreN X2.here hx rfl (hb hby at_9) rfl rfl (l' := #[.val (.int p1), .val (.int p2), .val (.ref w_YES), .val (.ref w_YES), .unset, .unset]) rfl k) ?_
  show Go p.tables e below _ (T2.setTop (mkF m 10 #[.val (.int p1), .val (.int p2), .val (.ref w_YES), .val (.ref w_YES), .unset, .unset] []))
  refine own_go (fun t k => XS.aloadN X2.here hx rfl (hb hby at_10) rfl rfl k) ?_
  show Go p.tables e below _ (T2.setTop (mkF m 11 #[.val (.int p1), .val (.int p2), .val (.ref w_YES), .val (.ref w_YES), .unset, .unset] [(.ref w_YES)]))
  refine own_go (fun t k => XS.aloadN X2.here hx rfl (hb hby at_11) rfl rfl k) ?_
  show Go p.tables e below _ (T2.setTop (mkF m 12 #[.val (.int p1), .val (.int p2), .val (.ref w_YES), .val (.ref w_YES), .unset, .unset] [(.ref w_YES), (.ref w_YES)]))
  obtain ⟨cq3, kq3, q3a, q3b, q3c⟩ := isOf hZ e2 E_YES
  obtain ⟨v3, _, ⟨T3, L3, k3, n3⟩, -, X3, ⟨Lc3, hQ3, l3, y3, z3⟩, st3⟩ := X2.virtualBack hx (y := (⟨"com/example/casewright/casewright/types/Answer", "or", "(Lcom/example/casewright/casewright/types/Answer;)Lcom/example/casewright/casewright/types/Answer;"⟩ : MethodName)) (z := (⟨"com/example/casewright/casewright/types/Answer", "or", "(Lcom/example/casewright/casewright/types/Answer;)Lcom/example/casewright/casewright/types/Answer;"⟩ : MethodName)) hown (mvT hZ (hw _ (List.mem_of_getElem? (i := 8) rfl))) (mvT hZ (hw _ (List.mem_of_getElem? (i := 9) rfl))) (notFace_of_selects (args := #[]) (mvT hZ (hw _ (List.mem_of_getElem? (i := 11) rfl)))) (mvT hZ (hw _ (List.mem_of_getElem? (i := 11) rfl))) (mvT hZ (hw _ (List.mem_of_getElem? (i := 10) rfl))) (by decide) (backOf (W := 0) (rm_or l Z a0 hw [] w_YES w_YES w_NO w_YES w_UNKNOWN h0 n0 SS) hZ (hw _ (List.mem_of_getElem? (i := 12) rfl)) (hw _ (List.mem_of_getElem? (i := 6) rfl)) (by decide) (by decide)) q3a q3c (g := (mkF m 12 #[.val (.int p1), .val (.int p2), .val (.ref w_YES), .val (.ref w_YES), .unset, .unset] [(.ref w_YES), (.ref w_YES)])) rfl (by rw [hml]; rfl) (Steps.refl _) (argsL := [(.ref w_YES)]) (rest := []) (lenOf pd_1 rfl) rfl (by show 2 * 0 + _ ≤ _; exact Nat.le_of_eq rfl) (hb hby at_12) (fun _ _ => ⟨rfl, e2, (by decide : 0 + 0 ≤ _), (by decide : 0 + 0 ≤ _)⟩)
  dsimp only [Pt.U, Pt.locs, Pt.cells, Pt.slots] at X3 l3 y3 z3 st3 hQ3
  subst l3 y3 z3
  obtain ⟨hv3, N3q, e3⟩ := hQ3
  rw [show ((.ref (own_or w_NO w_UNKNOWN w_YES w_YES w_YES)) : Value) = (.ref w_YES) from by simp [own_or, nUN, nYN, nYU, nUN.symm, nYN.symm, nYU.symm]] at hv3
  subst hv3
  have N3 := Fr.app N2 N3q
  refine own_go (fun t k => st3.trans k) ?_
  show Go p.tables e below _ (T3.setTop (mkF m 15 #[.val (.int p1), .val (.int p2), .val (.ref w_YES), .val (.ref w_YES), .unset, .unset] [(.ref w_YES)]))
  refine own_go (fun t k => XS.astore X3.here hx rfl (hb hby at_15) rfl rfl (l' := #[.val (.int p1), .val (.int p2), .val (.ref w_YES), .val (.ref w_YES), .val (.ref w_YES), .unset]) rfl k) ?_
  show Go p.tables e below _ (T3.setTop (mkF m 17 #[.val (.int p1), .val (.int p2), .val (.ref w_YES), .val (.ref w_YES), .val (.ref w_YES), .unset] []))
  refine own_go (fun t k => XS.aloadN X3.here hx rfl (hb hby at_17) rfl rfl k) ?_
  show Go p.tables e below _ (T3.setTop (mkF m 18 #[.val (.int p1), .val (.int p2), .val (.ref w_YES), .val (.ref w_YES), .val (.ref w_YES), .unset] [(.ref w_YES)]))
  obtain ⟨v4, _, ⟨T4, L4, k4, n4⟩, -, X4, ⟨Lc4, hQ4, l4, y4, z4⟩, st4⟩ := Jvm.LawKit.callS X3 hx (y := (⟨"com/example/casewright/casewright/types/AnswerOrPinLaw", "rank", "(Lcom/example/casewright/casewright/types/Answer;)I"⟩ : MethodName)) hown (mvT hZ (hw _ (List.mem_of_getElem? (i := 18) rfl))) (mvT hZ (hw _ (List.mem_of_getElem? (i := 19) rfl))) (mvT hZ (hw _ (List.mem_of_getElem? (i := 2) rfl))) (mvT hZ (hw _ (List.mem_of_getElem? (i := 20) rfl))) (by decide) (backOf (W := 0) (rm_rank l Z a0 hw [] w_YES w_NO w_YES w_UNKNOWN h0 n0 SS) hZ (hw _ (List.mem_of_getElem? (i := 20) rfl)) (hw _ (List.mem_of_getElem? (i := 2) rfl)) (by decide) (by decide)) (g := (mkF m 18 #[.val (.int p1), .val (.int p2), .val (.ref w_YES), .val (.ref w_YES), .val (.ref w_YES), .unset] [(.ref w_YES)])) rfl (by rw [hml]; rfl) (argsL := [(.ref w_YES)]) (rest := []) (lenOf pd_2 rfl) rfl (by show 2 * 0 + _ ≤ _; exact Nat.le_of_eq rfl) (hb hby at_18) (fun _ _ => ⟨rfl, e3, (by decide : 0 + 0 ≤ _), (by decide : 0 + 0 ≤ _)⟩)
  dsimp only [Pt.U, Pt.locs, Pt.cells, Pt.slots] at X4 l4 y4 z4 st4 hQ4
  subst l4 y4 z4
  obtain ⟨hv4, N4q, e4⟩ := hQ4
  rw [show ((.int (own_rank w_NO w_UNKNOWN w_YES w_YES)) : Value) = (.int (2 : Int32)) from by simp [own_rank, nUN, nYN, nYU]] at hv4
  subst hv4
  have N4 := Fr.app N3 N4q
  refine own_go (fun t k => st4 t k) ?_
  show Go p.tables e below _ (T4.setTop (mkF m 21 #[.val (.int p1), .val (.int p2), .val (.ref w_YES), .val (.ref w_YES), .val (.ref w_YES), .unset] [(.int (2 : Int32))]))
  refine own_go (fun t k => XS.aloadN X4.here hx rfl (hb hby at_21) rfl rfl k) ?_
  show Go p.tables e below _ (T4.setTop (mkF m 22 #[.val (.int p1), .val (.int p2), .val (.ref w_YES), .val (.ref w_YES), .val (.ref w_YES), .unset] [(.ref w_YES), (.int (2 : Int32))]))
  obtain ⟨v5, _, ⟨T5, L5, k5, n5⟩, -, X5, ⟨Lc5, hQ5, l5, y5, z5⟩, st5⟩ := Jvm.LawKit.callS X4 hx (y := (⟨"com/example/casewright/casewright/types/AnswerOrPinLaw", "rank", "(Lcom/example/casewright/casewright/types/Answer;)I"⟩ : MethodName)) hown (mvT hZ (hw _ (List.mem_of_getElem? (i := 18) rfl))) (mvT hZ (hw _ (List.mem_of_getElem? (i := 19) rfl))) (mvT hZ (hw _ (List.mem_of_getElem? (i := 2) rfl))) (mvT hZ (hw _ (List.mem_of_getElem? (i := 20) rfl))) (by decide) (backOf (W := 1) (rm_rank l Z a0 hw [] w_YES w_NO w_YES w_UNKNOWN h0 n0 SS) hZ (hw _ (List.mem_of_getElem? (i := 20) rfl)) (hw _ (List.mem_of_getElem? (i := 2) rfl)) (by decide) (by decide)) (g := (mkF m 22 #[.val (.int p1), .val (.int p2), .val (.ref w_YES), .val (.ref w_YES), .val (.ref w_YES), .unset] [(.ref w_YES), (.int (2 : Int32))])) rfl (by rw [hml]; rfl) (argsL := [(.ref w_YES)]) (rest := [(.int (2 : Int32))]) (lenOf pd_2 rfl) rfl (by show 2 * 0 + _ ≤ _; exact Nat.le_of_eq rfl) (hb hby at_22) (fun _ _ => ⟨rfl, e4, (by decide : 0 + 0 ≤ _), (by decide : 0 + 0 ≤ _)⟩)
  dsimp only [Pt.U, Pt.locs, Pt.cells, Pt.slots] at X5 l5 y5 z5 st5 hQ5
  subst l5 y5 z5
  obtain ⟨hv5, N5q, e5⟩ := hQ5
  rw [show ((.int (own_rank w_NO w_UNKNOWN w_YES w_YES)) : Value) = (.int (2 : Int32)) from by simp [own_rank, nUN, nYN, nYU]] at hv5
  subst hv5
  have N5 := Fr.app N4 N5q
  refine own_go (fun t k => st5 t k) ?_
  show Go p.tables e below _ (T5.setTop (mkF m 25 #[.val (.int p1), .val (.int p2), .val (.ref w_YES), .val (.ref w_YES), .val (.ref w_YES), .unset] [(.int (2 : Int32)), (.int (2 : Int32))]))
  obtain ⟨v6, _, ⟨T6, L6, k6, n6⟩, -, X6, ⟨Lc6, hQ6, l6, y6, z6⟩, st6⟩ := Jvm.LawKit.callS X5 hx (y := (⟨"java/lang/Math", "max", "(II)I"⟩ : MethodName)) hown (mvT hZ (hw _ (List.mem_of_getElem? (i := 21) rfl))) (mvT hZ (hw _ (List.mem_of_getElem? (i := 22) rfl))) (mvT hZ (hw _ (List.mem_of_getElem? (i := 23) rfl))) (mvT hZ (hw _ (List.mem_of_getElem? (i := 24) rfl))) (by decide) (backOf (W := 0) (rm_max l Z a0 hw [] (2 : Int32) (2 : Int32) h0 n0) hZ (hw _ (List.mem_of_getElem? (i := 24) rfl)) (hw _ (List.mem_of_getElem? (i := 23) rfl)) (by decide) (by decide)) (g := (mkF m 25 #[.val (.int p1), .val (.int p2), .val (.ref w_YES), .val (.ref w_YES), .val (.ref w_YES), .unset] [(.int (2 : Int32)), (.int (2 : Int32))])) rfl (by rw [hml]; rfl) (argsL := [(.int (2 : Int32)), (.int (2 : Int32))]) (rest := []) (lenOf pd_3 rfl) rfl (by show 2 * 0 + _ ≤ _; exact Nat.le_of_eq rfl) (hb hby at_25) (fun _ _ => ⟨rfl, e5, (by decide : 0 + 0 ≤ _), (by decide : 0 + 0 ≤ _)⟩)
  dsimp only [Pt.U, Pt.locs, Pt.cells, Pt.slots] at X6 l6 y6 z6 st6 hQ6
  subst l6 y6 z6
  obtain ⟨hv6, N6q, e6⟩ := hQ6
  rw [show ((.int (own_max (2 : Int32) (2 : Int32))) : Value) = (.int (2 : Int32)) from rfl] at hv6
  subst hv6
  have N6 := Fr.app N5 N6q
  refine own_go (fun t k => st6 t k) ?_
  show Go p.tables e below _ (T6.setTop (mkF m 28 #[.val (.int p1), .val (.int p2), .val (.ref w_YES), .val (.ref w_YES), .val (.ref w_YES), .unset] [(.int (2 : Int32))]))
  refine own_go (fun t k => XS.istore X6.here hx rfl (hb hby at_28) rfl (l' := #[.val (.int p1), .val (.int p2), .val (.ref w_YES), .val (.ref w_YES), .val (.ref w_YES), .val (.int (2 : Int32))]) rfl k) ?_
  show Go p.tables e below _ (T6.setTop (mkF m 30 #[.val (.int p1), .val (.int p2), .val (.ref w_YES), .val (.ref w_YES), .val (.ref w_YES), .val (.int (2 : Int32))] []))
  refine own_go (fun t k => XS.aload X6.here hx rfl (hb hby at_30) rfl rfl k) ?_
  show Go p.tables e below _ (T6.setTop (mkF m 32 #[.val (.int p1), .val (.int p2), .val (.ref w_YES), .val (.ref w_YES), .val (.ref w_YES), .val (.int (2 : Int32))] [(.ref w_YES)]))
  obtain ⟨v7, _, ⟨T7, L7, k7, n7⟩, -, X7, ⟨Lc7, hQ7, l7, y7, z7⟩, st7⟩ := Jvm.LawKit.callS X6 hx (y := (⟨"com/example/casewright/casewright/types/AnswerOrPinLaw", "rank", "(Lcom/example/casewright/casewright/types/Answer;)I"⟩ : MethodName)) hown (mvT hZ (hw _ (List.mem_of_getElem? (i := 18) rfl))) (mvT hZ (hw _ (List.mem_of_getElem? (i := 19) rfl))) (mvT hZ (hw _ (List.mem_of_getElem? (i := 2) rfl))) (mvT hZ (hw _ (List.mem_of_getElem? (i := 20) rfl))) (by decide) (backOf (W := 0) (rm_rank l Z a0 hw [] w_YES w_NO w_YES w_UNKNOWN h0 n0 SS) hZ (hw _ (List.mem_of_getElem? (i := 20) rfl)) (hw _ (List.mem_of_getElem? (i := 2) rfl)) (by decide) (by decide)) (g := (mkF m 32 #[.val (.int p1), .val (.int p2), .val (.ref w_YES), .val (.ref w_YES), .val (.ref w_YES), .val (.int (2 : Int32))] [(.ref w_YES)])) rfl (by rw [hml]; rfl) (argsL := [(.ref w_YES)]) (rest := []) (lenOf pd_2 rfl) rfl (by show 2 * 0 + _ ≤ _; exact Nat.le_of_eq rfl) (hb hby at_32) (fun _ _ => ⟨rfl, e6, (by decide : 0 + 0 ≤ _), (by decide : 0 + 0 ≤ _)⟩)
  dsimp only [Pt.U, Pt.locs, Pt.cells, Pt.slots] at X7 l7 y7 z7 st7 hQ7
  subst l7 y7 z7
  obtain ⟨hv7, N7q, e7⟩ := hQ7
  rw [show ((.int (own_rank w_NO w_UNKNOWN w_YES w_YES)) : Value) = (.int (2 : Int32)) from by simp [own_rank, nUN, nYN, nYU]] at hv7
  subst hv7
  have N7 := Fr.app N6 N7q
  refine own_go (fun t k => st7 t k) ?_
  show Go p.tables e below _ (T7.setTop (mkF m 35 #[.val (.int p1), .val (.int p2), .val (.ref w_YES), .val (.ref w_YES), .val (.ref w_YES), .val (.int (2 : Int32))] [(.int (2 : Int32))]))
  refine own_go (fun t k => XS.iload X7.here hx rfl (hb hby at_35) rfl k) ?_
  show Go p.tables e below _ (T7.setTop (mkF m 37 #[.val (.int p1), .val (.int p2), .val (.ref w_YES), .val (.ref w_YES), .val (.ref w_YES), .val (.int (2 : Int32))] [(.int (2 : Int32)), (.int (2 : Int32))]))
  refine own_go (fun t k => XS.icmpNo X7.here hx rfl (hb hby at_37) rfl (XT.ii_ne_f (by decide)) k) ?_
  show Go p.tables e below _ (T7.setTop (mkF m 40 #[.val (.int p1), .val (.int p2), .val (.ref w_YES), .val (.ref w_YES), .val (.ref w_YES), .val (.int (2 : Int32))] []))
  refine own_go (fun t k => XS.iconst X7.here hx rfl (hb hby at_40) k) ?_
  show Go p.tables e below _ (T7.setTop (mkF m 41 #[.val (.int p1), .val (.int p2), .val (.ref w_YES), .val (.ref w_YES), .val (.ref w_YES), .val (.int (2 : Int32))] [(.int (1 : Int32))]))
  refine own_go (fun t k => XS.goto X7.here hx rfl (pc0 := 41) (pc' := 45) rfl (hb hby at_41) (by decide) (by decide) k) ?_
  show Go p.tables e below _ (T7.setTop (mkF m 45 #[.val (.int p1), .val (.int p2), .val (.ref w_YES), .val (.ref w_YES), .val (.ref w_YES), .val (.int (2 : Int32))] [(.int (1 : Int32))]))
  exact own_ret X7 hx hlk Bd.returns rfl (Or.inl ⟨rfl, Or.inr (Or.inl rfl), _, rfl⟩) (hb hby at_45) ⟨rfl, N7, e7⟩ (by decide) (by decide)
set_option maxRecDepth 65536 in
theorem rm_law (l : Launch) (Z : State) (a0 : Array Value) (hw : ∀ d ∈ tables_1, d.before a0 Z = true) (ws : List Jvm.Cond) (p1 p2 : Int32) (w_NO w_YES w_UNKNOWN : Addr) (h0 : Heap) (n0 : Nat) (SS : own_S Z h0 w_NO w_YES w_UNKNOWN) (EE : own_E Z h0 w_NO w_YES w_UNKNOWN) (OO : own_O Z h0 w_NO w_YES w_UNKNOWN) :
    MetFree l x (head1 (Jvm.Cond.code x code maxLocals ret :: ws) room_1) (fun aa U => aa = #[(.int p1), (.int p2)] ∧ Z.Warmed39 U.vm ∧ U.heap = h0) (fun _ _ _ _ _ => True) (fun _ U o U' => ∃ v L, o = .returned v ∧ PQ (.int 1) h0 n0 v U'.heap L ∧ FrameEnd U o U' L room_1.cells room_1.slots) := by
  rcases own_cases p1 with q1 | q1 | q1 <;> rcases own_cases p2 with q2 | q2 | q2
  · exact rm_law_00 l Z a0 hw ws p1 p2 w_NO w_YES w_UNKNOWN h0 n0 SS EE OO q1 q2
  · exact rm_law_01 l Z a0 hw ws p1 p2 w_NO w_YES w_UNKNOWN h0 n0 SS EE OO q1 q2
  · exact rm_law_02 l Z a0 hw ws p1 p2 w_NO w_YES w_UNKNOWN h0 n0 SS EE OO q1 q2
  · exact rm_law_10 l Z a0 hw ws p1 p2 w_NO w_YES w_UNKNOWN h0 n0 SS EE OO q1 q2
  · exact rm_law_11 l Z a0 hw ws p1 p2 w_NO w_YES w_UNKNOWN h0 n0 SS EE OO q1 q2
  · exact rm_law_12 l Z a0 hw ws p1 p2 w_NO w_YES w_UNKNOWN h0 n0 SS EE OO q1 q2
  · exact rm_law_20 l Z a0 hw ws p1 p2 w_NO w_YES w_UNKNOWN h0 n0 SS EE OO q1 q2
  · exact rm_law_21 l Z a0 hw ws p1 p2 w_NO w_YES w_UNKNOWN h0 n0 SS EE OO q1 q2
  · exact rm_law_22 l Z a0 hw ws p1 p2 w_NO w_YES w_UNKNOWN h0 n0 SS EE OO q1 q2
set_option maxRecDepth 65536 in
set_option maxHeartbeats 40000000 in
theorem comes_1 {Post : Tables → Env → Array Value → State → Outcome → State → Prop} (hpost : ∀ tb e args s v u, (limb_1_1.after args s (.returned v) u = true ∧ limb_1_2.after args s (.returned v) u = true ∧ True) → FrameEnd s (.returned v) u (Jvm.fieldLocs frame_1_writes args s ++ Jvm.arrayLocs frame_1_arrays args s ++ Jvm.staticLocs frame_1_statics s) 0 0 → Post tb e args s (.returned v) u) :
    ArmFor flags0 classFile x code maxLocals ret World_1 tables_1 room_1 Calls_1 rest_1 Pre_1 Post := by
  intro l hfl _ _ p e ha hc hk s m args below hf hA hF happ hP
  obtain ⟨hcalls, hrest, hpre⟩ := hP
  obtain ⟨-, -, -, hnamed, -, -, -, hat⟩ := (Spec.applies_iff hf).mp happ
  obtain ⟨hg, hn⟩ := and_e (Cond.before_iff.mp (show (Jvm.Cond.and given_1 narrow_1).before args s = true from hpre))
  obtain ⟨gc, ga0⟩ := and_e hg
  obtain ⟨gi0, ga1⟩ := and_e ga0
  have gi1 := ga1
  obtain ⟨w0, w1, rfl⟩ : ∃ w0 w1 : Value, args = #[w0, w1] := by
    have hs : args.size = 2 := by simpa [Cond.value, given_1] using gc
    obtain ⟨L⟩ := args
    match L, hs with
    | [w0, w1], _ => exact ⟨w0, w1, rfl⟩
  have hw := fun d (hd : d ∈ tables_1) => atoms_spec (ws := Jvm.Cond.code x code maxLocals ret :: tables_1) hat d (List.mem_cons_of_mem _ hd)
  obtain ⟨i0, ei0⟩ := is_v gi0
  obtain rfl : w0 = (.int i0) := Option.some.inj ei0
  obtain ⟨i1, ei1⟩ := is_v gi1
  obtain rfl : w1 = (.int i1) := Option.some.inj ei1
  obtain ⟨c0, r0⟩ := and_e hn
  obtain ⟨c1, r1⟩ := and_e r0
  obtain ⟨c2, r2⟩ := and_e r1
  obtain ⟨c3, r3⟩ := and_e r2
  obtain ⟨c4, r4⟩ := and_e r3
  have c5 := r4
  obtain ⟨w_NO, ev_NO⟩ := exa_v c0
  have E_NO := Exa.start ev_NO c0
  have S_NO := Sta.start ev_NO (Or.inr ⟨(hw _ (List.mem_of_getElem? (i := 6) rfl)), (hw _ (List.mem_of_getElem? (i := 7) rfl))⟩)
  obtain ⟨w_YES, ev_YES⟩ := exa_v c1
  have E_YES := Exa.start ev_YES c1
  have S_YES := Sta.start ev_YES (Or.inr ⟨(hw _ (List.mem_of_getElem? (i := 6) rfl)), (hw _ (List.mem_of_getElem? (i := 14) rfl))⟩)
  obtain ⟨w_UNKNOWN, ev_UNKNOWN⟩ := exa_v c4
  have E_UNKNOWN := Exa.start ev_UNKNOWN c4
  have S_UNKNOWN := Sta.start ev_UNKNOWN (Or.inr ⟨(hw _ (List.mem_of_getElem? (i := 6) rfl)), (hw _ (List.mem_of_getElem? (i := 16) rfl))⟩)
  have F_NO_ordinal := own_fld ev_NO c2
  have F_YES_ordinal := own_fld ev_YES c3
  have F_UNKNOWN_ordinal := own_fld ev_UNKNOWN c5
  obtain ⟨n, o, h1, h2, h3, _, L, rfl, ⟨rfl, N, -⟩, hq⟩ := rm_law l s _ hw tables_1 i0 i1 w_NO w_YES w_UNKNOWN s.heap s.heap.size ⟨S_NO, S_YES, S_UNKNOWN⟩ ⟨E_NO, E_YES, E_UNKNOWN⟩ ⟨F_NO_ordinal, F_YES_ordinal, F_UNKNOWN_ordinal⟩ p e ha hc hk s m _ below hf ((Spec.applies_iff_loose hf).mp happ).1 ⟨rfl, State.Warmed39.refl s, rfl⟩ trivial
  refine ⟨n, _, h1, h2, h3, hpost _ _ _ _ _ _ ⟨Cond.after_iff.mpr rfl, Cond.after_iff.mpr (eq_i res_at (Term.int_eval (1)) rfl), trivial⟩ ⟨hq.1, hq.2.1, (hq.2.2.sift fun y hy => Or.inr (N y hy)).mono (by decide) (by decide)⟩⟩
theorem main_1_1 : Claimed_1_1 := comes_1 fun _ _ _ _ _ _ h hF => ⟨h.1, hF⟩
theorem main_1_2 : Claimed_1_2 := comes_1 fun _ _ _ _ _ _ h hF => ⟨h.2.1, hF⟩
end Jvm.Pilot.@@N@@
namespace Jvm.Pilot.@@N@@
open Jvm Jvm.ClassFile Sem Op Lib Jvm.Free Jvm.Stand Jvm.Pilot.@@N@@.Jvm.D
/-! MADE BY PROGRAM (witnessworld.py) out of the Statement's table words and the real class files: 13 classes; the members and pool entries that the words name. The judged class is class 1, her method 3. -/
namespace start1
open Jvm.ClassFile
def u (s : String) : CpInfo := .utf8 (stringToUtf16 s)
/-- a pool by its gaps: so many unusable entries, then the entry; so many at the end -/
def gap : Nat → List CpInfo → List CpInfo
  | 0, r => r
  | n + 1, r => .unusable :: gap n r
def poolList (es : List (Nat × CpInfo)) (last : Nat) : List CpInfo := es.foldr (fun e r => gap e.1 (e.2 :: r)) (gap last [])
def pool (es : List (Nat × CpInfo)) (last : Nat) : Array CpInfo := ⟨poolList es last⟩
def fileOf (pool : Array CpInfo) (this : Nat) (attrs : Array Attribute := #[]) (ms : Array MethodInfo := #[]) (fl : Nat := 33) (sup : Nat := 0) (ifs : Array Nat := #[]) (fds : Array FieldInfo := #[]) : ClassFile where
  minorVersion := 0
  majorVersion := 65
  constantPool := pool
  accessFlags := fl
  thisClass := this
  superClass := sup
  interfaces := ifs
  fields := fds
  methods := ms
  attributes := attrs
def plain (name : String) (sup : Option ClassId) : Class where
  name := name
  kind := .ordinary
  loader := none
  accessFlags := 33
  super := sup
  interfaces := #[]
  cf := none
  fields := #[]
  methods := #[]
  instanceTypes := #[]
  staticTypes := #[]
  resolved := #[]
  callSites := []
  init := .initialized
  statics := none
  mirror := none

def pool0 : Array CpInfo := pool [(5, u "<init>"), (0, u "()V"), (1, .class_ 10), (1, u "java/lang/Object")] 113

def k0m0 : Method := { name := "<init>", desc := "()V", sig := { parameters := [], returnType := none }, accessFlags := 1, code := none }
/-- java/lang/Object -/
def k0 : Class := { plain "java/lang/Object" none with
  accessFlags := 33
  interfaces := #[]
  cf := some (fileOf pool0 8 #[] #[{ accessFlags := 1, nameIndex := 5, descriptorIndex := 6, attributes := #[] }] 33 0 #[] #[])
  fields := #[]
  methods := #[k0m0]
  instanceTypes := #[]
  staticTypes := #[]
  resolved := Array.replicate 124 none
  statics := none }

def pool1 : Array CpInfo := pool [(2, .class_ 4), (1, u "java/lang/Object"), (0, u "<init>"), (0, u "()V"), (0, .integer 2147483647), (0, .fieldref 9 10), (0, .class_ 11), (0, .nameAndType 12 13), (0, u "com/example/casewright/casewright/types/Answer"), (0, u "NO"), (0, u "Lcom/example/casewright/casewright/types/Answer;"), (0, .fieldref 9 15), (0, .nameAndType 16 13), (0, u "UNKNOWN"), (0, .fieldref 9 18), (0, .nameAndType 19 13), (0, u "YES"), (0, .methodref 21 22), (0, .class_ 23), (0, .nameAndType 24 25), (0, u "com/example/casewright/casewright/types/AnswerOrPinLaw"), (0, u "pick"), (0, u "(I)Lcom/example/casewright/casewright/types/Answer;"), (0, .methodref 9 27), (0, .nameAndType 28 29), (0, u "or"), (0, u "(Lcom/example/casewright/casewright/types/Answer;)Lcom/example/casewright/casewright/types/Answer;"), (0, .methodref 21 31), (0, .nameAndType 32 33), (0, u "rank"), (0, u "(Lcom/example/casewright/casewright/types/Answer;)I"), (0, .methodref 35 36), (0, .class_ 37), (0, .nameAndType 38 39), (0, u "java/lang/Math"), (0, u "max"), (0, u "(II)I"), (3, u "law"), (0, u "(II)Z")] 2

def k1m0 : Method := { name := "<init>", desc := "()V", sig := { parameters := [], returnType := none }, accessFlags := 1, code := none }
def k1c1 : Code := { maxStack := 2, maxLocals := 2, code := method_2_code, exceptionTable := #[], attributes := #[] }
def k1m1 : Method := { name := "pick", desc := "(I)Lcom/example/casewright/casewright/types/Answer;", sig := { parameters := [.int], returnType := some (.object "com/example/casewright/casewright/types/Answer") }, accessFlags := 10, code := some k1c1 }
def k1c2 : Code := { maxStack := 2, maxLocals := 1, code := method_3_code, exceptionTable := #[], attributes := #[] }
def k1m2 : Method := { name := "rank", desc := "(Lcom/example/casewright/casewright/types/Answer;)I", sig := { parameters := [(.object "com/example/casewright/casewright/types/Answer")], returnType := some .int }, accessFlags := 10, code := some k1c2 }
def k1c3 : Code := { maxStack := 2, maxLocals := 6, code := code, exceptionTable := #[], attributes := #[] }
def k1m3 : Method := { name := "law", desc := "(II)Z", sig := { parameters := [.int, .int], returnType := some .boolean }, accessFlags := 9, code := some k1c3 }
/-- com/example/casewright/casewright/types/AnswerOrPinLaw -/
def k1 : Class := { plain "com/example/casewright/casewright/types/AnswerOrPinLaw" (some 0) with
  accessFlags := 49
  interfaces := #[]
  cf := some (fileOf pool1 21 #[] #[{ accessFlags := 1, nameIndex := 5, descriptorIndex := 6, attributes := #[] }, { accessFlags := 10, nameIndex := 24, descriptorIndex := 25, attributes := #[] }, { accessFlags := 10, nameIndex := 32, descriptorIndex := 33, attributes := #[] }, { accessFlags := 9, nameIndex := 43, descriptorIndex := 44, attributes := #[] }] 49 2 #[] #[])
  fields := #[]
  methods := #[k1m0, k1m1, k1m2, k1m3]
  instanceTypes := #[]
  staticTypes := #[]
  resolved := Array.replicate 47 none
  statics := none }

def pool2 : Array CpInfo := pool [(1, .class_ 2), (0, u "java/lang/constant/Constable"), (0, .class_ 4), (0, u "java/lang/Object")] 6

/-- java/lang/constant/Constable -/
def k2 : Class := { plain "java/lang/constant/Constable" (some 0) with
  accessFlags := 1537
  interfaces := #[]
  cf := some (fileOf pool2 1 #[] #[] 1537 3 #[] #[])
  fields := #[]
  methods := #[]
  instanceTypes := #[]
  staticTypes := #[]
  resolved := Array.replicate 11 none
  statics := none }

def pool3 : Array CpInfo := pool [(1, .class_ 2), (0, u "java/lang/Comparable"), (0, .class_ 4), (0, u "java/lang/Object")] 7

/-- java/lang/Comparable -/
def k3 : Class := { plain "java/lang/Comparable" (some 0) with
  accessFlags := 1537
  interfaces := #[]
  cf := some (fileOf pool3 1 #[] #[] 1537 3 #[] #[])
  fields := #[]
  methods := #[]
  instanceTypes := #[]
  staticTypes := #[]
  resolved := Array.replicate 12 none
  statics := none }

def pool4 : Array CpInfo := pool [(1, .class_ 2), (0, u "java/io/Serializable"), (0, .class_ 4), (0, u "java/lang/Object")] 2

/-- java/io/Serializable -/
def k4 : Class := { plain "java/io/Serializable" (some 0) with
  accessFlags := 1537
  interfaces := #[]
  cf := some (fileOf pool4 1 #[] #[] 1537 3 #[] #[])
  fields := #[]
  methods := #[]
  instanceTypes := #[]
  staticTypes := #[]
  resolved := Array.replicate 7 none
  statics := none }

def pool5 : Array CpInfo := pool [(2, .class_ 4), (1, u "java/lang/Enum"), (0, u "name"), (0, u "Ljava/lang/String;"), (2, u "ordinal"), (0, u "I"), (1, .class_ 14), (1, u "java/lang/Object"), (4, u "hash"), (86, .class_ 108), (1, u "java/lang/Enum$EnumDesc"), (2, .class_ 112), (0, u "java/lang/constant/Constable"), (0, .class_ 114), (0, u "java/lang/Comparable"), (0, .class_ 116), (0, u "java/io/Serializable")] 87

/-- java/lang/Enum -/
def k5 : Class := { plain "java/lang/Enum" (some 0) with
  accessFlags := 1057
  interfaces := #[2, 3, 4]
  cf := some (fileOf pool5 2 #[.nestMembers #[106]] #[] 1057 12 #[111, 113, 115] #[{ accessFlags := 18, nameIndex := 5, descriptorIndex := 6, attributes := #[] }, { accessFlags := 18, nameIndex := 9, descriptorIndex := 10, attributes := #[] }, { accessFlags := 2, nameIndex := 19, descriptorIndex := 10, attributes := #[] }])
  fields := #[{ name := "name", type := (.object "java/lang/String"), accessFlags := 18, slot := 0, constantValue := 0 }, { name := "ordinal", type := .int, accessFlags := 18, slot := 1, constantValue := 0 }, { name := "hash", type := .int, accessFlags := 2, slot := 2, constantValue := 0 }]
  methods := #[]
  instanceTypes := #[(.object "java/lang/String"), .int, .int]
  staticTypes := #[]
  resolved := Array.replicate 204 none
  statics := none }

def pool6 : Array CpInfo := pool [(1, .class_ 2), (0, u "com/example/casewright/casewright/types/Answer"), (0, .fieldref 1 4), (0, .nameAndType 5 6), (0, u "YES"), (0, u "Lcom/example/casewright/casewright/types/Answer;"), (0, .fieldref 1 8), (0, .nameAndType 9 6), (0, u "NO"), (0, .fieldref 1 11), (0, .nameAndType 12 6), (0, u "UNKNOWN"), (2, u "$VALUES"), (0, u "[Lcom/example/casewright/casewright/types/Answer;"), (6, .class_ 25), (1, u "java/lang/Enum"), (25, u "(Lcom/example/casewright/casewright/types/Answer;)Lcom/example/casewright/casewright/types/Answer;"), (0, u "or")] 6

def k6c0 : Code := { maxStack := 2, maxLocals := 3, code := prog_15_method_6_code, exceptionTable := #[], attributes := #[] }
def k6m0 : Method := { name := "or", desc := "(Lcom/example/casewright/casewright/types/Answer;)Lcom/example/casewright/casewright/types/Answer;", sig := { parameters := [(.object "com/example/casewright/casewright/types/Answer")], returnType := some (.object "com/example/casewright/casewright/types/Answer") }, accessFlags := 1, code := some k6c0 }
/-- com/example/casewright/casewright/types/Answer -/
def k6 : Class := { plain "com/example/casewright/casewright/types/Answer" (some 5) with
  accessFlags := 16433
  interfaces := #[]
  cf := some (fileOf pool6 1 #[] #[{ accessFlags := 1, nameIndex := 52, descriptorIndex := 51, attributes := #[] }] 16433 23 #[] #[{ accessFlags := 16409, nameIndex := 5, descriptorIndex := 6, attributes := #[] }, { accessFlags := 16409, nameIndex := 9, descriptorIndex := 6, attributes := #[] }, { accessFlags := 16409, nameIndex := 12, descriptorIndex := 6, attributes := #[] }, { accessFlags := 4122, nameIndex := 15, descriptorIndex := 16, attributes := #[] }])
  fields := #[{ name := "YES", type := (.object "com/example/casewright/casewright/types/Answer"), accessFlags := 16409, slot := 0, constantValue := 0 }, { name := "NO", type := (.object "com/example/casewright/casewright/types/Answer"), accessFlags := 16409, slot := 1, constantValue := 0 }, { name := "UNKNOWN", type := (.object "com/example/casewright/casewright/types/Answer"), accessFlags := 16409, slot := 2, constantValue := 0 }, { name := "$VALUES", type := (.array (.object "com/example/casewright/casewright/types/Answer")), accessFlags := 4122, slot := 3, constantValue := 0 }]
  methods := #[k6m0]
  instanceTypes := #[(.object "java/lang/String"), .int, .int]
  staticTypes := #[(.object "com/example/casewright/casewright/types/Answer"), (.object "com/example/casewright/casewright/types/Answer"), (.object "com/example/casewright/casewright/types/Answer"), (.array (.object "com/example/casewright/casewright/types/Answer"))]
  resolved := Array.replicate 59 none
  statics := some 0 }

def pool7 : Array CpInfo := pool [(1, .class_ 2), (0, u "java/lang/Math"), (1, .class_ 6), (1, u "java/lang/Object"), (0, u "<init>"), (0, u "()V"), (89, .class_ 100), (1, u "java/lang/Math$RandomNumberGeneratorHolder"), (71, u "negativeZeroFloatBits"), (0, u "J"), (2, u "negativeZeroDoubleBits"), (21, u "max"), (46, u "$assertionsDisabled"), (0, u "Z"), (88, u "(II)I"), (2, u "twoToTheDoubleScaleDown"), (0, u "D"), (4, u "twoToTheDoubleScaleUp"), (9, u "E"), (3, u "PI"), (2, u "TAU"), (2, u "DEGREES_TO_RADIANS"), (0, u "RADIANS_TO_DEGREES")] 94

def k7m0 : Method := { name := "<init>", desc := "()V", sig := { parameters := [], returnType := none }, accessFlags := 2, code := none }
def k7c1 : Code := { maxStack := 2, maxLocals := 2, code := jdk_29_method_65_code, exceptionTable := #[], attributes := #[] }
def k7m1 : Method := { name := "max", desc := "(II)I", sig := { parameters := [.int, .int], returnType := some .int }, accessFlags := 9, code := some k7c1 }
/-- java/lang/Math -/
def k7 : Class := { plain "java/lang/Math" (some 0) with
  accessFlags := 49
  interfaces := #[]
  cf := some (fileOf pool7 1 #[.nestMembers #[98]] #[{ accessFlags := 2, nameIndex := 7, descriptorIndex := 8, attributes := #[] }, { accessFlags := 9, nameIndex := 198, descriptorIndex := 335, attributes := #[] }] 49 4 #[] #[{ accessFlags := 25, nameIndex := 354, descriptorIndex := 339, attributes := #[] }, { accessFlags := 25, nameIndex := 358, descriptorIndex := 339, attributes := #[] }, { accessFlags := 25, nameIndex := 361, descriptorIndex := 339, attributes := #[] }, { accessFlags := 26, nameIndex := 364, descriptorIndex := 339, attributes := #[] }, { accessFlags := 26, nameIndex := 365, descriptorIndex := 339, attributes := #[] }, { accessFlags := 26, nameIndex := 172, descriptorIndex := 173, attributes := #[] }, { accessFlags := 26, nameIndex := 176, descriptorIndex := 173, attributes := #[] }, { accessFlags := 8, nameIndex := 344, descriptorIndex := 339, attributes := #[] }, { accessFlags := 8, nameIndex := 338, descriptorIndex := 339, attributes := #[] }, { accessFlags := 4120, nameIndex := 245, descriptorIndex := 246, attributes := #[] }])
  fields := #[{ name := "E", type := .double, accessFlags := 25, slot := 0, constantValue := 0 }, { name := "PI", type := .double, accessFlags := 25, slot := 1, constantValue := 0 }, { name := "TAU", type := .double, accessFlags := 25, slot := 2, constantValue := 0 }, { name := "DEGREES_TO_RADIANS", type := .double, accessFlags := 26, slot := 3, constantValue := 0 }, { name := "RADIANS_TO_DEGREES", type := .double, accessFlags := 26, slot := 4, constantValue := 0 }, { name := "negativeZeroFloatBits", type := .long, accessFlags := 26, slot := 5, constantValue := 0 }, { name := "negativeZeroDoubleBits", type := .long, accessFlags := 26, slot := 6, constantValue := 0 }, { name := "twoToTheDoubleScaleUp", type := .double, accessFlags := 8, slot := 7, constantValue := 0 }, { name := "twoToTheDoubleScaleDown", type := .double, accessFlags := 8, slot := 8, constantValue := 0 }, { name := "$assertionsDisabled", type := .boolean, accessFlags := 4120, slot := 9, constantValue := 0 }]
  methods := #[k7m0, k7m1]
  instanceTypes := #[]
  staticTypes := #[.double, .double, .double, .double, .double, .long, .long, .double, .double, .boolean]
  resolved := Array.replicate 460 none
  statics := none }

def pool8 : Array CpInfo := pool [(1, u "java/lang/Cloneable"), (0, .class_ 1), (0, u "java/lang/Object"), (0, .class_ 3)] 3

/-- java/lang/Cloneable -/
def k8 : Class := { plain "java/lang/Cloneable" (some 0) with
  accessFlags := 1537
  interfaces := #[]
  cf := some (fileOf pool8 2 #[] #[] 1537 4 #[] #[])
  fields := #[]
  methods := #[]
  instanceTypes := #[]
  staticTypes := #[]
  resolved := Array.replicate 8 none
  statics := none }

/-- the primitive byte -/
def k9 : Class := { plain "byte" none with kind := .primitive 'B', accessFlags := 0x411 }
/-- [B -/
def k10 : Class := { plain "[B" (some 0) with kind := .array 9 .byte, interfaces := #[8, 4], accessFlags := 1041 }

/-- the primitive int -/
def k11 : Class := { plain "int" none with kind := .primitive 'I', accessFlags := 0x411 }
/-- [I -/
def k12 : Class := { plain "[I" (some 0) with kind := .array 11 .int, interfaces := #[8, 4], accessFlags := 1041 }

def heap : Heap := #[{ cls := 6, slots := #[.ref 2, .ref 1, .ref 3, .null], vm := .statics 6 },
  { cls := 6, slots := #[.null, .int 1, .int 0], vm := .none },
  { cls := 6, slots := #[.null, .int 0, .int 0], vm := .none },
  { cls := 6, slots := #[.null, .int 2, .int 0], vm := .none }]
def classes : Array Class := #[k0, k1, k2, k3, k4, k5, k6, k7, k8, k9, k10, k11, k12]
def interned : List (Array UInt16 × Addr) := []
def slotsUsed : Nat := 13
def theMethod : MethodId := ⟨1, 3⟩
def args0 : Array Value := #[.int 5, .int 3]
def aboutOver (below : List Frame) : State where
  vm := { classes := classes, interned := interned.toArray }
  heap := heap
  slotsUsed := slotsUsed
  threads := #[{ frames := .invoking theMethod args0 :: below }]
def below0 : List Frame := [.native { method := ⟨0, 0⟩, args := #[] }]
def about1 : State := aboutOver below0
def p0 : Program := .bare "" "" ""
def e0 : Env := launch0.env 0 0 0
theorem w_frames : about1.frames = Frame.invoking theMethod args0 :: below0 := rfl
set_option maxRecDepth 65536 in
theorem w_args : argsFit about1.vm theMethod args0 = true := by decide +kernel
set_option maxRecDepth 65536 in
theorem w_heap : heapFits about1 = true := by decide +kernel
set_option maxRecDepth 65536 in
theorem w_runnable : about1.curStatus? = some .runnable := by decide +kernel
set_option maxRecDepth 65536 in
theorem w_alone : about1.alone = true := by decide +kernel
set_option maxRecDepth 65536 in
theorem w_named : about1.methodNamed? x = some theMethod := by decide +kernel
set_option maxRecDepth 65536 in
theorem w_hears : about1.hears theMethod below0 = true := by decide +kernel
set_option maxRecDepth 65536 in
theorem w_ripe : about1.ripe theMethod args0 below0 = true := by decide +kernel
theorem w_running : about1.status = .running := rfl
set_option maxRecDepth 65536 in
theorem w_room : about1.hasRoom e0.platform room_1 = true :=
  launch0.hasRoom_least _ room_1 (by decide +kernel) (by decide +kernel) (by decide +kernel) (by decide +kernel) (by decide +kernel) (by decide +kernel)
theorem allAtoms_all (ts : List Jvm.Cond) (a : Array Jvm.Value) (st : Jvm.State) : (allAtoms ts).before a st = ts.all (fun c => c.before a st) := by
  induction ts with
  | nil => rfl
  | cons c t ih =>
    show (Jvm.Cond.and c (allAtoms t)).before a st = _
    rw [Jvm.Cond.before_and, ih, List.all_cons]
def words1 : List Jvm.Cond := Jvm.Cond.code x code maxLocals ret :: tables_1
/-- a 'code' word, met by the world's own term for the bytes: nothing is compared byte by byte -/
theorem code_word {y : MethodName} {bytes : ByteArray} {mx : Nat} {rt : Option FieldType} {a : Array Value} {s : State} {m : MethodId} {meth : Method} {c : Code} (h1 : s.methodNamed? y = some m) (h2 : s.vm.method? m = some meth) (h3 : meth.code = some c) (h4 : c.code = bytes)
    (h5 : (c.maxLocals == mx && c.exceptionTable.isEmpty && decide (c.maxStack ≤ mostOperands) && decide (meth.sig.returnType = rt) && !meth.locks && decide (parseMethodDescriptor y.desc = some meth.sig)) = true) : (Jvm.Cond.code y bytes mx rt).before a s = true := by
  simp only [Bool.and_eq_true, beq_iff_eq, Bool.not_eq_true', decide_eq_true_eq] at h5
  obtain ⟨⟨⟨⟨⟨g1, g2⟩, g3⟩, g4⟩, g5⟩, g6⟩ := h5
  simp [Cond.before, Cond.holds, Cond.value, h1, h2, h3, h4, g1, g2, g3, g4, g5, g6]
def isCode : Jvm.Cond → Bool
  | .code _ _ _ _ => true
  | _ => false
theorem all_split {L : List Jvm.Cond} {P : Jvm.Cond → Bool} (h1 : L.all (fun c => isCode c || P c) = true) (h2 : ∀ c ∈ L.filter isCode, P c = true) : L.all P = true := by
  refine List.all_eq_true.mpr fun c hc => ?_
  have h := List.all_eq_true.mp h1 c hc
  rcases Bool.eq_false_or_eq_true (isCode c) with hi | hi
  · exact h2 c (List.mem_filter.mpr ⟨hc, hi⟩)
  · simpa [hi] using h
set_option maxRecDepth 65536 in
theorem w_c0 : (Jvm.Cond.code x code maxLocals ret).before args0 about1 = true := code_word (m := ⟨1, 3⟩) (meth := k1m3) (c := k1c3) (by decide +kernel) rfl rfl rfl (by decide +kernel)
set_option maxRecDepth 65536 in
theorem w_c1 : (Jvm.Cond.code ({ cls := "com/example/casewright/casewright/types/AnswerOrPinLaw", name := "pick", desc := "(I)Lcom/example/casewright/casewright/types/Answer;" } : Jvm.MethodName) method_2_code (2 : Nat) (Option.some (Jvm.ClassFile.FieldType.object "com/example/casewright/casewright/types/Answer"))).before args0 about1 = true := code_word (m := ⟨1, 1⟩) (meth := k1m1) (c := k1c1) (by decide +kernel) rfl rfl rfl (by decide +kernel)
set_option maxRecDepth 65536 in
theorem w_c2 : (Jvm.Cond.code ({ cls := "com/example/casewright/casewright/types/Answer", name := "or", desc := "(Lcom/example/casewright/casewright/types/Answer;)Lcom/example/casewright/casewright/types/Answer;" } : Jvm.MethodName) prog_15_method_6_code (3 : Nat) (Option.some (Jvm.ClassFile.FieldType.object "com/example/casewright/casewright/types/Answer"))).before args0 about1 = true := code_word (m := ⟨6, 0⟩) (meth := k6m0) (c := k6c0) (by decide +kernel) rfl rfl rfl (by decide +kernel)
set_option maxRecDepth 65536 in
theorem w_c3 : (Jvm.Cond.code ({ cls := "com/example/casewright/casewright/types/AnswerOrPinLaw", name := "rank", desc := "(Lcom/example/casewright/casewright/types/Answer;)I" } : Jvm.MethodName) method_3_code (1 : Nat) (Option.some Jvm.ClassFile.FieldType.int)).before args0 about1 = true := code_word (m := ⟨1, 2⟩) (meth := k1m2) (c := k1c2) (by decide +kernel) rfl rfl rfl (by decide +kernel)
set_option maxRecDepth 65536 in
theorem w_c4 : (Jvm.Cond.code ({ cls := "java/lang/Math", name := "max", desc := "(II)I" } : Jvm.MethodName) jdk_29_method_65_code (2 : Nat) (Option.some Jvm.ClassFile.FieldType.int)).before args0 about1 = true := code_word (m := ⟨7, 1⟩) (meth := k7m1) (c := k7c1) (by decide +kernel) rfl rfl rfl (by decide +kernel)
def codes1 : List Jvm.Cond := [Jvm.Cond.code x code maxLocals ret, Jvm.Cond.code ({ cls := "com/example/casewright/casewright/types/AnswerOrPinLaw", name := "pick", desc := "(I)Lcom/example/casewright/casewright/types/Answer;" } : Jvm.MethodName) method_2_code (2 : Nat) (Option.some (Jvm.ClassFile.FieldType.object "com/example/casewright/casewright/types/Answer")), Jvm.Cond.code ({ cls := "com/example/casewright/casewright/types/Answer", name := "or", desc := "(Lcom/example/casewright/casewright/types/Answer;)Lcom/example/casewright/casewright/types/Answer;" } : Jvm.MethodName) prog_15_method_6_code (3 : Nat) (Option.some (Jvm.ClassFile.FieldType.object "com/example/casewright/casewright/types/Answer")), Jvm.Cond.code ({ cls := "com/example/casewright/casewright/types/AnswerOrPinLaw", name := "rank", desc := "(Lcom/example/casewright/casewright/types/Answer;)I" } : Jvm.MethodName) method_3_code (1 : Nat) (Option.some Jvm.ClassFile.FieldType.int), Jvm.Cond.code ({ cls := "java/lang/Math", name := "max", desc := "(II)I" } : Jvm.MethodName) jdk_29_method_65_code (2 : Nat) (Option.some Jvm.ClassFile.FieldType.int)]
set_option maxRecDepth 65536 in
theorem codes_eq : words1.filter isCode = codes1 := rfl
theorem w_codes : ∀ c ∈ words1.filter isCode, c.before args0 about1 = true := by
  rw [codes_eq]
  intro c hc
  simp only [codes1, List.mem_cons, List.not_mem_nil, or_false] at hc
  rcases hc with rfl | rfl | rfl | rfl | rfl
  · exact w_c0
  · exact w_c1
  · exact w_c2
  · exact w_c3
  · exact w_c4
set_option maxRecDepth 65536 in
theorem w_t1 : (words1.take 24).all (fun c => isCode c || c.before args0 about1) = true := by decide +kernel
set_option maxRecDepth 65536 in
theorem w_t2 : (words1.drop 24).all (fun c => isCode c || c.before args0 about1) = true := by decide +kernel
theorem w_tables : (allAtoms (Jvm.Cond.code x code maxLocals ret :: tables_1)).before args0 about1 = true := by
  rw [allAtoms_all]
  show words1.all (fun c => c.before args0 about1) = true
  refine all_split ?_ w_codes
  rw [← List.take_append_drop 24 words1, List.all_append, w_t1, w_t2]
  rfl
set_option maxRecDepth 65536 in
theorem w_case : (Jvm.Cond.and given_1 narrow_1).before args0 about1 = true := by decide +kernel
theorem w_applies : (headSpec (Jvm.Cond.code x code maxLocals ret :: tables_1) room_1).applies x e0.platform about1 = true :=
  (Spec.applies_iff w_frames).mpr ⟨w_running, w_runnable, w_alone, w_named, w_hears, w_ripe, w_room, w_tables⟩
theorem atStart : AtStart classFile x code maxLocals ret World_1 tables_1 room_1 Calls_1 rest_1 Pre_1 launch0 p0 e0 about1 theMethod args0 below0 :=
  ⟨lists_1, trivial, launch0.admits_env _ _ _, launch0.least_env, fairChoices_fair.cas, fairChoices_fair.clock, w_frames, w_args, w_heap, w_applies, trivial, trivial, w_case⟩
end start1
theorem witness_1 : WitnessClaimed_1 := ⟨start1.p0, start1.e0, start1.about1, start1.theMethod, start1.args0, start1.below0, start1.atStart⟩
end Jvm.Pilot.@@N@@
