import JvmDerived
import JvmDerived.Pilot.@@N@@Statement
import JvmDerived.Pilot.@@N@@Code
set_option linter.unusedVariables false
set_option linter.unusedSimpArgs false
namespace Jvm.Pilot.@@N@@
open Jvm Jvm.ClassFile Sem Op Lib Jvm.Free Jvm.Stand Jvm.LawKit Jvm.RoadKit Bundle Jvm.Pilot.@@N@@.Jvm.D
def Go (tb : Tables) (e : Env) (below : List Frame) (P : State → Outcome → Prop) (T : State) : Prop := ∃ s₂ o, Steps tb e below T s₂ ∧ P s₂ o
theorem own_go {tb : Tables} {e : Env} {below : List Frame} {P : State → Outcome → Prop} {T T' : State} (h : ∀ t, Steps tb e below T' t → Steps tb e below T t) (k : Go tb e below P T') : Go tb e below P T := by
  obtain ⟨a, b, c, d⟩ := k
  exact ⟨a, b, h a c, d⟩
def Fin (s : State) (below : List Frame) (Q : Option Value → Heap → List Loc → Prop) (cc ss : Nat) (s₂ : State) (o : Outcome) : Prop := s₂.status = .running ∧ Ended s₂ below o ∧ ∃ v L, o = .returned v ∧ Q v s₂.heap L ∧ FrameEnd s o s₂ L cc ss
def PQ (w : Value) (h0 : Heap) (n0 : Nat) (v : Option Value) (h : Heap) (L : List Loc) : Prop := v = some w ∧ Fr n0 L ∧ h = h0
theorem own_ret {p : Program} {l : Launch} {e : Env} {R : Room} {s : State} {m : MethodId} {args : Array Value} {below : List Frame} {meth : Method} {c : Code} {T : State} {locs : List Loc} {cells slots : Nat} (X : Stand p l e R s m args below meth c T locs cells slots) (hx : p.tables.exec = Jvm.exec) (hlk : meth.locks = false)
    {pc : Nat} {Ls : Array Slot} {w : Value} {t : FieldType} {i : Instr} {rest : List Value} (hret : meth.sig.returnType = some t) (hn : narrow t w = w)
    (hi : (i = .ireturn ∧ (t = .int ∨ t = .boolean ∨ t = .byte ∨ t = .char ∨ t = .short) ∧ ∃ z, w = .int z) ∨ (i = .lreturn ∧ t = .long ∧ ∃ z, w = .long z) ∨ (i = .dreturn ∧ t = .double ∧ ∃ z, w = .double z) ∨ (i = .freturn ∧ t = .float ∧ ∃ z, w = .float z) ∨ (i = .areturn ∧ t.isReference = true ∧ w.isRef = true))
    (hd : decode c.code pc = .ok (i, 1)) {Q : Option Value → Heap → List Loc → Prop} (hQ : Q (some w) T.heap locs) {cc ss : Nat} (hc : cells ≤ cc) (hs : slots ≤ ss) :
    Go p.tables e below (Fin s below Q cc ss) (T.setTop (mkF m pc Ls (w :: rest))) := by
  obtain ⟨fs, hr, hrun, hended, hW, hsame⟩ := X.leave (v := some w) (fun h => by rw [hret] at h; cases h) hlk
  exact ⟨_, _, retOut X hx hret hn hi hd hr, hrun, hended, _, _, rfl, hQ, ⟨_, rfl⟩, hW, hsame.mono hc hs⟩
theorem own_fld {Z : State} {args : Array Value} {t : Term} {a : Addr} {C n d : String} {k : Int32} (ev : t.eval args Z none [] Z = some (.ref a)) (h : (Jvm.Cond.eq (.field t C n d) (.int k)).value args Z none Z [] = some true) : Fld Z Z.heap a C n d (.int k) := by
  have e1 : (Term.field t C n d).eval args Z none [] Z = Z.fieldOf? a C n d := fld_at ev
  obtain ⟨x, y, h1, h2, h3, h4⟩ := cmp_v (Or.inl h)
  have e2 : (Term.int k).eval args Z none [] Z = some (.int k) := Term.int_eval k
  cases e2.symm.trans h2
  obtain ⟨z, rfl⟩ := h4
  have q := gotT (u := (Jvm.Cond.eq (.field t C n d) (.int k)).value args Z none Z []) (P := z = k) (by simp [Cond.value, h1, e2]) h
  subst q
  exact Fld.start (e1 ▸ h1)
theorem own_ne {Z : State} {h : Heap} {a b : Addr} {C n d : String} {v w : Value} (F : Fld Z h a C n d v) (G : Fld Z h b C n d w) (hn : v ≠ w) : a ≠ b := by
  rintro rfl
  obtain ⟨c1, cf1, k1, i1, f1, a1, a2, a3, a4, a5, a6, a7⟩ := F
  obtain ⟨c2, cf2, k2, i2, f2, b1, b2, b3, b4, b5, b6, b7⟩ := G
  cases a1.symm.trans b1
  cases a2.symm.trans b2
  exact hn (Option.some.inj (a7.symm.trans b7))
theorem own_len {Z : State} {args : Array Value} {t : Term} {a : Addr} {cl : Cell} {ty : FieldType} {k : Int32} (ev : t.eval args Z none [] Z = some (.ref a)) (Ar : Arr Z Z.heap a cl ty) (h : (Jvm.Cond.eq (.length t) (.int k)).value args Z none Z [] = some true) : cl.slots.size = k.toInt.toNat ∧ cl.slots.size.toInt32 = k := by
  have ha := Arr.fin (Vm.Alike.refl _) Ar
  obtain ⟨x, y, h1, h2, h3, h4⟩ := cmp_v (Or.inl h)
  have e2 : (Term.int k).eval args Z none [] Z = some (.int k) := Term.int_eval k
  by_cases hl : cl.slots.size < 2 ^ 31
  · have e := len_f ev ha hl
    have q := gotT (u := (Jvm.Cond.eq (.length t) (.int k)).value args Z none Z []) (P := cl.slots.size.toInt32 = k) (by simp [Cond.value, e, e2]) h
    refine ⟨?_, q⟩
    rw [← q, len_toInt hl]
    rfl
  · simp [Term.eval, ev, ha, hl] at h1
theorem own_at {Z : State} {args : Array Value} {t t2 : Term} {a b : Addr} {cl : Cell} {ty : FieldType} {j : Int32} (ev : t.eval args Z none [] Z = some (.ref a)) (Ar : Arr Z Z.heap a cl ty) (ev2 : t2.eval args Z none [] Z = some (.ref b)) (h : (Jvm.Cond.eq (.elem t (.int j)) t2).value args Z none Z [] = some true) : ¬ (j < 0 ∨ cl.slots.size ≤ j.toNatClampNeg) ∧ cl.slots[j.toNatClampNeg]? = some (.ref b) := by
  obtain ⟨x, y, h1, h2, h3, h4⟩ := cmp_v (Or.inl h)
  cases ev2.symm.trans h2
  have h5 : x.isRef = true := h4.2
  have q := gotT (eq_R h1 h2 h5 rfl) h
  subst q
  exact elem_in h1 ev (Term.int_eval j) Ar.1
theorem own_lt {x k : Int32} {n : Int} (hk : k.toInt = n) : x < k ↔ x.toInt < n := by rw [Int32.lt_iff_toInt_lt, hk]
theorem own_gt {x k : Int32} {n : Int} (hk : k.toInt = n) : k < x ↔ n < x.toInt := by rw [Int32.lt_iff_toInt_lt, hk]
theorem own_eq {x k : Int32} {n : Int} (hk : k.toInt = n) : x = k ↔ x.toInt = n := by rw [← Int32.toInt_inj, hk]
def own_S (Z : State) (h0 : Heap) (w_LONG w_FLOAT w_BYTE w_CHAR w_DOUBLE w_INT w_BOOLEAN w_SHORT : Addr) : Prop := Sta Z h0 "com/example/classlens/classlens/ArrayType" "LONG" "Lcom/example/classlens/classlens/ArrayType;" (.ref w_LONG) ∧ Sta Z h0 "com/example/classlens/classlens/ArrayType" "FLOAT" "Lcom/example/classlens/classlens/ArrayType;" (.ref w_FLOAT) ∧ Sta Z h0 "com/example/classlens/classlens/ArrayType" "BYTE" "Lcom/example/classlens/classlens/ArrayType;" (.ref w_BYTE) ∧ Sta Z h0 "com/example/classlens/classlens/ArrayType" "CHAR" "Lcom/example/classlens/classlens/ArrayType;" (.ref w_CHAR) ∧ Sta Z h0 "com/example/classlens/classlens/ArrayType" "DOUBLE" "Lcom/example/classlens/classlens/ArrayType;" (.ref w_DOUBLE) ∧ Sta Z h0 "com/example/classlens/classlens/ArrayType" "INT" "Lcom/example/classlens/classlens/ArrayType;" (.ref w_INT) ∧ Sta Z h0 "com/example/classlens/classlens/ArrayType" "BOOLEAN" "Lcom/example/classlens/classlens/ArrayType;" (.ref w_BOOLEAN) ∧ Sta Z h0 "com/example/classlens/classlens/ArrayType" "SHORT" "Lcom/example/classlens/classlens/ArrayType;" (.ref w_SHORT)
def own_E (Z : State) (h0 : Heap) (w_LONG w_FLOAT w_BYTE w_CHAR w_DOUBLE w_INT w_BOOLEAN w_SHORT : Addr) : Prop := Exa Z h0 w_LONG "com/example/classlens/classlens/ArrayType" ∧ Exa Z h0 w_FLOAT "com/example/classlens/classlens/ArrayType" ∧ Exa Z h0 w_BYTE "com/example/classlens/classlens/ArrayType" ∧ Exa Z h0 w_CHAR "com/example/classlens/classlens/ArrayType" ∧ Exa Z h0 w_DOUBLE "com/example/classlens/classlens/ArrayType" ∧ Exa Z h0 w_INT "com/example/classlens/classlens/ArrayType" ∧ Exa Z h0 w_BOOLEAN "com/example/classlens/classlens/ArrayType" ∧ Exa Z h0 w_SHORT "com/example/classlens/classlens/ArrayType"
def own_exp (a0 a1 a2 a3 a4 a5 a6 a7 : Addr) (i : Int32) : Value := if i = 4 then .ref a0 else if i = 5 then .ref a1 else if i = 6 then .ref a2 else if i = 7 then .ref a3 else if i = 8 then .ref a4 else if i = 9 then .ref a5 else if i = 10 then .ref a6 else if i = 11 then .ref a7 else .null
theorem own_exp_ref (a0 a1 a2 a3 a4 a5 a6 a7 : Addr) (i : Int32) : (own_exp a0 a1 a2 a3 a4 a5 a6 a7 i).isRef = true := by unfold own_exp; (repeat' split) <;> rfl
theorem d2_0 : decode method_2_code 0 = .ok (.iload_n 0, 1) := by decide +kernel
theorem d2_1 : decode method_2_code 1 = .ok (.iconst 4, 1) := by decide +kernel
theorem d2_2 : decode method_2_code 2 = .ok (.if_icmp .ne 7, 3) := by decide +kernel
theorem d2_5 : decode method_2_code 5 = .ok (.getstatic 7, 3) := by decide +kernel
theorem d2_8 : decode method_2_code 8 = .ok (.areturn, 1) := by decide +kernel
theorem d2_9 : decode method_2_code 9 = .ok (.iload_n 0, 1) := by decide +kernel
theorem d2_10 : decode method_2_code 10 = .ok (.iconst 5, 1) := by decide +kernel
theorem d2_11 : decode method_2_code 11 = .ok (.if_icmp .ne 7, 3) := by decide +kernel
theorem d2_14 : decode method_2_code 14 = .ok (.getstatic 13, 3) := by decide +kernel
theorem d2_17 : decode method_2_code 17 = .ok (.areturn, 1) := by decide +kernel
theorem d2_18 : decode method_2_code 18 = .ok (.iload_n 0, 1) := by decide +kernel
theorem d2_19 : decode method_2_code 19 = .ok (.bipush 6, 2) := by decide +kernel
theorem d2_21 : decode method_2_code 21 = .ok (.if_icmp .ne 7, 3) := by decide +kernel
theorem d2_24 : decode method_2_code 24 = .ok (.getstatic 16, 3) := by decide +kernel
theorem d2_27 : decode method_2_code 27 = .ok (.areturn, 1) := by decide +kernel
theorem d2_28 : decode method_2_code 28 = .ok (.iload_n 0, 1) := by decide +kernel
theorem d2_29 : decode method_2_code 29 = .ok (.bipush 7, 2) := by decide +kernel
theorem d2_31 : decode method_2_code 31 = .ok (.if_icmp .ne 7, 3) := by decide +kernel
theorem d2_34 : decode method_2_code 34 = .ok (.getstatic 19, 3) := by decide +kernel
theorem d2_37 : decode method_2_code 37 = .ok (.areturn, 1) := by decide +kernel
theorem d2_38 : decode method_2_code 38 = .ok (.iload_n 0, 1) := by decide +kernel
theorem d2_39 : decode method_2_code 39 = .ok (.bipush 8, 2) := by decide +kernel
theorem d2_41 : decode method_2_code 41 = .ok (.if_icmp .ne 7, 3) := by decide +kernel
theorem d2_44 : decode method_2_code 44 = .ok (.getstatic 22, 3) := by decide +kernel
theorem d2_47 : decode method_2_code 47 = .ok (.areturn, 1) := by decide +kernel
theorem d2_48 : decode method_2_code 48 = .ok (.iload_n 0, 1) := by decide +kernel
theorem d2_49 : decode method_2_code 49 = .ok (.bipush 9, 2) := by decide +kernel
theorem d2_51 : decode method_2_code 51 = .ok (.if_icmp .ne 7, 3) := by decide +kernel
theorem d2_54 : decode method_2_code 54 = .ok (.getstatic 25, 3) := by decide +kernel
theorem d2_57 : decode method_2_code 57 = .ok (.areturn, 1) := by decide +kernel
theorem d2_58 : decode method_2_code 58 = .ok (.iload_n 0, 1) := by decide +kernel
theorem d2_59 : decode method_2_code 59 = .ok (.bipush 10, 2) := by decide +kernel
theorem d2_61 : decode method_2_code 61 = .ok (.if_icmp .ne 7, 3) := by decide +kernel
theorem d2_64 : decode method_2_code 64 = .ok (.getstatic 28, 3) := by decide +kernel
theorem d2_67 : decode method_2_code 67 = .ok (.areturn, 1) := by decide +kernel
theorem d2_68 : decode method_2_code 68 = .ok (.iload_n 0, 1) := by decide +kernel
theorem d2_69 : decode method_2_code 69 = .ok (.bipush 11, 2) := by decide +kernel
theorem d2_71 : decode method_2_code 71 = .ok (.if_icmp .ne 7, 3) := by decide +kernel
theorem d2_74 : decode method_2_code 74 = .ok (.getstatic 31, 3) := by decide +kernel
theorem d2_77 : decode method_2_code 77 = .ok (.areturn, 1) := by decide +kernel
theorem d2_78 : decode method_2_code 78 = .ok (.aconst_null, 1) := by decide +kernel
theorem d2_79 : decode method_2_code 79 = .ok (.areturn, 1) := by decide +kernel
theorem pn_0 : plainName "com/example/classlens/classlens/ArrayTypeOfPinLaw" = true := by first | (simp [plainName, overriddenIn]; done) | decide +kernel
theorem ef_rm_exp (m : MethodId) (x0 : Int32) : entryFrame m #[(.int x0)] 1 = mkF m 0 #[.val (.int x0)] [] := by first | (simp [entryFrame, mkF, argsToLocals, Value.category]; done) | rfl
set_option maxRecDepth 65536 in
set_option maxHeartbeats 40000000 in
theorem rm_exp (l : Launch) (Z : State) (a0 : Array Value) (hw : ∀ d ∈ tables_1, d.before a0 Z = true) (ws : List Jvm.Cond) (p1 : Int32) (w_LONG w_FLOAT w_BYTE w_CHAR w_DOUBLE w_INT w_BOOLEAN w_SHORT : Addr) (h0 : Heap) (n0 : Nat) (SS : own_S Z h0 w_LONG w_FLOAT w_BYTE w_CHAR w_DOUBLE w_INT w_BOOLEAN w_SHORT) :
    MetFree l (⟨"com/example/classlens/classlens/ArrayTypeOfPinLaw", "expected", "(I)Lcom/example/classlens/classlens/ArrayType;"⟩ : MethodName) (head1 (Jvm.Cond.code (⟨"com/example/classlens/classlens/ArrayTypeOfPinLaw", "expected", "(I)Lcom/example/classlens/classlens/ArrayType;"⟩ : MethodName) method_2_code 1 (some (.object "com/example/classlens/classlens/ArrayType")) :: ws) ({ frames := 0, cells := 0, slots := 0, locals := 0 } : Room)) (fun aa U => aa = #[(.int p1)] ∧ Z.Warmed39 U.vm ∧ U.heap = h0) (fun _ _ _ _ _ => True) (fun _ U o U' => ∃ v L, o = .returned v ∧ PQ (own_exp w_BOOLEAN w_CHAR w_FLOAT w_DOUBLE w_BYTE w_SHORT w_INT w_LONG p1) h0 n0 v U'.heap L ∧ FrameEnd U o U' L ({ frames := 0, cells := 0, slots := 0, locals := 0 } : Room).cells ({ frames := 0, cells := 0, slots := 0, locals := 0 } : Room).slots) := by
  refine MetFree.of_bodySF (plainFor_of_name pn_0) hisR ?_
  intro p e s m args below meth c s₁ Bd hml0 hP hK
  obtain ⟨rfl, hZ, hh⟩ := hP
  have hx := Bd.exec
  have hby := Bd.bytes
  have hlk := Bd.notSynchronized
  have hml : c.maxLocals = 1 := hml0
  have hown : s.vm.findClass "com/example/classlens/classlens/ArrayTypeOfPinLaw" = some m.cls := findClass_of_methodNamed Bd.named
  have X0 : Stand p l e ({ frames := 0, cells := 0, slots := 0, locals := 0 } : Room) s m #[(.int p1)] below meth c s₁ [] 0 0 := Stand.of_body Bd
  have e0 : s₁.heap = h0 := by rw [← hh, Bd.state]; rfl
  have N0 := Fr.nil n0
  obtain ⟨S_LONG, S_FLOAT, S_BYTE, S_CHAR, S_DOUBLE, S_INT, S_BOOLEAN, S_SHORT⟩ := SS
  show Go p.tables e below (Fin s below (PQ (own_exp w_BOOLEAN w_CHAR w_FLOAT w_DOUBLE w_BYTE w_SHORT w_INT w_LONG p1) h0 n0) ({ frames := 0, cells := 0, slots := 0, locals := 0 } : Room).cells ({ frames := 0, cells := 0, slots := 0, locals := 0 } : Room).slots) (s₁.setTop (entryFrame m #[(.int p1)] 1))
  refine own_go (fun t k => castTop (ef_rm_exp m p1) k) ?_
  show Go p.tables e below _ (s₁.setTop (mkF m 0 #[.val (.int p1)] []))
  refine own_go (fun t k => XS.iloadN X0.here hx rfl (hb hby d2_0) rfl k) ?_
  show Go p.tables e below _ (s₁.setTop (mkF m 1 #[.val (.int p1)] [(.int p1)]))
  refine own_go (fun t k => XS.iconst X0.here hx rfl (hb hby d2_1) k) ?_
  show Go p.tables e below _ (s₁.setTop (mkF m 2 #[.val (.int p1)] [(.int (4 : Int32)), (.int p1)]))
  by_cases hc1 : p1 = (4 : Int32)
  · refine own_go (fun t k => XS.icmpNo X0.here hx rfl (hb hby d2_2) rfl (XT.ii_ne_f hc1) k) ?_
    show Go p.tables e below _ (s₁.setTop (mkF m 5 #[.val (.int p1)] []))
    obtain ⟨T2, X2, e2, st2⟩ := getS2 X0 hx hZ hown (host := "") (Or.inl (hw _ (List.mem_of_getElem? (i := 23) rfl))) Via.refl e0 S_BOOLEAN (g := (mkF m 5 #[.val (.int p1)] [])) rfl (hb hby d2_5)
    refine own_go (fun t k => st2 t k) ?_
    show Go p.tables e below _ (T2.setTop (mkF m 8 #[.val (.int p1)] [(.ref w_BOOLEAN)]))
    exact own_ret X2 hx hlk Bd.returns rfl (Or.inr (Or.inr (Or.inr (Or.inr ⟨rfl, rfl, rfl⟩)))) (hb hby d2_8) ⟨by first | (simp [own_exp, hc1]; done) | rw [own_exp, if_pos hc1], N0, e2⟩ (by decide) (by decide)
  · refine own_go (fun t k => XS.icmpYes X0.here hx rfl (pc0 := 2) (pc' := 9) rfl (hb hby d2_2) rfl (XT.ii_ne_t hc1) (by decide) (by decide) k) ?_
    show Go p.tables e below _ (s₁.setTop (mkF m 9 #[.val (.int p1)] []))
    refine own_go (fun t k => XS.iloadN X0.here hx rfl (hb hby d2_9) rfl k) ?_
    show Go p.tables e below _ (s₁.setTop (mkF m 10 #[.val (.int p1)] [(.int p1)]))
    refine own_go (fun t k => XS.iconst X0.here hx rfl (hb hby d2_10) k) ?_
    show Go p.tables e below _ (s₁.setTop (mkF m 11 #[.val (.int p1)] [(.int (5 : Int32)), (.int p1)]))
    by_cases hc3 : p1 = (5 : Int32)
    · refine own_go (fun t k => XS.icmpNo X0.here hx rfl (hb hby d2_11) rfl (XT.ii_ne_f hc3) k) ?_
      show Go p.tables e below _ (s₁.setTop (mkF m 14 #[.val (.int p1)] []))
      obtain ⟨T4, X4, e4, st4⟩ := getS2 X0 hx hZ hown (host := "") (Or.inl (hw _ (List.mem_of_getElem? (i := 17) rfl))) Via.refl e0 S_CHAR (g := (mkF m 14 #[.val (.int p1)] [])) rfl (hb hby d2_14)
      refine own_go (fun t k => st4 t k) ?_
      show Go p.tables e below _ (T4.setTop (mkF m 17 #[.val (.int p1)] [(.ref w_CHAR)]))
      exact own_ret X4 hx hlk Bd.returns rfl (Or.inr (Or.inr (Or.inr (Or.inr ⟨rfl, rfl, rfl⟩)))) (hb hby d2_17) ⟨by first | (simp [own_exp, hc1, hc3]; done) | rw [own_exp, if_neg hc1, if_pos hc3], N0, e4⟩ (by decide) (by decide)
    · refine own_go (fun t k => XS.icmpYes X0.here hx rfl (pc0 := 11) (pc' := 18) rfl (hb hby d2_11) rfl (XT.ii_ne_t hc3) (by decide) (by decide) k) ?_
      show Go p.tables e below _ (s₁.setTop (mkF m 18 #[.val (.int p1)] []))
      refine own_go (fun t k => XS.iloadN X0.here hx rfl (hb hby d2_18) rfl k) ?_
      show Go p.tables e below _ (s₁.setTop (mkF m 19 #[.val (.int p1)] [(.int p1)]))
      refine own_go (fun t k => XS.bipush X0.here hx rfl (hb hby d2_19) k) ?_
      show Go p.tables e below _ (s₁.setTop (mkF m 21 #[.val (.int p1)] [(.int (6 : Int32)), (.int p1)]))
      by_cases hc5 : p1 = (6 : Int32)
      · refine own_go (fun t k => XS.icmpNo X0.here hx rfl (hb hby d2_21) rfl (XT.ii_ne_f hc5) k) ?_
        show Go p.tables e below _ (s₁.setTop (mkF m 24 #[.val (.int p1)] []))
        obtain ⟨T6, X6, e6, st6⟩ := getS2 X0 hx hZ hown (host := "") (Or.inl (hw _ (List.mem_of_getElem? (i := 13) rfl))) Via.refl e0 S_FLOAT (g := (mkF m 24 #[.val (.int p1)] [])) rfl (hb hby d2_24)
        refine own_go (fun t k => st6 t k) ?_
        show Go p.tables e below _ (T6.setTop (mkF m 27 #[.val (.int p1)] [(.ref w_FLOAT)]))
        exact own_ret X6 hx hlk Bd.returns rfl (Or.inr (Or.inr (Or.inr (Or.inr ⟨rfl, rfl, rfl⟩)))) (hb hby d2_27) ⟨by first | (simp [own_exp, hc1, hc3, hc5]; done) | rw [own_exp, if_neg hc1, if_neg hc3, if_pos hc5], N0, e6⟩ (by decide) (by decide)
      · refine own_go (fun t k => XS.icmpYes X0.here hx rfl (pc0 := 21) (pc' := 28) rfl (hb hby d2_21) rfl (XT.ii_ne_t hc5) (by decide) (by decide) k) ?_
        show Go p.tables e below _ (s₁.setTop (mkF m 28 #[.val (.int p1)] []))
        refine own_go (fun t k => XS.iloadN X0.here hx rfl (hb hby d2_28) rfl k) ?_
        show Go p.tables e below _ (s₁.setTop (mkF m 29 #[.val (.int p1)] [(.int p1)]))
        refine own_go (fun t k => XS.bipush X0.here hx rfl (hb hby d2_29) k) ?_
        show Go p.tables e below _ (s₁.setTop (mkF m 31 #[.val (.int p1)] [(.int (7 : Int32)), (.int p1)]))
        by_cases hc7 : p1 = (7 : Int32)
        · refine own_go (fun t k => XS.icmpNo X0.here hx rfl (hb hby d2_31) rfl (XT.ii_ne_f hc7) k) ?_
          show Go p.tables e below _ (s₁.setTop (mkF m 34 #[.val (.int p1)] []))
          obtain ⟨T8, X8, e8, st8⟩ := getS2 X0 hx hZ hown (host := "") (Or.inl (hw _ (List.mem_of_getElem? (i := 19) rfl))) Via.refl e0 S_DOUBLE (g := (mkF m 34 #[.val (.int p1)] [])) rfl (hb hby d2_34)
          refine own_go (fun t k => st8 t k) ?_
          show Go p.tables e below _ (T8.setTop (mkF m 37 #[.val (.int p1)] [(.ref w_DOUBLE)]))
          exact own_ret X8 hx hlk Bd.returns rfl (Or.inr (Or.inr (Or.inr (Or.inr ⟨rfl, rfl, rfl⟩)))) (hb hby d2_37) ⟨by first | (simp [own_exp, hc1, hc3, hc5, hc7]; done) | rw [own_exp, if_neg hc1, if_neg hc3, if_neg hc5, if_pos hc7], N0, e8⟩ (by decide) (by decide)
        · refine own_go (fun t k => XS.icmpYes X0.here hx rfl (pc0 := 31) (pc' := 38) rfl (hb hby d2_31) rfl (XT.ii_ne_t hc7) (by decide) (by decide) k) ?_
          show Go p.tables e below _ (s₁.setTop (mkF m 38 #[.val (.int p1)] []))
          refine own_go (fun t k => XS.iloadN X0.here hx rfl (hb hby d2_38) rfl k) ?_
          show Go p.tables e below _ (s₁.setTop (mkF m 39 #[.val (.int p1)] [(.int p1)]))
          refine own_go (fun t k => XS.bipush X0.here hx rfl (hb hby d2_39) k) ?_
          show Go p.tables e below _ (s₁.setTop (mkF m 41 #[.val (.int p1)] [(.int (8 : Int32)), (.int p1)]))
          by_cases hc9 : p1 = (8 : Int32)
          · refine own_go (fun t k => XS.icmpNo X0.here hx rfl (hb hby d2_41) rfl (XT.ii_ne_f hc9) k) ?_
            show Go p.tables e below _ (s₁.setTop (mkF m 44 #[.val (.int p1)] []))
            obtain ⟨T10, X10, e10, st10⟩ := getS2 X0 hx hZ hown (host := "") (Or.inl (hw _ (List.mem_of_getElem? (i := 15) rfl))) Via.refl e0 S_BYTE (g := (mkF m 44 #[.val (.int p1)] [])) rfl (hb hby d2_44)
            refine own_go (fun t k => st10 t k) ?_
            show Go p.tables e below _ (T10.setTop (mkF m 47 #[.val (.int p1)] [(.ref w_BYTE)]))
            exact own_ret X10 hx hlk Bd.returns rfl (Or.inr (Or.inr (Or.inr (Or.inr ⟨rfl, rfl, rfl⟩)))) (hb hby d2_47) ⟨by first | (simp [own_exp, hc1, hc3, hc5, hc7, hc9]; done) | rw [own_exp, if_neg hc1, if_neg hc3, if_neg hc5, if_neg hc7, if_pos hc9], N0, e10⟩ (by decide) (by decide)
          · refine own_go (fun t k => XS.icmpYes X0.here hx rfl (pc0 := 41) (pc' := 48) rfl (hb hby d2_41) rfl (XT.ii_ne_t hc9) (by decide) (by decide) k) ?_
            show Go p.tables e below _ (s₁.setTop (mkF m 48 #[.val (.int p1)] []))
            refine own_go (fun t k => XS.iloadN X0.here hx rfl (hb hby d2_48) rfl k) ?_
            show Go p.tables e below _ (s₁.setTop (mkF m 49 #[.val (.int p1)] [(.int p1)]))
            refine own_go (fun t k => XS.bipush X0.here hx rfl (hb hby d2_49) k) ?_
            show Go p.tables e below _ (s₁.setTop (mkF m 51 #[.val (.int p1)] [(.int (9 : Int32)), (.int p1)]))
            by_cases hc11 : p1 = (9 : Int32)
            · refine own_go (fun t k => XS.icmpNo X0.here hx rfl (hb hby d2_51) rfl (XT.ii_ne_f hc11) k) ?_
              show Go p.tables e below _ (s₁.setTop (mkF m 54 #[.val (.int p1)] []))
              obtain ⟨T12, X12, e12, st12⟩ := getS2 X0 hx hZ hown (host := "") (Or.inl (hw _ (List.mem_of_getElem? (i := 25) rfl))) Via.refl e0 S_SHORT (g := (mkF m 54 #[.val (.int p1)] [])) rfl (hb hby d2_54)
              refine own_go (fun t k => st12 t k) ?_
              show Go p.tables e below _ (T12.setTop (mkF m 57 #[.val (.int p1)] [(.ref w_SHORT)]))
              exact own_ret X12 hx hlk Bd.returns rfl (Or.inr (Or.inr (Or.inr (Or.inr ⟨rfl, rfl, rfl⟩)))) (hb hby d2_57) ⟨by first | (simp [own_exp, hc1, hc3, hc5, hc7, hc9, hc11]; done) | rw [own_exp, if_neg hc1, if_neg hc3, if_neg hc5, if_neg hc7, if_neg hc9, if_pos hc11], N0, e12⟩ (by decide) (by decide)
            · refine own_go (fun t k => XS.icmpYes X0.here hx rfl (pc0 := 51) (pc' := 58) rfl (hb hby d2_51) rfl (XT.ii_ne_t hc11) (by decide) (by decide) k) ?_
              show Go p.tables e below _ (s₁.setTop (mkF m 58 #[.val (.int p1)] []))
              refine own_go (fun t k => XS.iloadN X0.here hx rfl (hb hby d2_58) rfl k) ?_
              show Go p.tables e below _ (s₁.setTop (mkF m 59 #[.val (.int p1)] [(.int p1)]))
              refine own_go (fun t k => XS.bipush X0.here hx rfl (hb hby d2_59) k) ?_
              show Go p.tables e below _ (s₁.setTop (mkF m 61 #[.val (.int p1)] [(.int (10 : Int32)), (.int p1)]))
              by_cases hc13 : p1 = (10 : Int32)
              · refine own_go (fun t k => XS.icmpNo X0.here hx rfl (hb hby d2_61) rfl (XT.ii_ne_f hc13) k) ?_
                show Go p.tables e below _ (s₁.setTop (mkF m 64 #[.val (.int p1)] []))
                obtain ⟨T14, X14, e14, st14⟩ := getS2 X0 hx hZ hown (host := "") (Or.inl (hw _ (List.mem_of_getElem? (i := 21) rfl))) Via.refl e0 S_INT (g := (mkF m 64 #[.val (.int p1)] [])) rfl (hb hby d2_64)
                refine own_go (fun t k => st14 t k) ?_
                show Go p.tables e below _ (T14.setTop (mkF m 67 #[.val (.int p1)] [(.ref w_INT)]))
                exact own_ret X14 hx hlk Bd.returns rfl (Or.inr (Or.inr (Or.inr (Or.inr ⟨rfl, rfl, rfl⟩)))) (hb hby d2_67) ⟨by first | (simp [own_exp, hc1, hc3, hc5, hc7, hc9, hc11, hc13]; done) | rw [own_exp, if_neg hc1, if_neg hc3, if_neg hc5, if_neg hc7, if_neg hc9, if_neg hc11, if_pos hc13], N0, e14⟩ (by decide) (by decide)
              · refine own_go (fun t k => XS.icmpYes X0.here hx rfl (pc0 := 61) (pc' := 68) rfl (hb hby d2_61) rfl (XT.ii_ne_t hc13) (by decide) (by decide) k) ?_
                show Go p.tables e below _ (s₁.setTop (mkF m 68 #[.val (.int p1)] []))
                refine own_go (fun t k => XS.iloadN X0.here hx rfl (hb hby d2_68) rfl k) ?_
                show Go p.tables e below _ (s₁.setTop (mkF m 69 #[.val (.int p1)] [(.int p1)]))
                refine own_go (fun t k => XS.bipush X0.here hx rfl (hb hby d2_69) k) ?_
                show Go p.tables e below _ (s₁.setTop (mkF m 71 #[.val (.int p1)] [(.int (11 : Int32)), (.int p1)]))
                by_cases hc15 : p1 = (11 : Int32)
                · refine own_go (fun t k => XS.icmpNo X0.here hx rfl (hb hby d2_71) rfl (XT.ii_ne_f hc15) k) ?_
                  show Go p.tables e below _ (s₁.setTop (mkF m 74 #[.val (.int p1)] []))
                  obtain ⟨T16, X16, e16, st16⟩ := getS2 X0 hx hZ hown (host := "") (Or.inl (hw _ (List.mem_of_getElem? (i := 11) rfl))) Via.refl e0 S_LONG (g := (mkF m 74 #[.val (.int p1)] [])) rfl (hb hby d2_74)
                  refine own_go (fun t k => st16 t k) ?_
                  show Go p.tables e below _ (T16.setTop (mkF m 77 #[.val (.int p1)] [(.ref w_LONG)]))
                  exact own_ret X16 hx hlk Bd.returns rfl (Or.inr (Or.inr (Or.inr (Or.inr ⟨rfl, rfl, rfl⟩)))) (hb hby d2_77) ⟨by first | (simp [own_exp, hc1, hc3, hc5, hc7, hc9, hc11, hc13, hc15]; done) | rw [own_exp, if_neg hc1, if_neg hc3, if_neg hc5, if_neg hc7, if_neg hc9, if_neg hc11, if_neg hc13, if_pos hc15], N0, e16⟩ (by decide) (by decide)
                · refine own_go (fun t k => XS.icmpYes X0.here hx rfl (pc0 := 71) (pc' := 78) rfl (hb hby d2_71) rfl (XT.ii_ne_t hc15) (by decide) (by decide) k) ?_
                  show Go p.tables e below _ (s₁.setTop (mkF m 78 #[.val (.int p1)] []))
                  refine own_go (fun t k => XS.aconstNull X0.here hx rfl (hb hby d2_78) k) ?_
                  show Go p.tables e below _ (s₁.setTop (mkF m 79 #[.val (.int p1)] [.null]))
                  exact own_ret X0 hx hlk Bd.returns rfl (Or.inr (Or.inr (Or.inr (Or.inr ⟨rfl, rfl, rfl⟩)))) (hb hby d2_79) ⟨by first | (simp [own_exp, hc1, hc3, hc5, hc7, hc9, hc11, hc13, hc15]; done) | rw [own_exp, if_neg hc1, if_neg hc3, if_neg hc5, if_neg hc7, if_neg hc9, if_neg hc11, if_neg hc13, if_neg hc15], N0, e0⟩ (by decide) (by decide)
theorem own_range (i : Int32) (h1 : ¬ (i - 4) < 0) (h2 : (i - 4) < 8) : i = 4 ∨ i = 5 ∨ i = 6 ∨ i = 7 ∨ i = 8 ∨ i = 9 ∨ i = 10 ∨ i = 11 := by
  rw [own_lt (n := 0) rfl] at h1
  rw [own_lt (n := 8) rfl] at h2
  have e : (i - 4).toInt = (i.toInt - 4).bmod (2 ^ 32) := by rw [Int32.toInt_sub]; rfl
  have b := Int32.toInt_lt i
  have b2 := Int32.le_toInt i
  have q : i - 4 + 4 = i := by simp
  generalize hg : i - 4 = z at *
  have cs : z.toInt = 0 ∨ z.toInt = 1 ∨ z.toInt = 2 ∨ z.toInt = 3 ∨ z.toInt = 4 ∨ z.toInt = 5 ∨ z.toInt = 6 ∨ z.toInt = 7 := by omega
  have K : z = 0 ∨ z = 1 ∨ z = 2 ∨ z = 3 ∨ z = 4 ∨ z = 5 ∨ z = 6 ∨ z = 7 := by
    rcases cs with cs | cs | cs | cs | cs | cs | cs | cs
    · exact Or.inl ((own_eq rfl).mpr cs)
    · exact Or.inr (Or.inl ((own_eq rfl).mpr cs))
    · exact Or.inr (Or.inr (Or.inl ((own_eq rfl).mpr cs)))
    · exact Or.inr (Or.inr (Or.inr (Or.inl ((own_eq rfl).mpr cs))))
    · exact Or.inr (Or.inr (Or.inr (Or.inr (Or.inl ((own_eq rfl).mpr cs)))))
    · exact Or.inr (Or.inr (Or.inr (Or.inr (Or.inr (Or.inl ((own_eq rfl).mpr cs))))))
    · exact Or.inr (Or.inr (Or.inr (Or.inr (Or.inr (Or.inr (Or.inl ((own_eq rfl).mpr cs)))))))
    · exact Or.inr (Or.inr (Or.inr (Or.inr (Or.inr (Or.inr (Or.inr (((own_eq rfl).mpr cs))))))))
  rcases K with K | K | K | K | K | K | K | K <;> (subst K; rw [← q]; decide)
theorem d1_0 : decode prog_13_method_4_code 0 = .ok (.iload_n 0, 1) := by decide +kernel
theorem d1_1 : decode prog_13_method_4_code 1 = .ok (.iconst 4, 1) := by decide +kernel
theorem d1_2 : decode prog_13_method_4_code 2 = .ok (.isub, 1) := by decide +kernel
theorem d1_3 : decode prog_13_method_4_code 3 = .ok (.istore_n 1, 1) := by decide +kernel
theorem d1_4 : decode prog_13_method_4_code 4 = .ok (.iload_n 1, 1) := by decide +kernel
theorem d1_5 : decode prog_13_method_4_code 5 = .ok (.ifCond .lt 19, 3) := by decide +kernel
theorem d1_8 : decode prog_13_method_4_code 8 = .ok (.iload_n 1, 1) := by decide +kernel
theorem d1_9 : decode prog_13_method_4_code 9 = .ok (.getstatic 47, 3) := by decide +kernel
theorem d1_12 : decode prog_13_method_4_code 12 = .ok (.arraylength, 1) := by decide +kernel
theorem d1_13 : decode prog_13_method_4_code 13 = .ok (.if_icmp .ge 11, 3) := by decide +kernel
theorem d1_16 : decode prog_13_method_4_code 16 = .ok (.getstatic 47, 3) := by decide +kernel
theorem d1_19 : decode prog_13_method_4_code 19 = .ok (.iload_n 1, 1) := by decide +kernel
theorem d1_20 : decode prog_13_method_4_code 20 = .ok (.aaload, 1) := by decide +kernel
theorem d1_21 : decode prog_13_method_4_code 21 = .ok (.goto 4, 3) := by decide +kernel
theorem d1_24 : decode prog_13_method_4_code 24 = .ok (.aconst_null, 1) := by decide +kernel
theorem d1_25 : decode prog_13_method_4_code 25 = .ok (.areturn, 1) := by decide +kernel
theorem pn_1 : plainName "com/example/classlens/classlens/ArrayType" = true := by first | (simp [plainName, overriddenIn]; done) | decide +kernel
theorem ef_rm_of (m : MethodId) (x0 : Int32) : entryFrame m #[(.int x0)] 2 = mkF m 0 #[.val (.int x0), .unset] [] := by first | (simp [entryFrame, mkF, argsToLocals, Value.category]; done) | rfl
set_option maxRecDepth 65536 in
set_option maxHeartbeats 40000000 in
theorem rm_of (l : Launch) (Z : State) (a0 : Array Value) (hw : ∀ d ∈ tables_1, d.before a0 Z = true) (ws : List Jvm.Cond) (p1 : Int32) (w_LONG w_FLOAT w_BYTE w_CHAR w_DOUBLE w_INT w_BOOLEAN w_SHORT : Addr) (w_VALUES : Addr) (cl : Cell) (h0 : Heap) (n0 : Nat) (SS : own_S Z h0 w_LONG w_FLOAT w_BYTE w_CHAR w_DOUBLE w_INT w_BOOLEAN w_SHORT) (S_VALUES : Sta Z h0 "com/example/classlens/classlens/ArrayType" "VALUES" "[Lcom/example/classlens/classlens/ArrayType;" (.ref w_VALUES)) (Ar : Arr Z h0 w_VALUES cl (.object "com/example/classlens/classlens/ArrayType")) (Len : cl.slots.size = 8 ∧ cl.slots.size.toInt32 = 8) (At0 : ¬ ((0 : Int32) < 0 ∨ cl.slots.size ≤ (0 : Int32).toNatClampNeg) ∧ cl.slots[(0 : Int32).toNatClampNeg]? = some (.ref w_BOOLEAN)) (At1 : ¬ ((1 : Int32) < 0 ∨ cl.slots.size ≤ (1 : Int32).toNatClampNeg) ∧ cl.slots[(1 : Int32).toNatClampNeg]? = some (.ref w_CHAR)) (At2 : ¬ ((2 : Int32) < 0 ∨ cl.slots.size ≤ (2 : Int32).toNatClampNeg) ∧ cl.slots[(2 : Int32).toNatClampNeg]? = some (.ref w_FLOAT)) (At3 : ¬ ((3 : Int32) < 0 ∨ cl.slots.size ≤ (3 : Int32).toNatClampNeg) ∧ cl.slots[(3 : Int32).toNatClampNeg]? = some (.ref w_DOUBLE)) (At4 : ¬ ((4 : Int32) < 0 ∨ cl.slots.size ≤ (4 : Int32).toNatClampNeg) ∧ cl.slots[(4 : Int32).toNatClampNeg]? = some (.ref w_BYTE)) (At5 : ¬ ((5 : Int32) < 0 ∨ cl.slots.size ≤ (5 : Int32).toNatClampNeg) ∧ cl.slots[(5 : Int32).toNatClampNeg]? = some (.ref w_SHORT)) (At6 : ¬ ((6 : Int32) < 0 ∨ cl.slots.size ≤ (6 : Int32).toNatClampNeg) ∧ cl.slots[(6 : Int32).toNatClampNeg]? = some (.ref w_INT)) (At7 : ¬ ((7 : Int32) < 0 ∨ cl.slots.size ≤ (7 : Int32).toNatClampNeg) ∧ cl.slots[(7 : Int32).toNatClampNeg]? = some (.ref w_LONG)) :
    MetFree l (⟨"com/example/classlens/classlens/ArrayType", "of", "(I)Lcom/example/classlens/classlens/ArrayType;"⟩ : MethodName) (head1 (Jvm.Cond.code (⟨"com/example/classlens/classlens/ArrayType", "of", "(I)Lcom/example/classlens/classlens/ArrayType;"⟩ : MethodName) prog_13_method_4_code 2 (some (.object "com/example/classlens/classlens/ArrayType")) :: ws) ({ frames := 0, cells := 0, slots := 0, locals := 0 } : Room)) (fun aa U => aa = #[(.int p1)] ∧ Z.Warmed39 U.vm ∧ U.heap = h0) (fun _ _ _ _ _ => True) (fun _ U o U' => ∃ v L, o = .returned v ∧ PQ (own_exp w_BOOLEAN w_CHAR w_FLOAT w_DOUBLE w_BYTE w_SHORT w_INT w_LONG p1) h0 n0 v U'.heap L ∧ FrameEnd U o U' L ({ frames := 0, cells := 0, slots := 0, locals := 0 } : Room).cells ({ frames := 0, cells := 0, slots := 0, locals := 0 } : Room).slots) := by
  refine MetFree.of_bodySF (plainFor_of_name pn_1) hisR ?_
  intro p e s m args below meth c s₁ Bd hml0 hP hK
  obtain ⟨rfl, hZ, hh⟩ := hP
  have hx := Bd.exec
  have hby := Bd.bytes
  have hlk := Bd.notSynchronized
  have hml : c.maxLocals = 2 := hml0
  have hown : s.vm.findClass "com/example/classlens/classlens/ArrayType" = some m.cls := findClass_of_methodNamed Bd.named
  have X0 : Stand p l e ({ frames := 0, cells := 0, slots := 0, locals := 0 } : Room) s m #[(.int p1)] below meth c s₁ [] 0 0 := Stand.of_body Bd
  have e0 : s₁.heap = h0 := by rw [← hh, Bd.state]; rfl
  have N0 := Fr.nil n0
  obtain ⟨S_LONG, S_FLOAT, S_BYTE, S_CHAR, S_DOUBLE, S_INT, S_BOOLEAN, S_SHORT⟩ := SS
  show Go p.tables e below (Fin s below (PQ (own_exp w_BOOLEAN w_CHAR w_FLOAT w_DOUBLE w_BYTE w_SHORT w_INT w_LONG p1) h0 n0) ({ frames := 0, cells := 0, slots := 0, locals := 0 } : Room).cells ({ frames := 0, cells := 0, slots := 0, locals := 0 } : Room).slots) (s₁.setTop (entryFrame m #[(.int p1)] 2))
  refine own_go (fun t k => castTop (ef_rm_of m p1) k) ?_
  show Go p.tables e below _ (s₁.setTop (mkF m 0 #[.val (.int p1), .unset] []))
  refine own_go (fun t k => XS.iloadN X0.here hx rfl (hb hby d1_0) rfl k) ?_
  show Go p.tables e below _ (s₁.setTop (mkF m 1 #[.val (.int p1), .unset] [(.int p1)]))
  refine own_go (fun t k => XS.iconst X0.here hx rfl (hb hby d1_1) k) ?_
  show Go p.tables e below _ (s₁.setTop (mkF m 2 #[.val (.int p1), .unset] [(.int (4 : Int32)), (.int p1)]))
  refine own_go (fun t k => XS.isub X0.here hx rfl (hb hby d1_2) rfl k) ?_
  show Go p.tables e below _ (s₁.setTop (mkF m 3 #[.val (.int p1), .unset] [(.int (p1 - (4 : Int32)))]))
  refine own_go (fun t k => XS.istoreN X0.here hx rfl (hb hby d1_3) rfl (l' := #[.val (.int p1), .val (.int (p1 - (4 : Int32)))]) rfl k) ?_
  show Go p.tables e below _ (s₁.setTop (mkF m 4 #[.val (.int p1), .val (.int (p1 - (4 : Int32)))] []))
  refine own_go (fun t k => XS.iloadN X0.here hx rfl (hb hby d1_4) rfl k) ?_
  show Go p.tables e below _ (s₁.setTop (mkF m 5 #[.val (.int p1), .val (.int (p1 - (4 : Int32)))] [(.int (p1 - (4 : Int32)))]))
  by_cases hc1 : (p1 - (4 : Int32)) < 0
  · refine own_go (fun t k => XS.ifYes X0.here hx rfl (pc0 := 5) (pc' := 24) rfl (hb hby d1_5) rfl (XT.i0_lt_t hc1) (by decide) (by decide) k) ?_
    show Go p.tables e below _ (s₁.setTop (mkF m 24 #[.val (.int p1), .val (.int (p1 - (4 : Int32)))] []))
    refine own_go (fun t k => XS.aconstNull X0.here hx rfl (hb hby d1_24) k) ?_
    show Go p.tables e below _ (s₁.setTop (mkF m 25 #[.val (.int p1), .val (.int (p1 - (4 : Int32)))] [.null]))
    exact own_ret X0 hx hlk Bd.returns rfl (Or.inr (Or.inr (Or.inr (Or.inr ⟨rfl, rfl, rfl⟩)))) (hb hby d1_25) ⟨congrArg some (show Value.null = own_exp _ _ _ _ _ _ _ _ _ by unfold own_exp; (repeat' split); all_goals first | rfl | (rename_i hq; subst hq; exact absurd hc1 (by decide))), N0, e0⟩ (by decide) (by decide)
  · refine own_go (fun t k => XS.ifNo X0.here hx rfl (hb hby d1_5) rfl (XT.i0_lt_f hc1) k) ?_
    show Go p.tables e below _ (s₁.setTop (mkF m 8 #[.val (.int p1), .val (.int (p1 - (4 : Int32)))] []))
    refine own_go (fun t k => XS.iloadN X0.here hx rfl (hb hby d1_8) rfl k) ?_
    show Go p.tables e below _ (s₁.setTop (mkF m 9 #[.val (.int p1), .val (.int (p1 - (4 : Int32)))] [(.int (p1 - (4 : Int32)))]))
    obtain ⟨T2, X2, e2, st2⟩ := getS2 X0 hx hZ hown (host := "") (Or.inl (hw _ (List.mem_of_getElem? (i := 8) rfl))) Via.refl e0 S_VALUES (g := (mkF m 9 #[.val (.int p1), .val (.int (p1 - (4 : Int32)))] [(.int (p1 - (4 : Int32)))])) rfl (hb hby d1_9)
    refine own_go (fun t k => st2 t k) ?_
    show Go p.tables e below _ (T2.setTop (mkF m 12 #[.val (.int p1), .val (.int (p1 - (4 : Int32)))] [(.ref w_VALUES), (.int (p1 - (4 : Int32)))]))
    refine own_go (fun t k => X2.arraylength hx (by rw [e2]; exact Ar.1) (State.isArrayOf_alike hZ.alike Ar.2.1) (g := (mkF m 12 #[.val (.int p1), .val (.int (p1 - (4 : Int32)))] [(.ref w_VALUES), (.int (p1 - (4 : Int32)))])) rfl rfl (hb hby d1_12) t (by rw [Len.2]; exact k)) ?_
    show Go p.tables e below _ (T2.setTop (mkF m 13 #[.val (.int p1), .val (.int (p1 - (4 : Int32)))] [(.int (8 : Int32)), (.int (p1 - (4 : Int32)))]))
    by_cases hc3 : (p1 - (4 : Int32)) < (8 : Int32)
    · refine own_go (fun t k => XS.icmpNo X2.here hx rfl (hb hby d1_13) rfl (XT.ii_ge_f hc3) k) ?_
      show Go p.tables e below _ (T2.setTop (mkF m 16 #[.val (.int p1), .val (.int (p1 - (4 : Int32)))] []))
      obtain ⟨T4, X4, e4, st4⟩ := getS2 X2 hx hZ hown (host := "") (Or.inl (hw _ (List.mem_of_getElem? (i := 8) rfl))) Via.refl e2 S_VALUES (g := (mkF m 16 #[.val (.int p1), .val (.int (p1 - (4 : Int32)))] [])) rfl (hb hby d1_16)
      refine own_go (fun t k => st4 t k) ?_
      show Go p.tables e below _ (T4.setTop (mkF m 19 #[.val (.int p1), .val (.int (p1 - (4 : Int32)))] [(.ref w_VALUES)]))
      refine own_go (fun t k => XS.iloadN X4.here hx rfl (hb hby d1_19) rfl k) ?_
      show Go p.tables e below _ (T4.setTop (mkF m 20 #[.val (.int p1), .val (.int (p1 - (4 : Int32)))] [(.int (p1 - (4 : Int32))), (.ref w_VALUES)]))
      rcases own_range p1 hc1 hc3 with rfl | rfl | rfl | rfl | rfl | rfl | rfl | rfl
      · show Go p.tables e below _ (T4.setTop (mkF m 20 #[.val (.int (4 : Int32)), .val (.int (0 : Int32))] [(.int (0 : Int32)), (.ref w_VALUES)]))
        refine own_go (fun t k => X4.aaload hx (j := (0 : Int32)) (v := (.ref w_BOOLEAN)) (by rw [e4]; exact Ar.1) (State.isArrayOf_alike hZ.alike Ar.2.1) rfl Ar.2.2 At0.1 At0.2 (g := (mkF m 20 #[.val (.int (4 : Int32)), .val (.int (0 : Int32))] [(.int (0 : Int32)), (.ref w_VALUES)])) rfl rfl (hb hby d1_20) t k) ?_
        show Go p.tables e below _ (T4.setTop (mkF m 21 #[.val (.int (4 : Int32)), .val (.int (0 : Int32))] [(.ref w_BOOLEAN)]))
        refine own_go (fun t k => XS.goto X4.here hx rfl (pc0 := 21) (pc' := 25) rfl (hb hby d1_21) (by decide) (by decide) k) ?_
        show Go p.tables e below _ (T4.setTop (mkF m 25 #[.val (.int (4 : Int32)), .val (.int (0 : Int32))] [(.ref w_BOOLEAN)]))
        exact own_ret X4 hx hlk Bd.returns rfl (Or.inr (Or.inr (Or.inr (Or.inr ⟨rfl, rfl, rfl⟩)))) (hb hby d1_25) ⟨rfl, N0, e4⟩ (by decide) (by decide)
      · show Go p.tables e below _ (T4.setTop (mkF m 20 #[.val (.int (5 : Int32)), .val (.int (1 : Int32))] [(.int (1 : Int32)), (.ref w_VALUES)]))
        refine own_go (fun t k => X4.aaload hx (j := (1 : Int32)) (v := (.ref w_CHAR)) (by rw [e4]; exact Ar.1) (State.isArrayOf_alike hZ.alike Ar.2.1) rfl Ar.2.2 At1.1 At1.2 (g := (mkF m 20 #[.val (.int (5 : Int32)), .val (.int (1 : Int32))] [(.int (1 : Int32)), (.ref w_VALUES)])) rfl rfl (hb hby d1_20) t k) ?_
        show Go p.tables e below _ (T4.setTop (mkF m 21 #[.val (.int (5 : Int32)), .val (.int (1 : Int32))] [(.ref w_CHAR)]))
        refine own_go (fun t k => XS.goto X4.here hx rfl (pc0 := 21) (pc' := 25) rfl (hb hby d1_21) (by decide) (by decide) k) ?_
        show Go p.tables e below _ (T4.setTop (mkF m 25 #[.val (.int (5 : Int32)), .val (.int (1 : Int32))] [(.ref w_CHAR)]))
        exact own_ret X4 hx hlk Bd.returns rfl (Or.inr (Or.inr (Or.inr (Or.inr ⟨rfl, rfl, rfl⟩)))) (hb hby d1_25) ⟨rfl, N0, e4⟩ (by decide) (by decide)
      · show Go p.tables e below _ (T4.setTop (mkF m 20 #[.val (.int (6 : Int32)), .val (.int (2 : Int32))] [(.int (2 : Int32)), (.ref w_VALUES)]))
        refine own_go (fun t k => X4.aaload hx (j := (2 : Int32)) (v := (.ref w_FLOAT)) (by rw [e4]; exact Ar.1) (State.isArrayOf_alike hZ.alike Ar.2.1) rfl Ar.2.2 At2.1 At2.2 (g := (mkF m 20 #[.val (.int (6 : Int32)), .val (.int (2 : Int32))] [(.int (2 : Int32)), (.ref w_VALUES)])) rfl rfl (hb hby d1_20) t k) ?_
        show Go p.tables e below _ (T4.setTop (mkF m 21 #[.val (.int (6 : Int32)), .val (.int (2 : Int32))] [(.ref w_FLOAT)]))
        refine own_go (fun t k => XS.goto X4.here hx rfl (pc0 := 21) (pc' := 25) rfl (hb hby d1_21) (by decide) (by decide) k) ?_
        show Go p.tables e below _ (T4.setTop (mkF m 25 #[.val (.int (6 : Int32)), .val (.int (2 : Int32))] [(.ref w_FLOAT)]))
        exact own_ret X4 hx hlk Bd.returns rfl (Or.inr (Or.inr (Or.inr (Or.inr ⟨rfl, rfl, rfl⟩)))) (hb hby d1_25) ⟨rfl, N0, e4⟩ (by decide) (by decide)
      · show Go p.tables e below _ (T4.setTop (mkF m 20 #[.val (.int (7 : Int32)), .val (.int (3 : Int32))] [(.int (3 : Int32)), (.ref w_VALUES)]))
        refine own_go (fun t k => X4.aaload hx (j := (3 : Int32)) (v := (.ref w_DOUBLE)) (by rw [e4]; exact Ar.1) (State.isArrayOf_alike hZ.alike Ar.2.1) rfl Ar.2.2 At3.1 At3.2 (g := (mkF m 20 #[.val (.int (7 : Int32)), .val (.int (3 : Int32))] [(.int (3 : Int32)), (.ref w_VALUES)])) rfl rfl (hb hby d1_20) t k) ?_
        show Go p.tables e below _ (T4.setTop (mkF m 21 #[.val (.int (7 : Int32)), .val (.int (3 : Int32))] [(.ref w_DOUBLE)]))
        refine own_go (fun t k => XS.goto X4.here hx rfl (pc0 := 21) (pc' := 25) rfl (hb hby d1_21) (by decide) (by decide) k) ?_
        show Go p.tables e below _ (T4.setTop (mkF m 25 #[.val (.int (7 : Int32)), .val (.int (3 : Int32))] [(.ref w_DOUBLE)]))
        exact own_ret X4 hx hlk Bd.returns rfl (Or.inr (Or.inr (Or.inr (Or.inr ⟨rfl, rfl, rfl⟩)))) (hb hby d1_25) ⟨rfl, N0, e4⟩ (by decide) (by decide)
      · show Go p.tables e below _ (T4.setTop (mkF m 20 #[.val (.int (8 : Int32)), .val (.int (4 : Int32))] [(.int (4 : Int32)), (.ref w_VALUES)]))
        refine own_go (fun t k => X4.aaload hx (j := (4 : Int32)) (v := (.ref w_BYTE)) (by rw [e4]; exact Ar.1) (State.isArrayOf_alike hZ.alike Ar.2.1) rfl Ar.2.2 At4.1 At4.2 (g := (mkF m 20 #[.val (.int (8 : Int32)), .val (.int (4 : Int32))] [(.int (4 : Int32)), (.ref w_VALUES)])) rfl rfl (hb hby d1_20) t k) ?_
        show Go p.tables e below _ (T4.setTop (mkF m 21 #[.val (.int (8 : Int32)), .val (.int (4 : Int32))] [(.ref w_BYTE)]))
        refine own_go (fun t k => XS.goto X4.here hx rfl (pc0 := 21) (pc' := 25) rfl (hb hby d1_21) (by decide) (by decide) k) ?_
        show Go p.tables e below _ (T4.setTop (mkF m 25 #[.val (.int (8 : Int32)), .val (.int (4 : Int32))] [(.ref w_BYTE)]))
        exact own_ret X4 hx hlk Bd.returns rfl (Or.inr (Or.inr (Or.inr (Or.inr ⟨rfl, rfl, rfl⟩)))) (hb hby d1_25) ⟨rfl, N0, e4⟩ (by decide) (by decide)
      · show Go p.tables e below _ (T4.setTop (mkF m 20 #[.val (.int (9 : Int32)), .val (.int (5 : Int32))] [(.int (5 : Int32)), (.ref w_VALUES)]))
        refine own_go (fun t k => X4.aaload hx (j := (5 : Int32)) (v := (.ref w_SHORT)) (by rw [e4]; exact Ar.1) (State.isArrayOf_alike hZ.alike Ar.2.1) rfl Ar.2.2 At5.1 At5.2 (g := (mkF m 20 #[.val (.int (9 : Int32)), .val (.int (5 : Int32))] [(.int (5 : Int32)), (.ref w_VALUES)])) rfl rfl (hb hby d1_20) t k) ?_
        show Go p.tables e below _ (T4.setTop (mkF m 21 #[.val (.int (9 : Int32)), .val (.int (5 : Int32))] [(.ref w_SHORT)]))
        refine own_go (fun t k => XS.goto X4.here hx rfl (pc0 := 21) (pc' := 25) rfl (hb hby d1_21) (by decide) (by decide) k) ?_
        show Go p.tables e below _ (T4.setTop (mkF m 25 #[.val (.int (9 : Int32)), .val (.int (5 : Int32))] [(.ref w_SHORT)]))
        exact own_ret X4 hx hlk Bd.returns rfl (Or.inr (Or.inr (Or.inr (Or.inr ⟨rfl, rfl, rfl⟩)))) (hb hby d1_25) ⟨rfl, N0, e4⟩ (by decide) (by decide)
      · show Go p.tables e below _ (T4.setTop (mkF m 20 #[.val (.int (10 : Int32)), .val (.int (6 : Int32))] [(.int (6 : Int32)), (.ref w_VALUES)]))
        refine own_go (fun t k => X4.aaload hx (j := (6 : Int32)) (v := (.ref w_INT)) (by rw [e4]; exact Ar.1) (State.isArrayOf_alike hZ.alike Ar.2.1) rfl Ar.2.2 At6.1 At6.2 (g := (mkF m 20 #[.val (.int (10 : Int32)), .val (.int (6 : Int32))] [(.int (6 : Int32)), (.ref w_VALUES)])) rfl rfl (hb hby d1_20) t k) ?_
        show Go p.tables e below _ (T4.setTop (mkF m 21 #[.val (.int (10 : Int32)), .val (.int (6 : Int32))] [(.ref w_INT)]))
        refine own_go (fun t k => XS.goto X4.here hx rfl (pc0 := 21) (pc' := 25) rfl (hb hby d1_21) (by decide) (by decide) k) ?_
        show Go p.tables e below _ (T4.setTop (mkF m 25 #[.val (.int (10 : Int32)), .val (.int (6 : Int32))] [(.ref w_INT)]))
        exact own_ret X4 hx hlk Bd.returns rfl (Or.inr (Or.inr (Or.inr (Or.inr ⟨rfl, rfl, rfl⟩)))) (hb hby d1_25) ⟨rfl, N0, e4⟩ (by decide) (by decide)
      · show Go p.tables e below _ (T4.setTop (mkF m 20 #[.val (.int (11 : Int32)), .val (.int (7 : Int32))] [(.int (7 : Int32)), (.ref w_VALUES)]))
        refine own_go (fun t k => X4.aaload hx (j := (7 : Int32)) (v := (.ref w_LONG)) (by rw [e4]; exact Ar.1) (State.isArrayOf_alike hZ.alike Ar.2.1) rfl Ar.2.2 At7.1 At7.2 (g := (mkF m 20 #[.val (.int (11 : Int32)), .val (.int (7 : Int32))] [(.int (7 : Int32)), (.ref w_VALUES)])) rfl rfl (hb hby d1_20) t k) ?_
        show Go p.tables e below _ (T4.setTop (mkF m 21 #[.val (.int (11 : Int32)), .val (.int (7 : Int32))] [(.ref w_LONG)]))
        refine own_go (fun t k => XS.goto X4.here hx rfl (pc0 := 21) (pc' := 25) rfl (hb hby d1_21) (by decide) (by decide) k) ?_
        show Go p.tables e below _ (T4.setTop (mkF m 25 #[.val (.int (11 : Int32)), .val (.int (7 : Int32))] [(.ref w_LONG)]))
        exact own_ret X4 hx hlk Bd.returns rfl (Or.inr (Or.inr (Or.inr (Or.inr ⟨rfl, rfl, rfl⟩)))) (hb hby d1_25) ⟨rfl, N0, e4⟩ (by decide) (by decide)
    · refine own_go (fun t k => XS.icmpYes X2.here hx rfl (pc0 := 13) (pc' := 24) rfl (hb hby d1_13) rfl (XT.ii_ge_t hc3) (by decide) (by decide) k) ?_
      show Go p.tables e below _ (T2.setTop (mkF m 24 #[.val (.int p1), .val (.int (p1 - (4 : Int32)))] []))
      refine own_go (fun t k => XS.aconstNull X2.here hx rfl (hb hby d1_24) k) ?_
      show Go p.tables e below _ (T2.setTop (mkF m 25 #[.val (.int p1), .val (.int (p1 - (4 : Int32)))] [.null]))
      exact own_ret X2 hx hlk Bd.returns rfl (Or.inr (Or.inr (Or.inr (Or.inr ⟨rfl, rfl, rfl⟩)))) (hb hby d1_25) ⟨congrArg some (show Value.null = own_exp _ _ _ _ _ _ _ _ _ by unfold own_exp; (repeat' split); all_goals first | rfl | (rename_i hq; subst hq; exact absurd hc3 (by decide))), N0, e2⟩ (by decide) (by decide)
theorem pd_0 : parseMethodDescriptor "(I)Lcom/example/classlens/classlens/ArrayType;" = some ⟨[.int], some (.object "com/example/classlens/classlens/ArrayType")⟩ := by decide +kernel
theorem ef_rm_law (m : MethodId) (x0 : Int32) (x1 : Int32) : entryFrame m #[(.int x0), (.int x1)] maxLocals = mkF m 0 #[.val (.int x0), .val (.int x1), .unset, .unset, .unset] [] := by first | (simp [entryFrame, mkF, argsToLocals, Value.category, maxLocals]; done) | rfl
set_option maxRecDepth 65536 in
set_option maxHeartbeats 40000000 in
theorem rm_law (l : Launch) (Z : State) (a0 : Array Value) (hw : ∀ d ∈ tables_1, d.before a0 Z = true) (ws : List Jvm.Cond) (p1 p2 : Int32) (w_LONG w_FLOAT w_BYTE w_CHAR w_DOUBLE w_INT w_BOOLEAN w_SHORT : Addr) (w_VALUES : Addr) (cl : Cell) (h0 : Heap) (n0 : Nat) (SS : own_S Z h0 w_LONG w_FLOAT w_BYTE w_CHAR w_DOUBLE w_INT w_BOOLEAN w_SHORT) (S_VALUES : Sta Z h0 "com/example/classlens/classlens/ArrayType" "VALUES" "[Lcom/example/classlens/classlens/ArrayType;" (.ref w_VALUES)) (Ar : Arr Z h0 w_VALUES cl (.object "com/example/classlens/classlens/ArrayType")) (Len : cl.slots.size = 8 ∧ cl.slots.size.toInt32 = 8) (At0 : ¬ ((0 : Int32) < 0 ∨ cl.slots.size ≤ (0 : Int32).toNatClampNeg) ∧ cl.slots[(0 : Int32).toNatClampNeg]? = some (.ref w_BOOLEAN)) (At1 : ¬ ((1 : Int32) < 0 ∨ cl.slots.size ≤ (1 : Int32).toNatClampNeg) ∧ cl.slots[(1 : Int32).toNatClampNeg]? = some (.ref w_CHAR)) (At2 : ¬ ((2 : Int32) < 0 ∨ cl.slots.size ≤ (2 : Int32).toNatClampNeg) ∧ cl.slots[(2 : Int32).toNatClampNeg]? = some (.ref w_FLOAT)) (At3 : ¬ ((3 : Int32) < 0 ∨ cl.slots.size ≤ (3 : Int32).toNatClampNeg) ∧ cl.slots[(3 : Int32).toNatClampNeg]? = some (.ref w_DOUBLE)) (At4 : ¬ ((4 : Int32) < 0 ∨ cl.slots.size ≤ (4 : Int32).toNatClampNeg) ∧ cl.slots[(4 : Int32).toNatClampNeg]? = some (.ref w_BYTE)) (At5 : ¬ ((5 : Int32) < 0 ∨ cl.slots.size ≤ (5 : Int32).toNatClampNeg) ∧ cl.slots[(5 : Int32).toNatClampNeg]? = some (.ref w_SHORT)) (At6 : ¬ ((6 : Int32) < 0 ∨ cl.slots.size ≤ (6 : Int32).toNatClampNeg) ∧ cl.slots[(6 : Int32).toNatClampNeg]? = some (.ref w_INT)) (At7 : ¬ ((7 : Int32) < 0 ∨ cl.slots.size ≤ (7 : Int32).toNatClampNeg) ∧ cl.slots[(7 : Int32).toNatClampNeg]? = some (.ref w_LONG)) :
    MetFree l x (head1 (Jvm.Cond.code x code maxLocals ret :: ws) room_1) (fun aa U => aa = #[(.int p1), (.int p2)] ∧ Z.Warmed39 U.vm ∧ U.heap = h0) (fun _ _ _ _ _ => True) (fun _ U o U' => ∃ v L, o = .returned v ∧ PQ (.int 1) h0 n0 v U'.heap L ∧ FrameEnd U o U' L room_1.cells room_1.slots) := by
  refine MetFree.of_bodySF (plainFor_of_name pn_0) hisR ?_
  intro p e s m args below meth c s₁ Bd hml0 hP hK
  obtain ⟨rfl, hZ, hh⟩ := hP
  have hx := Bd.exec
  have hby := Bd.bytes
  have hlk := Bd.notSynchronized
  have hml : c.maxLocals = 5 := hml0
  have hown : s.vm.findClass "com/example/classlens/classlens/ArrayTypeOfPinLaw" = some m.cls := findClass_of_methodNamed Bd.named
  have X0 : Stand p l e room_1 s m #[(.int p1), (.int p2)] below meth c s₁ [] 0 0 := Stand.of_body Bd
  have e0 : s₁.heap = h0 := by rw [← hh, Bd.state]; rfl
  have N0 := Fr.nil n0
  show Go p.tables e below (Fin s below (PQ (.int 1) h0 n0) room_1.cells room_1.slots) (s₁.setTop (entryFrame m #[(.int p1), (.int p2)] maxLocals))
  refine own_go (fun t k => castTop (ef_rm_law m p1 p2) k) ?_
  show Go p.tables e below _ (s₁.setTop (mkF m 0 #[.val (.int p1), .val (.int p2), .unset, .unset, .unset] []))
  refine own_go (fun t k => XS.iloadN X0.here hx rfl (hb hby at_0) rfl k) ?_
  show Go p.tables e below _ (s₁.setTop (mkF m 1 #[.val (.int p1), .val (.int p2), .unset, .unset, .unset] [(.int p2)]))
  refine own_go (fun t k => XS.bipush X0.here hx rfl (hb hby at_1) k) ?_
  show Go p.tables e below _ (s₁.setTop (mkF m 3 #[.val (.int p1), .val (.int p2), .unset, .unset, .unset] [(.int (15 : Int32)), (.int p2)]))
  refine own_go (fun t k => XS.iand X0.here hx rfl (hb hby at_3) rfl k) ?_
  show Go p.tables e below _ (s₁.setTop (mkF m 4 #[.val (.int p1), .val (.int p2), .unset, .unset, .unset] [(.int (p2 &&& (15 : Int32)))]))
  refine own_go (fun t k => XS.iconst X0.here hx rfl (hb hby at_4) k) ?_
  show Go p.tables e below _ (s₁.setTop (mkF m 5 #[.val (.int p1), .val (.int p2), .unset, .unset, .unset] [(.int (2 : Int32)), (.int (p2 &&& (15 : Int32)))]))
  refine own_go (fun t k => XS.isub X0.here hx rfl (hb hby at_5) rfl k) ?_
  show Go p.tables e below _ (s₁.setTop (mkF m 6 #[.val (.int p1), .val (.int p2), .unset, .unset, .unset] [(.int ((p2 &&& (15 : Int32)) - (2 : Int32)))]))
  refine own_go (fun t k => XS.istoreN X0.here hx rfl (hb hby at_6) rfl (l' := #[.val (.int p1), .val (.int p2), .val (.int ((p2 &&& (15 : Int32)) - (2 : Int32))), .unset, .unset]) rfl k) ?_
  show Go p.tables e below _ (s₁.setTop (mkF m 7 #[.val (.int p1), .val (.int p2), .val (.int ((p2 &&& (15 : Int32)) - (2 : Int32))), .unset, .unset] []))
  refine own_go (fun t k => XS.iloadN X0.here hx rfl (hb hby at_7) rfl k) ?_
  show Go p.tables e below _ (s₁.setTop (mkF m 8 #[.val (.int p1), .val (.int p2), .val (.int ((p2 &&& (15 : Int32)) - (2 : Int32))), .unset, .unset] [(.int p1)]))
  obtain ⟨v1, _, ⟨T1, L1, k1, n1⟩, -, X1, ⟨Lc1, hQ1, l1, y1, z1⟩, st1⟩ := Jvm.LawKit.callS X0 hx (y := (⟨"com/example/classlens/classlens/ArrayType", "of", "(I)Lcom/example/classlens/classlens/ArrayType;"⟩ : MethodName)) hown (mvT hZ (hw _ (List.mem_of_getElem? (i := 0) rfl))) (mvT hZ (hw _ (List.mem_of_getElem? (i := 1) rfl))) (mvT hZ (hw _ (List.mem_of_getElem? (i := 2) rfl))) (mvT hZ (hw _ (List.mem_of_getElem? (i := 3) rfl))) (by decide) (backOf (W := 0) (rm_of l Z a0 hw [] p1 w_LONG w_FLOAT w_BYTE w_CHAR w_DOUBLE w_INT w_BOOLEAN w_SHORT w_VALUES cl h0 n0 SS S_VALUES Ar Len At0 At1 At2 At3 At4 At5 At6 At7) hZ (hw _ (List.mem_of_getElem? (i := 3) rfl)) (hw _ (List.mem_of_getElem? (i := 2) rfl)) (by decide) (by decide)) (g := (mkF m 8 #[.val (.int p1), .val (.int p2), .val (.int ((p2 &&& (15 : Int32)) - (2 : Int32))), .unset, .unset] [(.int p1)])) rfl (by rw [hml]; rfl) (argsL := [(.int p1)]) (rest := []) (lenOf pd_0 rfl) rfl (by show 2 * 0 + _ ≤ _; exact Nat.le_of_eq rfl) (hb hby at_8) (fun _ _ => ⟨rfl, e0, (by decide : 0 + 0 ≤ _), (by decide : 0 + 0 ≤ _)⟩)
  dsimp only [Pt.U, Pt.locs, Pt.cells, Pt.slots] at X1 l1 y1 z1 st1 hQ1
  subst l1 y1 z1
  obtain ⟨hv1, N1q, e1⟩ := hQ1
  subst hv1
  have N1 := Fr.app N0 N1q
  refine own_go (fun t k => st1 t k) ?_
  show Go p.tables e below _ (T1.setTop (mkF m 11 #[.val (.int p1), .val (.int p2), .val (.int ((p2 &&& (15 : Int32)) - (2 : Int32))), .unset, .unset] [(own_exp w_BOOLEAN w_CHAR w_FLOAT w_DOUBLE w_BYTE w_SHORT w_INT w_LONG p1)]))
  refine own_go (fun t k => XS.iloadN X1.here hx rfl (hb hby at_11) rfl k) ?_
  show Go p.tables e below _ (T1.setTop (mkF m 12 #[.val (.int p1), .val (.int p2), .val (.int ((p2 &&& (15 : Int32)) - (2 : Int32))), .unset, .unset] [(.int p1), (own_exp w_BOOLEAN w_CHAR w_FLOAT w_DOUBLE w_BYTE w_SHORT w_INT w_LONG p1)]))
  obtain ⟨v2, _, ⟨T2, L2, k2, n2⟩, -, X2, ⟨Lc2, hQ2, l2, y2, z2⟩, st2⟩ := Jvm.LawKit.callS X1 hx (y := (⟨"com/example/classlens/classlens/ArrayTypeOfPinLaw", "expected", "(I)Lcom/example/classlens/classlens/ArrayType;"⟩ : MethodName)) hown (mvT hZ (hw _ (List.mem_of_getElem? (i := 4) rfl))) (mvT hZ (hw _ (List.mem_of_getElem? (i := 5) rfl))) (mvT hZ (hw _ (List.mem_of_getElem? (i := 6) rfl))) (mvT hZ (hw _ (List.mem_of_getElem? (i := 7) rfl))) (by decide) (backOf (W := 1) (rm_exp l Z a0 hw [] p1 w_LONG w_FLOAT w_BYTE w_CHAR w_DOUBLE w_INT w_BOOLEAN w_SHORT h0 n0 SS) hZ (hw _ (List.mem_of_getElem? (i := 7) rfl)) (hw _ (List.mem_of_getElem? (i := 6) rfl)) (by decide) (by decide)) (g := (mkF m 12 #[.val (.int p1), .val (.int p2), .val (.int ((p2 &&& (15 : Int32)) - (2 : Int32))), .unset, .unset] [(.int p1), (own_exp w_BOOLEAN w_CHAR w_FLOAT w_DOUBLE w_BYTE w_SHORT w_INT w_LONG p1)])) rfl (by rw [hml]; rfl) (argsL := [(.int p1)]) (rest := [(own_exp w_BOOLEAN w_CHAR w_FLOAT w_DOUBLE w_BYTE w_SHORT w_INT w_LONG p1)]) (lenOf pd_0 rfl) rfl (by show 2 * 0 + (List.map (fun v => v.category) [(own_exp w_BOOLEAN w_CHAR w_FLOAT w_DOUBLE w_BYTE w_SHORT w_INT w_LONG p1)]).sum ≤ _; simp only [List.map_cons, List.map_nil, List.sum_cons, List.sum_nil, XT.cat1 (own_exp_ref w_BOOLEAN w_CHAR w_FLOAT w_DOUBLE w_BYTE w_SHORT w_INT w_LONG p1)]; exact Nat.le_of_eq rfl) (hb hby at_12) (fun _ _ => ⟨rfl, e1, (by decide : 0 + 0 ≤ _), (by decide : 0 + 0 ≤ _)⟩)
  dsimp only [Pt.U, Pt.locs, Pt.cells, Pt.slots] at X2 l2 y2 z2 st2 hQ2
  subst l2 y2 z2
  obtain ⟨hv2, N2q, e2⟩ := hQ2
  subst hv2
  have N2 := Fr.app N1 N2q
  refine own_go (fun t k => st2 t k) ?_
  show Go p.tables e below _ (T2.setTop (mkF m 15 #[.val (.int p1), .val (.int p2), .val (.int ((p2 &&& (15 : Int32)) - (2 : Int32))), .unset, .unset] [(own_exp w_BOOLEAN w_CHAR w_FLOAT w_DOUBLE w_BYTE w_SHORT w_INT w_LONG p1), (own_exp w_BOOLEAN w_CHAR w_FLOAT w_DOUBLE w_BYTE w_SHORT w_INT w_LONG p1)]))
  refine own_go (fun t k => XT.acmpNo X2.here hx rfl (hb hby at_15) rfl (own_exp_ref w_BOOLEAN w_CHAR w_FLOAT w_DOUBLE w_BYTE w_SHORT w_INT w_LONG p1) (own_exp_ref w_BOOLEAN w_CHAR w_FLOAT w_DOUBLE w_BYTE w_SHORT w_INT w_LONG p1) (XT.aa_ne_f rfl) k) ?_
  show Go p.tables e below _ (T2.setTop (mkF m 18 #[.val (.int p1), .val (.int p2), .val (.int ((p2 &&& (15 : Int32)) - (2 : Int32))), .unset, .unset] []))
  refine own_go (fun t k => XS.iconst X2.here hx rfl (hb hby at_18) k) ?_
  show Go p.tables e below _ (T2.setTop (mkF m 19 #[.val (.int p1), .val (.int p2), .val (.int ((p2 &&& (15 : Int32)) - (2 : Int32))), .unset, .unset] [(.int (1 : Int32))]))
  refine own_go (fun t k => XS.goto X2.here hx rfl (pc0 := 19) (pc' := 23) rfl (hb hby at_19) (by decide) (by decide) k) ?_
  show Go p.tables e below _ (T2.setTop (mkF m 23 #[.val (.int p1), .val (.int p2), .val (.int ((p2 &&& (15 : Int32)) - (2 : Int32))), .unset, .unset] [(.int (1 : Int32))]))
  refine own_go (fun t k => XS.istoreN X2.here hx rfl (hb hby at_23) rfl (l' := #[.val (.int p1), .val (.int p2), .val (.int ((p2 &&& (15 : Int32)) - (2 : Int32))), .val (.int (1 : Int32)), .unset]) rfl k) ?_
  show Go p.tables e below _ (T2.setTop (mkF m 24 #[.val (.int p1), .val (.int p2), .val (.int ((p2 &&& (15 : Int32)) - (2 : Int32))), .val (.int (1 : Int32)), .unset] []))
  refine own_go (fun t k => XS.iloadN X2.here hx rfl (hb hby at_24) rfl k) ?_
  show Go p.tables e below _ (T2.setTop (mkF m 25 #[.val (.int p1), .val (.int p2), .val (.int ((p2 &&& (15 : Int32)) - (2 : Int32))), .val (.int (1 : Int32)), .unset] [(.int ((p2 &&& (15 : Int32)) - (2 : Int32)))]))
  obtain ⟨v3, _, ⟨T3, L3, k3, n3⟩, -, X3, ⟨Lc3, hQ3, l3, y3, z3⟩, st3⟩ := Jvm.LawKit.callS X2 hx (y := (⟨"com/example/classlens/classlens/ArrayType", "of", "(I)Lcom/example/classlens/classlens/ArrayType;"⟩ : MethodName)) hown (mvT hZ (hw _ (List.mem_of_getElem? (i := 0) rfl))) (mvT hZ (hw _ (List.mem_of_getElem? (i := 1) rfl))) (mvT hZ (hw _ (List.mem_of_getElem? (i := 2) rfl))) (mvT hZ (hw _ (List.mem_of_getElem? (i := 3) rfl))) (by decide) (backOf (W := 0) (rm_of l Z a0 hw [] ((p2 &&& (15 : Int32)) - (2 : Int32)) w_LONG w_FLOAT w_BYTE w_CHAR w_DOUBLE w_INT w_BOOLEAN w_SHORT w_VALUES cl h0 n0 SS S_VALUES Ar Len At0 At1 At2 At3 At4 At5 At6 At7) hZ (hw _ (List.mem_of_getElem? (i := 3) rfl)) (hw _ (List.mem_of_getElem? (i := 2) rfl)) (by decide) (by decide)) (g := (mkF m 25 #[.val (.int p1), .val (.int p2), .val (.int ((p2 &&& (15 : Int32)) - (2 : Int32))), .val (.int (1 : Int32)), .unset] [(.int ((p2 &&& (15 : Int32)) - (2 : Int32)))])) rfl (by rw [hml]; rfl) (argsL := [(.int ((p2 &&& (15 : Int32)) - (2 : Int32)))]) (rest := []) (lenOf pd_0 rfl) rfl (by show 2 * 0 + _ ≤ _; exact Nat.le_of_eq rfl) (hb hby at_25) (fun _ _ => ⟨rfl, e2, (by decide : 0 + 0 ≤ _), (by decide : 0 + 0 ≤ _)⟩)
  dsimp only [Pt.U, Pt.locs, Pt.cells, Pt.slots] at X3 l3 y3 z3 st3 hQ3
  subst l3 y3 z3
  obtain ⟨hv3, N3q, e3⟩ := hQ3
  subst hv3
  have N3 := Fr.app N2 N3q
  refine own_go (fun t k => st3 t k) ?_
  show Go p.tables e below _ (T3.setTop (mkF m 28 #[.val (.int p1), .val (.int p2), .val (.int ((p2 &&& (15 : Int32)) - (2 : Int32))), .val (.int (1 : Int32)), .unset] [(own_exp w_BOOLEAN w_CHAR w_FLOAT w_DOUBLE w_BYTE w_SHORT w_INT w_LONG ((p2 &&& (15 : Int32)) - (2 : Int32)))]))
  refine own_go (fun t k => XS.iloadN X3.here hx rfl (hb hby at_28) rfl k) ?_
  show Go p.tables e below _ (T3.setTop (mkF m 29 #[.val (.int p1), .val (.int p2), .val (.int ((p2 &&& (15 : Int32)) - (2 : Int32))), .val (.int (1 : Int32)), .unset] [(.int ((p2 &&& (15 : Int32)) - (2 : Int32))), (own_exp w_BOOLEAN w_CHAR w_FLOAT w_DOUBLE w_BYTE w_SHORT w_INT w_LONG ((p2 &&& (15 : Int32)) - (2 : Int32)))]))
  obtain ⟨v4, _, ⟨T4, L4, k4, n4⟩, -, X4, ⟨Lc4, hQ4, l4, y4, z4⟩, st4⟩ := Jvm.LawKit.callS X3 hx (y := (⟨"com/example/classlens/classlens/ArrayTypeOfPinLaw", "expected", "(I)Lcom/example/classlens/classlens/ArrayType;"⟩ : MethodName)) hown (mvT hZ (hw _ (List.mem_of_getElem? (i := 4) rfl))) (mvT hZ (hw _ (List.mem_of_getElem? (i := 5) rfl))) (mvT hZ (hw _ (List.mem_of_getElem? (i := 6) rfl))) (mvT hZ (hw _ (List.mem_of_getElem? (i := 7) rfl))) (by decide) (backOf (W := 1) (rm_exp l Z a0 hw [] ((p2 &&& (15 : Int32)) - (2 : Int32)) w_LONG w_FLOAT w_BYTE w_CHAR w_DOUBLE w_INT w_BOOLEAN w_SHORT h0 n0 SS) hZ (hw _ (List.mem_of_getElem? (i := 7) rfl)) (hw _ (List.mem_of_getElem? (i := 6) rfl)) (by decide) (by decide)) (g := (mkF m 29 #[.val (.int p1), .val (.int p2), .val (.int ((p2 &&& (15 : Int32)) - (2 : Int32))), .val (.int (1 : Int32)), .unset] [(.int ((p2 &&& (15 : Int32)) - (2 : Int32))), (own_exp w_BOOLEAN w_CHAR w_FLOAT w_DOUBLE w_BYTE w_SHORT w_INT w_LONG ((p2 &&& (15 : Int32)) - (2 : Int32)))])) rfl (by rw [hml]; rfl) (argsL := [(.int ((p2 &&& (15 : Int32)) - (2 : Int32)))]) (rest := [(own_exp w_BOOLEAN w_CHAR w_FLOAT w_DOUBLE w_BYTE w_SHORT w_INT w_LONG ((p2 &&& (15 : Int32)) - (2 : Int32)))]) (lenOf pd_0 rfl) rfl (by show 2 * 0 + (List.map (fun v => v.category) [(own_exp w_BOOLEAN w_CHAR w_FLOAT w_DOUBLE w_BYTE w_SHORT w_INT w_LONG ((p2 &&& (15 : Int32)) - (2 : Int32)))]).sum ≤ _; simp only [List.map_cons, List.map_nil, List.sum_cons, List.sum_nil, XT.cat1 (own_exp_ref w_BOOLEAN w_CHAR w_FLOAT w_DOUBLE w_BYTE w_SHORT w_INT w_LONG ((p2 &&& (15 : Int32)) - (2 : Int32)))]; exact Nat.le_of_eq rfl) (hb hby at_29) (fun _ _ => ⟨rfl, e3, (by decide : 0 + 0 ≤ _), (by decide : 0 + 0 ≤ _)⟩)
  dsimp only [Pt.U, Pt.locs, Pt.cells, Pt.slots] at X4 l4 y4 z4 st4 hQ4
  subst l4 y4 z4
  obtain ⟨hv4, N4q, e4⟩ := hQ4
  subst hv4
  have N4 := Fr.app N3 N4q
  refine own_go (fun t k => st4 t k) ?_
  show Go p.tables e below _ (T4.setTop (mkF m 32 #[.val (.int p1), .val (.int p2), .val (.int ((p2 &&& (15 : Int32)) - (2 : Int32))), .val (.int (1 : Int32)), .unset] [(own_exp w_BOOLEAN w_CHAR w_FLOAT w_DOUBLE w_BYTE w_SHORT w_INT w_LONG ((p2 &&& (15 : Int32)) - (2 : Int32))), (own_exp w_BOOLEAN w_CHAR w_FLOAT w_DOUBLE w_BYTE w_SHORT w_INT w_LONG ((p2 &&& (15 : Int32)) - (2 : Int32)))]))
  refine own_go (fun t k => XT.acmpNo X4.here hx rfl (hb hby at_32) rfl (own_exp_ref w_BOOLEAN w_CHAR w_FLOAT w_DOUBLE w_BYTE w_SHORT w_INT w_LONG ((p2 &&& (15 : Int32)) - (2 : Int32))) (own_exp_ref w_BOOLEAN w_CHAR w_FLOAT w_DOUBLE w_BYTE w_SHORT w_INT w_LONG ((p2 &&& (15 : Int32)) - (2 : Int32))) (XT.aa_ne_f rfl) k) ?_
  show Go p.tables e below _ (T4.setTop (mkF m 35 #[.val (.int p1), .val (.int p2), .val (.int ((p2 &&& (15 : Int32)) - (2 : Int32))), .val (.int (1 : Int32)), .unset] []))
  refine own_go (fun t k => XS.iconst X4.here hx rfl (hb hby at_35) k) ?_
  show Go p.tables e below _ (T4.setTop (mkF m 36 #[.val (.int p1), .val (.int p2), .val (.int ((p2 &&& (15 : Int32)) - (2 : Int32))), .val (.int (1 : Int32)), .unset] [(.int (1 : Int32))]))
  refine own_go (fun t k => XS.goto X4.here hx rfl (pc0 := 36) (pc' := 40) rfl (hb hby at_36) (by decide) (by decide) k) ?_
  show Go p.tables e below _ (T4.setTop (mkF m 40 #[.val (.int p1), .val (.int p2), .val (.int ((p2 &&& (15 : Int32)) - (2 : Int32))), .val (.int (1 : Int32)), .unset] [(.int (1 : Int32))]))
  refine own_go (fun t k => XS.istore X4.here hx rfl (hb hby at_40) rfl (l' := #[.val (.int p1), .val (.int p2), .val (.int ((p2 &&& (15 : Int32)) - (2 : Int32))), .val (.int (1 : Int32)), .val (.int (1 : Int32))]) rfl k) ?_
  show Go p.tables e below _ (T4.setTop (mkF m 42 #[.val (.int p1), .val (.int p2), .val (.int ((p2 &&& (15 : Int32)) - (2 : Int32))), .val (.int (1 : Int32)), .val (.int (1 : Int32))] []))
  refine own_go (fun t k => XS.iloadN X4.here hx rfl (hb hby at_42) rfl k) ?_
  show Go p.tables e below _ (T4.setTop (mkF m 43 #[.val (.int p1), .val (.int p2), .val (.int ((p2 &&& (15 : Int32)) - (2 : Int32))), .val (.int (1 : Int32)), .val (.int (1 : Int32))] [(.int (1 : Int32))]))
  refine own_go (fun t k => XS.ifNo X4.here hx rfl (hb hby at_43) rfl (XT.i0_eq_f (by decide)) k) ?_
  show Go p.tables e below _ (T4.setTop (mkF m 46 #[.val (.int p1), .val (.int p2), .val (.int ((p2 &&& (15 : Int32)) - (2 : Int32))), .val (.int (1 : Int32)), .val (.int (1 : Int32))] []))
  refine own_go (fun t k => XS.iload X4.here hx rfl (hb hby at_46) rfl k) ?_
  show Go p.tables e below _ (T4.setTop (mkF m 48 #[.val (.int p1), .val (.int p2), .val (.int ((p2 &&& (15 : Int32)) - (2 : Int32))), .val (.int (1 : Int32)), .val (.int (1 : Int32))] [(.int (1 : Int32))]))
  refine own_go (fun t k => XS.ifNo X4.here hx rfl (hb hby at_48) rfl (XT.i0_eq_f (by decide)) k) ?_
  show Go p.tables e below _ (T4.setTop (mkF m 51 #[.val (.int p1), .val (.int p2), .val (.int ((p2 &&& (15 : Int32)) - (2 : Int32))), .val (.int (1 : Int32)), .val (.int (1 : Int32))] []))
  refine own_go (fun t k => XS.iconst X4.here hx rfl (hb hby at_51) k) ?_
  show Go p.tables e below _ (T4.setTop (mkF m 52 #[.val (.int p1), .val (.int p2), .val (.int ((p2 &&& (15 : Int32)) - (2 : Int32))), .val (.int (1 : Int32)), .val (.int (1 : Int32))] [(.int (1 : Int32))]))
  refine own_go (fun t k => XS.goto X4.here hx rfl (pc0 := 52) (pc' := 56) rfl (hb hby at_52) (by decide) (by decide) k) ?_
  show Go p.tables e below _ (T4.setTop (mkF m 56 #[.val (.int p1), .val (.int p2), .val (.int ((p2 &&& (15 : Int32)) - (2 : Int32))), .val (.int (1 : Int32)), .val (.int (1 : Int32))] [(.int (1 : Int32))]))
  exact own_ret X4 hx hlk Bd.returns rfl (Or.inl ⟨rfl, Or.inr (Or.inl rfl), _, rfl⟩) (hb hby at_56) ⟨rfl, N4, e4⟩ (by decide) (by decide)
set_option maxRecDepth 65536 in
set_option maxHeartbeats 40000000 in
theorem comes_1 {Post : Tables → Env → Array Value → State → Outcome → State → Prop} (hpost : ∀ tb e args s v u, (limb_1_1.after args s (.returned v) u = true ∧ limb_1_2.after args s (.returned v) u = true ∧ True) → FrameEnd s (.returned v) u (Jvm.fieldLocs frame_1_writes args s ++ Jvm.arrayLocs frame_1_arrays args s ++ Jvm.staticLocs frame_1_statics s) 0 0 → Post tb e args s (.returned v) u) :
    ArmFor flags0 classFile x code maxLocals ret World_1 tables_1 room_1 Calls_1 rest_1 Pre_1 Post := by
  intro l hfl _ _ p e ha hc hk s m args below hf hA hF happ hP
  obtain ⟨hcalls, hrest, hpre⟩ := hP
  obtain ⟨-, -, -, hnamed, -, -, -, hat⟩ := (Spec.applies_iff hf).mp happ
  obtain ⟨hg, hn⟩ := and_e (Cond.before_iff.mp (show (Jvm.Cond.and given_1 narrow_1).before args s = true from hpre))
  obtain ⟨gc, ga0⟩ := and_e hg
  obtain ⟨gi0, ga1⟩ := and_e ga0
  have gi1 := ga1
  obtain ⟨w0, w1, rfl⟩ : ∃ w0 w1 : Value, args = #[w0, w1] := by
    have hs : args.size = 2 := by simpa [Cond.value, given_1] using gc
    obtain ⟨L⟩ := args
    match L, hs with
    | [w0, w1], _ => exact ⟨w0, w1, rfl⟩
  have hw := fun d (hd : d ∈ tables_1) => atoms_spec (ws := Jvm.Cond.code x code maxLocals ret :: tables_1) hat d (List.mem_cons_of_mem _ hd)
  obtain ⟨i0, ei0⟩ := is_v gi0
  obtain rfl : w0 = (.int i0) := Option.some.inj ei0
  obtain ⟨i1, ei1⟩ := is_v gi1
  obtain rfl : w1 = (.int i1) := Option.some.inj ei1
  obtain ⟨c0, r0⟩ := and_e hn
  obtain ⟨c1, r1⟩ := and_e r0
  obtain ⟨c2, r2⟩ := and_e r1
  obtain ⟨c3, r3⟩ := and_e r2
  obtain ⟨c4, r4⟩ := and_e r3
  obtain ⟨c5, r5⟩ := and_e r4
  obtain ⟨c6, r6⟩ := and_e r5
  obtain ⟨c7, r7⟩ := and_e r6
  obtain ⟨c8, r8⟩ := and_e r7
  obtain ⟨c9, r9⟩ := and_e r8
  obtain ⟨c10, r10⟩ := and_e r9
  obtain ⟨c11, r11⟩ := and_e r10
  obtain ⟨c12, r12⟩ := and_e r11
  obtain ⟨c13, r13⟩ := and_e r12
  obtain ⟨c14, r14⟩ := and_e r13
  obtain ⟨c15, r15⟩ := and_e r14
  obtain ⟨c16, r16⟩ := and_e r15
  have c17 := r16
  obtain ⟨w_VALUES, ev_VALUES⟩ := arr_v c0
  obtain ⟨cl_VALUES, Ar_VALUES⟩ := Arr.start ev_VALUES c0
  have S_VALUES := Sta.start ev_VALUES (Or.inr ⟨(hw _ (List.mem_of_getElem? (i := 2) rfl)), (hw _ (List.mem_of_getElem? (i := 9) rfl))⟩)
  obtain ⟨w_LONG, ev_LONG⟩ := exa_v c2
  have E_LONG := Exa.start ev_LONG c2
  have S_LONG := Sta.start ev_LONG (Or.inr ⟨(hw _ (List.mem_of_getElem? (i := 2) rfl)), (hw _ (List.mem_of_getElem? (i := 10) rfl))⟩)
  obtain ⟨w_FLOAT, ev_FLOAT⟩ := exa_v c4
  have E_FLOAT := Exa.start ev_FLOAT c4
  have S_FLOAT := Sta.start ev_FLOAT (Or.inr ⟨(hw _ (List.mem_of_getElem? (i := 2) rfl)), (hw _ (List.mem_of_getElem? (i := 12) rfl))⟩)
  obtain ⟨w_BYTE, ev_BYTE⟩ := exa_v c6
  have E_BYTE := Exa.start ev_BYTE c6
  have S_BYTE := Sta.start ev_BYTE (Or.inr ⟨(hw _ (List.mem_of_getElem? (i := 2) rfl)), (hw _ (List.mem_of_getElem? (i := 14) rfl))⟩)
  obtain ⟨w_CHAR, ev_CHAR⟩ := exa_v c8
  have E_CHAR := Exa.start ev_CHAR c8
  have S_CHAR := Sta.start ev_CHAR (Or.inr ⟨(hw _ (List.mem_of_getElem? (i := 2) rfl)), (hw _ (List.mem_of_getElem? (i := 16) rfl))⟩)
  obtain ⟨w_DOUBLE, ev_DOUBLE⟩ := exa_v c10
  have E_DOUBLE := Exa.start ev_DOUBLE c10
  have S_DOUBLE := Sta.start ev_DOUBLE (Or.inr ⟨(hw _ (List.mem_of_getElem? (i := 2) rfl)), (hw _ (List.mem_of_getElem? (i := 18) rfl))⟩)
  obtain ⟨w_INT, ev_INT⟩ := exa_v c12
  have E_INT := Exa.start ev_INT c12
  have S_INT := Sta.start ev_INT (Or.inr ⟨(hw _ (List.mem_of_getElem? (i := 2) rfl)), (hw _ (List.mem_of_getElem? (i := 20) rfl))⟩)
  obtain ⟨w_BOOLEAN, ev_BOOLEAN⟩ := exa_v c14
  have E_BOOLEAN := Exa.start ev_BOOLEAN c14
  have S_BOOLEAN := Sta.start ev_BOOLEAN (Or.inr ⟨(hw _ (List.mem_of_getElem? (i := 2) rfl)), (hw _ (List.mem_of_getElem? (i := 22) rfl))⟩)
  obtain ⟨w_SHORT, ev_SHORT⟩ := exa_v c16
  have E_SHORT := Exa.start ev_SHORT c16
  have S_SHORT := Sta.start ev_SHORT (Or.inr ⟨(hw _ (List.mem_of_getElem? (i := 2) rfl)), (hw _ (List.mem_of_getElem? (i := 24) rfl))⟩)
  have Len_VALUES := own_len ev_VALUES Ar_VALUES c1
  have At_VALUES_7 := own_at ev_VALUES Ar_VALUES ev_LONG c3
  have At_VALUES_2 := own_at ev_VALUES Ar_VALUES ev_FLOAT c5
  have At_VALUES_4 := own_at ev_VALUES Ar_VALUES ev_BYTE c7
  have At_VALUES_1 := own_at ev_VALUES Ar_VALUES ev_CHAR c9
  have At_VALUES_3 := own_at ev_VALUES Ar_VALUES ev_DOUBLE c11
  have At_VALUES_6 := own_at ev_VALUES Ar_VALUES ev_INT c13
  have At_VALUES_0 := own_at ev_VALUES Ar_VALUES ev_BOOLEAN c15
  have At_VALUES_5 := own_at ev_VALUES Ar_VALUES ev_SHORT c17
  obtain ⟨n, o, h1, h2, h3, _, L, rfl, ⟨rfl, N, -⟩, hq⟩ := rm_law l s _ hw tables_1 i0 i1 w_LONG w_FLOAT w_BYTE w_CHAR w_DOUBLE w_INT w_BOOLEAN w_SHORT w_VALUES cl_VALUES s.heap s.heap.size ⟨S_LONG, S_FLOAT, S_BYTE, S_CHAR, S_DOUBLE, S_INT, S_BOOLEAN, S_SHORT⟩ S_VALUES Ar_VALUES Len_VALUES At_VALUES_0 At_VALUES_1 At_VALUES_2 At_VALUES_3 At_VALUES_4 At_VALUES_5 At_VALUES_6 At_VALUES_7 p e ha hc hk s m _ below hf ((Spec.applies_iff_loose hf).mp happ).1 ⟨rfl, State.Warmed39.refl s, rfl⟩ trivial
  refine ⟨n, _, h1, h2, h3, hpost _ _ _ _ _ _ ⟨Cond.after_iff.mpr rfl, Cond.after_iff.mpr (eq_i res_at (Term.int_eval (1)) rfl), trivial⟩ ⟨hq.1, hq.2.1, (hq.2.2.sift fun y hy => Or.inr (N y hy)).mono (by decide) (by decide)⟩⟩
theorem main_1_1 : Claimed_1_1 := comes_1 fun _ _ _ _ _ _ h hF => ⟨h.1, hF⟩
theorem main_1_2 : Claimed_1_2 := comes_1 fun _ _ _ _ _ _ h hF => ⟨h.2.1, hF⟩
end Jvm.Pilot.@@N@@
namespace Jvm.Pilot.@@N@@
open Jvm Jvm.ClassFile Sem Op Lib Jvm.Free Jvm.Stand Jvm.Pilot.@@N@@.Jvm.D
/-! MADE BY PROGRAM (witnessworld.py) out of the Statement's table words and the real class files: 13 classes; the members and pool entries that the words name. The judged class is class 1, her method 2. -/
namespace start1
open Jvm.ClassFile
def u (s : String) : CpInfo := .utf8 (stringToUtf16 s)
/-- a pool by its gaps: so many unusable entries, then the entry; so many at the end -/
def gap : Nat → List CpInfo → List CpInfo
  | 0, r => r
  | n + 1, r => .unusable :: gap n r
def poolList (es : List (Nat × CpInfo)) (last : Nat) : List CpInfo := es.foldr (fun e r => gap e.1 (e.2 :: r)) (gap last [])
def pool (es : List (Nat × CpInfo)) (last : Nat) : Array CpInfo := ⟨poolList es last⟩
def fileOf (pool : Array CpInfo) (this : Nat) (attrs : Array Attribute := #[]) (ms : Array MethodInfo := #[]) (fl : Nat := 33) (sup : Nat := 0) (ifs : Array Nat := #[]) (fds : Array FieldInfo := #[]) : ClassFile where
  minorVersion := 0
  majorVersion := 65
  constantPool := pool
  accessFlags := fl
  thisClass := this
  superClass := sup
  interfaces := ifs
  fields := fds
  methods := ms
  attributes := attrs
def plain (name : String) (sup : Option ClassId) : Class where
  name := name
  kind := .ordinary
  loader := none
  accessFlags := 33
  super := sup
  interfaces := #[]
  cf := none
  fields := #[]
  methods := #[]
  instanceTypes := #[]
  staticTypes := #[]
  resolved := #[]
  callSites := []
  init := .initialized
  statics := none
  mirror := none

def pool0 : Array CpInfo := pool [(5, u "<init>"), (0, u "()V"), (1, .class_ 10), (1, u "java/lang/Object")] 113

def k0m0 : Method := { name := "<init>", desc := "()V", sig := { parameters := [], returnType := none }, accessFlags := 1, code := none }
/-- java/lang/Object -/
def k0 : Class := { plain "java/lang/Object" none with
  accessFlags := 33
  interfaces := #[]
  cf := some (fileOf pool0 8 #[] #[{ accessFlags := 1, nameIndex := 5, descriptorIndex := 6, attributes := #[] }] 33 0 #[] #[])
  fields := #[]
  methods := #[k0m0]
  instanceTypes := #[]
  staticTypes := #[]
  resolved := Array.replicate 124 none
  statics := none }

def pool1 : Array CpInfo := pool [(2, .class_ 4), (1, u "java/lang/Object"), (0, u "<init>"), (0, u "()V"), (0, .fieldref 8 9), (0, .class_ 10), (0, .nameAndType 11 12), (0, u "com/example/classlens/classlens/ArrayType"), (0, u "BOOLEAN"), (0, u "Lcom/example/classlens/classlens/ArrayType;"), (0, .fieldref 8 14), (0, .nameAndType 15 12), (0, u "CHAR"), (0, .fieldref 8 17), (0, .nameAndType 18 12), (0, u "FLOAT"), (0, .fieldref 8 20), (0, .nameAndType 21 12), (0, u "DOUBLE"), (0, .fieldref 8 23), (0, .nameAndType 24 12), (0, u "BYTE"), (0, .fieldref 8 26), (0, .nameAndType 27 12), (0, u "SHORT"), (0, .fieldref 8 29), (0, .nameAndType 30 12), (0, u "INT"), (0, .fieldref 8 32), (0, .nameAndType 33 12), (0, u "LONG"), (0, .methodref 8 35), (0, .nameAndType 36 37), (0, u "of"), (0, u "(I)Lcom/example/classlens/classlens/ArrayType;"), (0, .methodref 39 40), (0, .class_ 41), (0, .nameAndType 42 37), (0, u "com/example/classlens/classlens/ArrayTypeOfPinLaw"), (0, u "expected"), (3, u "law"), (0, u "(II)Z")] 2

def k1m0 : Method := { name := "<init>", desc := "()V", sig := { parameters := [], returnType := none }, accessFlags := 2, code := none }
def k1c1 : Code := { maxStack := 2, maxLocals := 1, code := method_2_code, exceptionTable := #[], attributes := #[] }
def k1m1 : Method := { name := "expected", desc := "(I)Lcom/example/classlens/classlens/ArrayType;", sig := { parameters := [.int], returnType := some (.object "com/example/classlens/classlens/ArrayType") }, accessFlags := 10, code := some k1c1 }
def k1c2 : Code := { maxStack := 2, maxLocals := 5, code := code, exceptionTable := #[], attributes := #[] }
def k1m2 : Method := { name := "law", desc := "(II)Z", sig := { parameters := [.int, .int], returnType := some .boolean }, accessFlags := 9, code := some k1c2 }
/-- com/example/classlens/classlens/ArrayTypeOfPinLaw -/
def k1 : Class := { plain "com/example/classlens/classlens/ArrayTypeOfPinLaw" (some 0) with
  accessFlags := 49
  interfaces := #[]
  cf := some (fileOf pool1 39 #[] #[{ accessFlags := 2, nameIndex := 5, descriptorIndex := 6, attributes := #[] }, { accessFlags := 10, nameIndex := 42, descriptorIndex := 37, attributes := #[] }, { accessFlags := 9, nameIndex := 46, descriptorIndex := 47, attributes := #[] }] 49 2 #[] #[])
  fields := #[]
  methods := #[k1m0, k1m1, k1m2]
  instanceTypes := #[]
  staticTypes := #[]
  resolved := Array.replicate 50 none
  statics := none }

def pool2 : Array CpInfo := pool [(1, .class_ 2), (0, u "java/lang/constant/Constable"), (0, .class_ 4), (0, u "java/lang/Object")] 6

/-- java/lang/constant/Constable -/
def k2 : Class := { plain "java/lang/constant/Constable" (some 0) with
  accessFlags := 1537
  interfaces := #[]
  cf := some (fileOf pool2 1 #[] #[] 1537 3 #[] #[])
  fields := #[]
  methods := #[]
  instanceTypes := #[]
  staticTypes := #[]
  resolved := Array.replicate 11 none
  statics := none }

def pool3 : Array CpInfo := pool [(1, .class_ 2), (0, u "java/lang/Comparable"), (0, .class_ 4), (0, u "java/lang/Object")] 7

/-- java/lang/Comparable -/
def k3 : Class := { plain "java/lang/Comparable" (some 0) with
  accessFlags := 1537
  interfaces := #[]
  cf := some (fileOf pool3 1 #[] #[] 1537 3 #[] #[])
  fields := #[]
  methods := #[]
  instanceTypes := #[]
  staticTypes := #[]
  resolved := Array.replicate 12 none
  statics := none }

def pool4 : Array CpInfo := pool [(1, .class_ 2), (0, u "java/io/Serializable"), (0, .class_ 4), (0, u "java/lang/Object")] 2

/-- java/io/Serializable -/
def k4 : Class := { plain "java/io/Serializable" (some 0) with
  accessFlags := 1537
  interfaces := #[]
  cf := some (fileOf pool4 1 #[] #[] 1537 3 #[] #[])
  fields := #[]
  methods := #[]
  instanceTypes := #[]
  staticTypes := #[]
  resolved := Array.replicate 7 none
  statics := none }

def pool5 : Array CpInfo := pool [(2, .class_ 4), (1, u "java/lang/Enum"), (0, u "name"), (0, u "Ljava/lang/String;"), (2, u "ordinal"), (0, u "I"), (1, .class_ 14), (1, u "java/lang/Object"), (4, u "hash"), (86, .class_ 108), (1, u "java/lang/Enum$EnumDesc"), (2, .class_ 112), (0, u "java/lang/constant/Constable"), (0, .class_ 114), (0, u "java/lang/Comparable"), (0, .class_ 116), (0, u "java/io/Serializable")] 87

/-- java/lang/Enum -/
def k5 : Class := { plain "java/lang/Enum" (some 0) with
  accessFlags := 1057
  interfaces := #[2, 3, 4]
  cf := some (fileOf pool5 2 #[.nestMembers #[106]] #[] 1057 12 #[111, 113, 115] #[{ accessFlags := 18, nameIndex := 5, descriptorIndex := 6, attributes := #[] }, { accessFlags := 18, nameIndex := 9, descriptorIndex := 10, attributes := #[] }, { accessFlags := 2, nameIndex := 19, descriptorIndex := 10, attributes := #[] }])
  fields := #[{ name := "name", type := (.object "java/lang/String"), accessFlags := 18, slot := 0, constantValue := 0 }, { name := "ordinal", type := .int, accessFlags := 18, slot := 1, constantValue := 0 }, { name := "hash", type := .int, accessFlags := 2, slot := 2, constantValue := 0 }]
  methods := #[]
  instanceTypes := #[(.object "java/lang/String"), .int, .int]
  staticTypes := #[]
  resolved := Array.replicate 204 none
  statics := none }

def pool6 : Array CpInfo := pool [(1, .class_ 2), (0, u "com/example/classlens/classlens/ArrayType"), (2, u "BOOLEAN"), (0, u "Lcom/example/classlens/classlens/ArrayType;"), (2, u "CHAR"), (2, u "FLOAT"), (2, u "DOUBLE"), (2, u "BYTE"), (2, u "SHORT"), (2, u "INT"), (2, u "LONG"), (2, u "$VALUES"), (0, u "[Lcom/example/classlens/classlens/ArrayType;"), (6, .class_ 40), (1, u "java/lang/Enum"), (6, .fieldref 1 48), (0, .nameAndType 49 31), (0, u "VALUES"), (32, u "FIRST_CODE"), (0, u "I"), (8, u "of"), (0, u "(I)Lcom/example/classlens/classlens/ArrayType;")] 6

def k6c0 : Code := { maxStack := 2, maxLocals := 2, code := prog_13_method_4_code, exceptionTable := #[], attributes := #[] }
def k6m0 : Method := { name := "of", desc := "(I)Lcom/example/classlens/classlens/ArrayType;", sig := { parameters := [.int], returnType := some (.object "com/example/classlens/classlens/ArrayType") }, accessFlags := 8, code := some k6c0 }
/-- com/example/classlens/classlens/ArrayType -/
def k6 : Class := { plain "com/example/classlens/classlens/ArrayType" (some 5) with
  accessFlags := 16432
  interfaces := #[]
  cf := some (fileOf pool6 1 #[] #[{ accessFlags := 8, nameIndex := 92, descriptorIndex := 93, attributes := #[] }] 16432 38 #[] #[{ accessFlags := 16409, nameIndex := 5, descriptorIndex := 6, attributes := #[] }, { accessFlags := 16409, nameIndex := 9, descriptorIndex := 6, attributes := #[] }, { accessFlags := 16409, nameIndex := 12, descriptorIndex := 6, attributes := #[] }, { accessFlags := 16409, nameIndex := 15, descriptorIndex := 6, attributes := #[] }, { accessFlags := 16409, nameIndex := 18, descriptorIndex := 6, attributes := #[] }, { accessFlags := 16409, nameIndex := 21, descriptorIndex := 6, attributes := #[] }, { accessFlags := 16409, nameIndex := 24, descriptorIndex := 6, attributes := #[] }, { accessFlags := 16409, nameIndex := 27, descriptorIndex := 6, attributes := #[] }, { accessFlags := 26, nameIndex := 82, descriptorIndex := 83, attributes := #[] }, { accessFlags := 26, nameIndex := 49, descriptorIndex := 31, attributes := #[] }, { accessFlags := 4122, nameIndex := 30, descriptorIndex := 31, attributes := #[] }])
  fields := #[{ name := "BOOLEAN", type := (.object "com/example/classlens/classlens/ArrayType"), accessFlags := 16409, slot := 0, constantValue := 0 }, { name := "CHAR", type := (.object "com/example/classlens/classlens/ArrayType"), accessFlags := 16409, slot := 1, constantValue := 0 }, { name := "FLOAT", type := (.object "com/example/classlens/classlens/ArrayType"), accessFlags := 16409, slot := 2, constantValue := 0 }, { name := "DOUBLE", type := (.object "com/example/classlens/classlens/ArrayType"), accessFlags := 16409, slot := 3, constantValue := 0 }, { name := "BYTE", type := (.object "com/example/classlens/classlens/ArrayType"), accessFlags := 16409, slot := 4, constantValue := 0 }, { name := "SHORT", type := (.object "com/example/classlens/classlens/ArrayType"), accessFlags := 16409, slot := 5, constantValue := 0 }, { name := "INT", type := (.object "com/example/classlens/classlens/ArrayType"), accessFlags := 16409, slot := 6, constantValue := 0 }, { name := "LONG", type := (.object "com/example/classlens/classlens/ArrayType"), accessFlags := 16409, slot := 7, constantValue := 0 }, { name := "FIRST_CODE", type := .int, accessFlags := 26, slot := 8, constantValue := 0 }, { name := "VALUES", type := (.array (.object "com/example/classlens/classlens/ArrayType")), accessFlags := 26, slot := 9, constantValue := 0 }, { name := "$VALUES", type := (.array (.object "com/example/classlens/classlens/ArrayType")), accessFlags := 4122, slot := 10, constantValue := 0 }]
  methods := #[k6m0]
  instanceTypes := #[(.object "java/lang/String"), .int, .int]
  staticTypes := #[(.object "com/example/classlens/classlens/ArrayType"), (.object "com/example/classlens/classlens/ArrayType"), (.object "com/example/classlens/classlens/ArrayType"), (.object "com/example/classlens/classlens/ArrayType"), (.object "com/example/classlens/classlens/ArrayType"), (.object "com/example/classlens/classlens/ArrayType"), (.object "com/example/classlens/classlens/ArrayType"), (.object "com/example/classlens/classlens/ArrayType"), .int, (.array (.object "com/example/classlens/classlens/ArrayType")), (.array (.object "com/example/classlens/classlens/ArrayType"))]
  resolved := Array.replicate 100 none
  statics := some 0 }

def pool7 : Array CpInfo := pool [(1, u "java/lang/Cloneable"), (0, .class_ 1), (0, u "java/lang/Object"), (0, .class_ 3)] 3

/-- java/lang/Cloneable -/
def k7 : Class := { plain "java/lang/Cloneable" (some 0) with
  accessFlags := 1537
  interfaces := #[]
  cf := some (fileOf pool7 2 #[] #[] 1537 4 #[] #[])
  fields := #[]
  methods := #[]
  instanceTypes := #[]
  staticTypes := #[]
  resolved := Array.replicate 8 none
  statics := none }

/-- the primitive byte -/
def k8 : Class := { plain "byte" none with kind := .primitive 'B', accessFlags := 0x411 }
/-- [B -/
def k9 : Class := { plain "[B" (some 0) with kind := .array 8 .byte, interfaces := #[7, 4], accessFlags := 1041 }

/-- the primitive int -/
def k10 : Class := { plain "int" none with kind := .primitive 'I', accessFlags := 0x411 }
/-- [I -/
def k11 : Class := { plain "[I" (some 0) with kind := .array 10 .int, interfaces := #[7, 4], accessFlags := 1041 }

/-- [Lcom/example/classlens/classlens/ArrayType; -/
def k12 : Class := { plain "[Lcom/example/classlens/classlens/ArrayType;" (some 0) with kind := .array 6 (.object "com/example/classlens/classlens/ArrayType"), interfaces := #[7, 4], accessFlags := 1041 }

def heap : Heap := #[{ cls := 6, slots := #[.ref 8, .ref 5, .ref 3, .ref 6, .ref 4, .ref 9, .ref 7, .ref 2, .int 0, .ref 1, .null], vm := .statics 6 },
  { cls := 12, slots := #[.ref 8, .ref 5, .ref 3, .ref 6, .ref 4, .ref 9, .ref 7, .ref 2], vm := .none },
  { cls := 6, slots := #[.null, .int 0, .int 0], vm := .none },
  { cls := 6, slots := #[.null, .int 1, .int 0], vm := .none },
  { cls := 6, slots := #[.null, .int 2, .int 0], vm := .none },
  { cls := 6, slots := #[.null, .int 3, .int 0], vm := .none },
  { cls := 6, slots := #[.null, .int 4, .int 0], vm := .none },
  { cls := 6, slots := #[.null, .int 5, .int 0], vm := .none },
  { cls := 6, slots := #[.null, .int 6, .int 0], vm := .none },
  { cls := 6, slots := #[.null, .int 7, .int 0], vm := .none }]
def classes : Array Class := #[k0, k1, k2, k3, k4, k5, k6, k7, k8, k9, k10, k11, k12]
def interned : List (Array UInt16 × Addr) := []
def slotsUsed : Nat := 43
def theMethod : MethodId := ⟨1, 2⟩
def args0 : Array Value := #[.int 5, .int 3]
def aboutOver (below : List Frame) : State where
  vm := { classes := classes, interned := interned.toArray }
  heap := heap
  slotsUsed := slotsUsed
  threads := #[{ frames := .invoking theMethod args0 :: below }]
def below0 : List Frame := [.native { method := ⟨0, 0⟩, args := #[] }]
def about1 : State := aboutOver below0
def p0 : Program := .bare "" "" ""
def e0 : Env := launch0.env 0 0 0
theorem w_frames : about1.frames = Frame.invoking theMethod args0 :: below0 := rfl
set_option maxRecDepth 65536 in
theorem w_args : argsFit about1.vm theMethod args0 = true := by decide +kernel
set_option maxRecDepth 65536 in
theorem w_heap : heapFits about1 = true := by decide +kernel
set_option maxRecDepth 65536 in
theorem w_runnable : about1.curStatus? = some .runnable := by decide +kernel
set_option maxRecDepth 65536 in
theorem w_alone : about1.alone = true := by decide +kernel
set_option maxRecDepth 65536 in
theorem w_named : about1.methodNamed? x = some theMethod := by decide +kernel
set_option maxRecDepth 65536 in
theorem w_hears : about1.hears theMethod below0 = true := by decide +kernel
set_option maxRecDepth 65536 in
theorem w_ripe : about1.ripe theMethod args0 below0 = true := by decide +kernel
theorem w_running : about1.status = .running := rfl
set_option maxRecDepth 65536 in
theorem w_room : about1.hasRoom e0.platform room_1 = true :=
  launch0.hasRoom_least _ room_1 (by decide +kernel) (by decide +kernel) (by decide +kernel) (by decide +kernel) (by decide +kernel) (by decide +kernel)
theorem allAtoms_all (ts : List Jvm.Cond) (a : Array Jvm.Value) (st : Jvm.State) : (allAtoms ts).before a st = ts.all (fun c => c.before a st) := by
  induction ts with
  | nil => rfl
  | cons c t ih =>
    show (Jvm.Cond.and c (allAtoms t)).before a st = _
    rw [Jvm.Cond.before_and, ih, List.all_cons]
def words1 : List Jvm.Cond := Jvm.Cond.code x code maxLocals ret :: tables_1
/-- a 'code' word, met by the world's own term for the bytes: nothing is compared byte by byte -/
theorem code_word {y : MethodName} {bytes : ByteArray} {mx : Nat} {rt : Option FieldType} {a : Array Value} {s : State} {m : MethodId} {meth : Method} {c : Code} (h1 : s.methodNamed? y = some m) (h2 : s.vm.method? m = some meth) (h3 : meth.code = some c) (h4 : c.code = bytes)
    (h5 : (c.maxLocals == mx && c.exceptionTable.isEmpty && decide (c.maxStack ≤ mostOperands) && decide (meth.sig.returnType = rt) && !meth.locks && decide (parseMethodDescriptor y.desc = some meth.sig)) = true) : (Jvm.Cond.code y bytes mx rt).before a s = true := by
  simp only [Bool.and_eq_true, beq_iff_eq, Bool.not_eq_true', decide_eq_true_eq] at h5
  obtain ⟨⟨⟨⟨⟨g1, g2⟩, g3⟩, g4⟩, g5⟩, g6⟩ := h5
  simp [Cond.before, Cond.holds, Cond.value, h1, h2, h3, h4, g1, g2, g3, g4, g5, g6]
def isCode : Jvm.Cond → Bool
  | .code _ _ _ _ => true
  | _ => false
theorem all_split {L : List Jvm.Cond} {P : Jvm.Cond → Bool} (h1 : L.all (fun c => isCode c || P c) = true) (h2 : ∀ c ∈ L.filter isCode, P c = true) : L.all P = true := by
  refine List.all_eq_true.mpr fun c hc => ?_
  have h := List.all_eq_true.mp h1 c hc
  rcases Bool.eq_false_or_eq_true (isCode c) with hi | hi
  · exact h2 c (List.mem_filter.mpr ⟨hc, hi⟩)
  · simpa [hi] using h
set_option maxRecDepth 65536 in
theorem w_c0 : (Jvm.Cond.code x code maxLocals ret).before args0 about1 = true := code_word (m := ⟨1, 2⟩) (meth := k1m2) (c := k1c2) (by decide +kernel) rfl rfl rfl (by decide +kernel)
set_option maxRecDepth 65536 in
theorem w_c1 : (Jvm.Cond.code ({ cls := "com/example/classlens/classlens/ArrayType", name := "of", desc := "(I)Lcom/example/classlens/classlens/ArrayType;" } : Jvm.MethodName) prog_13_method_4_code (2 : Nat) (Option.some (Jvm.ClassFile.FieldType.object "com/example/classlens/classlens/ArrayType"))).before args0 about1 = true := code_word (m := ⟨6, 0⟩) (meth := k6m0) (c := k6c0) (by decide +kernel) rfl rfl rfl (by decide +kernel)
set_option maxRecDepth 65536 in
theorem w_c2 : (Jvm.Cond.code ({ cls := "com/example/classlens/classlens/ArrayTypeOfPinLaw", name := "expected", desc := "(I)Lcom/example/classlens/classlens/ArrayType;" } : Jvm.MethodName) method_2_code (1 : Nat) (Option.some (Jvm.ClassFile.FieldType.object "com/example/classlens/classlens/ArrayType"))).before args0 about1 = true := code_word (m := ⟨1, 1⟩) (meth := k1m1) (c := k1c1) (by decide +kernel) rfl rfl rfl (by decide +kernel)
def codes1 : List Jvm.Cond := [Jvm.Cond.code x code maxLocals ret, Jvm.Cond.code ({ cls := "com/example/classlens/classlens/ArrayType", name := "of", desc := "(I)Lcom/example/classlens/classlens/ArrayType;" } : Jvm.MethodName) prog_13_method_4_code (2 : Nat) (Option.some (Jvm.ClassFile.FieldType.object "com/example/classlens/classlens/ArrayType")), Jvm.Cond.code ({ cls := "com/example/classlens/classlens/ArrayTypeOfPinLaw", name := "expected", desc := "(I)Lcom/example/classlens/classlens/ArrayType;" } : Jvm.MethodName) method_2_code (1 : Nat) (Option.some (Jvm.ClassFile.FieldType.object "com/example/classlens/classlens/ArrayType"))]
set_option maxRecDepth 65536 in
theorem codes_eq : words1.filter isCode = codes1 := rfl
theorem w_codes : ∀ c ∈ words1.filter isCode, c.before args0 about1 = true := by
  rw [codes_eq]
  intro c hc
  simp only [codes1, List.mem_cons, List.not_mem_nil, or_false] at hc
  rcases hc with rfl | rfl | rfl
  · exact w_c0
  · exact w_c1
  · exact w_c2
set_option maxRecDepth 65536 in
theorem w_t1 : (words1.take 24).all (fun c => isCode c || c.before args0 about1) = true := by decide +kernel
set_option maxRecDepth 65536 in
theorem w_t2 : (words1.drop 24).all (fun c => isCode c || c.before args0 about1) = true := by decide +kernel
theorem w_tables : (allAtoms (Jvm.Cond.code x code maxLocals ret :: tables_1)).before args0 about1 = true := by
  rw [allAtoms_all]
  show words1.all (fun c => c.before args0 about1) = true
  refine all_split ?_ w_codes
  rw [← List.take_append_drop 24 words1, List.all_append, w_t1, w_t2]
  rfl
set_option maxRecDepth 65536 in
theorem w_case : (Jvm.Cond.and given_1 narrow_1).before args0 about1 = true := by decide +kernel
theorem w_applies : (headSpec (Jvm.Cond.code x code maxLocals ret :: tables_1) room_1).applies x e0.platform about1 = true :=
  (Spec.applies_iff w_frames).mpr ⟨w_running, w_runnable, w_alone, w_named, w_hears, w_ripe, w_room, w_tables⟩
theorem atStart : AtStart classFile x code maxLocals ret World_1 tables_1 room_1 Calls_1 rest_1 Pre_1 launch0 p0 e0 about1 theMethod args0 below0 :=
  ⟨lists_1, trivial, launch0.admits_env _ _ _, launch0.least_env, fairChoices_fair.cas, fairChoices_fair.clock, w_frames, w_args, w_heap, w_applies, trivial, trivial, w_case⟩
end start1
theorem witness_1 : WitnessClaimed_1 := ⟨start1.p0, start1.e0, start1.about1, start1.theMethod, start1.args0, start1.below0, start1.atStart⟩
end Jvm.Pilot.@@N@@
