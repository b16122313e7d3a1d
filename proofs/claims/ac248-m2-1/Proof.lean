import JvmDerived
import JvmDerived.Pilot.@@N@@Statement
import JvmDerived.Pilot.@@N@@Code
set_option linter.unusedVariables false
set_option linter.unusedSimpArgs false
namespace Jvm.Pilot.@@N@@
open Jvm Jvm.ClassFile Sem Op Lib Jvm.Free Jvm.Stand Jvm.LawKit Jvm.RoadKit Bundle Jvm.Pilot.@@N@@.Jvm.D
def Go (tb : Tables) (e : Env) (below : List Frame) (P : State → Outcome → Prop) (T : State) : Prop := ∃ s₂ o, Steps tb e below T s₂ ∧ P s₂ o
theorem own_go {tb : Tables} {e : Env} {below : List Frame} {P : State → Outcome → Prop} {T T' : State} (h : ∀ t, Steps tb e below T' t → Steps tb e below T t) (k : Go tb e below P T') : Go tb e below P T := by
  obtain ⟨a, b, c, d⟩ := k
  exact ⟨a, b, h a c, d⟩
def Fin (s : State) (below : List Frame) (Q : Option Value → Heap → List Loc → Prop) (cc ss : Nat) (s₂ : State) (o : Outcome) : Prop := s₂.status = .running ∧ Ended s₂ below o ∧ ∃ v L, o = .returned v ∧ Q v s₂.heap L ∧ FrameEnd s o s₂ L cc ss
def PQ (w : Value) (h0 : Heap) (n0 : Nat) (v : Option Value) (h : Heap) (L : List Loc) : Prop := v = some w ∧ Fr n0 L ∧ h = h0
theorem own_ret {p : Program} {l : Launch} {e : Env} {R : Room} {s : State} {m : MethodId} {args : Array Value} {below : List Frame} {meth : Method} {c : Code} {T : State} {locs : List Loc} {cells slots : Nat} (X : Stand p l e R s m args below meth c T locs cells slots) (hx : p.tables.exec = Jvm.exec) (hlk : meth.locks = false)
    {pc : Nat} {Ls : Array Slot} {w : Value} {t : FieldType} {i : Instr} {rest : List Value} (hret : meth.sig.returnType = some t) (hn : narrow t w = w)
    (hi : (i = .ireturn ∧ (t = .int ∨ t = .boolean ∨ t = .byte ∨ t = .char ∨ t = .short) ∧ ∃ z, w = .int z) ∨ (i = .lreturn ∧ t = .long ∧ ∃ z, w = .long z) ∨ (i = .dreturn ∧ t = .double ∧ ∃ z, w = .double z) ∨ (i = .freturn ∧ t = .float ∧ ∃ z, w = .float z) ∨ (i = .areturn ∧ t.isReference = true ∧ w.isRef = true))
    (hd : decode c.code pc = .ok (i, 1)) {Q : Option Value → Heap → List Loc → Prop} (hQ : Q (some w) T.heap locs) {cc ss : Nat} (hc : cells ≤ cc) (hs : slots ≤ ss) :
    Go p.tables e below (Fin s below Q cc ss) (T.setTop (mkF m pc Ls (w :: rest))) := by
  obtain ⟨fs, hr, hrun, hended, hW, hsame⟩ := X.leave (v := some w) (fun h => by rw [hret] at h; cases h) hlk
  exact ⟨_, _, retOut X hx hret hn hi hd hr, hrun, hended, _, _, rfl, hQ, ⟨_, rfl⟩, hW, hsame.mono hc hs⟩
theorem own_fld {Z : State} {args : Array Value} {t : Term} {a : Addr} {C n d : String} {k : Int32} (ev : t.eval args Z none [] Z = some (.ref a)) (h : (Jvm.Cond.eq (.field t C n d) (.int k)).value args Z none Z [] = some true) : Fld Z Z.heap a C n d (.int k) := by
  have e1 : (Term.field t C n d).eval args Z none [] Z = Z.fieldOf? a C n d := fld_at ev
  obtain ⟨x, y, h1, h2, h3, h4⟩ := cmp_v (Or.inl h)
  have e2 : (Term.int k).eval args Z none [] Z = some (.int k) := Term.int_eval k
  cases e2.symm.trans h2
  obtain ⟨z, rfl⟩ := h4
  have q := gotT (u := (Jvm.Cond.eq (.field t C n d) (.int k)).value args Z none Z []) (P := z = k) (by simp [Cond.value, h1, e2]) h
  subst q
  exact Fld.start (e1 ▸ h1)
theorem own_ne {Z : State} {h : Heap} {a b : Addr} {C n d : String} {v w : Value} (F : Fld Z h a C n d v) (G : Fld Z h b C n d w) (hn : v ≠ w) : a ≠ b := by
  rintro rfl
  obtain ⟨c1, cf1, k1, i1, f1, a1, a2, a3, a4, a5, a6, a7⟩ := F
  obtain ⟨c2, cf2, k2, i2, f2, b1, b2, b3, b4, b5, b6, b7⟩ := G
  cases a1.symm.trans b1
  cases a2.symm.trans b2
  exact hn (Option.some.inj (a7.symm.trans b7))
theorem own_len {Z : State} {args : Array Value} {t : Term} {a : Addr} {cl : Cell} {ty : FieldType} {k : Int32} (ev : t.eval args Z none [] Z = some (.ref a)) (Ar : Arr Z Z.heap a cl ty) (h : (Jvm.Cond.eq (.length t) (.int k)).value args Z none Z [] = some true) : cl.slots.size = k.toInt.toNat ∧ cl.slots.size.toInt32 = k := by
  have ha := Arr.fin (Vm.Alike.refl _) Ar
  obtain ⟨x, y, h1, h2, h3, h4⟩ := cmp_v (Or.inl h)
  have e2 : (Term.int k).eval args Z none [] Z = some (.int k) := Term.int_eval k
  by_cases hl : cl.slots.size < 2 ^ 31
  · have e := len_f ev ha hl
    have q := gotT (u := (Jvm.Cond.eq (.length t) (.int k)).value args Z none Z []) (P := cl.slots.size.toInt32 = k) (by simp [Cond.value, e, e2]) h
    refine ⟨?_, q⟩
    rw [← q, len_toInt hl]
    rfl
  · simp [Term.eval, ev, ha, hl] at h1
theorem own_at {Z : State} {args : Array Value} {t t2 : Term} {a b : Addr} {cl : Cell} {ty : FieldType} {j : Int32} (ev : t.eval args Z none [] Z = some (.ref a)) (Ar : Arr Z Z.heap a cl ty) (ev2 : t2.eval args Z none [] Z = some (.ref b)) (h : (Jvm.Cond.eq (.elem t (.int j)) t2).value args Z none Z [] = some true) : ¬ (j < 0 ∨ cl.slots.size ≤ j.toNatClampNeg) ∧ cl.slots[j.toNatClampNeg]? = some (.ref b) := by
  obtain ⟨x, y, h1, h2, h3, h4⟩ := cmp_v (Or.inl h)
  cases ev2.symm.trans h2
  have h5 : x.isRef = true := h4.2
  have q := gotT (eq_R h1 h2 h5 rfl) h
  subst q
  exact elem_in h1 ev (Term.int_eval j) Ar.1
theorem own_lt {x k : Int32} {n : Int} (hk : k.toInt = n) : x < k ↔ x.toInt < n := by rw [Int32.lt_iff_toInt_lt, hk]
theorem own_gt {x k : Int32} {n : Int} (hk : k.toInt = n) : k < x ↔ n < x.toInt := by rw [Int32.lt_iff_toInt_lt, hk]
theorem own_eq {x k : Int32} {n : Int} (hk : k.toInt = n) : x = k ↔ x.toInt = n := by rw [← Int32.toInt_inj, hk]
/-- names, read out of the Statement -/
abbrev own_C : String := site_20.cls
def own_A : String := match narrow_1 with | .and (.arrayOf (.static _ _ d) _) _ => d | _ => ""
def own_D : String := match narrow_1 with | .and _ (.and _ (.and (.exactly (.static _ _ d) _) _)) => d | _ => ""
def own_S (Z : State) (h0 : Heap) (w_TYPE_PARAMETER_TARGET w_SUPERTYPE_TARGET w_TYPE_PARAMETER_BOUND_TARGET w_EMPTY_TARGET w_FORMAL_PARAMETER_TARGET w_THROWS_TARGET w_LOCALVAR_TARGET w_CATCH_TARGET w_OFFSET_TARGET w_TYPE_ARGUMENT_TARGET : Addr) : Prop := Sta Z h0 own_C "TYPE_PARAMETER_TARGET" own_D (.ref w_TYPE_PARAMETER_TARGET) ∧ Sta Z h0 own_C "SUPERTYPE_TARGET" own_D (.ref w_SUPERTYPE_TARGET) ∧ Sta Z h0 own_C "TYPE_PARAMETER_BOUND_TARGET" own_D (.ref w_TYPE_PARAMETER_BOUND_TARGET) ∧ Sta Z h0 own_C "EMPTY_TARGET" own_D (.ref w_EMPTY_TARGET) ∧ Sta Z h0 own_C "FORMAL_PARAMETER_TARGET" own_D (.ref w_FORMAL_PARAMETER_TARGET) ∧ Sta Z h0 own_C "THROWS_TARGET" own_D (.ref w_THROWS_TARGET) ∧ Sta Z h0 own_C "LOCALVAR_TARGET" own_D (.ref w_LOCALVAR_TARGET) ∧ Sta Z h0 own_C "CATCH_TARGET" own_D (.ref w_CATCH_TARGET) ∧ Sta Z h0 own_C "OFFSET_TARGET" own_D (.ref w_OFFSET_TARGET) ∧ Sta Z h0 own_C "TYPE_ARGUMENT_TARGET" own_D (.ref w_TYPE_ARGUMENT_TARGET)
def own_E (Z : State) (h0 : Heap) (w_TYPE_PARAMETER_TARGET w_SUPERTYPE_TARGET w_TYPE_PARAMETER_BOUND_TARGET w_EMPTY_TARGET w_FORMAL_PARAMETER_TARGET w_THROWS_TARGET w_LOCALVAR_TARGET w_CATCH_TARGET w_OFFSET_TARGET w_TYPE_ARGUMENT_TARGET : Addr) : Prop := Exa Z h0 w_TYPE_PARAMETER_TARGET own_C ∧ Exa Z h0 w_SUPERTYPE_TARGET own_C ∧ Exa Z h0 w_TYPE_PARAMETER_BOUND_TARGET own_C ∧ Exa Z h0 w_EMPTY_TARGET own_C ∧ Exa Z h0 w_FORMAL_PARAMETER_TARGET own_C ∧ Exa Z h0 w_THROWS_TARGET own_C ∧ Exa Z h0 w_LOCALVAR_TARGET own_C ∧ Exa Z h0 w_CATCH_TARGET own_C ∧ Exa Z h0 w_OFFSET_TARGET own_C ∧ Exa Z h0 w_TYPE_ARGUMENT_TARGET own_C
def own_O (Z : State) (h0 : Heap) (w_TYPE_PARAMETER_TARGET w_SUPERTYPE_TARGET w_TYPE_PARAMETER_BOUND_TARGET w_EMPTY_TARGET w_FORMAL_PARAMETER_TARGET w_THROWS_TARGET w_LOCALVAR_TARGET w_CATCH_TARGET w_OFFSET_TARGET w_TYPE_ARGUMENT_TARGET : Addr) : Prop := Fld Z h0 w_TYPE_PARAMETER_TARGET own_C "firstType" "I" (.int 0) ∧ Fld Z h0 w_TYPE_PARAMETER_TARGET own_C "lastType" "I" (.int 1) ∧ Fld Z h0 w_SUPERTYPE_TARGET own_C "firstType" "I" (.int 16) ∧ Fld Z h0 w_TYPE_PARAMETER_BOUND_TARGET own_C "firstType" "I" (.int 17) ∧ Fld Z h0 w_EMPTY_TARGET own_C "firstType" "I" (.int 19) ∧ Fld Z h0 w_FORMAL_PARAMETER_TARGET own_C "firstType" "I" (.int 22) ∧ Fld Z h0 w_THROWS_TARGET own_C "firstType" "I" (.int 23) ∧ Fld Z h0 w_LOCALVAR_TARGET own_C "firstType" "I" (.int 64) ∧ Fld Z h0 w_CATCH_TARGET own_C "firstType" "I" (.int 66) ∧ Fld Z h0 w_OFFSET_TARGET own_C "firstType" "I" (.int 67) ∧ Fld Z h0 w_TYPE_ARGUMENT_TARGET own_C "firstType" "I" (.int 71) ∧ Fld Z h0 w_SUPERTYPE_TARGET own_C "lastType" "I" (.int 16) ∧ Fld Z h0 w_TYPE_PARAMETER_BOUND_TARGET own_C "lastType" "I" (.int 18) ∧ Fld Z h0 w_EMPTY_TARGET own_C "lastType" "I" (.int 21) ∧ Fld Z h0 w_FORMAL_PARAMETER_TARGET own_C "lastType" "I" (.int 22) ∧ Fld Z h0 w_THROWS_TARGET own_C "lastType" "I" (.int 23) ∧ Fld Z h0 w_LOCALVAR_TARGET own_C "lastType" "I" (.int 65) ∧ Fld Z h0 w_CATCH_TARGET own_C "lastType" "I" (.int 66) ∧ Fld Z h0 w_OFFSET_TARGET own_C "lastType" "I" (.int 70) ∧ Fld Z h0 w_TYPE_ARGUMENT_TARGET own_C "lastType" "I" (.int 75)
def own_exp (a0 a1 a2 a3 a4 a5 a6 a7 a8 a9 : Addr) (n : Int) : Value := if 0 ≤ n ∧ n ≤ 1 then .ref a0 else if 16 ≤ n ∧ n ≤ 16 then .ref a1 else if 17 ≤ n ∧ n ≤ 18 then .ref a2 else if 19 ≤ n ∧ n ≤ 21 then .ref a3 else if 22 ≤ n ∧ n ≤ 22 then .ref a4 else if 23 ≤ n ∧ n ≤ 23 then .ref a5 else if 64 ≤ n ∧ n ≤ 65 then .ref a6 else if 66 ≤ n ∧ n ≤ 66 then .ref a7 else if 67 ≤ n ∧ n ≤ 70 then .ref a8 else if 71 ≤ n ∧ n ≤ 75 then .ref a9 else .null
theorem own_exp_ref (a0 a1 a2 a3 a4 a5 a6 a7 a8 a9 : Addr) (n : Int) : (own_exp a0 a1 a2 a3 a4 a5 a6 a7 a8 a9 n).isRef = true := by unfold own_exp; (repeat' split) <;> rfl
theorem d2_0 : decode method_2_code 0 = .ok (.iload_n 0, 1) := by decide +kernel
theorem d2_1 : decode method_2_code 1 = .ok (.ifCond .lt 12, 3) := by decide +kernel
theorem d2_4 : decode method_2_code 4 = .ok (.iload_n 0, 1) := by decide +kernel
theorem d2_5 : decode method_2_code 5 = .ok (.iconst 1, 1) := by decide +kernel
theorem d2_6 : decode method_2_code 6 = .ok (.if_icmp .gt 7, 3) := by decide +kernel
theorem d2_9 : decode method_2_code 9 = .ok (.getstatic 7, 3) := by decide +kernel
theorem d2_12 : decode method_2_code 12 = .ok (.areturn, 1) := by decide +kernel
theorem d2_13 : decode method_2_code 13 = .ok (.iload_n 0, 1) := by decide +kernel
theorem d2_14 : decode method_2_code 14 = .ok (.bipush 16, 2) := by decide +kernel
theorem d2_16 : decode method_2_code 16 = .ok (.if_icmp .ne 7, 3) := by decide +kernel
theorem d2_19 : decode method_2_code 19 = .ok (.getstatic 13, 3) := by decide +kernel
theorem d2_22 : decode method_2_code 22 = .ok (.areturn, 1) := by decide +kernel
theorem d2_23 : decode method_2_code 23 = .ok (.iload_n 0, 1) := by decide +kernel
theorem d2_24 : decode method_2_code 24 = .ok (.bipush 17, 2) := by decide +kernel
theorem d2_26 : decode method_2_code 26 = .ok (.if_icmp .lt 13, 3) := by decide +kernel
theorem d2_29 : decode method_2_code 29 = .ok (.iload_n 0, 1) := by decide +kernel
theorem d2_30 : decode method_2_code 30 = .ok (.bipush 18, 2) := by decide +kernel
theorem d2_32 : decode method_2_code 32 = .ok (.if_icmp .gt 7, 3) := by decide +kernel
theorem d2_35 : decode method_2_code 35 = .ok (.getstatic 16, 3) := by decide +kernel
theorem d2_38 : decode method_2_code 38 = .ok (.areturn, 1) := by decide +kernel
theorem d2_39 : decode method_2_code 39 = .ok (.iload_n 0, 1) := by decide +kernel
theorem d2_40 : decode method_2_code 40 = .ok (.bipush 19, 2) := by decide +kernel
theorem d2_42 : decode method_2_code 42 = .ok (.if_icmp .lt 13, 3) := by decide +kernel
theorem d2_45 : decode method_2_code 45 = .ok (.iload_n 0, 1) := by decide +kernel
theorem d2_46 : decode method_2_code 46 = .ok (.bipush 21, 2) := by decide +kernel
theorem d2_48 : decode method_2_code 48 = .ok (.if_icmp .gt 7, 3) := by decide +kernel
theorem d2_51 : decode method_2_code 51 = .ok (.getstatic 19, 3) := by decide +kernel
theorem d2_54 : decode method_2_code 54 = .ok (.areturn, 1) := by decide +kernel
theorem d2_55 : decode method_2_code 55 = .ok (.iload_n 0, 1) := by decide +kernel
theorem d2_56 : decode method_2_code 56 = .ok (.bipush 22, 2) := by decide +kernel
theorem d2_58 : decode method_2_code 58 = .ok (.if_icmp .ne 7, 3) := by decide +kernel
theorem d2_61 : decode method_2_code 61 = .ok (.getstatic 22, 3) := by decide +kernel
theorem d2_64 : decode method_2_code 64 = .ok (.areturn, 1) := by decide +kernel
theorem d2_65 : decode method_2_code 65 = .ok (.iload_n 0, 1) := by decide +kernel
theorem d2_66 : decode method_2_code 66 = .ok (.bipush 23, 2) := by decide +kernel
theorem d2_68 : decode method_2_code 68 = .ok (.if_icmp .ne 7, 3) := by decide +kernel
theorem d2_71 : decode method_2_code 71 = .ok (.getstatic 25, 3) := by decide +kernel
theorem d2_74 : decode method_2_code 74 = .ok (.areturn, 1) := by decide +kernel
theorem d2_75 : decode method_2_code 75 = .ok (.iload_n 0, 1) := by decide +kernel
theorem d2_76 : decode method_2_code 76 = .ok (.bipush 64, 2) := by decide +kernel
theorem d2_78 : decode method_2_code 78 = .ok (.if_icmp .lt 13, 3) := by decide +kernel
theorem d2_81 : decode method_2_code 81 = .ok (.iload_n 0, 1) := by decide +kernel
theorem d2_82 : decode method_2_code 82 = .ok (.bipush 65, 2) := by decide +kernel
theorem d2_84 : decode method_2_code 84 = .ok (.if_icmp .gt 7, 3) := by decide +kernel
theorem d2_87 : decode method_2_code 87 = .ok (.getstatic 28, 3) := by decide +kernel
theorem d2_90 : decode method_2_code 90 = .ok (.areturn, 1) := by decide +kernel
theorem d2_91 : decode method_2_code 91 = .ok (.iload_n 0, 1) := by decide +kernel
theorem d2_92 : decode method_2_code 92 = .ok (.bipush 66, 2) := by decide +kernel
theorem d2_94 : decode method_2_code 94 = .ok (.if_icmp .ne 7, 3) := by decide +kernel
theorem d2_97 : decode method_2_code 97 = .ok (.getstatic 31, 3) := by decide +kernel
theorem d2_100 : decode method_2_code 100 = .ok (.areturn, 1) := by decide +kernel
theorem d2_101 : decode method_2_code 101 = .ok (.iload_n 0, 1) := by decide +kernel
theorem d2_102 : decode method_2_code 102 = .ok (.bipush 67, 2) := by decide +kernel
theorem d2_104 : decode method_2_code 104 = .ok (.if_icmp .lt 13, 3) := by decide +kernel
theorem d2_107 : decode method_2_code 107 = .ok (.iload_n 0, 1) := by decide +kernel
theorem d2_108 : decode method_2_code 108 = .ok (.bipush 70, 2) := by decide +kernel
theorem d2_110 : decode method_2_code 110 = .ok (.if_icmp .gt 7, 3) := by decide +kernel
theorem d2_113 : decode method_2_code 113 = .ok (.getstatic 34, 3) := by decide +kernel
theorem d2_116 : decode method_2_code 116 = .ok (.areturn, 1) := by decide +kernel
theorem d2_117 : decode method_2_code 117 = .ok (.iload_n 0, 1) := by decide +kernel
theorem d2_118 : decode method_2_code 118 = .ok (.bipush 71, 2) := by decide +kernel
theorem d2_120 : decode method_2_code 120 = .ok (.if_icmp .lt 13, 3) := by decide +kernel
theorem d2_123 : decode method_2_code 123 = .ok (.iload_n 0, 1) := by decide +kernel
theorem d2_124 : decode method_2_code 124 = .ok (.bipush 75, 2) := by decide +kernel
theorem d2_126 : decode method_2_code 126 = .ok (.if_icmp .gt 7, 3) := by decide +kernel
theorem d2_129 : decode method_2_code 129 = .ok (.getstatic 37, 3) := by decide +kernel
theorem d2_132 : decode method_2_code 132 = .ok (.areturn, 1) := by decide +kernel
theorem d2_133 : decode method_2_code 133 = .ok (.aconst_null, 1) := by decide +kernel
theorem d2_134 : decode method_2_code 134 = .ok (.areturn, 1) := by decide +kernel
theorem pn_0 : plainName x.cls = true := by first | (simp [plainName, overriddenIn]; done) | decide +kernel
theorem ef_rm_exp (m : MethodId) (x0 : Int32) : entryFrame m #[(.int x0)] 1 = mkF m 0 #[.val (.int x0)] [] := by first | (simp [entryFrame, mkF, argsToLocals, Value.category]; done) | rfl
set_option maxRecDepth 65536 in
set_option maxHeartbeats 40000000 in
theorem rm_exp (l : Launch) (Z : State) (a0 : Array Value) (hw : ∀ d ∈ tables_1, d.before a0 Z = true) (ws : List Jvm.Cond) (p1 : Int32) (w_TYPE_PARAMETER_TARGET w_SUPERTYPE_TARGET w_TYPE_PARAMETER_BOUND_TARGET w_EMPTY_TARGET w_FORMAL_PARAMETER_TARGET w_THROWS_TARGET w_LOCALVAR_TARGET w_CATCH_TARGET w_OFFSET_TARGET w_TYPE_ARGUMENT_TARGET : Addr) (h0 : Heap) (n0 : Nat) (SS : own_S Z h0 w_TYPE_PARAMETER_TARGET w_SUPERTYPE_TARGET w_TYPE_PARAMETER_BOUND_TARGET w_EMPTY_TARGET w_FORMAL_PARAMETER_TARGET w_THROWS_TARGET w_LOCALVAR_TARGET w_CATCH_TARGET w_OFFSET_TARGET w_TYPE_ARGUMENT_TARGET) :
    MetFree l site_26 (head1 (Jvm.Cond.code site_26 method_2_code 1 (some (.object own_C)) :: ws) ({ frames := 0, cells := 0, slots := 0, locals := 0 } : Room)) (fun aa U => aa = #[(.int p1)] ∧ Z.Warmed39 U.vm ∧ U.heap = h0) (fun _ _ _ _ _ => True) (fun _ U o U' => ∃ v L, o = .returned v ∧ PQ (own_exp w_TYPE_PARAMETER_TARGET w_SUPERTYPE_TARGET w_TYPE_PARAMETER_BOUND_TARGET w_EMPTY_TARGET w_FORMAL_PARAMETER_TARGET w_THROWS_TARGET w_LOCALVAR_TARGET w_CATCH_TARGET w_OFFSET_TARGET w_TYPE_ARGUMENT_TARGET p1.toInt) h0 n0 v U'.heap L ∧ FrameEnd U o U' L ({ frames := 0, cells := 0, slots := 0, locals := 0 } : Room).cells ({ frames := 0, cells := 0, slots := 0, locals := 0 } : Room).slots) := by
  refine MetFree.of_bodySF (plainFor_of_name pn_0) hisR ?_
  intro p e s m args below meth c s₁ Bd hml0 hP hK
  obtain ⟨rfl, hZ, hh⟩ := hP
  have hx := Bd.exec
  have hby := Bd.bytes
  have hlk := Bd.notSynchronized
  have hml : c.maxLocals = 1 := hml0
  have hown : s.vm.findClass x.cls = some m.cls := by have q := findClass_of_methodNamed Bd.named; exact q
  have X0 : Stand p l e ({ frames := 0, cells := 0, slots := 0, locals := 0 } : Room) s m #[(.int p1)] below meth c s₁ [] 0 0 := Stand.of_body Bd
  have e0 : s₁.heap = h0 := by rw [← hh, Bd.state]; rfl
  have N0 := Fr.nil n0
  obtain ⟨S_TYPE_PARAMETER_TARGET, S_SUPERTYPE_TARGET, S_TYPE_PARAMETER_BOUND_TARGET, S_EMPTY_TARGET, S_FORMAL_PARAMETER_TARGET, S_THROWS_TARGET, S_LOCALVAR_TARGET, S_CATCH_TARGET, S_OFFSET_TARGET, S_TYPE_ARGUMENT_TARGET⟩ := SS
  show Go p.tables e below (Fin s below (PQ (own_exp w_TYPE_PARAMETER_TARGET w_SUPERTYPE_TARGET w_TYPE_PARAMETER_BOUND_TARGET w_EMPTY_TARGET w_FORMAL_PARAMETER_TARGET w_THROWS_TARGET w_LOCALVAR_TARGET w_CATCH_TARGET w_OFFSET_TARGET w_TYPE_ARGUMENT_TARGET p1.toInt) h0 n0) ({ frames := 0, cells := 0, slots := 0, locals := 0 } : Room).cells ({ frames := 0, cells := 0, slots := 0, locals := 0 } : Room).slots) (s₁.setTop (entryFrame m #[(.int p1)] 1))
  refine own_go (fun t k => castTop (ef_rm_exp m p1) k) ?_
  show Go p.tables e below _ (s₁.setTop (mkF m 0 #[.val (.int p1)] []))
  have J10 : (¬ (0 ≤ p1.toInt ∧ p1.toInt ≤ 1)) → (¬ (16 ≤ p1.toInt ∧ p1.toInt ≤ 16)) → (¬ (17 ≤ p1.toInt ∧ p1.toInt ≤ 18)) → (¬ (19 ≤ p1.toInt ∧ p1.toInt ≤ 21)) → (¬ (22 ≤ p1.toInt ∧ p1.toInt ≤ 22)) → (¬ (23 ≤ p1.toInt ∧ p1.toInt ≤ 23)) → (¬ (64 ≤ p1.toInt ∧ p1.toInt ≤ 65)) → (¬ (66 ≤ p1.toInt ∧ p1.toInt ≤ 66)) → (¬ (67 ≤ p1.toInt ∧ p1.toInt ≤ 70)) → (¬ (71 ≤ p1.toInt ∧ p1.toInt ≤ 75)) → Go p.tables e below (Fin s below (PQ (own_exp w_TYPE_PARAMETER_TARGET w_SUPERTYPE_TARGET w_TYPE_PARAMETER_BOUND_TARGET w_EMPTY_TARGET w_FORMAL_PARAMETER_TARGET w_THROWS_TARGET w_LOCALVAR_TARGET w_CATCH_TARGET w_OFFSET_TARGET w_TYPE_ARGUMENT_TARGET p1.toInt) h0 n0) ({ frames := 0, cells := 0, slots := 0, locals := 0 } : Room).cells ({ frames := 0, cells := 0, slots := 0, locals := 0 } : Room).slots) (s₁.setTop (mkF m 133 #[.val (.int p1)] [])) := by
    intro g0 g1 g2 g3 g4 g5 g6 g7 g8 g9
    show Go p.tables e below _ (s₁.setTop (mkF m 133 #[.val (.int p1)] []))
    refine own_go (fun t k => XS.aconstNull X0.here hx rfl (hb hby d2_133) k) ?_
    show Go p.tables e below _ (s₁.setTop (mkF m 134 #[.val (.int p1)] [.null]))
    exact own_ret X0 hx hlk Bd.returns rfl (Or.inr (Or.inr (Or.inr (Or.inr ⟨rfl, rfl, rfl⟩)))) (hb hby d2_134) ⟨congrArg some (show Value.null = own_exp w_TYPE_PARAMETER_TARGET w_SUPERTYPE_TARGET w_TYPE_PARAMETER_BOUND_TARGET w_EMPTY_TARGET w_FORMAL_PARAMETER_TARGET w_THROWS_TARGET w_LOCALVAR_TARGET w_CATCH_TARGET w_OFFSET_TARGET w_TYPE_ARGUMENT_TARGET p1.toInt by skip; unfold own_exp; (repeat' split); all_goals first | rfl | (exfalso; omega)), N0, e0⟩ (by decide) (by decide)
  have J9 : (¬ (0 ≤ p1.toInt ∧ p1.toInt ≤ 1)) → (¬ (16 ≤ p1.toInt ∧ p1.toInt ≤ 16)) → (¬ (17 ≤ p1.toInt ∧ p1.toInt ≤ 18)) → (¬ (19 ≤ p1.toInt ∧ p1.toInt ≤ 21)) → (¬ (22 ≤ p1.toInt ∧ p1.toInt ≤ 22)) → (¬ (23 ≤ p1.toInt ∧ p1.toInt ≤ 23)) → (¬ (64 ≤ p1.toInt ∧ p1.toInt ≤ 65)) → (¬ (66 ≤ p1.toInt ∧ p1.toInt ≤ 66)) → (¬ (67 ≤ p1.toInt ∧ p1.toInt ≤ 70)) → Go p.tables e below (Fin s below (PQ (own_exp w_TYPE_PARAMETER_TARGET w_SUPERTYPE_TARGET w_TYPE_PARAMETER_BOUND_TARGET w_EMPTY_TARGET w_FORMAL_PARAMETER_TARGET w_THROWS_TARGET w_LOCALVAR_TARGET w_CATCH_TARGET w_OFFSET_TARGET w_TYPE_ARGUMENT_TARGET p1.toInt) h0 n0) ({ frames := 0, cells := 0, slots := 0, locals := 0 } : Room).cells ({ frames := 0, cells := 0, slots := 0, locals := 0 } : Room).slots) (s₁.setTop (mkF m 117 #[.val (.int p1)] [])) := by
    intro g0 g1 g2 g3 g4 g5 g6 g7 g8
    show Go p.tables e below _ (s₁.setTop (mkF m 117 #[.val (.int p1)] []))
    refine own_go (fun t k => XS.iloadN X0.here hx rfl (hb hby d2_117) rfl k) ?_
    show Go p.tables e below _ (s₁.setTop (mkF m 118 #[.val (.int p1)] [(.int p1)]))
    refine own_go (fun t k => XS.bipush X0.here hx rfl (hb hby d2_118) k) ?_
    show Go p.tables e below _ (s₁.setTop (mkF m 120 #[.val (.int p1)] [(.int (71 : Int32)), (.int p1)]))
    by_cases hc1 : p1 < (71 : Int32)
    · refine own_go (fun t k => XS.icmpYes X0.here hx rfl (pc0 := 120) (pc' := 133) rfl (hb hby d2_120) rfl (XT.ii_lt_t hc1) (by decide) (by decide) k) ?_
      show Go p.tables e below _ (s₁.setTop (mkF m 133 #[.val (.int p1)] []))
      exact J10 g0 g1 g2 g3 g4 g5 g6 g7 g8 (by have j1 :=  (own_lt (x := p1) (k := 71) (n := 71) rfl).mp hc1; omega)
    · refine own_go (fun t k => XS.icmpNo X0.here hx rfl (hb hby d2_120) rfl (XT.ii_lt_f hc1) k) ?_
      show Go p.tables e below _ (s₁.setTop (mkF m 123 #[.val (.int p1)] []))
      refine own_go (fun t k => XS.iloadN X0.here hx rfl (hb hby d2_123) rfl k) ?_
      show Go p.tables e below _ (s₁.setTop (mkF m 124 #[.val (.int p1)] [(.int p1)]))
      refine own_go (fun t k => XS.bipush X0.here hx rfl (hb hby d2_124) k) ?_
      show Go p.tables e below _ (s₁.setTop (mkF m 126 #[.val (.int p1)] [(.int (75 : Int32)), (.int p1)]))
      by_cases hc2 : (75 : Int32) < p1
      · refine own_go (fun t k => XS.icmpYes X0.here hx rfl (pc0 := 126) (pc' := 133) rfl (hb hby d2_126) rfl (XT.ii_gt_t hc2) (by decide) (by decide) k) ?_
        show Go p.tables e below _ (s₁.setTop (mkF m 133 #[.val (.int p1)] []))
        exact J10 g0 g1 g2 g3 g4 g5 g6 g7 g8 (by have j1 := mt (own_lt (x := p1) (k := 71) (n := 71) rfl).mpr hc1; have j2 :=  (own_gt (x := p1) (k := 75) (n := 75) rfl).mp hc2; omega)
      · refine own_go (fun t k => XS.icmpNo X0.here hx rfl (hb hby d2_126) rfl (XT.ii_gt_f hc2) k) ?_
        show Go p.tables e below _ (s₁.setTop (mkF m 129 #[.val (.int p1)] []))
        obtain ⟨T3, X3, e3, st3⟩ := getS2 X0 hx hZ hown (host := "") (Or.inl (hw _ (List.mem_of_getElem? (i := 25) rfl))) Via.refl e0 S_TYPE_ARGUMENT_TARGET (g := (mkF m 129 #[.val (.int p1)] [])) rfl (hb hby d2_129)
        refine own_go (fun t k => st3 t k) ?_
        show Go p.tables e below _ (T3.setTop (mkF m 132 #[.val (.int p1)] [(.ref w_TYPE_ARGUMENT_TARGET)]))
        exact own_ret X3 hx hlk Bd.returns rfl (Or.inr (Or.inr (Or.inr (Or.inr ⟨rfl, rfl, rfl⟩)))) (hb hby d2_132) ⟨congrArg some (show Value.ref w_TYPE_ARGUMENT_TARGET = own_exp w_TYPE_PARAMETER_TARGET w_SUPERTYPE_TARGET w_TYPE_PARAMETER_BOUND_TARGET w_EMPTY_TARGET w_FORMAL_PARAMETER_TARGET w_THROWS_TARGET w_LOCALVAR_TARGET w_CATCH_TARGET w_OFFSET_TARGET w_TYPE_ARGUMENT_TARGET p1.toInt by have j1 := mt (own_lt (x := p1) (k := 71) (n := 71) rfl).mpr hc1; have j2 := mt (own_gt (x := p1) (k := 75) (n := 75) rfl).mpr hc2; unfold own_exp; (repeat' split); all_goals first | rfl | (exfalso; omega)), N0, e3⟩ (by decide) (by decide)
  have J8 : (¬ (0 ≤ p1.toInt ∧ p1.toInt ≤ 1)) → (¬ (16 ≤ p1.toInt ∧ p1.toInt ≤ 16)) → (¬ (17 ≤ p1.toInt ∧ p1.toInt ≤ 18)) → (¬ (19 ≤ p1.toInt ∧ p1.toInt ≤ 21)) → (¬ (22 ≤ p1.toInt ∧ p1.toInt ≤ 22)) → (¬ (23 ≤ p1.toInt ∧ p1.toInt ≤ 23)) → (¬ (64 ≤ p1.toInt ∧ p1.toInt ≤ 65)) → (¬ (66 ≤ p1.toInt ∧ p1.toInt ≤ 66)) → Go p.tables e below (Fin s below (PQ (own_exp w_TYPE_PARAMETER_TARGET w_SUPERTYPE_TARGET w_TYPE_PARAMETER_BOUND_TARGET w_EMPTY_TARGET w_FORMAL_PARAMETER_TARGET w_THROWS_TARGET w_LOCALVAR_TARGET w_CATCH_TARGET w_OFFSET_TARGET w_TYPE_ARGUMENT_TARGET p1.toInt) h0 n0) ({ frames := 0, cells := 0, slots := 0, locals := 0 } : Room).cells ({ frames := 0, cells := 0, slots := 0, locals := 0 } : Room).slots) (s₁.setTop (mkF m 101 #[.val (.int p1)] [])) := by
    intro g0 g1 g2 g3 g4 g5 g6 g7
    show Go p.tables e below _ (s₁.setTop (mkF m 101 #[.val (.int p1)] []))
    refine own_go (fun t k => XS.iloadN X0.here hx rfl (hb hby d2_101) rfl k) ?_
    show Go p.tables e below _ (s₁.setTop (mkF m 102 #[.val (.int p1)] [(.int p1)]))
    refine own_go (fun t k => XS.bipush X0.here hx rfl (hb hby d2_102) k) ?_
    show Go p.tables e below _ (s₁.setTop (mkF m 104 #[.val (.int p1)] [(.int (67 : Int32)), (.int p1)]))
    by_cases hc4 : p1 < (67 : Int32)
    · refine own_go (fun t k => XS.icmpYes X0.here hx rfl (pc0 := 104) (pc' := 117) rfl (hb hby d2_104) rfl (XT.ii_lt_t hc4) (by decide) (by decide) k) ?_
      show Go p.tables e below _ (s₁.setTop (mkF m 117 #[.val (.int p1)] []))
      exact J9 g0 g1 g2 g3 g4 g5 g6 g7 (by have j1 :=  (own_lt (x := p1) (k := 67) (n := 67) rfl).mp hc4; omega)
    · refine own_go (fun t k => XS.icmpNo X0.here hx rfl (hb hby d2_104) rfl (XT.ii_lt_f hc4) k) ?_
      show Go p.tables e below _ (s₁.setTop (mkF m 107 #[.val (.int p1)] []))
      refine own_go (fun t k => XS.iloadN X0.here hx rfl (hb hby d2_107) rfl k) ?_
      show Go p.tables e below _ (s₁.setTop (mkF m 108 #[.val (.int p1)] [(.int p1)]))
      refine own_go (fun t k => XS.bipush X0.here hx rfl (hb hby d2_108) k) ?_
      show Go p.tables e below _ (s₁.setTop (mkF m 110 #[.val (.int p1)] [(.int (70 : Int32)), (.int p1)]))
      by_cases hc5 : (70 : Int32) < p1
      · refine own_go (fun t k => XS.icmpYes X0.here hx rfl (pc0 := 110) (pc' := 117) rfl (hb hby d2_110) rfl (XT.ii_gt_t hc5) (by decide) (by decide) k) ?_
        show Go p.tables e below _ (s₁.setTop (mkF m 117 #[.val (.int p1)] []))
        exact J9 g0 g1 g2 g3 g4 g5 g6 g7 (by have j1 := mt (own_lt (x := p1) (k := 67) (n := 67) rfl).mpr hc4; have j2 :=  (own_gt (x := p1) (k := 70) (n := 70) rfl).mp hc5; omega)
      · refine own_go (fun t k => XS.icmpNo X0.here hx rfl (hb hby d2_110) rfl (XT.ii_gt_f hc5) k) ?_
        show Go p.tables e below _ (s₁.setTop (mkF m 113 #[.val (.int p1)] []))
        obtain ⟨T6, X6, e6, st6⟩ := getS2 X0 hx hZ hown (host := "") (Or.inl (hw _ (List.mem_of_getElem? (i := 29) rfl))) Via.refl e0 S_OFFSET_TARGET (g := (mkF m 113 #[.val (.int p1)] [])) rfl (hb hby d2_113)
        refine own_go (fun t k => st6 t k) ?_
        show Go p.tables e below _ (T6.setTop (mkF m 116 #[.val (.int p1)] [(.ref w_OFFSET_TARGET)]))
        exact own_ret X6 hx hlk Bd.returns rfl (Or.inr (Or.inr (Or.inr (Or.inr ⟨rfl, rfl, rfl⟩)))) (hb hby d2_116) ⟨congrArg some (show Value.ref w_OFFSET_TARGET = own_exp w_TYPE_PARAMETER_TARGET w_SUPERTYPE_TARGET w_TYPE_PARAMETER_BOUND_TARGET w_EMPTY_TARGET w_FORMAL_PARAMETER_TARGET w_THROWS_TARGET w_LOCALVAR_TARGET w_CATCH_TARGET w_OFFSET_TARGET w_TYPE_ARGUMENT_TARGET p1.toInt by have j1 := mt (own_lt (x := p1) (k := 67) (n := 67) rfl).mpr hc4; have j2 := mt (own_gt (x := p1) (k := 70) (n := 70) rfl).mpr hc5; unfold own_exp; (repeat' split); all_goals first | rfl | (exfalso; omega)), N0, e6⟩ (by decide) (by decide)
  have J7 : (¬ (0 ≤ p1.toInt ∧ p1.toInt ≤ 1)) → (¬ (16 ≤ p1.toInt ∧ p1.toInt ≤ 16)) → (¬ (17 ≤ p1.toInt ∧ p1.toInt ≤ 18)) → (¬ (19 ≤ p1.toInt ∧ p1.toInt ≤ 21)) → (¬ (22 ≤ p1.toInt ∧ p1.toInt ≤ 22)) → (¬ (23 ≤ p1.toInt ∧ p1.toInt ≤ 23)) → (¬ (64 ≤ p1.toInt ∧ p1.toInt ≤ 65)) → Go p.tables e below (Fin s below (PQ (own_exp w_TYPE_PARAMETER_TARGET w_SUPERTYPE_TARGET w_TYPE_PARAMETER_BOUND_TARGET w_EMPTY_TARGET w_FORMAL_PARAMETER_TARGET w_THROWS_TARGET w_LOCALVAR_TARGET w_CATCH_TARGET w_OFFSET_TARGET w_TYPE_ARGUMENT_TARGET p1.toInt) h0 n0) ({ frames := 0, cells := 0, slots := 0, locals := 0 } : Room).cells ({ frames := 0, cells := 0, slots := 0, locals := 0 } : Room).slots) (s₁.setTop (mkF m 91 #[.val (.int p1)] [])) := by
    intro g0 g1 g2 g3 g4 g5 g6
    show Go p.tables e below _ (s₁.setTop (mkF m 91 #[.val (.int p1)] []))
    refine own_go (fun t k => XS.iloadN X0.here hx rfl (hb hby d2_91) rfl k) ?_
    show Go p.tables e below _ (s₁.setTop (mkF m 92 #[.val (.int p1)] [(.int p1)]))
    refine own_go (fun t k => XS.bipush X0.here hx rfl (hb hby d2_92) k) ?_
    show Go p.tables e below _ (s₁.setTop (mkF m 94 #[.val (.int p1)] [(.int (66 : Int32)), (.int p1)]))
    by_cases hc7 : p1 = (66 : Int32)
    · refine own_go (fun t k => XS.icmpNo X0.here hx rfl (hb hby d2_94) rfl (XT.ii_ne_f hc7) k) ?_
      show Go p.tables e below _ (s₁.setTop (mkF m 97 #[.val (.int p1)] []))
      obtain ⟨T8, X8, e8, st8⟩ := getS2 X0 hx hZ hown (host := "") (Or.inl (hw _ (List.mem_of_getElem? (i := 33) rfl))) Via.refl e0 S_CATCH_TARGET (g := (mkF m 97 #[.val (.int p1)] [])) rfl (hb hby d2_97)
      refine own_go (fun t k => st8 t k) ?_
      show Go p.tables e below _ (T8.setTop (mkF m 100 #[.val (.int p1)] [(.ref w_CATCH_TARGET)]))
      exact own_ret X8 hx hlk Bd.returns rfl (Or.inr (Or.inr (Or.inr (Or.inr ⟨rfl, rfl, rfl⟩)))) (hb hby d2_100) ⟨congrArg some (show Value.ref w_CATCH_TARGET = own_exp w_TYPE_PARAMETER_TARGET w_SUPERTYPE_TARGET w_TYPE_PARAMETER_BOUND_TARGET w_EMPTY_TARGET w_FORMAL_PARAMETER_TARGET w_THROWS_TARGET w_LOCALVAR_TARGET w_CATCH_TARGET w_OFFSET_TARGET w_TYPE_ARGUMENT_TARGET p1.toInt by have j1 :=  (own_eq (x := p1) (k := 66) (n := 66) rfl).mp hc7; unfold own_exp; (repeat' split); all_goals first | rfl | (exfalso; omega)), N0, e8⟩ (by decide) (by decide)
    · refine own_go (fun t k => XS.icmpYes X0.here hx rfl (pc0 := 94) (pc' := 101) rfl (hb hby d2_94) rfl (XT.ii_ne_t hc7) (by decide) (by decide) k) ?_
      show Go p.tables e below _ (s₁.setTop (mkF m 101 #[.val (.int p1)] []))
      exact J8 g0 g1 g2 g3 g4 g5 g6 (by have j1 := mt (own_eq (x := p1) (k := 66) (n := 66) rfl).mpr hc7; omega)
  have J6 : (¬ (0 ≤ p1.toInt ∧ p1.toInt ≤ 1)) → (¬ (16 ≤ p1.toInt ∧ p1.toInt ≤ 16)) → (¬ (17 ≤ p1.toInt ∧ p1.toInt ≤ 18)) → (¬ (19 ≤ p1.toInt ∧ p1.toInt ≤ 21)) → (¬ (22 ≤ p1.toInt ∧ p1.toInt ≤ 22)) → (¬ (23 ≤ p1.toInt ∧ p1.toInt ≤ 23)) → Go p.tables e below (Fin s below (PQ (own_exp w_TYPE_PARAMETER_TARGET w_SUPERTYPE_TARGET w_TYPE_PARAMETER_BOUND_TARGET w_EMPTY_TARGET w_FORMAL_PARAMETER_TARGET w_THROWS_TARGET w_LOCALVAR_TARGET w_CATCH_TARGET w_OFFSET_TARGET w_TYPE_ARGUMENT_TARGET p1.toInt) h0 n0) ({ frames := 0, cells := 0, slots := 0, locals := 0 } : Room).cells ({ frames := 0, cells := 0, slots := 0, locals := 0 } : Room).slots) (s₁.setTop (mkF m 75 #[.val (.int p1)] [])) := by
    intro g0 g1 g2 g3 g4 g5
    show Go p.tables e below _ (s₁.setTop (mkF m 75 #[.val (.int p1)] []))
    refine own_go (fun t k => XS.iloadN X0.here hx rfl (hb hby d2_75) rfl k) ?_
    show Go p.tables e below _ (s₁.setTop (mkF m 76 #[.val (.int p1)] [(.int p1)]))
    refine own_go (fun t k => XS.bipush X0.here hx rfl (hb hby d2_76) k) ?_
    show Go p.tables e below _ (s₁.setTop (mkF m 78 #[.val (.int p1)] [(.int (64 : Int32)), (.int p1)]))
    by_cases hc9 : p1 < (64 : Int32)
    · refine own_go (fun t k => XS.icmpYes X0.here hx rfl (pc0 := 78) (pc' := 91) rfl (hb hby d2_78) rfl (XT.ii_lt_t hc9) (by decide) (by decide) k) ?_
      show Go p.tables e below _ (s₁.setTop (mkF m 91 #[.val (.int p1)] []))
      exact J7 g0 g1 g2 g3 g4 g5 (by have j1 :=  (own_lt (x := p1) (k := 64) (n := 64) rfl).mp hc9; omega)
    · refine own_go (fun t k => XS.icmpNo X0.here hx rfl (hb hby d2_78) rfl (XT.ii_lt_f hc9) k) ?_
      show Go p.tables e below _ (s₁.setTop (mkF m 81 #[.val (.int p1)] []))
      refine own_go (fun t k => XS.iloadN X0.here hx rfl (hb hby d2_81) rfl k) ?_
      show Go p.tables e below _ (s₁.setTop (mkF m 82 #[.val (.int p1)] [(.int p1)]))
      refine own_go (fun t k => XS.bipush X0.here hx rfl (hb hby d2_82) k) ?_
      show Go p.tables e below _ (s₁.setTop (mkF m 84 #[.val (.int p1)] [(.int (65 : Int32)), (.int p1)]))
      by_cases hc10 : (65 : Int32) < p1
      · refine own_go (fun t k => XS.icmpYes X0.here hx rfl (pc0 := 84) (pc' := 91) rfl (hb hby d2_84) rfl (XT.ii_gt_t hc10) (by decide) (by decide) k) ?_
        show Go p.tables e below _ (s₁.setTop (mkF m 91 #[.val (.int p1)] []))
        exact J7 g0 g1 g2 g3 g4 g5 (by have j1 := mt (own_lt (x := p1) (k := 64) (n := 64) rfl).mpr hc9; have j2 :=  (own_gt (x := p1) (k := 65) (n := 65) rfl).mp hc10; omega)
      · refine own_go (fun t k => XS.icmpNo X0.here hx rfl (hb hby d2_84) rfl (XT.ii_gt_f hc10) k) ?_
        show Go p.tables e below _ (s₁.setTop (mkF m 87 #[.val (.int p1)] []))
        obtain ⟨T11, X11, e11, st11⟩ := getS2 X0 hx hZ hown (host := "") (Or.inl (hw _ (List.mem_of_getElem? (i := 26) rfl))) Via.refl e0 S_LOCALVAR_TARGET (g := (mkF m 87 #[.val (.int p1)] [])) rfl (hb hby d2_87)
        refine own_go (fun t k => st11 t k) ?_
        show Go p.tables e below _ (T11.setTop (mkF m 90 #[.val (.int p1)] [(.ref w_LOCALVAR_TARGET)]))
        exact own_ret X11 hx hlk Bd.returns rfl (Or.inr (Or.inr (Or.inr (Or.inr ⟨rfl, rfl, rfl⟩)))) (hb hby d2_90) ⟨congrArg some (show Value.ref w_LOCALVAR_TARGET = own_exp w_TYPE_PARAMETER_TARGET w_SUPERTYPE_TARGET w_TYPE_PARAMETER_BOUND_TARGET w_EMPTY_TARGET w_FORMAL_PARAMETER_TARGET w_THROWS_TARGET w_LOCALVAR_TARGET w_CATCH_TARGET w_OFFSET_TARGET w_TYPE_ARGUMENT_TARGET p1.toInt by have j1 := mt (own_lt (x := p1) (k := 64) (n := 64) rfl).mpr hc9; have j2 := mt (own_gt (x := p1) (k := 65) (n := 65) rfl).mpr hc10; unfold own_exp; (repeat' split); all_goals first | rfl | (exfalso; omega)), N0, e11⟩ (by decide) (by decide)
  have J5 : (¬ (0 ≤ p1.toInt ∧ p1.toInt ≤ 1)) → (¬ (16 ≤ p1.toInt ∧ p1.toInt ≤ 16)) → (¬ (17 ≤ p1.toInt ∧ p1.toInt ≤ 18)) → (¬ (19 ≤ p1.toInt ∧ p1.toInt ≤ 21)) → (¬ (22 ≤ p1.toInt ∧ p1.toInt ≤ 22)) → Go p.tables e below (Fin s below (PQ (own_exp w_TYPE_PARAMETER_TARGET w_SUPERTYPE_TARGET w_TYPE_PARAMETER_BOUND_TARGET w_EMPTY_TARGET w_FORMAL_PARAMETER_TARGET w_THROWS_TARGET w_LOCALVAR_TARGET w_CATCH_TARGET w_OFFSET_TARGET w_TYPE_ARGUMENT_TARGET p1.toInt) h0 n0) ({ frames := 0, cells := 0, slots := 0, locals := 0 } : Room).cells ({ frames := 0, cells := 0, slots := 0, locals := 0 } : Room).slots) (s₁.setTop (mkF m 65 #[.val (.int p1)] [])) := by
    intro g0 g1 g2 g3 g4
    show Go p.tables e below _ (s₁.setTop (mkF m 65 #[.val (.int p1)] []))
    refine own_go (fun t k => XS.iloadN X0.here hx rfl (hb hby d2_65) rfl k) ?_
    show Go p.tables e below _ (s₁.setTop (mkF m 66 #[.val (.int p1)] [(.int p1)]))
    refine own_go (fun t k => XS.bipush X0.here hx rfl (hb hby d2_66) k) ?_
    show Go p.tables e below _ (s₁.setTop (mkF m 68 #[.val (.int p1)] [(.int (23 : Int32)), (.int p1)]))
    by_cases hc12 : p1 = (23 : Int32)
    · refine own_go (fun t k => XS.icmpNo X0.here hx rfl (hb hby d2_68) rfl (XT.ii_ne_f hc12) k) ?_
      show Go p.tables e below _ (s₁.setTop (mkF m 71 #[.val (.int p1)] []))
      obtain ⟨T13, X13, e13, st13⟩ := getS2 X0 hx hZ hown (host := "") (Or.inl (hw _ (List.mem_of_getElem? (i := 30) rfl))) Via.refl e0 S_THROWS_TARGET (g := (mkF m 71 #[.val (.int p1)] [])) rfl (hb hby d2_71)
      refine own_go (fun t k => st13 t k) ?_
      show Go p.tables e below _ (T13.setTop (mkF m 74 #[.val (.int p1)] [(.ref w_THROWS_TARGET)]))
      exact own_ret X13 hx hlk Bd.returns rfl (Or.inr (Or.inr (Or.inr (Or.inr ⟨rfl, rfl, rfl⟩)))) (hb hby d2_74) ⟨congrArg some (show Value.ref w_THROWS_TARGET = own_exp w_TYPE_PARAMETER_TARGET w_SUPERTYPE_TARGET w_TYPE_PARAMETER_BOUND_TARGET w_EMPTY_TARGET w_FORMAL_PARAMETER_TARGET w_THROWS_TARGET w_LOCALVAR_TARGET w_CATCH_TARGET w_OFFSET_TARGET w_TYPE_ARGUMENT_TARGET p1.toInt by have j1 :=  (own_eq (x := p1) (k := 23) (n := 23) rfl).mp hc12; unfold own_exp; (repeat' split); all_goals first | rfl | (exfalso; omega)), N0, e13⟩ (by decide) (by decide)
    · refine own_go (fun t k => XS.icmpYes X0.here hx rfl (pc0 := 68) (pc' := 75) rfl (hb hby d2_68) rfl (XT.ii_ne_t hc12) (by decide) (by decide) k) ?_
      show Go p.tables e below _ (s₁.setTop (mkF m 75 #[.val (.int p1)] []))
      exact J6 g0 g1 g2 g3 g4 (by have j1 := mt (own_eq (x := p1) (k := 23) (n := 23) rfl).mpr hc12; omega)
  have J4 : (¬ (0 ≤ p1.toInt ∧ p1.toInt ≤ 1)) → (¬ (16 ≤ p1.toInt ∧ p1.toInt ≤ 16)) → (¬ (17 ≤ p1.toInt ∧ p1.toInt ≤ 18)) → (¬ (19 ≤ p1.toInt ∧ p1.toInt ≤ 21)) → Go p.tables e below (Fin s below (PQ (own_exp w_TYPE_PARAMETER_TARGET w_SUPERTYPE_TARGET w_TYPE_PARAMETER_BOUND_TARGET w_EMPTY_TARGET w_FORMAL_PARAMETER_TARGET w_THROWS_TARGET w_LOCALVAR_TARGET w_CATCH_TARGET w_OFFSET_TARGET w_TYPE_ARGUMENT_TARGET p1.toInt) h0 n0) ({ frames := 0, cells := 0, slots := 0, locals := 0 } : Room).cells ({ frames := 0, cells := 0, slots := 0, locals := 0 } : Room).slots) (s₁.setTop (mkF m 55 #[.val (.int p1)] [])) := by
    intro g0 g1 g2 g3
    show Go p.tables e below _ (s₁.setTop (mkF m 55 #[.val (.int p1)] []))
    refine own_go (fun t k => XS.iloadN X0.here hx rfl (hb hby d2_55) rfl k) ?_
    show Go p.tables e below _ (s₁.setTop (mkF m 56 #[.val (.int p1)] [(.int p1)]))
    refine own_go (fun t k => XS.bipush X0.here hx rfl (hb hby d2_56) k) ?_
    show Go p.tables e below _ (s₁.setTop (mkF m 58 #[.val (.int p1)] [(.int (22 : Int32)), (.int p1)]))
    by_cases hc14 : p1 = (22 : Int32)
    · refine own_go (fun t k => XS.icmpNo X0.here hx rfl (hb hby d2_58) rfl (XT.ii_ne_f hc14) k) ?_
      show Go p.tables e below _ (s₁.setTop (mkF m 61 #[.val (.int p1)] []))
      obtain ⟨T15, X15, e15, st15⟩ := getS2 X0 hx hZ hown (host := "") (Or.inl (hw _ (List.mem_of_getElem? (i := 31) rfl))) Via.refl e0 S_FORMAL_PARAMETER_TARGET (g := (mkF m 61 #[.val (.int p1)] [])) rfl (hb hby d2_61)
      refine own_go (fun t k => st15 t k) ?_
      show Go p.tables e below _ (T15.setTop (mkF m 64 #[.val (.int p1)] [(.ref w_FORMAL_PARAMETER_TARGET)]))
      exact own_ret X15 hx hlk Bd.returns rfl (Or.inr (Or.inr (Or.inr (Or.inr ⟨rfl, rfl, rfl⟩)))) (hb hby d2_64) ⟨congrArg some (show Value.ref w_FORMAL_PARAMETER_TARGET = own_exp w_TYPE_PARAMETER_TARGET w_SUPERTYPE_TARGET w_TYPE_PARAMETER_BOUND_TARGET w_EMPTY_TARGET w_FORMAL_PARAMETER_TARGET w_THROWS_TARGET w_LOCALVAR_TARGET w_CATCH_TARGET w_OFFSET_TARGET w_TYPE_ARGUMENT_TARGET p1.toInt by have j1 :=  (own_eq (x := p1) (k := 22) (n := 22) rfl).mp hc14; unfold own_exp; (repeat' split); all_goals first | rfl | (exfalso; omega)), N0, e15⟩ (by decide) (by decide)
    · refine own_go (fun t k => XS.icmpYes X0.here hx rfl (pc0 := 58) (pc' := 65) rfl (hb hby d2_58) rfl (XT.ii_ne_t hc14) (by decide) (by decide) k) ?_
      show Go p.tables e below _ (s₁.setTop (mkF m 65 #[.val (.int p1)] []))
      exact J5 g0 g1 g2 g3 (by have j1 := mt (own_eq (x := p1) (k := 22) (n := 22) rfl).mpr hc14; omega)
  have J3 : (¬ (0 ≤ p1.toInt ∧ p1.toInt ≤ 1)) → (¬ (16 ≤ p1.toInt ∧ p1.toInt ≤ 16)) → (¬ (17 ≤ p1.toInt ∧ p1.toInt ≤ 18)) → Go p.tables e below (Fin s below (PQ (own_exp w_TYPE_PARAMETER_TARGET w_SUPERTYPE_TARGET w_TYPE_PARAMETER_BOUND_TARGET w_EMPTY_TARGET w_FORMAL_PARAMETER_TARGET w_THROWS_TARGET w_LOCALVAR_TARGET w_CATCH_TARGET w_OFFSET_TARGET w_TYPE_ARGUMENT_TARGET p1.toInt) h0 n0) ({ frames := 0, cells := 0, slots := 0, locals := 0 } : Room).cells ({ frames := 0, cells := 0, slots := 0, locals := 0 } : Room).slots) (s₁.setTop (mkF m 39 #[.val (.int p1)] [])) := by
    intro g0 g1 g2
    show Go p.tables e below _ (s₁.setTop (mkF m 39 #[.val (.int p1)] []))
    refine own_go (fun t k => XS.iloadN X0.here hx rfl (hb hby d2_39) rfl k) ?_
    show Go p.tables e below _ (s₁.setTop (mkF m 40 #[.val (.int p1)] [(.int p1)]))
    refine own_go (fun t k => XS.bipush X0.here hx rfl (hb hby d2_40) k) ?_
    show Go p.tables e below _ (s₁.setTop (mkF m 42 #[.val (.int p1)] [(.int (19 : Int32)), (.int p1)]))
    by_cases hc16 : p1 < (19 : Int32)
    · refine own_go (fun t k => XS.icmpYes X0.here hx rfl (pc0 := 42) (pc' := 55) rfl (hb hby d2_42) rfl (XT.ii_lt_t hc16) (by decide) (by decide) k) ?_
      show Go p.tables e below _ (s₁.setTop (mkF m 55 #[.val (.int p1)] []))
      exact J4 g0 g1 g2 (by have j1 :=  (own_lt (x := p1) (k := 19) (n := 19) rfl).mp hc16; omega)
    · refine own_go (fun t k => XS.icmpNo X0.here hx rfl (hb hby d2_42) rfl (XT.ii_lt_f hc16) k) ?_
      show Go p.tables e below _ (s₁.setTop (mkF m 45 #[.val (.int p1)] []))
      refine own_go (fun t k => XS.iloadN X0.here hx rfl (hb hby d2_45) rfl k) ?_
      show Go p.tables e below _ (s₁.setTop (mkF m 46 #[.val (.int p1)] [(.int p1)]))
      refine own_go (fun t k => XS.bipush X0.here hx rfl (hb hby d2_46) k) ?_
      show Go p.tables e below _ (s₁.setTop (mkF m 48 #[.val (.int p1)] [(.int (21 : Int32)), (.int p1)]))
      by_cases hc17 : (21 : Int32) < p1
      · refine own_go (fun t k => XS.icmpYes X0.here hx rfl (pc0 := 48) (pc' := 55) rfl (hb hby d2_48) rfl (XT.ii_gt_t hc17) (by decide) (by decide) k) ?_
        show Go p.tables e below _ (s₁.setTop (mkF m 55 #[.val (.int p1)] []))
        exact J4 g0 g1 g2 (by have j1 := mt (own_lt (x := p1) (k := 19) (n := 19) rfl).mpr hc16; have j2 :=  (own_gt (x := p1) (k := 21) (n := 21) rfl).mp hc17; omega)
      · refine own_go (fun t k => XS.icmpNo X0.here hx rfl (hb hby d2_48) rfl (XT.ii_gt_f hc17) k) ?_
        show Go p.tables e below _ (s₁.setTop (mkF m 51 #[.val (.int p1)] []))
        obtain ⟨T18, X18, e18, st18⟩ := getS2 X0 hx hZ hown (host := "") (Or.inl (hw _ (List.mem_of_getElem? (i := 28) rfl))) Via.refl e0 S_EMPTY_TARGET (g := (mkF m 51 #[.val (.int p1)] [])) rfl (hb hby d2_51)
        refine own_go (fun t k => st18 t k) ?_
        show Go p.tables e below _ (T18.setTop (mkF m 54 #[.val (.int p1)] [(.ref w_EMPTY_TARGET)]))
        exact own_ret X18 hx hlk Bd.returns rfl (Or.inr (Or.inr (Or.inr (Or.inr ⟨rfl, rfl, rfl⟩)))) (hb hby d2_54) ⟨congrArg some (show Value.ref w_EMPTY_TARGET = own_exp w_TYPE_PARAMETER_TARGET w_SUPERTYPE_TARGET w_TYPE_PARAMETER_BOUND_TARGET w_EMPTY_TARGET w_FORMAL_PARAMETER_TARGET w_THROWS_TARGET w_LOCALVAR_TARGET w_CATCH_TARGET w_OFFSET_TARGET w_TYPE_ARGUMENT_TARGET p1.toInt by have j1 := mt (own_lt (x := p1) (k := 19) (n := 19) rfl).mpr hc16; have j2 := mt (own_gt (x := p1) (k := 21) (n := 21) rfl).mpr hc17; unfold own_exp; (repeat' split); all_goals first | rfl | (exfalso; omega)), N0, e18⟩ (by decide) (by decide)
  have J2 : (¬ (0 ≤ p1.toInt ∧ p1.toInt ≤ 1)) → (¬ (16 ≤ p1.toInt ∧ p1.toInt ≤ 16)) → Go p.tables e below (Fin s below (PQ (own_exp w_TYPE_PARAMETER_TARGET w_SUPERTYPE_TARGET w_TYPE_PARAMETER_BOUND_TARGET w_EMPTY_TARGET w_FORMAL_PARAMETER_TARGET w_THROWS_TARGET w_LOCALVAR_TARGET w_CATCH_TARGET w_OFFSET_TARGET w_TYPE_ARGUMENT_TARGET p1.toInt) h0 n0) ({ frames := 0, cells := 0, slots := 0, locals := 0 } : Room).cells ({ frames := 0, cells := 0, slots := 0, locals := 0 } : Room).slots) (s₁.setTop (mkF m 23 #[.val (.int p1)] [])) := by
    intro g0 g1
    show Go p.tables e below _ (s₁.setTop (mkF m 23 #[.val (.int p1)] []))
    refine own_go (fun t k => XS.iloadN X0.here hx rfl (hb hby d2_23) rfl k) ?_
    show Go p.tables e below _ (s₁.setTop (mkF m 24 #[.val (.int p1)] [(.int p1)]))
    refine own_go (fun t k => XS.bipush X0.here hx rfl (hb hby d2_24) k) ?_
    show Go p.tables e below _ (s₁.setTop (mkF m 26 #[.val (.int p1)] [(.int (17 : Int32)), (.int p1)]))
    by_cases hc19 : p1 < (17 : Int32)
    · refine own_go (fun t k => XS.icmpYes X0.here hx rfl (pc0 := 26) (pc' := 39) rfl (hb hby d2_26) rfl (XT.ii_lt_t hc19) (by decide) (by decide) k) ?_
      show Go p.tables e below _ (s₁.setTop (mkF m 39 #[.val (.int p1)] []))
      exact J3 g0 g1 (by have j1 :=  (own_lt (x := p1) (k := 17) (n := 17) rfl).mp hc19; omega)
    · refine own_go (fun t k => XS.icmpNo X0.here hx rfl (hb hby d2_26) rfl (XT.ii_lt_f hc19) k) ?_
      show Go p.tables e below _ (s₁.setTop (mkF m 29 #[.val (.int p1)] []))
      refine own_go (fun t k => XS.iloadN X0.here hx rfl (hb hby d2_29) rfl k) ?_
      show Go p.tables e below _ (s₁.setTop (mkF m 30 #[.val (.int p1)] [(.int p1)]))
      refine own_go (fun t k => XS.bipush X0.here hx rfl (hb hby d2_30) k) ?_
      show Go p.tables e below _ (s₁.setTop (mkF m 32 #[.val (.int p1)] [(.int (18 : Int32)), (.int p1)]))
      by_cases hc20 : (18 : Int32) < p1
      · refine own_go (fun t k => XS.icmpYes X0.here hx rfl (pc0 := 32) (pc' := 39) rfl (hb hby d2_32) rfl (XT.ii_gt_t hc20) (by decide) (by decide) k) ?_
        show Go p.tables e below _ (s₁.setTop (mkF m 39 #[.val (.int p1)] []))
        exact J3 g0 g1 (by have j1 := mt (own_lt (x := p1) (k := 17) (n := 17) rfl).mpr hc19; have j2 :=  (own_gt (x := p1) (k := 18) (n := 18) rfl).mp hc20; omega)
      · refine own_go (fun t k => XS.icmpNo X0.here hx rfl (hb hby d2_32) rfl (XT.ii_gt_f hc20) k) ?_
        show Go p.tables e below _ (s₁.setTop (mkF m 35 #[.val (.int p1)] []))
        obtain ⟨T21, X21, e21, st21⟩ := getS2 X0 hx hZ hown (host := "") (Or.inl (hw _ (List.mem_of_getElem? (i := 27) rfl))) Via.refl e0 S_TYPE_PARAMETER_BOUND_TARGET (g := (mkF m 35 #[.val (.int p1)] [])) rfl (hb hby d2_35)
        refine own_go (fun t k => st21 t k) ?_
        show Go p.tables e below _ (T21.setTop (mkF m 38 #[.val (.int p1)] [(.ref w_TYPE_PARAMETER_BOUND_TARGET)]))
        exact own_ret X21 hx hlk Bd.returns rfl (Or.inr (Or.inr (Or.inr (Or.inr ⟨rfl, rfl, rfl⟩)))) (hb hby d2_38) ⟨congrArg some (show Value.ref w_TYPE_PARAMETER_BOUND_TARGET = own_exp w_TYPE_PARAMETER_TARGET w_SUPERTYPE_TARGET w_TYPE_PARAMETER_BOUND_TARGET w_EMPTY_TARGET w_FORMAL_PARAMETER_TARGET w_THROWS_TARGET w_LOCALVAR_TARGET w_CATCH_TARGET w_OFFSET_TARGET w_TYPE_ARGUMENT_TARGET p1.toInt by have j1 := mt (own_lt (x := p1) (k := 17) (n := 17) rfl).mpr hc19; have j2 := mt (own_gt (x := p1) (k := 18) (n := 18) rfl).mpr hc20; unfold own_exp; (repeat' split); all_goals first | rfl | (exfalso; omega)), N0, e21⟩ (by decide) (by decide)
  have J1 : (¬ (0 ≤ p1.toInt ∧ p1.toInt ≤ 1)) → Go p.tables e below (Fin s below (PQ (own_exp w_TYPE_PARAMETER_TARGET w_SUPERTYPE_TARGET w_TYPE_PARAMETER_BOUND_TARGET w_EMPTY_TARGET w_FORMAL_PARAMETER_TARGET w_THROWS_TARGET w_LOCALVAR_TARGET w_CATCH_TARGET w_OFFSET_TARGET w_TYPE_ARGUMENT_TARGET p1.toInt) h0 n0) ({ frames := 0, cells := 0, slots := 0, locals := 0 } : Room).cells ({ frames := 0, cells := 0, slots := 0, locals := 0 } : Room).slots) (s₁.setTop (mkF m 13 #[.val (.int p1)] [])) := by
    intro g0
    show Go p.tables e below _ (s₁.setTop (mkF m 13 #[.val (.int p1)] []))
    refine own_go (fun t k => XS.iloadN X0.here hx rfl (hb hby d2_13) rfl k) ?_
    show Go p.tables e below _ (s₁.setTop (mkF m 14 #[.val (.int p1)] [(.int p1)]))
    refine own_go (fun t k => XS.bipush X0.here hx rfl (hb hby d2_14) k) ?_
    show Go p.tables e below _ (s₁.setTop (mkF m 16 #[.val (.int p1)] [(.int (16 : Int32)), (.int p1)]))
    by_cases hc22 : p1 = (16 : Int32)
    · refine own_go (fun t k => XS.icmpNo X0.here hx rfl (hb hby d2_16) rfl (XT.ii_ne_f hc22) k) ?_
      show Go p.tables e below _ (s₁.setTop (mkF m 19 #[.val (.int p1)] []))
      obtain ⟨T23, X23, e23, st23⟩ := getS2 X0 hx hZ hown (host := "") (Or.inl (hw _ (List.mem_of_getElem? (i := 32) rfl))) Via.refl e0 S_SUPERTYPE_TARGET (g := (mkF m 19 #[.val (.int p1)] [])) rfl (hb hby d2_19)
      refine own_go (fun t k => st23 t k) ?_
      show Go p.tables e below _ (T23.setTop (mkF m 22 #[.val (.int p1)] [(.ref w_SUPERTYPE_TARGET)]))
      exact own_ret X23 hx hlk Bd.returns rfl (Or.inr (Or.inr (Or.inr (Or.inr ⟨rfl, rfl, rfl⟩)))) (hb hby d2_22) ⟨congrArg some (show Value.ref w_SUPERTYPE_TARGET = own_exp w_TYPE_PARAMETER_TARGET w_SUPERTYPE_TARGET w_TYPE_PARAMETER_BOUND_TARGET w_EMPTY_TARGET w_FORMAL_PARAMETER_TARGET w_THROWS_TARGET w_LOCALVAR_TARGET w_CATCH_TARGET w_OFFSET_TARGET w_TYPE_ARGUMENT_TARGET p1.toInt by have j1 :=  (own_eq (x := p1) (k := 16) (n := 16) rfl).mp hc22; unfold own_exp; (repeat' split); all_goals first | rfl | (exfalso; omega)), N0, e23⟩ (by decide) (by decide)
    · refine own_go (fun t k => XS.icmpYes X0.here hx rfl (pc0 := 16) (pc' := 23) rfl (hb hby d2_16) rfl (XT.ii_ne_t hc22) (by decide) (by decide) k) ?_
      show Go p.tables e below _ (s₁.setTop (mkF m 23 #[.val (.int p1)] []))
      exact J2 g0 (by have j1 := mt (own_eq (x := p1) (k := 16) (n := 16) rfl).mpr hc22; omega)
  have J0 : Go p.tables e below (Fin s below (PQ (own_exp w_TYPE_PARAMETER_TARGET w_SUPERTYPE_TARGET w_TYPE_PARAMETER_BOUND_TARGET w_EMPTY_TARGET w_FORMAL_PARAMETER_TARGET w_THROWS_TARGET w_LOCALVAR_TARGET w_CATCH_TARGET w_OFFSET_TARGET w_TYPE_ARGUMENT_TARGET p1.toInt) h0 n0) ({ frames := 0, cells := 0, slots := 0, locals := 0 } : Room).cells ({ frames := 0, cells := 0, slots := 0, locals := 0 } : Room).slots) (s₁.setTop (mkF m 0 #[.val (.int p1)] [])) := by
    show Go p.tables e below _ (s₁.setTop (mkF m 0 #[.val (.int p1)] []))
    refine own_go (fun t k => XS.iloadN X0.here hx rfl (hb hby d2_0) rfl k) ?_
    show Go p.tables e below _ (s₁.setTop (mkF m 1 #[.val (.int p1)] [(.int p1)]))
    by_cases hc24 : p1 < 0
    · refine own_go (fun t k => XS.ifYes X0.here hx rfl (pc0 := 1) (pc' := 13) rfl (hb hby d2_1) rfl (XT.i0_lt_t hc24) (by decide) (by decide) k) ?_
      show Go p.tables e below _ (s₁.setTop (mkF m 13 #[.val (.int p1)] []))
      exact J1  (by have j1 :=  (own_lt (x := p1) (k := 0) (n := 0) rfl).mp hc24; omega)
    · refine own_go (fun t k => XS.ifNo X0.here hx rfl (hb hby d2_1) rfl (XT.i0_lt_f hc24) k) ?_
      show Go p.tables e below _ (s₁.setTop (mkF m 4 #[.val (.int p1)] []))
      refine own_go (fun t k => XS.iloadN X0.here hx rfl (hb hby d2_4) rfl k) ?_
      show Go p.tables e below _ (s₁.setTop (mkF m 5 #[.val (.int p1)] [(.int p1)]))
      refine own_go (fun t k => XS.iconst X0.here hx rfl (hb hby d2_5) k) ?_
      show Go p.tables e below _ (s₁.setTop (mkF m 6 #[.val (.int p1)] [(.int (1 : Int32)), (.int p1)]))
      by_cases hc25 : (1 : Int32) < p1
      · refine own_go (fun t k => XS.icmpYes X0.here hx rfl (pc0 := 6) (pc' := 13) rfl (hb hby d2_6) rfl (XT.ii_gt_t hc25) (by decide) (by decide) k) ?_
        show Go p.tables e below _ (s₁.setTop (mkF m 13 #[.val (.int p1)] []))
        exact J1  (by have j1 := mt (own_lt (x := p1) (k := 0) (n := 0) rfl).mpr hc24; have j2 :=  (own_gt (x := p1) (k := 1) (n := 1) rfl).mp hc25; omega)
      · refine own_go (fun t k => XS.icmpNo X0.here hx rfl (hb hby d2_6) rfl (XT.ii_gt_f hc25) k) ?_
        show Go p.tables e below _ (s₁.setTop (mkF m 9 #[.val (.int p1)] []))
        obtain ⟨T26, X26, e26, st26⟩ := getS2 X0 hx hZ hown (host := "") (Or.inl (hw _ (List.mem_of_getElem? (i := 15) rfl))) Via.refl e0 S_TYPE_PARAMETER_TARGET (g := (mkF m 9 #[.val (.int p1)] [])) rfl (hb hby d2_9)
        refine own_go (fun t k => st26 t k) ?_
        show Go p.tables e below _ (T26.setTop (mkF m 12 #[.val (.int p1)] [(.ref w_TYPE_PARAMETER_TARGET)]))
        exact own_ret X26 hx hlk Bd.returns rfl (Or.inr (Or.inr (Or.inr (Or.inr ⟨rfl, rfl, rfl⟩)))) (hb hby d2_12) ⟨congrArg some (show Value.ref w_TYPE_PARAMETER_TARGET = own_exp w_TYPE_PARAMETER_TARGET w_SUPERTYPE_TARGET w_TYPE_PARAMETER_BOUND_TARGET w_EMPTY_TARGET w_FORMAL_PARAMETER_TARGET w_THROWS_TARGET w_LOCALVAR_TARGET w_CATCH_TARGET w_OFFSET_TARGET w_TYPE_ARGUMENT_TARGET p1.toInt by have j1 := mt (own_lt (x := p1) (k := 0) (n := 0) rfl).mpr hc24; have j2 := mt (own_gt (x := p1) (k := 1) (n := 1) rfl).mpr hc25; unfold own_exp; (repeat' split); all_goals first | rfl | (exfalso; omega)), N0, e26⟩ (by decide) (by decide)
  exact J0
theorem d1_0 : decode prog_118_method_4_code 0 = .ok (.getstatic 70, 3) := by decide +kernel
theorem d1_3 : decode prog_118_method_4_code 3 = .ok (.astore_n 1, 1) := by decide +kernel
theorem d1_4 : decode prog_118_method_4_code 4 = .ok (.aload_n 1, 1) := by decide +kernel
theorem d1_5 : decode prog_118_method_4_code 5 = .ok (.arraylength, 1) := by decide +kernel
theorem d1_6 : decode prog_118_method_4_code 6 = .ok (.istore_n 2, 1) := by decide +kernel
theorem d1_7 : decode prog_118_method_4_code 7 = .ok (.iconst 0, 1) := by decide +kernel
theorem d1_8 : decode prog_118_method_4_code 8 = .ok (.istore_n 3, 1) := by decide +kernel
theorem d1_9 : decode prog_118_method_4_code 9 = .ok (.iload_n 3, 1) := by decide +kernel
theorem d1_10 : decode prog_118_method_4_code 10 = .ok (.iload_n 2, 1) := by decide +kernel
theorem d1_11 : decode prog_118_method_4_code 11 = .ok (.if_icmp .ge 35, 3) := by decide +kernel
theorem d1_14 : decode prog_118_method_4_code 14 = .ok (.aload_n 1, 1) := by decide +kernel
theorem d1_15 : decode prog_118_method_4_code 15 = .ok (.iload_n 3, 1) := by decide +kernel
theorem d1_16 : decode prog_118_method_4_code 16 = .ok (.aaload, 1) := by decide +kernel
theorem d1_17 : decode prog_118_method_4_code 17 = .ok (.astore 4, 2) := by decide +kernel
theorem d1_19 : decode prog_118_method_4_code 19 = .ok (.iload_n 0, 1) := by decide +kernel
theorem d1_20 : decode prog_118_method_4_code 20 = .ok (.aload 4, 2) := by decide +kernel
theorem d1_22 : decode prog_118_method_4_code 22 = .ok (.getfield 53, 3) := by decide +kernel
theorem d1_25 : decode prog_118_method_4_code 25 = .ok (.if_icmp .lt 15, 3) := by decide +kernel
theorem d1_28 : decode prog_118_method_4_code 28 = .ok (.iload_n 0, 1) := by decide +kernel
theorem d1_29 : decode prog_118_method_4_code 29 = .ok (.aload 4, 2) := by decide +kernel
theorem d1_31 : decode prog_118_method_4_code 31 = .ok (.getfield 57, 3) := by decide +kernel
theorem d1_34 : decode prog_118_method_4_code 34 = .ok (.if_icmp .gt 6, 3) := by decide +kernel
theorem d1_37 : decode prog_118_method_4_code 37 = .ok (.aload 4, 2) := by decide +kernel
theorem d1_39 : decode prog_118_method_4_code 39 = .ok (.areturn, 1) := by decide +kernel
theorem d1_40 : decode prog_118_method_4_code 40 = .ok (.iinc 3 1, 3) := by decide +kernel
theorem d1_43 : decode prog_118_method_4_code 43 = .ok (.goto (-34), 3) := by decide +kernel
theorem d1_46 : decode prog_118_method_4_code 46 = .ok (.aconst_null, 1) := by decide +kernel
theorem d1_47 : decode prog_118_method_4_code 47 = .ok (.areturn, 1) := by decide +kernel
theorem pn_1 : plainName own_C = true := by first | (simp [plainName, overriddenIn]; done) | decide +kernel
theorem ef_rm_of (m : MethodId) (x0 : Int32) : entryFrame m #[(.int x0)] 5 = mkF m 0 #[.val (.int x0), .unset, .unset, .unset, .unset] [] := by first | (simp [entryFrame, mkF, argsToLocals, Value.category]; done) | rfl
set_option maxRecDepth 65536 in
set_option maxHeartbeats 40000000 in
theorem rm_of (l : Launch) (Z : State) (a0 : Array Value) (hw : ∀ d ∈ tables_1, d.before a0 Z = true) (ws : List Jvm.Cond) (p1 : Int32) (w_TYPE_PARAMETER_TARGET w_SUPERTYPE_TARGET w_TYPE_PARAMETER_BOUND_TARGET w_EMPTY_TARGET w_FORMAL_PARAMETER_TARGET w_THROWS_TARGET w_LOCALVAR_TARGET w_CATCH_TARGET w_OFFSET_TARGET w_TYPE_ARGUMENT_TARGET : Addr) (w_VALUES : Addr) (cl : Cell) (h0 : Heap) (n0 : Nat) (SS : own_S Z h0 w_TYPE_PARAMETER_TARGET w_SUPERTYPE_TARGET w_TYPE_PARAMETER_BOUND_TARGET w_EMPTY_TARGET w_FORMAL_PARAMETER_TARGET w_THROWS_TARGET w_LOCALVAR_TARGET w_CATCH_TARGET w_OFFSET_TARGET w_TYPE_ARGUMENT_TARGET) (OO : own_O Z h0 w_TYPE_PARAMETER_TARGET w_SUPERTYPE_TARGET w_TYPE_PARAMETER_BOUND_TARGET w_EMPTY_TARGET w_FORMAL_PARAMETER_TARGET w_THROWS_TARGET w_LOCALVAR_TARGET w_CATCH_TARGET w_OFFSET_TARGET w_TYPE_ARGUMENT_TARGET) (S_VALUES : Sta Z h0 own_C "VALUES" own_A (.ref w_VALUES)) (Ar : Arr Z h0 w_VALUES cl (.object own_C)) (Len : cl.slots.size = 10 ∧ cl.slots.size.toInt32 = 10) (At0 : ¬ ((0 : Int32) < 0 ∨ cl.slots.size ≤ (0 : Int32).toNatClampNeg) ∧ cl.slots[(0 : Int32).toNatClampNeg]? = some (.ref w_TYPE_PARAMETER_TARGET)) (At1 : ¬ ((1 : Int32) < 0 ∨ cl.slots.size ≤ (1 : Int32).toNatClampNeg) ∧ cl.slots[(1 : Int32).toNatClampNeg]? = some (.ref w_SUPERTYPE_TARGET)) (At2 : ¬ ((2 : Int32) < 0 ∨ cl.slots.size ≤ (2 : Int32).toNatClampNeg) ∧ cl.slots[(2 : Int32).toNatClampNeg]? = some (.ref w_TYPE_PARAMETER_BOUND_TARGET)) (At3 : ¬ ((3 : Int32) < 0 ∨ cl.slots.size ≤ (3 : Int32).toNatClampNeg) ∧ cl.slots[(3 : Int32).toNatClampNeg]? = some (.ref w_EMPTY_TARGET)) (At4 : ¬ ((4 : Int32) < 0 ∨ cl.slots.size ≤ (4 : Int32).toNatClampNeg) ∧ cl.slots[(4 : Int32).toNatClampNeg]? = some (.ref w_FORMAL_PARAMETER_TARGET)) (At5 : ¬ ((5 : Int32) < 0 ∨ cl.slots.size ≤ (5 : Int32).toNatClampNeg) ∧ cl.slots[(5 : Int32).toNatClampNeg]? = some (.ref w_THROWS_TARGET)) (At6 : ¬ ((6 : Int32) < 0 ∨ cl.slots.size ≤ (6 : Int32).toNatClampNeg) ∧ cl.slots[(6 : Int32).toNatClampNeg]? = some (.ref w_LOCALVAR_TARGET)) (At7 : ¬ ((7 : Int32) < 0 ∨ cl.slots.size ≤ (7 : Int32).toNatClampNeg) ∧ cl.slots[(7 : Int32).toNatClampNeg]? = some (.ref w_CATCH_TARGET)) (At8 : ¬ ((8 : Int32) < 0 ∨ cl.slots.size ≤ (8 : Int32).toNatClampNeg) ∧ cl.slots[(8 : Int32).toNatClampNeg]? = some (.ref w_OFFSET_TARGET)) (At9 : ¬ ((9 : Int32) < 0 ∨ cl.slots.size ≤ (9 : Int32).toNatClampNeg) ∧ cl.slots[(9 : Int32).toNatClampNeg]? = some (.ref w_TYPE_ARGUMENT_TARGET)) :
    MetFree l site_20 (head1 (Jvm.Cond.code site_20 prog_118_method_4_code 5 (some (.object own_C)) :: ws) ({ frames := 0, cells := 0, slots := 0, locals := 0 } : Room)) (fun aa U => aa = #[(.int p1)] ∧ Z.Warmed39 U.vm ∧ U.heap = h0) (fun _ _ _ _ _ => True) (fun _ U o U' => ∃ v L, o = .returned v ∧ PQ (own_exp w_TYPE_PARAMETER_TARGET w_SUPERTYPE_TARGET w_TYPE_PARAMETER_BOUND_TARGET w_EMPTY_TARGET w_FORMAL_PARAMETER_TARGET w_THROWS_TARGET w_LOCALVAR_TARGET w_CATCH_TARGET w_OFFSET_TARGET w_TYPE_ARGUMENT_TARGET p1.toInt) h0 n0 v U'.heap L ∧ FrameEnd U o U' L ({ frames := 0, cells := 0, slots := 0, locals := 0 } : Room).cells ({ frames := 0, cells := 0, slots := 0, locals := 0 } : Room).slots) := by
  refine MetFree.of_bodySF (plainFor_of_name pn_1) hisR ?_
  intro p e s m args below meth c s₁ Bd hml0 hP hK
  obtain ⟨rfl, hZ, hh⟩ := hP
  have hx := Bd.exec
  have hby := Bd.bytes
  have hlk := Bd.notSynchronized
  have hml : c.maxLocals = 5 := hml0
  have hown : s.vm.findClass own_C = some m.cls := by have q := findClass_of_methodNamed Bd.named; exact q
  have X0 : Stand p l e ({ frames := 0, cells := 0, slots := 0, locals := 0 } : Room) s m #[(.int p1)] below meth c s₁ [] 0 0 := Stand.of_body Bd
  have e0 : s₁.heap = h0 := by rw [← hh, Bd.state]; rfl
  have N0 := Fr.nil n0
  obtain ⟨S_TYPE_PARAMETER_TARGET, S_SUPERTYPE_TARGET, S_TYPE_PARAMETER_BOUND_TARGET, S_EMPTY_TARGET, S_FORMAL_PARAMETER_TARGET, S_THROWS_TARGET, S_LOCALVAR_TARGET, S_CATCH_TARGET, S_OFFSET_TARGET, S_TYPE_ARGUMENT_TARGET⟩ := SS
  obtain ⟨F_TYPE_PARAMETER_TARGET_firstType, F_TYPE_PARAMETER_TARGET_lastType, F_SUPERTYPE_TARGET_firstType, F_TYPE_PARAMETER_BOUND_TARGET_firstType, F_EMPTY_TARGET_firstType, F_FORMAL_PARAMETER_TARGET_firstType, F_THROWS_TARGET_firstType, F_LOCALVAR_TARGET_firstType, F_CATCH_TARGET_firstType, F_OFFSET_TARGET_firstType, F_TYPE_ARGUMENT_TARGET_firstType, F_SUPERTYPE_TARGET_lastType, F_TYPE_PARAMETER_BOUND_TARGET_lastType, F_EMPTY_TARGET_lastType, F_FORMAL_PARAMETER_TARGET_lastType, F_THROWS_TARGET_lastType, F_LOCALVAR_TARGET_lastType, F_CATCH_TARGET_lastType, F_OFFSET_TARGET_lastType, F_TYPE_ARGUMENT_TARGET_lastType⟩ := OO
  show Go p.tables e below (Fin s below (PQ (own_exp w_TYPE_PARAMETER_TARGET w_SUPERTYPE_TARGET w_TYPE_PARAMETER_BOUND_TARGET w_EMPTY_TARGET w_FORMAL_PARAMETER_TARGET w_THROWS_TARGET w_LOCALVAR_TARGET w_CATCH_TARGET w_OFFSET_TARGET w_TYPE_ARGUMENT_TARGET p1.toInt) h0 n0) ({ frames := 0, cells := 0, slots := 0, locals := 0 } : Room).cells ({ frames := 0, cells := 0, slots := 0, locals := 0 } : Room).slots) (s₁.setTop (entryFrame m #[(.int p1)] 5))
  refine own_go (fun t k => castTop (ef_rm_of m p1) k) ?_
  show Go p.tables e below _ (s₁.setTop (mkF m 0 #[.val (.int p1), .unset, .unset, .unset, .unset] []))
  obtain ⟨T1, X1, e1, st1⟩ := getS2 X0 hx hZ hown (host := "") (Or.inl (hw _ (List.mem_of_getElem? (i := 4) rfl))) Via.refl e0 S_VALUES (g := (mkF m 0 #[.val (.int p1), .unset, .unset, .unset, .unset] [])) rfl (hb hby d1_0)
  refine own_go (fun t k => st1 t k) ?_
  show Go p.tables e below _ (T1.setTop (mkF m 3 #[.val (.int p1), .unset, .unset, .unset, .unset] [(.ref w_VALUES)]))
  refine own_go (fun t k => XS.astoreN X1.here hx rfl (hb hby d1_3) rfl rfl (l' := #[.val (.int p1), .val (.ref w_VALUES), .unset, .unset, .unset]) rfl k) ?_
  show Go p.tables e below _ (T1.setTop (mkF m 4 #[.val (.int p1), .val (.ref w_VALUES), .unset, .unset, .unset] []))
  refine own_go (fun t k => XS.aloadN X1.here hx rfl (hb hby d1_4) rfl rfl k) ?_
  show Go p.tables e below _ (T1.setTop (mkF m 5 #[.val (.int p1), .val (.ref w_VALUES), .unset, .unset, .unset] [(.ref w_VALUES)]))
  refine own_go (fun t k => X1.arraylength hx (by rw [e1]; exact Ar.1) (State.isArrayOf_alike hZ.alike Ar.2.1) (g := (mkF m 5 #[.val (.int p1), .val (.ref w_VALUES), .unset, .unset, .unset] [(.ref w_VALUES)])) rfl rfl (hb hby d1_5) t (by rw [Len.2]; exact k)) ?_
  show Go p.tables e below _ (T1.setTop (mkF m 6 #[.val (.int p1), .val (.ref w_VALUES), .unset, .unset, .unset] [(.int (10 : Int32))]))
  refine own_go (fun t k => XS.istoreN X1.here hx rfl (hb hby d1_6) rfl (l' := #[.val (.int p1), .val (.ref w_VALUES), .val (.int (10 : Int32)), .unset, .unset]) rfl k) ?_
  show Go p.tables e below _ (T1.setTop (mkF m 7 #[.val (.int p1), .val (.ref w_VALUES), .val (.int (10 : Int32)), .unset, .unset] []))
  refine own_go (fun t k => XS.iconst X1.here hx rfl (hb hby d1_7) k) ?_
  show Go p.tables e below _ (T1.setTop (mkF m 8 #[.val (.int p1), .val (.ref w_VALUES), .val (.int (10 : Int32)), .unset, .unset] [(.int (0 : Int32))]))
  refine own_go (fun t k => XS.istoreN X1.here hx rfl (hb hby d1_8) rfl (l' := #[.val (.int p1), .val (.ref w_VALUES), .val (.int (10 : Int32)), .val (.int (0 : Int32)), .unset]) rfl k) ?_
  show Go p.tables e below _ (T1.setTop (mkF m 9 #[.val (.int p1), .val (.ref w_VALUES), .val (.int (10 : Int32)), .val (.int (0 : Int32)), .unset] []))
  have K10 : ∀ T, Stand p l e ({ frames := 0, cells := 0, slots := 0, locals := 0 } : Room) s m #[(.int p1)] below meth c T [] 0 0 → T.heap = h0 → (¬ (0 ≤ p1.toInt ∧ p1.toInt ≤ 1)) → (¬ (16 ≤ p1.toInt ∧ p1.toInt ≤ 16)) → (¬ (17 ≤ p1.toInt ∧ p1.toInt ≤ 18)) → (¬ (19 ≤ p1.toInt ∧ p1.toInt ≤ 21)) → (¬ (22 ≤ p1.toInt ∧ p1.toInt ≤ 22)) → (¬ (23 ≤ p1.toInt ∧ p1.toInt ≤ 23)) → (¬ (64 ≤ p1.toInt ∧ p1.toInt ≤ 65)) → (¬ (66 ≤ p1.toInt ∧ p1.toInt ≤ 66)) → (¬ (67 ≤ p1.toInt ∧ p1.toInt ≤ 70)) → (¬ (71 ≤ p1.toInt ∧ p1.toInt ≤ 75)) → Go p.tables e below (Fin s below (PQ (own_exp w_TYPE_PARAMETER_TARGET w_SUPERTYPE_TARGET w_TYPE_PARAMETER_BOUND_TARGET w_EMPTY_TARGET w_FORMAL_PARAMETER_TARGET w_THROWS_TARGET w_LOCALVAR_TARGET w_CATCH_TARGET w_OFFSET_TARGET w_TYPE_ARGUMENT_TARGET p1.toInt) h0 n0) ({ frames := 0, cells := 0, slots := 0, locals := 0 } : Room).cells ({ frames := 0, cells := 0, slots := 0, locals := 0 } : Room).slots) (T.setTop (mkF m 9 #[.val (.int p1), .val (.ref w_VALUES), .val (.int (10 : Int32)), .val (.int (10 : Int32)), .val (.ref w_TYPE_ARGUMENT_TARGET)] [])) := by
    intro T X e' g0 g1 g2 g3 g4 g5 g6 g7 g8 g9
    show Go p.tables e below _ (T.setTop (mkF m 9 #[.val (.int p1), .val (.ref w_VALUES), .val (.int (10 : Int32)), .val (.int (10 : Int32)), .val (.ref w_TYPE_ARGUMENT_TARGET)] []))
    refine own_go (fun t k => XS.iloadN X.here hx rfl (hb hby d1_9) rfl k) ?_
    show Go p.tables e below _ (T.setTop (mkF m 10 #[.val (.int p1), .val (.ref w_VALUES), .val (.int (10 : Int32)), .val (.int (10 : Int32)), .val (.ref w_TYPE_ARGUMENT_TARGET)] [(.int (10 : Int32))]))
    refine own_go (fun t k => XS.iloadN X.here hx rfl (hb hby d1_10) rfl k) ?_
    show Go p.tables e below _ (T.setTop (mkF m 11 #[.val (.int p1), .val (.ref w_VALUES), .val (.int (10 : Int32)), .val (.int (10 : Int32)), .val (.ref w_TYPE_ARGUMENT_TARGET)] [(.int (10 : Int32)), (.int (10 : Int32))]))
    refine own_go (fun t k => XS.icmpYes X.here hx rfl (pc0 := 11) (pc' := 46) rfl (hb hby d1_11) rfl (XT.ii_ge_t (by decide)) (by decide) (by decide) k) ?_
    show Go p.tables e below _ (T.setTop (mkF m 46 #[.val (.int p1), .val (.ref w_VALUES), .val (.int (10 : Int32)), .val (.int (10 : Int32)), .val (.ref w_TYPE_ARGUMENT_TARGET)] []))
    refine own_go (fun t k => XS.aconstNull X.here hx rfl (hb hby d1_46) k) ?_
    show Go p.tables e below _ (T.setTop (mkF m 47 #[.val (.int p1), .val (.ref w_VALUES), .val (.int (10 : Int32)), .val (.int (10 : Int32)), .val (.ref w_TYPE_ARGUMENT_TARGET)] [.null]))
    exact own_ret X hx hlk Bd.returns rfl (Or.inr (Or.inr (Or.inr (Or.inr ⟨rfl, rfl, rfl⟩)))) (hb hby d1_47) ⟨congrArg some (show Value.null = own_exp w_TYPE_PARAMETER_TARGET w_SUPERTYPE_TARGET w_TYPE_PARAMETER_BOUND_TARGET w_EMPTY_TARGET w_FORMAL_PARAMETER_TARGET w_THROWS_TARGET w_LOCALVAR_TARGET w_CATCH_TARGET w_OFFSET_TARGET w_TYPE_ARGUMENT_TARGET p1.toInt by skip; unfold own_exp; (repeat' split); all_goals first | rfl | (exfalso; omega)), N0, e'⟩ (by decide) (by decide)
  have K9 : ∀ T, Stand p l e ({ frames := 0, cells := 0, slots := 0, locals := 0 } : Room) s m #[(.int p1)] below meth c T [] 0 0 → T.heap = h0 → (¬ (0 ≤ p1.toInt ∧ p1.toInt ≤ 1)) → (¬ (16 ≤ p1.toInt ∧ p1.toInt ≤ 16)) → (¬ (17 ≤ p1.toInt ∧ p1.toInt ≤ 18)) → (¬ (19 ≤ p1.toInt ∧ p1.toInt ≤ 21)) → (¬ (22 ≤ p1.toInt ∧ p1.toInt ≤ 22)) → (¬ (23 ≤ p1.toInt ∧ p1.toInt ≤ 23)) → (¬ (64 ≤ p1.toInt ∧ p1.toInt ≤ 65)) → (¬ (66 ≤ p1.toInt ∧ p1.toInt ≤ 66)) → (¬ (67 ≤ p1.toInt ∧ p1.toInt ≤ 70)) → Go p.tables e below (Fin s below (PQ (own_exp w_TYPE_PARAMETER_TARGET w_SUPERTYPE_TARGET w_TYPE_PARAMETER_BOUND_TARGET w_EMPTY_TARGET w_FORMAL_PARAMETER_TARGET w_THROWS_TARGET w_LOCALVAR_TARGET w_CATCH_TARGET w_OFFSET_TARGET w_TYPE_ARGUMENT_TARGET p1.toInt) h0 n0) ({ frames := 0, cells := 0, slots := 0, locals := 0 } : Room).cells ({ frames := 0, cells := 0, slots := 0, locals := 0 } : Room).slots) (T.setTop (mkF m 9 #[.val (.int p1), .val (.ref w_VALUES), .val (.int (10 : Int32)), .val (.int (9 : Int32)), .val (.ref w_OFFSET_TARGET)] [])) := by
    intro T X e' g0 g1 g2 g3 g4 g5 g6 g7 g8
    show Go p.tables e below _ (T.setTop (mkF m 9 #[.val (.int p1), .val (.ref w_VALUES), .val (.int (10 : Int32)), .val (.int (9 : Int32)), .val (.ref w_OFFSET_TARGET)] []))
    refine own_go (fun t k => XS.iloadN X.here hx rfl (hb hby d1_9) rfl k) ?_
    show Go p.tables e below _ (T.setTop (mkF m 10 #[.val (.int p1), .val (.ref w_VALUES), .val (.int (10 : Int32)), .val (.int (9 : Int32)), .val (.ref w_OFFSET_TARGET)] [(.int (9 : Int32))]))
    refine own_go (fun t k => XS.iloadN X.here hx rfl (hb hby d1_10) rfl k) ?_
    show Go p.tables e below _ (T.setTop (mkF m 11 #[.val (.int p1), .val (.ref w_VALUES), .val (.int (10 : Int32)), .val (.int (9 : Int32)), .val (.ref w_OFFSET_TARGET)] [(.int (10 : Int32)), (.int (9 : Int32))]))
    refine own_go (fun t k => XS.icmpNo X.here hx rfl (hb hby d1_11) rfl (XT.ii_ge_f (by decide)) k) ?_
    show Go p.tables e below _ (T.setTop (mkF m 14 #[.val (.int p1), .val (.ref w_VALUES), .val (.int (10 : Int32)), .val (.int (9 : Int32)), .val (.ref w_OFFSET_TARGET)] []))
    refine own_go (fun t k => XS.aloadN X.here hx rfl (hb hby d1_14) rfl rfl k) ?_
    show Go p.tables e below _ (T.setTop (mkF m 15 #[.val (.int p1), .val (.ref w_VALUES), .val (.int (10 : Int32)), .val (.int (9 : Int32)), .val (.ref w_OFFSET_TARGET)] [(.ref w_VALUES)]))
    refine own_go (fun t k => XS.iloadN X.here hx rfl (hb hby d1_15) rfl k) ?_
    show Go p.tables e below _ (T.setTop (mkF m 16 #[.val (.int p1), .val (.ref w_VALUES), .val (.int (10 : Int32)), .val (.int (9 : Int32)), .val (.ref w_OFFSET_TARGET)] [(.int (9 : Int32)), (.ref w_VALUES)]))
    refine own_go (fun t k => X.aaload hx (j := (9 : Int32)) (v := (.ref w_TYPE_ARGUMENT_TARGET)) (by rw [e']; exact Ar.1) (State.isArrayOf_alike hZ.alike Ar.2.1) rfl Ar.2.2 At9.1 At9.2 (g := (mkF m 16 #[.val (.int p1), .val (.ref w_VALUES), .val (.int (10 : Int32)), .val (.int (9 : Int32)), .val (.ref w_OFFSET_TARGET)] [(.int (9 : Int32)), (.ref w_VALUES)])) rfl rfl (hb hby d1_16) t k) ?_
    show Go p.tables e below _ (T.setTop (mkF m 17 #[.val (.int p1), .val (.ref w_VALUES), .val (.int (10 : Int32)), .val (.int (9 : Int32)), .val (.ref w_OFFSET_TARGET)] [(.ref w_TYPE_ARGUMENT_TARGET)]))
    refine own_go (fun t k => XS.astore X.here hx rfl (hb hby d1_17) rfl rfl (l' := #[.val (.int p1), .val (.ref w_VALUES), .val (.int (10 : Int32)), .val (.int (9 : Int32)), .val (.ref w_TYPE_ARGUMENT_TARGET)]) rfl k) ?_
    show Go p.tables e below _ (T.setTop (mkF m 19 #[.val (.int p1), .val (.ref w_VALUES), .val (.int (10 : Int32)), .val (.int (9 : Int32)), .val (.ref w_TYPE_ARGUMENT_TARGET)] []))
    refine own_go (fun t k => XS.iloadN X.here hx rfl (hb hby d1_19) rfl k) ?_
    show Go p.tables e below _ (T.setTop (mkF m 20 #[.val (.int p1), .val (.ref w_VALUES), .val (.int (10 : Int32)), .val (.int (9 : Int32)), .val (.ref w_TYPE_ARGUMENT_TARGET)] [(.int p1)]))
    refine own_go (fun t k => XS.aload X.here hx rfl (hb hby d1_20) rfl rfl k) ?_
    show Go p.tables e below _ (T.setTop (mkF m 22 #[.val (.int p1), .val (.ref w_VALUES), .val (.int (10 : Int32)), .val (.int (9 : Int32)), .val (.ref w_TYPE_ARGUMENT_TARGET)] [(.ref w_TYPE_ARGUMENT_TARGET), (.int p1)]))
    obtain ⟨T2, X2, e2, st2⟩ := getF X hx hZ hown (host := "") (Or.inl (hw _ (List.mem_of_getElem? (i := 7) rfl))) Via.refl e' F_TYPE_ARGUMENT_TARGET_firstType (g := (mkF m 22 #[.val (.int p1), .val (.ref w_VALUES), .val (.int (10 : Int32)), .val (.int (9 : Int32)), .val (.ref w_TYPE_ARGUMENT_TARGET)] [(.ref w_TYPE_ARGUMENT_TARGET), (.int p1)])) rfl rfl (hb hby d1_22)
    refine own_go (fun t k => st2 t k) ?_
    show Go p.tables e below _ (T2.setTop (mkF m 25 #[.val (.int p1), .val (.ref w_VALUES), .val (.int (10 : Int32)), .val (.int (9 : Int32)), .val (.ref w_TYPE_ARGUMENT_TARGET)] [(.int (71 : Int32)), (.int p1)]))
    by_cases hc3 : p1 < (71 : Int32)
    · refine own_go (fun t k => XS.icmpYes X2.here hx rfl (pc0 := 25) (pc' := 40) rfl (hb hby d1_25) rfl (XT.ii_lt_t hc3) (by decide) (by decide) k) ?_
      show Go p.tables e below _ (T2.setTop (mkF m 40 #[.val (.int p1), .val (.ref w_VALUES), .val (.int (10 : Int32)), .val (.int (9 : Int32)), .val (.ref w_TYPE_ARGUMENT_TARGET)] []))
      refine own_go (fun t k => XS.iinc X2.here hx rfl (hb hby d1_40) rfl (l' := #[.val (.int p1), .val (.ref w_VALUES), .val (.int (10 : Int32)), .val (.int (10 : Int32)), .val (.ref w_TYPE_ARGUMENT_TARGET)]) rfl k) ?_
      show Go p.tables e below _ (T2.setTop (mkF m 43 #[.val (.int p1), .val (.ref w_VALUES), .val (.int (10 : Int32)), .val (.int (10 : Int32)), .val (.ref w_TYPE_ARGUMENT_TARGET)] []))
      refine own_go (fun t k => XS.goto X2.here hx rfl (pc0 := 43) (pc' := 9) rfl (hb hby d1_43) (by decide) (by decide) k) ?_
      show Go p.tables e below _ (T2.setTop (mkF m 9 #[.val (.int p1), .val (.ref w_VALUES), .val (.int (10 : Int32)), .val (.int (10 : Int32)), .val (.ref w_TYPE_ARGUMENT_TARGET)] []))
      exact K10 T2 X2 e2 g0 g1 g2 g3 g4 g5 g6 g7 g8 (by have j1 :=  (own_lt (x := p1) (k := 71) (n := 71) rfl).mp hc3; omega)
    · refine own_go (fun t k => XS.icmpNo X2.here hx rfl (hb hby d1_25) rfl (XT.ii_lt_f hc3) k) ?_
      show Go p.tables e below _ (T2.setTop (mkF m 28 #[.val (.int p1), .val (.ref w_VALUES), .val (.int (10 : Int32)), .val (.int (9 : Int32)), .val (.ref w_TYPE_ARGUMENT_TARGET)] []))
      refine own_go (fun t k => XS.iloadN X2.here hx rfl (hb hby d1_28) rfl k) ?_
      show Go p.tables e below _ (T2.setTop (mkF m 29 #[.val (.int p1), .val (.ref w_VALUES), .val (.int (10 : Int32)), .val (.int (9 : Int32)), .val (.ref w_TYPE_ARGUMENT_TARGET)] [(.int p1)]))
      refine own_go (fun t k => XS.aload X2.here hx rfl (hb hby d1_29) rfl rfl k) ?_
      show Go p.tables e below _ (T2.setTop (mkF m 31 #[.val (.int p1), .val (.ref w_VALUES), .val (.int (10 : Int32)), .val (.int (9 : Int32)), .val (.ref w_TYPE_ARGUMENT_TARGET)] [(.ref w_TYPE_ARGUMENT_TARGET), (.int p1)]))
      obtain ⟨T4, X4, e4, st4⟩ := getF X2 hx hZ hown (host := "") (Or.inl (hw _ (List.mem_of_getElem? (i := 9) rfl))) Via.refl e2 F_TYPE_ARGUMENT_TARGET_lastType (g := (mkF m 31 #[.val (.int p1), .val (.ref w_VALUES), .val (.int (10 : Int32)), .val (.int (9 : Int32)), .val (.ref w_TYPE_ARGUMENT_TARGET)] [(.ref w_TYPE_ARGUMENT_TARGET), (.int p1)])) rfl rfl (hb hby d1_31)
      refine own_go (fun t k => st4 t k) ?_
      show Go p.tables e below _ (T4.setTop (mkF m 34 #[.val (.int p1), .val (.ref w_VALUES), .val (.int (10 : Int32)), .val (.int (9 : Int32)), .val (.ref w_TYPE_ARGUMENT_TARGET)] [(.int (75 : Int32)), (.int p1)]))
      by_cases hc5 : (75 : Int32) < p1
      · refine own_go (fun t k => XS.icmpYes X4.here hx rfl (pc0 := 34) (pc' := 40) rfl (hb hby d1_34) rfl (XT.ii_gt_t hc5) (by decide) (by decide) k) ?_
        show Go p.tables e below _ (T4.setTop (mkF m 40 #[.val (.int p1), .val (.ref w_VALUES), .val (.int (10 : Int32)), .val (.int (9 : Int32)), .val (.ref w_TYPE_ARGUMENT_TARGET)] []))
        refine own_go (fun t k => XS.iinc X4.here hx rfl (hb hby d1_40) rfl (l' := #[.val (.int p1), .val (.ref w_VALUES), .val (.int (10 : Int32)), .val (.int (10 : Int32)), .val (.ref w_TYPE_ARGUMENT_TARGET)]) rfl k) ?_
        show Go p.tables e below _ (T4.setTop (mkF m 43 #[.val (.int p1), .val (.ref w_VALUES), .val (.int (10 : Int32)), .val (.int (10 : Int32)), .val (.ref w_TYPE_ARGUMENT_TARGET)] []))
        refine own_go (fun t k => XS.goto X4.here hx rfl (pc0 := 43) (pc' := 9) rfl (hb hby d1_43) (by decide) (by decide) k) ?_
        show Go p.tables e below _ (T4.setTop (mkF m 9 #[.val (.int p1), .val (.ref w_VALUES), .val (.int (10 : Int32)), .val (.int (10 : Int32)), .val (.ref w_TYPE_ARGUMENT_TARGET)] []))
        exact K10 T4 X4 e4 g0 g1 g2 g3 g4 g5 g6 g7 g8 (by have j1 := mt (own_lt (x := p1) (k := 71) (n := 71) rfl).mpr hc3; have j2 :=  (own_gt (x := p1) (k := 75) (n := 75) rfl).mp hc5; omega)
      · refine own_go (fun t k => XS.icmpNo X4.here hx rfl (hb hby d1_34) rfl (XT.ii_gt_f hc5) k) ?_
        show Go p.tables e below _ (T4.setTop (mkF m 37 #[.val (.int p1), .val (.ref w_VALUES), .val (.int (10 : Int32)), .val (.int (9 : Int32)), .val (.ref w_TYPE_ARGUMENT_TARGET)] []))
        refine own_go (fun t k => XS.aload X4.here hx rfl (hb hby d1_37) rfl rfl k) ?_
        show Go p.tables e below _ (T4.setTop (mkF m 39 #[.val (.int p1), .val (.ref w_VALUES), .val (.int (10 : Int32)), .val (.int (9 : Int32)), .val (.ref w_TYPE_ARGUMENT_TARGET)] [(.ref w_TYPE_ARGUMENT_TARGET)]))
        exact own_ret X4 hx hlk Bd.returns rfl (Or.inr (Or.inr (Or.inr (Or.inr ⟨rfl, rfl, rfl⟩)))) (hb hby d1_39) ⟨congrArg some (show Value.ref w_TYPE_ARGUMENT_TARGET = own_exp w_TYPE_PARAMETER_TARGET w_SUPERTYPE_TARGET w_TYPE_PARAMETER_BOUND_TARGET w_EMPTY_TARGET w_FORMAL_PARAMETER_TARGET w_THROWS_TARGET w_LOCALVAR_TARGET w_CATCH_TARGET w_OFFSET_TARGET w_TYPE_ARGUMENT_TARGET p1.toInt by have j1 := mt (own_lt (x := p1) (k := 71) (n := 71) rfl).mpr hc3; have j2 := mt (own_gt (x := p1) (k := 75) (n := 75) rfl).mpr hc5; unfold own_exp; (repeat' split); all_goals first | rfl | (exfalso; omega)), N0, e4⟩ (by decide) (by decide)
  have K8 : ∀ T, Stand p l e ({ frames := 0, cells := 0, slots := 0, locals := 0 } : Room) s m #[(.int p1)] below meth c T [] 0 0 → T.heap = h0 → (¬ (0 ≤ p1.toInt ∧ p1.toInt ≤ 1)) → (¬ (16 ≤ p1.toInt ∧ p1.toInt ≤ 16)) → (¬ (17 ≤ p1.toInt ∧ p1.toInt ≤ 18)) → (¬ (19 ≤ p1.toInt ∧ p1.toInt ≤ 21)) → (¬ (22 ≤ p1.toInt ∧ p1.toInt ≤ 22)) → (¬ (23 ≤ p1.toInt ∧ p1.toInt ≤ 23)) → (¬ (64 ≤ p1.toInt ∧ p1.toInt ≤ 65)) → (¬ (66 ≤ p1.toInt ∧ p1.toInt ≤ 66)) → Go p.tables e below (Fin s below (PQ (own_exp w_TYPE_PARAMETER_TARGET w_SUPERTYPE_TARGET w_TYPE_PARAMETER_BOUND_TARGET w_EMPTY_TARGET w_FORMAL_PARAMETER_TARGET w_THROWS_TARGET w_LOCALVAR_TARGET w_CATCH_TARGET w_OFFSET_TARGET w_TYPE_ARGUMENT_TARGET p1.toInt) h0 n0) ({ frames := 0, cells := 0, slots := 0, locals := 0 } : Room).cells ({ frames := 0, cells := 0, slots := 0, locals := 0 } : Room).slots) (T.setTop (mkF m 9 #[.val (.int p1), .val (.ref w_VALUES), .val (.int (10 : Int32)), .val (.int (8 : Int32)), .val (.ref w_CATCH_TARGET)] [])) := by
    intro T X e' g0 g1 g2 g3 g4 g5 g6 g7
    show Go p.tables e below _ (T.setTop (mkF m 9 #[.val (.int p1), .val (.ref w_VALUES), .val (.int (10 : Int32)), .val (.int (8 : Int32)), .val (.ref w_CATCH_TARGET)] []))
    refine own_go (fun t k => XS.iloadN X.here hx rfl (hb hby d1_9) rfl k) ?_
    show Go p.tables e below _ (T.setTop (mkF m 10 #[.val (.int p1), .val (.ref w_VALUES), .val (.int (10 : Int32)), .val (.int (8 : Int32)), .val (.ref w_CATCH_TARGET)] [(.int (8 : Int32))]))
    refine own_go (fun t k => XS.iloadN X.here hx rfl (hb hby d1_10) rfl k) ?_
    show Go p.tables e below _ (T.setTop (mkF m 11 #[.val (.int p1), .val (.ref w_VALUES), .val (.int (10 : Int32)), .val (.int (8 : Int32)), .val (.ref w_CATCH_TARGET)] [(.int (10 : Int32)), (.int (8 : Int32))]))
    refine own_go (fun t k => XS.icmpNo X.here hx rfl (hb hby d1_11) rfl (XT.ii_ge_f (by decide)) k) ?_
    show Go p.tables e below _ (T.setTop (mkF m 14 #[.val (.int p1), .val (.ref w_VALUES), .val (.int (10 : Int32)), .val (.int (8 : Int32)), .val (.ref w_CATCH_TARGET)] []))
    refine own_go (fun t k => XS.aloadN X.here hx rfl (hb hby d1_14) rfl rfl k) ?_
    show Go p.tables e below _ (T.setTop (mkF m 15 #[.val (.int p1), .val (.ref w_VALUES), .val (.int (10 : Int32)), .val (.int (8 : Int32)), .val (.ref w_CATCH_TARGET)] [(.ref w_VALUES)]))
    refine own_go (fun t k => XS.iloadN X.here hx rfl (hb hby d1_15) rfl k) ?_
    show Go p.tables e below _ (T.setTop (mkF m 16 #[.val (.int p1), .val (.ref w_VALUES), .val (.int (10 : Int32)), .val (.int (8 : Int32)), .val (.ref w_CATCH_TARGET)] [(.int (8 : Int32)), (.ref w_VALUES)]))
    refine own_go (fun t k => X.aaload hx (j := (8 : Int32)) (v := (.ref w_OFFSET_TARGET)) (by rw [e']; exact Ar.1) (State.isArrayOf_alike hZ.alike Ar.2.1) rfl Ar.2.2 At8.1 At8.2 (g := (mkF m 16 #[.val (.int p1), .val (.ref w_VALUES), .val (.int (10 : Int32)), .val (.int (8 : Int32)), .val (.ref w_CATCH_TARGET)] [(.int (8 : Int32)), (.ref w_VALUES)])) rfl rfl (hb hby d1_16) t k) ?_
    show Go p.tables e below _ (T.setTop (mkF m 17 #[.val (.int p1), .val (.ref w_VALUES), .val (.int (10 : Int32)), .val (.int (8 : Int32)), .val (.ref w_CATCH_TARGET)] [(.ref w_OFFSET_TARGET)]))
    refine own_go (fun t k => XS.astore X.here hx rfl (hb hby d1_17) rfl rfl (l' := #[.val (.int p1), .val (.ref w_VALUES), .val (.int (10 : Int32)), .val (.int (8 : Int32)), .val (.ref w_OFFSET_TARGET)]) rfl k) ?_
    show Go p.tables e below _ (T.setTop (mkF m 19 #[.val (.int p1), .val (.ref w_VALUES), .val (.int (10 : Int32)), .val (.int (8 : Int32)), .val (.ref w_OFFSET_TARGET)] []))
    refine own_go (fun t k => XS.iloadN X.here hx rfl (hb hby d1_19) rfl k) ?_
    show Go p.tables e below _ (T.setTop (mkF m 20 #[.val (.int p1), .val (.ref w_VALUES), .val (.int (10 : Int32)), .val (.int (8 : Int32)), .val (.ref w_OFFSET_TARGET)] [(.int p1)]))
    refine own_go (fun t k => XS.aload X.here hx rfl (hb hby d1_20) rfl rfl k) ?_
    show Go p.tables e below _ (T.setTop (mkF m 22 #[.val (.int p1), .val (.ref w_VALUES), .val (.int (10 : Int32)), .val (.int (8 : Int32)), .val (.ref w_OFFSET_TARGET)] [(.ref w_OFFSET_TARGET), (.int p1)]))
    obtain ⟨T6, X6, e6, st6⟩ := getF X hx hZ hown (host := "") (Or.inl (hw _ (List.mem_of_getElem? (i := 7) rfl))) Via.refl e' F_OFFSET_TARGET_firstType (g := (mkF m 22 #[.val (.int p1), .val (.ref w_VALUES), .val (.int (10 : Int32)), .val (.int (8 : Int32)), .val (.ref w_OFFSET_TARGET)] [(.ref w_OFFSET_TARGET), (.int p1)])) rfl rfl (hb hby d1_22)
    refine own_go (fun t k => st6 t k) ?_
    show Go p.tables e below _ (T6.setTop (mkF m 25 #[.val (.int p1), .val (.ref w_VALUES), .val (.int (10 : Int32)), .val (.int (8 : Int32)), .val (.ref w_OFFSET_TARGET)] [(.int (67 : Int32)), (.int p1)]))
    by_cases hc7 : p1 < (67 : Int32)
    · refine own_go (fun t k => XS.icmpYes X6.here hx rfl (pc0 := 25) (pc' := 40) rfl (hb hby d1_25) rfl (XT.ii_lt_t hc7) (by decide) (by decide) k) ?_
      show Go p.tables e below _ (T6.setTop (mkF m 40 #[.val (.int p1), .val (.ref w_VALUES), .val (.int (10 : Int32)), .val (.int (8 : Int32)), .val (.ref w_OFFSET_TARGET)] []))
      refine own_go (fun t k => XS.iinc X6.here hx rfl (hb hby d1_40) rfl (l' := #[.val (.int p1), .val (.ref w_VALUES), .val (.int (10 : Int32)), .val (.int (9 : Int32)), .val (.ref w_OFFSET_TARGET)]) rfl k) ?_
      show Go p.tables e below _ (T6.setTop (mkF m 43 #[.val (.int p1), .val (.ref w_VALUES), .val (.int (10 : Int32)), .val (.int (9 : Int32)), .val (.ref w_OFFSET_TARGET)] []))
      refine own_go (fun t k => XS.goto X6.here hx rfl (pc0 := 43) (pc' := 9) rfl (hb hby d1_43) (by decide) (by decide) k) ?_
      show Go p.tables e below _ (T6.setTop (mkF m 9 #[.val (.int p1), .val (.ref w_VALUES), .val (.int (10 : Int32)), .val (.int (9 : Int32)), .val (.ref w_OFFSET_TARGET)] []))
      exact K9 T6 X6 e6 g0 g1 g2 g3 g4 g5 g6 g7 (by have j1 :=  (own_lt (x := p1) (k := 67) (n := 67) rfl).mp hc7; omega)
    · refine own_go (fun t k => XS.icmpNo X6.here hx rfl (hb hby d1_25) rfl (XT.ii_lt_f hc7) k) ?_
      show Go p.tables e below _ (T6.setTop (mkF m 28 #[.val (.int p1), .val (.ref w_VALUES), .val (.int (10 : Int32)), .val (.int (8 : Int32)), .val (.ref w_OFFSET_TARGET)] []))
      refine own_go (fun t k => XS.iloadN X6.here hx rfl (hb hby d1_28) rfl k) ?_
      show Go p.tables e below _ (T6.setTop (mkF m 29 #[.val (.int p1), .val (.ref w_VALUES), .val (.int (10 : Int32)), .val (.int (8 : Int32)), .val (.ref w_OFFSET_TARGET)] [(.int p1)]))
      refine own_go (fun t k => XS.aload X6.here hx rfl (hb hby d1_29) rfl rfl k) ?_
      show Go p.tables e below _ (T6.setTop (mkF m 31 #[.val (.int p1), .val (.ref w_VALUES), .val (.int (10 : Int32)), .val (.int (8 : Int32)), .val (.ref w_OFFSET_TARGET)] [(.ref w_OFFSET_TARGET), (.int p1)]))
      obtain ⟨T8, X8, e8, st8⟩ := getF X6 hx hZ hown (host := "") (Or.inl (hw _ (List.mem_of_getElem? (i := 9) rfl))) Via.refl e6 F_OFFSET_TARGET_lastType (g := (mkF m 31 #[.val (.int p1), .val (.ref w_VALUES), .val (.int (10 : Int32)), .val (.int (8 : Int32)), .val (.ref w_OFFSET_TARGET)] [(.ref w_OFFSET_TARGET), (.int p1)])) rfl rfl (hb hby d1_31)
      refine own_go (fun t k => st8 t k) ?_
      show Go p.tables e below _ (T8.setTop (mkF m 34 #[.val (.int p1), .val (.ref w_VALUES), .val (.int (10 : Int32)), .val (.int (8 : Int32)), .val (.ref w_OFFSET_TARGET)] [(.int (70 : Int32)), (.int p1)]))
      by_cases hc9 : (70 : Int32) < p1
      · refine own_go (fun t k => XS.icmpYes X8.here hx rfl (pc0 := 34) (pc' := 40) rfl (hb hby d1_34) rfl (XT.ii_gt_t hc9) (by decide) (by decide) k) ?_
        show Go p.tables e below _ (T8.setTop (mkF m 40 #[.val (.int p1), .val (.ref w_VALUES), .val (.int (10 : Int32)), .val (.int (8 : Int32)), .val (.ref w_OFFSET_TARGET)] []))
        refine own_go (fun t k => XS.iinc X8.here hx rfl (hb hby d1_40) rfl (l' := #[.val (.int p1), .val (.ref w_VALUES), .val (.int (10 : Int32)), .val (.int (9 : Int32)), .val (.ref w_OFFSET_TARGET)]) rfl k) ?_
        show Go p.tables e below _ (T8.setTop (mkF m 43 #[.val (.int p1), .val (.ref w_VALUES), .val (.int (10 : Int32)), .val (.int (9 : Int32)), .val (.ref w_OFFSET_TARGET)] []))
        refine own_go (fun t k => XS.goto X8.here hx rfl (pc0 := 43) (pc' := 9) rfl (hb hby d1_43) (by decide) (by decide) k) ?_
        show Go p.tables e below _ (T8.setTop (mkF m 9 #[.val (.int p1), .val (.ref w_VALUES), .val (.int (10 : Int32)), .val (.int (9 : Int32)), .val (.ref w_OFFSET_TARGET)] []))
        exact K9 T8 X8 e8 g0 g1 g2 g3 g4 g5 g6 g7 (by have j1 := mt (own_lt (x := p1) (k := 67) (n := 67) rfl).mpr hc7; have j2 :=  (own_gt (x := p1) (k := 70) (n := 70) rfl).mp hc9; omega)
      · refine own_go (fun t k => XS.icmpNo X8.here hx rfl (hb hby d1_34) rfl (XT.ii_gt_f hc9) k) ?_
        show Go p.tables e below _ (T8.setTop (mkF m 37 #[.val (.int p1), .val (.ref w_VALUES), .val (.int (10 : Int32)), .val (.int (8 : Int32)), .val (.ref w_OFFSET_TARGET)] []))
        refine own_go (fun t k => XS.aload X8.here hx rfl (hb hby d1_37) rfl rfl k) ?_
        show Go p.tables e below _ (T8.setTop (mkF m 39 #[.val (.int p1), .val (.ref w_VALUES), .val (.int (10 : Int32)), .val (.int (8 : Int32)), .val (.ref w_OFFSET_TARGET)] [(.ref w_OFFSET_TARGET)]))
        exact own_ret X8 hx hlk Bd.returns rfl (Or.inr (Or.inr (Or.inr (Or.inr ⟨rfl, rfl, rfl⟩)))) (hb hby d1_39) ⟨congrArg some (show Value.ref w_OFFSET_TARGET = own_exp w_TYPE_PARAMETER_TARGET w_SUPERTYPE_TARGET w_TYPE_PARAMETER_BOUND_TARGET w_EMPTY_TARGET w_FORMAL_PARAMETER_TARGET w_THROWS_TARGET w_LOCALVAR_TARGET w_CATCH_TARGET w_OFFSET_TARGET w_TYPE_ARGUMENT_TARGET p1.toInt by have j1 := mt (own_lt (x := p1) (k := 67) (n := 67) rfl).mpr hc7; have j2 := mt (own_gt (x := p1) (k := 70) (n := 70) rfl).mpr hc9; unfold own_exp; (repeat' split); all_goals first | rfl | (exfalso; omega)), N0, e8⟩ (by decide) (by decide)
  have K7 : ∀ T, Stand p l e ({ frames := 0, cells := 0, slots := 0, locals := 0 } : Room) s m #[(.int p1)] below meth c T [] 0 0 → T.heap = h0 → (¬ (0 ≤ p1.toInt ∧ p1.toInt ≤ 1)) → (¬ (16 ≤ p1.toInt ∧ p1.toInt ≤ 16)) → (¬ (17 ≤ p1.toInt ∧ p1.toInt ≤ 18)) → (¬ (19 ≤ p1.toInt ∧ p1.toInt ≤ 21)) → (¬ (22 ≤ p1.toInt ∧ p1.toInt ≤ 22)) → (¬ (23 ≤ p1.toInt ∧ p1.toInt ≤ 23)) → (¬ (64 ≤ p1.toInt ∧ p1.toInt ≤ 65)) → Go p.tables e below (Fin s below (PQ (own_exp w_TYPE_PARAMETER_TARGET w_SUPERTYPE_TARGET w_TYPE_PARAMETER_BOUND_TARGET w_EMPTY_TARGET w_FORMAL_PARAMETER_TARGET w_THROWS_TARGET w_LOCALVAR_TARGET w_CATCH_TARGET w_OFFSET_TARGET w_TYPE_ARGUMENT_TARGET p1.toInt) h0 n0) ({ frames := 0, cells := 0, slots := 0, locals := 0 } : Room).cells ({ frames := 0, cells := 0, slots := 0, locals := 0 } : Room).slots) (T.setTop (mkF m 9 #[.val (.int p1), .val (.ref w_VALUES), .val (.int (10 : Int32)), .val (.int (7 : Int32)), .val (.ref w_LOCALVAR_TARGET)] [])) := by
    intro T X e' g0 g1 g2 g3 g4 g5 g6
    show Go p.tables e below _ (T.setTop (mkF m 9 #[.val (.int p1), .val (.ref w_VALUES), .val (.int (10 : Int32)), .val (.int (7 : Int32)), .val (.ref w_LOCALVAR_TARGET)] []))
    refine own_go (fun t k => XS.iloadN X.here hx rfl (hb hby d1_9) rfl k) ?_
    show Go p.tables e below _ (T.setTop (mkF m 10 #[.val (.int p1), .val (.ref w_VALUES), .val (.int (10 : Int32)), .val (.int (7 : Int32)), .val (.ref w_LOCALVAR_TARGET)] [(.int (7 : Int32))]))
    refine own_go (fun t k => XS.iloadN X.here hx rfl (hb hby d1_10) rfl k) ?_
    show Go p.tables e below _ (T.setTop (mkF m 11 #[.val (.int p1), .val (.ref w_VALUES), .val (.int (10 : Int32)), .val (.int (7 : Int32)), .val (.ref w_LOCALVAR_TARGET)] [(.int (10 : Int32)), (.int (7 : Int32))]))
    refine own_go (fun t k => XS.icmpNo X.here hx rfl (hb hby d1_11) rfl (XT.ii_ge_f (by decide)) k) ?_
    show Go p.tables e below _ (T.setTop (mkF m 14 #[.val (.int p1), .val (.ref w_VALUES), .val (.int (10 : Int32)), .val (.int (7 : Int32)), .val (.ref w_LOCALVAR_TARGET)] []))
    refine own_go (fun t k => XS.aloadN X.here hx rfl (hb hby d1_14) rfl rfl k) ?_
    show Go p.tables e below _ (T.setTop (mkF m 15 #[.val (.int p1), .val (.ref w_VALUES), .val (.int (10 : Int32)), .val (.int (7 : Int32)), .val (.ref w_LOCALVAR_TARGET)] [(.ref w_VALUES)]))
    refine own_go (fun t k => XS.iloadN X.here hx rfl (hb hby d1_15) rfl k) ?_
    show Go p.tables e below _ (T.setTop (mkF m 16 #[.val (.int p1), .val (.ref w_VALUES), .val (.int (10 : Int32)), .val (.int (7 : Int32)), .val (.ref w_LOCALVAR_TARGET)] [(.int (7 : Int32)), (.ref w_VALUES)]))
    refine own_go (fun t k => X.aaload hx (j := (7 : Int32)) (v := (.ref w_CATCH_TARGET)) (by rw [e']; exact Ar.1) (State.isArrayOf_alike hZ.alike Ar.2.1) rfl Ar.2.2 At7.1 At7.2 (g := (mkF m 16 #[.val (.int p1), .val (.ref w_VALUES), .val (.int (10 : Int32)), .val (.int (7 : Int32)), .val (.ref w_LOCALVAR_TARGET)] [(.int (7 : Int32)), (.ref w_VALUES)])) rfl rfl (hb hby d1_16) t k) ?_
    show Go p.tables e below _ (T.setTop (mkF m 17 #[.val (.int p1), .val (.ref w_VALUES), .val (.int (10 : Int32)), .val (.int (7 : Int32)), .val (.ref w_LOCALVAR_TARGET)] [(.ref w_CATCH_TARGET)]))
    refine own_go (fun t k => XS.astore X.here hx rfl (hb hby d1_17) rfl rfl (l' := #[.val (.int p1), .val (.ref w_VALUES), .val (.int (10 : Int32)), .val (.int (7 : Int32)), .val (.ref w_CATCH_TARGET)]) rfl k) ?_
    show Go p.tables e below _ (T.setTop (mkF m 19 #[.val (.int p1), .val (.ref w_VALUES), .val (.int (10 : Int32)), .val (.int (7 : Int32)), .val (.ref w_CATCH_TARGET)] []))
    refine own_go (fun t k => XS.iloadN X.here hx rfl (hb hby d1_19) rfl k) ?_
    show Go p.tables e below _ (T.setTop (mkF m 20 #[.val (.int p1), .val (.ref w_VALUES), .val (.int (10 : Int32)), .val (.int (7 : Int32)), .val (.ref w_CATCH_TARGET)] [(.int p1)]))
    refine own_go (fun t k => XS.aload X.here hx rfl (hb hby d1_20) rfl rfl k) ?_
    show Go p.tables e below _ (T.setTop (mkF m 22 #[.val (.int p1), .val (.ref w_VALUES), .val (.int (10 : Int32)), .val (.int (7 : Int32)), .val (.ref w_CATCH_TARGET)] [(.ref w_CATCH_TARGET), (.int p1)]))
    obtain ⟨T10, X10, e10, st10⟩ := getF X hx hZ hown (host := "") (Or.inl (hw _ (List.mem_of_getElem? (i := 7) rfl))) Via.refl e' F_CATCH_TARGET_firstType (g := (mkF m 22 #[.val (.int p1), .val (.ref w_VALUES), .val (.int (10 : Int32)), .val (.int (7 : Int32)), .val (.ref w_CATCH_TARGET)] [(.ref w_CATCH_TARGET), (.int p1)])) rfl rfl (hb hby d1_22)
    refine own_go (fun t k => st10 t k) ?_
    show Go p.tables e below _ (T10.setTop (mkF m 25 #[.val (.int p1), .val (.ref w_VALUES), .val (.int (10 : Int32)), .val (.int (7 : Int32)), .val (.ref w_CATCH_TARGET)] [(.int (66 : Int32)), (.int p1)]))
    by_cases hc11 : p1 < (66 : Int32)
    · refine own_go (fun t k => XS.icmpYes X10.here hx rfl (pc0 := 25) (pc' := 40) rfl (hb hby d1_25) rfl (XT.ii_lt_t hc11) (by decide) (by decide) k) ?_
      show Go p.tables e below _ (T10.setTop (mkF m 40 #[.val (.int p1), .val (.ref w_VALUES), .val (.int (10 : Int32)), .val (.int (7 : Int32)), .val (.ref w_CATCH_TARGET)] []))
      refine own_go (fun t k => XS.iinc X10.here hx rfl (hb hby d1_40) rfl (l' := #[.val (.int p1), .val (.ref w_VALUES), .val (.int (10 : Int32)), .val (.int (8 : Int32)), .val (.ref w_CATCH_TARGET)]) rfl k) ?_
      show Go p.tables e below _ (T10.setTop (mkF m 43 #[.val (.int p1), .val (.ref w_VALUES), .val (.int (10 : Int32)), .val (.int (8 : Int32)), .val (.ref w_CATCH_TARGET)] []))
      refine own_go (fun t k => XS.goto X10.here hx rfl (pc0 := 43) (pc' := 9) rfl (hb hby d1_43) (by decide) (by decide) k) ?_
      show Go p.tables e below _ (T10.setTop (mkF m 9 #[.val (.int p1), .val (.ref w_VALUES), .val (.int (10 : Int32)), .val (.int (8 : Int32)), .val (.ref w_CATCH_TARGET)] []))
      exact K8 T10 X10 e10 g0 g1 g2 g3 g4 g5 g6 (by have j1 :=  (own_lt (x := p1) (k := 66) (n := 66) rfl).mp hc11; omega)
    · refine own_go (fun t k => XS.icmpNo X10.here hx rfl (hb hby d1_25) rfl (XT.ii_lt_f hc11) k) ?_
      show Go p.tables e below _ (T10.setTop (mkF m 28 #[.val (.int p1), .val (.ref w_VALUES), .val (.int (10 : Int32)), .val (.int (7 : Int32)), .val (.ref w_CATCH_TARGET)] []))
      refine own_go (fun t k => XS.iloadN X10.here hx rfl (hb hby d1_28) rfl k) ?_
      show Go p.tables e below _ (T10.setTop (mkF m 29 #[.val (.int p1), .val (.ref w_VALUES), .val (.int (10 : Int32)), .val (.int (7 : Int32)), .val (.ref w_CATCH_TARGET)] [(.int p1)]))
      refine own_go (fun t k => XS.aload X10.here hx rfl (hb hby d1_29) rfl rfl k) ?_
      show Go p.tables e below _ (T10.setTop (mkF m 31 #[.val (.int p1), .val (.ref w_VALUES), .val (.int (10 : Int32)), .val (.int (7 : Int32)), .val (.ref w_CATCH_TARGET)] [(.ref w_CATCH_TARGET), (.int p1)]))
      obtain ⟨T12, X12, e12, st12⟩ := getF X10 hx hZ hown (host := "") (Or.inl (hw _ (List.mem_of_getElem? (i := 9) rfl))) Via.refl e10 F_CATCH_TARGET_lastType (g := (mkF m 31 #[.val (.int p1), .val (.ref w_VALUES), .val (.int (10 : Int32)), .val (.int (7 : Int32)), .val (.ref w_CATCH_TARGET)] [(.ref w_CATCH_TARGET), (.int p1)])) rfl rfl (hb hby d1_31)
      refine own_go (fun t k => st12 t k) ?_
      show Go p.tables e below _ (T12.setTop (mkF m 34 #[.val (.int p1), .val (.ref w_VALUES), .val (.int (10 : Int32)), .val (.int (7 : Int32)), .val (.ref w_CATCH_TARGET)] [(.int (66 : Int32)), (.int p1)]))
      by_cases hc13 : (66 : Int32) < p1
      · refine own_go (fun t k => XS.icmpYes X12.here hx rfl (pc0 := 34) (pc' := 40) rfl (hb hby d1_34) rfl (XT.ii_gt_t hc13) (by decide) (by decide) k) ?_
        show Go p.tables e below _ (T12.setTop (mkF m 40 #[.val (.int p1), .val (.ref w_VALUES), .val (.int (10 : Int32)), .val (.int (7 : Int32)), .val (.ref w_CATCH_TARGET)] []))
        refine own_go (fun t k => XS.iinc X12.here hx rfl (hb hby d1_40) rfl (l' := #[.val (.int p1), .val (.ref w_VALUES), .val (.int (10 : Int32)), .val (.int (8 : Int32)), .val (.ref w_CATCH_TARGET)]) rfl k) ?_
        show Go p.tables e below _ (T12.setTop (mkF m 43 #[.val (.int p1), .val (.ref w_VALUES), .val (.int (10 : Int32)), .val (.int (8 : Int32)), .val (.ref w_CATCH_TARGET)] []))
        refine own_go (fun t k => XS.goto X12.here hx rfl (pc0 := 43) (pc' := 9) rfl (hb hby d1_43) (by decide) (by decide) k) ?_
        show Go p.tables e below _ (T12.setTop (mkF m 9 #[.val (.int p1), .val (.ref w_VALUES), .val (.int (10 : Int32)), .val (.int (8 : Int32)), .val (.ref w_CATCH_TARGET)] []))
        exact K8 T12 X12 e12 g0 g1 g2 g3 g4 g5 g6 (by have j1 := mt (own_lt (x := p1) (k := 66) (n := 66) rfl).mpr hc11; have j2 :=  (own_gt (x := p1) (k := 66) (n := 66) rfl).mp hc13; omega)
      · refine own_go (fun t k => XS.icmpNo X12.here hx rfl (hb hby d1_34) rfl (XT.ii_gt_f hc13) k) ?_
        show Go p.tables e below _ (T12.setTop (mkF m 37 #[.val (.int p1), .val (.ref w_VALUES), .val (.int (10 : Int32)), .val (.int (7 : Int32)), .val (.ref w_CATCH_TARGET)] []))
        refine own_go (fun t k => XS.aload X12.here hx rfl (hb hby d1_37) rfl rfl k) ?_
        show Go p.tables e below _ (T12.setTop (mkF m 39 #[.val (.int p1), .val (.ref w_VALUES), .val (.int (10 : Int32)), .val (.int (7 : Int32)), .val (.ref w_CATCH_TARGET)] [(.ref w_CATCH_TARGET)]))
        exact own_ret X12 hx hlk Bd.returns rfl (Or.inr (Or.inr (Or.inr (Or.inr ⟨rfl, rfl, rfl⟩)))) (hb hby d1_39) ⟨congrArg some (show Value.ref w_CATCH_TARGET = own_exp w_TYPE_PARAMETER_TARGET w_SUPERTYPE_TARGET w_TYPE_PARAMETER_BOUND_TARGET w_EMPTY_TARGET w_FORMAL_PARAMETER_TARGET w_THROWS_TARGET w_LOCALVAR_TARGET w_CATCH_TARGET w_OFFSET_TARGET w_TYPE_ARGUMENT_TARGET p1.toInt by have j1 := mt (own_lt (x := p1) (k := 66) (n := 66) rfl).mpr hc11; have j2 := mt (own_gt (x := p1) (k := 66) (n := 66) rfl).mpr hc13; unfold own_exp; (repeat' split); all_goals first | rfl | (exfalso; omega)), N0, e12⟩ (by decide) (by decide)
  have K6 : ∀ T, Stand p l e ({ frames := 0, cells := 0, slots := 0, locals := 0 } : Room) s m #[(.int p1)] below meth c T [] 0 0 → T.heap = h0 → (¬ (0 ≤ p1.toInt ∧ p1.toInt ≤ 1)) → (¬ (16 ≤ p1.toInt ∧ p1.toInt ≤ 16)) → (¬ (17 ≤ p1.toInt ∧ p1.toInt ≤ 18)) → (¬ (19 ≤ p1.toInt ∧ p1.toInt ≤ 21)) → (¬ (22 ≤ p1.toInt ∧ p1.toInt ≤ 22)) → (¬ (23 ≤ p1.toInt ∧ p1.toInt ≤ 23)) → Go p.tables e below (Fin s below (PQ (own_exp w_TYPE_PARAMETER_TARGET w_SUPERTYPE_TARGET w_TYPE_PARAMETER_BOUND_TARGET w_EMPTY_TARGET w_FORMAL_PARAMETER_TARGET w_THROWS_TARGET w_LOCALVAR_TARGET w_CATCH_TARGET w_OFFSET_TARGET w_TYPE_ARGUMENT_TARGET p1.toInt) h0 n0) ({ frames := 0, cells := 0, slots := 0, locals := 0 } : Room).cells ({ frames := 0, cells := 0, slots := 0, locals := 0 } : Room).slots) (T.setTop (mkF m 9 #[.val (.int p1), .val (.ref w_VALUES), .val (.int (10 : Int32)), .val (.int (6 : Int32)), .val (.ref w_THROWS_TARGET)] [])) := by
    intro T X e' g0 g1 g2 g3 g4 g5
    show Go p.tables e below _ (T.setTop (mkF m 9 #[.val (.int p1), .val (.ref w_VALUES), .val (.int (10 : Int32)), .val (.int (6 : Int32)), .val (.ref w_THROWS_TARGET)] []))
    refine own_go (fun t k => XS.iloadN X.here hx rfl (hb hby d1_9) rfl k) ?_
    show Go p.tables e below _ (T.setTop (mkF m 10 #[.val (.int p1), .val (.ref w_VALUES), .val (.int (10 : Int32)), .val (.int (6 : Int32)), .val (.ref w_THROWS_TARGET)] [(.int (6 : Int32))]))
    refine own_go (fun t k => XS.iloadN X.here hx rfl (hb hby d1_10) rfl k) ?_
    show Go p.tables e below _ (T.setTop (mkF m 11 #[.val (.int p1), .val (.ref w_VALUES), .val (.int (10 : Int32)), .val (.int (6 : Int32)), .val (.ref w_THROWS_TARGET)] [(.int (10 : Int32)), (.int (6 : Int32))]))
    refine own_go (fun t k => XS.icmpNo X.here hx rfl (hb hby d1_11) rfl (XT.ii_ge_f (by decide)) k) ?_
    show Go p.tables e below _ (T.setTop (mkF m 14 #[.val (.int p1), .val (.ref w_VALUES), .val (.int (10 : Int32)), .val (.int (6 : Int32)), .val (.ref w_THROWS_TARGET)] []))
    refine own_go (fun t k => XS.aloadN X.here hx rfl (hb hby d1_14) rfl rfl k) ?_
    show Go p.tables e below _ (T.setTop (mkF m 15 #[.val (.int p1), .val (.ref w_VALUES), .val (.int (10 : Int32)), .val (.int (6 : Int32)), .val (.ref w_THROWS_TARGET)] [(.ref w_VALUES)]))
    refine own_go (fun t k => XS.iloadN X.here hx rfl (hb hby d1_15) rfl k) ?_
    show Go p.tables e below _ (T.setTop (mkF m 16 #[.val (.int p1), .val (.ref w_VALUES), .val (.int (10 : Int32)), .val (.int (6 : Int32)), .val (.ref w_THROWS_TARGET)] [(.int (6 : Int32)), (.ref w_VALUES)]))
    refine own_go (fun t k => X.aaload hx (j := (6 : Int32)) (v := (.ref w_LOCALVAR_TARGET)) (by rw [e']; exact Ar.1) (State.isArrayOf_alike hZ.alike Ar.2.1) rfl Ar.2.2 At6.1 At6.2 (g := (mkF m 16 #[.val (.int p1), .val (.ref w_VALUES), .val (.int (10 : Int32)), .val (.int (6 : Int32)), .val (.ref w_THROWS_TARGET)] [(.int (6 : Int32)), (.ref w_VALUES)])) rfl rfl (hb hby d1_16) t k) ?_
    show Go p.tables e below _ (T.setTop (mkF m 17 #[.val (.int p1), .val (.ref w_VALUES), .val (.int (10 : Int32)), .val (.int (6 : Int32)), .val (.ref w_THROWS_TARGET)] [(.ref w_LOCALVAR_TARGET)]))
    refine own_go (fun t k => XS.astore X.here hx rfl (hb hby d1_17) rfl rfl (l' := #[.val (.int p1), .val (.ref w_VALUES), .val (.int (10 : Int32)), .val (.int (6 : Int32)), .val (.ref w_LOCALVAR_TARGET)]) rfl k) ?_
    show Go p.tables e below _ (T.setTop (mkF m 19 #[.val (.int p1), .val (.ref w_VALUES), .val (.int (10 : Int32)), .val (.int (6 : Int32)), .val (.ref w_LOCALVAR_TARGET)] []))
    refine own_go (fun t k => XS.iloadN X.here hx rfl (hb hby d1_19) rfl k) ?_
    show Go p.tables e below _ (T.setTop (mkF m 20 #[.val (.int p1), .val (.ref w_VALUES), .val (.int (10 : Int32)), .val (.int (6 : Int32)), .val (.ref w_LOCALVAR_TARGET)] [(.int p1)]))
    refine own_go (fun t k => XS.aload X.here hx rfl (hb hby d1_20) rfl rfl k) ?_
    show Go p.tables e below _ (T.setTop (mkF m 22 #[.val (.int p1), .val (.ref w_VALUES), .val (.int (10 : Int32)), .val (.int (6 : Int32)), .val (.ref w_LOCALVAR_TARGET)] [(.ref w_LOCALVAR_TARGET), (.int p1)]))
    obtain ⟨T14, X14, e14, st14⟩ := getF X hx hZ hown (host := "") (Or.inl (hw _ (List.mem_of_getElem? (i := 7) rfl))) Via.refl e' F_LOCALVAR_TARGET_firstType (g := (mkF m 22 #[.val (.int p1), .val (.ref w_VALUES), .val (.int (10 : Int32)), .val (.int (6 : Int32)), .val (.ref w_LOCALVAR_TARGET)] [(.ref w_LOCALVAR_TARGET), (.int p1)])) rfl rfl (hb hby d1_22)
    refine own_go (fun t k => st14 t k) ?_
    show Go p.tables e below _ (T14.setTop (mkF m 25 #[.val (.int p1), .val (.ref w_VALUES), .val (.int (10 : Int32)), .val (.int (6 : Int32)), .val (.ref w_LOCALVAR_TARGET)] [(.int (64 : Int32)), (.int p1)]))
    by_cases hc15 : p1 < (64 : Int32)
    · refine own_go (fun t k => XS.icmpYes X14.here hx rfl (pc0 := 25) (pc' := 40) rfl (hb hby d1_25) rfl (XT.ii_lt_t hc15) (by decide) (by decide) k) ?_
      show Go p.tables e below _ (T14.setTop (mkF m 40 #[.val (.int p1), .val (.ref w_VALUES), .val (.int (10 : Int32)), .val (.int (6 : Int32)), .val (.ref w_LOCALVAR_TARGET)] []))
      refine own_go (fun t k => XS.iinc X14.here hx rfl (hb hby d1_40) rfl (l' := #[.val (.int p1), .val (.ref w_VALUES), .val (.int (10 : Int32)), .val (.int (7 : Int32)), .val (.ref w_LOCALVAR_TARGET)]) rfl k) ?_
      show Go p.tables e below _ (T14.setTop (mkF m 43 #[.val (.int p1), .val (.ref w_VALUES), .val (.int (10 : Int32)), .val (.int (7 : Int32)), .val (.ref w_LOCALVAR_TARGET)] []))
      refine own_go (fun t k => XS.goto X14.here hx rfl (pc0 := 43) (pc' := 9) rfl (hb hby d1_43) (by decide) (by decide) k) ?_
      show Go p.tables e below _ (T14.setTop (mkF m 9 #[.val (.int p1), .val (.ref w_VALUES), .val (.int (10 : Int32)), .val (.int (7 : Int32)), .val (.ref w_LOCALVAR_TARGET)] []))
      exact K7 T14 X14 e14 g0 g1 g2 g3 g4 g5 (by have j1 :=  (own_lt (x := p1) (k := 64) (n := 64) rfl).mp hc15; omega)
    · refine own_go (fun t k => XS.icmpNo X14.here hx rfl (hb hby d1_25) rfl (XT.ii_lt_f hc15) k) ?_
      show Go p.tables e below _ (T14.setTop (mkF m 28 #[.val (.int p1), .val (.ref w_VALUES), .val (.int (10 : Int32)), .val (.int (6 : Int32)), .val (.ref w_LOCALVAR_TARGET)] []))
      refine own_go (fun t k => XS.iloadN X14.here hx rfl (hb hby d1_28) rfl k) ?_
      show Go p.tables e below _ (T14.setTop (mkF m 29 #[.val (.int p1), .val (.ref w_VALUES), .val (.int (10 : Int32)), .val (.int (6 : Int32)), .val (.ref w_LOCALVAR_TARGET)] [(.int p1)]))
      refine own_go (fun t k => XS.aload X14.here hx rfl (hb hby d1_29) rfl rfl k) ?_
      show Go p.tables e below _ (T14.setTop (mkF m 31 #[.val (.int p1), .val (.ref w_VALUES), .val (.int (10 : Int32)), .val (.int (6 : Int32)), .val (.ref w_LOCALVAR_TARGET)] [(.ref w_LOCALVAR_TARGET), (.int p1)]))
      obtain ⟨T16, X16, e16, st16⟩ := getF X14 hx hZ hown (host := "") (Or.inl (hw _ (List.mem_of_getElem? (i := 9) rfl))) Via.refl e14 F_LOCALVAR_TARGET_lastType (g := (mkF m 31 #[.val (.int p1), .val (.ref w_VALUES), .val (.int (10 : Int32)), .val (.int (6 : Int32)), .val (.ref w_LOCALVAR_TARGET)] [(.ref w_LOCALVAR_TARGET), (.int p1)])) rfl rfl (hb hby d1_31)
      refine own_go (fun t k => st16 t k) ?_
      show Go p.tables e below _ (T16.setTop (mkF m 34 #[.val (.int p1), .val (.ref w_VALUES), .val (.int (10 : Int32)), .val (.int (6 : Int32)), .val (.ref w_LOCALVAR_TARGET)] [(.int (65 : Int32)), (.int p1)]))
      by_cases hc17 : (65 : Int32) < p1
      · refine own_go (fun t k => XS.icmpYes X16.here hx rfl (pc0 := 34) (pc' := 40) rfl (hb hby d1_34) rfl (XT.ii_gt_t hc17) (by decide) (by decide) k) ?_
        show Go p.tables e below _ (T16.setTop (mkF m 40 #[.val (.int p1), .val (.ref w_VALUES), .val (.int (10 : Int32)), .val (.int (6 : Int32)), .val (.ref w_LOCALVAR_TARGET)] []))
        refine own_go (fun t k => XS.iinc X16.here hx rfl (hb hby d1_40) rfl (l' := #[.val (.int p1), .val (.ref w_VALUES), .val (.int (10 : Int32)), .val (.int (7 : Int32)), .val (.ref w_LOCALVAR_TARGET)]) rfl k) ?_
        show Go p.tables e below _ (T16.setTop (mkF m 43 #[.val (.int p1), .val (.ref w_VALUES), .val (.int (10 : Int32)), .val (.int (7 : Int32)), .val (.ref w_LOCALVAR_TARGET)] []))
        refine own_go (fun t k => XS.goto X16.here hx rfl (pc0 := 43) (pc' := 9) rfl (hb hby d1_43) (by decide) (by decide) k) ?_
        show Go p.tables e below _ (T16.setTop (mkF m 9 #[.val (.int p1), .val (.ref w_VALUES), .val (.int (10 : Int32)), .val (.int (7 : Int32)), .val (.ref w_LOCALVAR_TARGET)] []))
        exact K7 T16 X16 e16 g0 g1 g2 g3 g4 g5 (by have j1 := mt (own_lt (x := p1) (k := 64) (n := 64) rfl).mpr hc15; have j2 :=  (own_gt (x := p1) (k := 65) (n := 65) rfl).mp hc17; omega)
      · refine own_go (fun t k => XS.icmpNo X16.here hx rfl (hb hby d1_34) rfl (XT.ii_gt_f hc17) k) ?_
        show Go p.tables e below _ (T16.setTop (mkF m 37 #[.val (.int p1), .val (.ref w_VALUES), .val (.int (10 : Int32)), .val (.int (6 : Int32)), .val (.ref w_LOCALVAR_TARGET)] []))
        refine own_go (fun t k => XS.aload X16.here hx rfl (hb hby d1_37) rfl rfl k) ?_
        show Go p.tables e below _ (T16.setTop (mkF m 39 #[.val (.int p1), .val (.ref w_VALUES), .val (.int (10 : Int32)), .val (.int (6 : Int32)), .val (.ref w_LOCALVAR_TARGET)] [(.ref w_LOCALVAR_TARGET)]))
        exact own_ret X16 hx hlk Bd.returns rfl (Or.inr (Or.inr (Or.inr (Or.inr ⟨rfl, rfl, rfl⟩)))) (hb hby d1_39) ⟨congrArg some (show Value.ref w_LOCALVAR_TARGET = own_exp w_TYPE_PARAMETER_TARGET w_SUPERTYPE_TARGET w_TYPE_PARAMETER_BOUND_TARGET w_EMPTY_TARGET w_FORMAL_PARAMETER_TARGET w_THROWS_TARGET w_LOCALVAR_TARGET w_CATCH_TARGET w_OFFSET_TARGET w_TYPE_ARGUMENT_TARGET p1.toInt by have j1 := mt (own_lt (x := p1) (k := 64) (n := 64) rfl).mpr hc15; have j2 := mt (own_gt (x := p1) (k := 65) (n := 65) rfl).mpr hc17; unfold own_exp; (repeat' split); all_goals first | rfl | (exfalso; omega)), N0, e16⟩ (by decide) (by decide)
  have K5 : ∀ T, Stand p l e ({ frames := 0, cells := 0, slots := 0, locals := 0 } : Room) s m #[(.int p1)] below meth c T [] 0 0 → T.heap = h0 → (¬ (0 ≤ p1.toInt ∧ p1.toInt ≤ 1)) → (¬ (16 ≤ p1.toInt ∧ p1.toInt ≤ 16)) → (¬ (17 ≤ p1.toInt ∧ p1.toInt ≤ 18)) → (¬ (19 ≤ p1.toInt ∧ p1.toInt ≤ 21)) → (¬ (22 ≤ p1.toInt ∧ p1.toInt ≤ 22)) → Go p.tables e below (Fin s below (PQ (own_exp w_TYPE_PARAMETER_TARGET w_SUPERTYPE_TARGET w_TYPE_PARAMETER_BOUND_TARGET w_EMPTY_TARGET w_FORMAL_PARAMETER_TARGET w_THROWS_TARGET w_LOCALVAR_TARGET w_CATCH_TARGET w_OFFSET_TARGET w_TYPE_ARGUMENT_TARGET p1.toInt) h0 n0) ({ frames := 0, cells := 0, slots := 0, locals := 0 } : Room).cells ({ frames := 0, cells := 0, slots := 0, locals := 0 } : Room).slots) (T.setTop (mkF m 9 #[.val (.int p1), .val (.ref w_VALUES), .val (.int (10 : Int32)), .val (.int (5 : Int32)), .val (.ref w_FORMAL_PARAMETER_TARGET)] [])) := by
    intro T X e' g0 g1 g2 g3 g4
    show Go p.tables e below _ (T.setTop (mkF m 9 #[.val (.int p1), .val (.ref w_VALUES), .val (.int (10 : Int32)), .val (.int (5 : Int32)), .val (.ref w_FORMAL_PARAMETER_TARGET)] []))
    refine own_go (fun t k => XS.iloadN X.here hx rfl (hb hby d1_9) rfl k) ?_
    show Go p.tables e below _ (T.setTop (mkF m 10 #[.val (.int p1), .val (.ref w_VALUES), .val (.int (10 : Int32)), .val (.int (5 : Int32)), .val (.ref w_FORMAL_PARAMETER_TARGET)] [(.int (5 : Int32))]))
    refine own_go (fun t k => XS.iloadN X.here hx rfl (hb hby d1_10) rfl k) ?_
    show Go p.tables e below _ (T.setTop (mkF m 11 #[.val (.int p1), .val (.ref w_VALUES), .val (.int (10 : Int32)), .val (.int (5 : Int32)), .val (.ref w_FORMAL_PARAMETER_TARGET)] [(.int (10 : Int32)), (.int (5 : Int32))]))
    refine own_go (fun t k => XS.icmpNo X.here hx rfl (hb hby d1_11) rfl (XT.ii_ge_f (by decide)) k) ?_
    show Go p.tables e below _ (T.setTop (mkF m 14 #[.val (.int p1), .val (.ref w_VALUES), .val (.int (10 : Int32)), .val (.int (5 : Int32)), .val (.ref w_FORMAL_PARAMETER_TARGET)] []))
    refine own_go (fun t k => XS.aloadN X.here hx rfl (hb hby d1_14) rfl rfl k) ?_
    show Go p.tables e below _ (T.setTop (mkF m 15 #[.val (.int p1), .val (.ref w_VALUES), .val (.int (10 : Int32)), .val (.int (5 : Int32)), .val (.ref w_FORMAL_PARAMETER_TARGET)] [(.ref w_VALUES)]))
    refine own_go (fun t k => XS.iloadN X.here hx rfl (hb hby d1_15) rfl k) ?_
    show Go p.tables e below _ (T.setTop (mkF m 16 #[.val (.int p1), .val (.ref w_VALUES), .val (.int (10 : Int32)), .val (.int (5 : Int32)), .val (.ref w_FORMAL_PARAMETER_TARGET)] [(.int (5 : Int32)), (.ref w_VALUES)]))
    refine own_go (fun t k => X.aaload hx (j := (5 : Int32)) (v := (.ref w_THROWS_TARGET)) (by rw [e']; exact Ar.1) (State.isArrayOf_alike hZ.alike Ar.2.1) rfl Ar.2.2 At5.1 At5.2 (g := (mkF m 16 #[.val (.int p1), .val (.ref w_VALUES), .val (.int (10 : Int32)), .val (.int (5 : Int32)), .val (.ref w_FORMAL_PARAMETER_TARGET)] [(.int (5 : Int32)), (.ref w_VALUES)])) rfl rfl (hb hby d1_16) t k) ?_
    show Go p.tables e below _ (T.setTop (mkF m 17 #[.val (.int p1), .val (.ref w_VALUES), .val (.int (10 : Int32)), .val (.int (5 : Int32)), .val (.ref w_FORMAL_PARAMETER_TARGET)] [(.ref w_THROWS_TARGET)]))
    refine own_go (fun t k => XS.astore X.here hx rfl (hb hby d1_17) rfl rfl (l' := #[.val (.int p1), .val (.ref w_VALUES), .val (.int (10 : Int32)), .val (.int (5 : Int32)), .val (.ref w_THROWS_TARGET)]) rfl k) ?_
    show Go p.tables e below _ (T.setTop (mkF m 19 #[.val (.int p1), .val (.ref w_VALUES), .val (.int (10 : Int32)), .val (.int (5 : Int32)), .val (.ref w_THROWS_TARGET)] []))
    refine own_go (fun t k => XS.iloadN X.here hx rfl (hb hby d1_19) rfl k) ?_
    show Go p.tables e below _ (T.setTop (mkF m 20 #[.val (.int p1), .val (.ref w_VALUES), .val (.int (10 : Int32)), .val (.int (5 : Int32)), .val (.ref w_THROWS_TARGET)] [(.int p1)]))
    refine own_go (fun t k => XS.aload X.here hx rfl (hb hby d1_20) rfl rfl k) ?_
    show Go p.tables e below _ (T.setTop (mkF m 22 #[.val (.int p1), .val (.ref w_VALUES), .val (.int (10 : Int32)), .val (.int (5 : Int32)), .val (.ref w_THROWS_TARGET)] [(.ref w_THROWS_TARGET), (.int p1)]))
    obtain ⟨T18, X18, e18, st18⟩ := getF X hx hZ hown (host := "") (Or.inl (hw _ (List.mem_of_getElem? (i := 7) rfl))) Via.refl e' F_THROWS_TARGET_firstType (g := (mkF m 22 #[.val (.int p1), .val (.ref w_VALUES), .val (.int (10 : Int32)), .val (.int (5 : Int32)), .val (.ref w_THROWS_TARGET)] [(.ref w_THROWS_TARGET), (.int p1)])) rfl rfl (hb hby d1_22)
    refine own_go (fun t k => st18 t k) ?_
    show Go p.tables e below _ (T18.setTop (mkF m 25 #[.val (.int p1), .val (.ref w_VALUES), .val (.int (10 : Int32)), .val (.int (5 : Int32)), .val (.ref w_THROWS_TARGET)] [(.int (23 : Int32)), (.int p1)]))
    by_cases hc19 : p1 < (23 : Int32)
    · refine own_go (fun t k => XS.icmpYes X18.here hx rfl (pc0 := 25) (pc' := 40) rfl (hb hby d1_25) rfl (XT.ii_lt_t hc19) (by decide) (by decide) k) ?_
      show Go p.tables e below _ (T18.setTop (mkF m 40 #[.val (.int p1), .val (.ref w_VALUES), .val (.int (10 : Int32)), .val (.int (5 : Int32)), .val (.ref w_THROWS_TARGET)] []))
      refine own_go (fun t k => XS.iinc X18.here hx rfl (hb hby d1_40) rfl (l' := #[.val (.int p1), .val (.ref w_VALUES), .val (.int (10 : Int32)), .val (.int (6 : Int32)), .val (.ref w_THROWS_TARGET)]) rfl k) ?_
      show Go p.tables e below _ (T18.setTop (mkF m 43 #[.val (.int p1), .val (.ref w_VALUES), .val (.int (10 : Int32)), .val (.int (6 : Int32)), .val (.ref w_THROWS_TARGET)] []))
      refine own_go (fun t k => XS.goto X18.here hx rfl (pc0 := 43) (pc' := 9) rfl (hb hby d1_43) (by decide) (by decide) k) ?_
      show Go p.tables e below _ (T18.setTop (mkF m 9 #[.val (.int p1), .val (.ref w_VALUES), .val (.int (10 : Int32)), .val (.int (6 : Int32)), .val (.ref w_THROWS_TARGET)] []))
      exact K6 T18 X18 e18 g0 g1 g2 g3 g4 (by have j1 :=  (own_lt (x := p1) (k := 23) (n := 23) rfl).mp hc19; omega)
    · refine own_go (fun t k => XS.icmpNo X18.here hx rfl (hb hby d1_25) rfl (XT.ii_lt_f hc19) k) ?_
      show Go p.tables e below _ (T18.setTop (mkF m 28 #[.val (.int p1), .val (.ref w_VALUES), .val (.int (10 : Int32)), .val (.int (5 : Int32)), .val (.ref w_THROWS_TARGET)] []))
      refine own_go (fun t k => XS.iloadN X18.here hx rfl (hb hby d1_28) rfl k) ?_
      show Go p.tables e below _ (T18.setTop (mkF m 29 #[.val (.int p1), .val (.ref w_VALUES), .val (.int (10 : Int32)), .val (.int (5 : Int32)), .val (.ref w_THROWS_TARGET)] [(.int p1)]))
      refine own_go (fun t k => XS.aload X18.here hx rfl (hb hby d1_29) rfl rfl k) ?_
      show Go p.tables e below _ (T18.setTop (mkF m 31 #[.val (.int p1), .val (.ref w_VALUES), .val (.int (10 : Int32)), .val (.int (5 : Int32)), .val (.ref w_THROWS_TARGET)] [(.ref w_THROWS_TARGET), (.int p1)]))
      obtain ⟨T20, X20, e20, st20⟩ := getF X18 hx hZ hown (host := "") (Or.inl (hw _ (List.mem_of_getElem? (i := 9) rfl))) Via.refl e18 F_THROWS_TARGET_lastType (g := (mkF m 31 #[.val (.int p1), .val (.ref w_VALUES), .val (.int (10 : Int32)), .val (.int (5 : Int32)), .val (.ref w_THROWS_TARGET)] [(.ref w_THROWS_TARGET), (.int p1)])) rfl rfl (hb hby d1_31)
      refine own_go (fun t k => st20 t k) ?_
      show Go p.tables e below _ (T20.setTop (mkF m 34 #[.val (.int p1), .val (.ref w_VALUES), .val (.int (10 : Int32)), .val (.int (5 : Int32)), .val (.ref w_THROWS_TARGET)] [(.int (23 : Int32)), (.int p1)]))
      by_cases hc21 : (23 : Int32) < p1
      · refine own_go (fun t k => XS.icmpYes X20.here hx rfl (pc0 := 34) (pc' := 40) rfl (hb hby d1_34) rfl (XT.ii_gt_t hc21) (by decide) (by decide) k) ?_
        show Go p.tables e below _ (T20.setTop (mkF m 40 #[.val (.int p1), .val (.ref w_VALUES), .val (.int (10 : Int32)), .val (.int (5 : Int32)), .val (.ref w_THROWS_TARGET)] []))
        refine own_go (fun t k => XS.iinc X20.here hx rfl (hb hby d1_40) rfl (l' := #[.val (.int p1), .val (.ref w_VALUES), .val (.int (10 : Int32)), .val (.int (6 : Int32)), .val (.ref w_THROWS_TARGET)]) rfl k) ?_
        show Go p.tables e below _ (T20.setTop (mkF m 43 #[.val (.int p1), .val (.ref w_VALUES), .val (.int (10 : Int32)), .val (.int (6 : Int32)), .val (.ref w_THROWS_TARGET)] []))
        refine own_go (fun t k => XS.goto X20.here hx rfl (pc0 := 43) (pc' := 9) rfl (hb hby d1_43) (by decide) (by decide) k) ?_
        show Go p.tables e below _ (T20.setTop (mkF m 9 #[.val (.int p1), .val (.ref w_VALUES), .val (.int (10 : Int32)), .val (.int (6 : Int32)), .val (.ref w_THROWS_TARGET)] []))
        exact K6 T20 X20 e20 g0 g1 g2 g3 g4 (by have j1 := mt (own_lt (x := p1) (k := 23) (n := 23) rfl).mpr hc19; have j2 :=  (own_gt (x := p1) (k := 23) (n := 23) rfl).mp hc21; omega)
      · refine own_go (fun t k => XS.icmpNo X20.here hx rfl (hb hby d1_34) rfl (XT.ii_gt_f hc21) k) ?_
        show Go p.tables e below _ (T20.setTop (mkF m 37 #[.val (.int p1), .val (.ref w_VALUES), .val (.int (10 : Int32)), .val (.int (5 : Int32)), .val (.ref w_THROWS_TARGET)] []))
        refine own_go (fun t k => XS.aload X20.here hx rfl (hb hby d1_37) rfl rfl k) ?_
        show Go p.tables e below _ (T20.setTop (mkF m 39 #[.val (.int p1), .val (.ref w_VALUES), .val (.int (10 : Int32)), .val (.int (5 : Int32)), .val (.ref w_THROWS_TARGET)] [(.ref w_THROWS_TARGET)]))
        exact own_ret X20 hx hlk Bd.returns rfl (Or.inr (Or.inr (Or.inr (Or.inr ⟨rfl, rfl, rfl⟩)))) (hb hby d1_39) ⟨congrArg some (show Value.ref w_THROWS_TARGET = own_exp w_TYPE_PARAMETER_TARGET w_SUPERTYPE_TARGET w_TYPE_PARAMETER_BOUND_TARGET w_EMPTY_TARGET w_FORMAL_PARAMETER_TARGET w_THROWS_TARGET w_LOCALVAR_TARGET w_CATCH_TARGET w_OFFSET_TARGET w_TYPE_ARGUMENT_TARGET p1.toInt by have j1 := mt (own_lt (x := p1) (k := 23) (n := 23) rfl).mpr hc19; have j2 := mt (own_gt (x := p1) (k := 23) (n := 23) rfl).mpr hc21; unfold own_exp; (repeat' split); all_goals first | rfl | (exfalso; omega)), N0, e20⟩ (by decide) (by decide)
  have K4 : ∀ T, Stand p l e ({ frames := 0, cells := 0, slots := 0, locals := 0 } : Room) s m #[(.int p1)] below meth c T [] 0 0 → T.heap = h0 → (¬ (0 ≤ p1.toInt ∧ p1.toInt ≤ 1)) → (¬ (16 ≤ p1.toInt ∧ p1.toInt ≤ 16)) → (¬ (17 ≤ p1.toInt ∧ p1.toInt ≤ 18)) → (¬ (19 ≤ p1.toInt ∧ p1.toInt ≤ 21)) → Go p.tables e below (Fin s below (PQ (own_exp w_TYPE_PARAMETER_TARGET w_SUPERTYPE_TARGET w_TYPE_PARAMETER_BOUND_TARGET w_EMPTY_TARGET w_FORMAL_PARAMETER_TARGET w_THROWS_TARGET w_LOCALVAR_TARGET w_CATCH_TARGET w_OFFSET_TARGET w_TYPE_ARGUMENT_TARGET p1.toInt) h0 n0) ({ frames := 0, cells := 0, slots := 0, locals := 0 } : Room).cells ({ frames := 0, cells := 0, slots := 0, locals := 0 } : Room).slots) (T.setTop (mkF m 9 #[.val (.int p1), .val (.ref w_VALUES), .val (.int (10 : Int32)), .val (.int (4 : Int32)), .val (.ref w_EMPTY_TARGET)] [])) := by
    intro T X e' g0 g1 g2 g3
    show Go p.tables e below _ (T.setTop (mkF m 9 #[.val (.int p1), .val (.ref w_VALUES), .val (.int (10 : Int32)), .val (.int (4 : Int32)), .val (.ref w_EMPTY_TARGET)] []))
    refine own_go (fun t k => XS.iloadN X.here hx rfl (hb hby d1_9) rfl k) ?_
    show Go p.tables e below _ (T.setTop (mkF m 10 #[.val (.int p1), .val (.ref w_VALUES), .val (.int (10 : Int32)), .val (.int (4 : Int32)), .val (.ref w_EMPTY_TARGET)] [(.int (4 : Int32))]))
    refine own_go (fun t k => XS.iloadN X.here hx rfl (hb hby d1_10) rfl k) ?_
    show Go p.tables e below _ (T.setTop (mkF m 11 #[.val (.int p1), .val (.ref w_VALUES), .val (.int (10 : Int32)), .val (.int (4 : Int32)), .val (.ref w_EMPTY_TARGET)] [(.int (10 : Int32)), (.int (4 : Int32))]))
    refine own_go (fun t k => XS.icmpNo X.here hx rfl (hb hby d1_11) rfl (XT.ii_ge_f (by decide)) k) ?_
    show Go p.tables e below _ (T.setTop (mkF m 14 #[.val (.int p1), .val (.ref w_VALUES), .val (.int (10 : Int32)), .val (.int (4 : Int32)), .val (.ref w_EMPTY_TARGET)] []))
    refine own_go (fun t k => XS.aloadN X.here hx rfl (hb hby d1_14) rfl rfl k) ?_
    show Go p.tables e below _ (T.setTop (mkF m 15 #[.val (.int p1), .val (.ref w_VALUES), .val (.int (10 : Int32)), .val (.int (4 : Int32)), .val (.ref w_EMPTY_TARGET)] [(.ref w_VALUES)]))
    refine own_go (fun t k => XS.iloadN X.here hx rfl (hb hby d1_15) rfl k) ?_
    show Go p.tables e below _ (T.setTop (mkF m 16 #[.val (.int p1), .val (.ref w_VALUES), .val (.int (10 : Int32)), .val (.int (4 : Int32)), .val (.ref w_EMPTY_TARGET)] [(.int (4 : Int32)), (.ref w_VALUES)]))
    refine own_go (fun t k => X.aaload hx (j := (4 : Int32)) (v := (.ref w_FORMAL_PARAMETER_TARGET)) (by rw [e']; exact Ar.1) (State.isArrayOf_alike hZ.alike Ar.2.1) rfl Ar.2.2 At4.1 At4.2 (g := (mkF m 16 #[.val (.int p1), .val (.ref w_VALUES), .val (.int (10 : Int32)), .val (.int (4 : Int32)), .val (.ref w_EMPTY_TARGET)] [(.int (4 : Int32)), (.ref w_VALUES)])) rfl rfl (hb hby d1_16) t k) ?_
    show Go p.tables e below _ (T.setTop (mkF m 17 #[.val (.int p1), .val (.ref w_VALUES), .val (.int (10 : Int32)), .val (.int (4 : Int32)), .val (.ref w_EMPTY_TARGET)] [(.ref w_FORMAL_PARAMETER_TARGET)]))
    refine own_go (fun t k => XS.astore X.here hx rfl (hb hby d1_17) rfl rfl (l' := #[.val (.int p1), .val (.ref w_VALUES), .val (.int (10 : Int32)), .val (.int (4 : Int32)), .val (.ref w_FORMAL_PARAMETER_TARGET)]) rfl k) ?_
    show Go p.tables e below _ (T.setTop (mkF m 19 #[.val (.int p1), .val (.ref w_VALUES), .val (.int (10 : Int32)), .val (.int (4 : Int32)), .val (.ref w_FORMAL_PARAMETER_TARGET)] []))
    refine own_go (fun t k => XS.iloadN X.here hx rfl (hb hby d1_19) rfl k) ?_
    show Go p.tables e below _ (T.setTop (mkF m 20 #[.val (.int p1), .val (.ref w_VALUES), .val (.int (10 : Int32)), .val (.int (4 : Int32)), .val (.ref w_FORMAL_PARAMETER_TARGET)] [(.int p1)]))
    refine own_go (fun t k => XS.aload X.here hx rfl (hb hby d1_20) rfl rfl k) ?_
    show Go p.tables e below _ (T.setTop (mkF m 22 #[.val (.int p1), .val (.ref w_VALUES), .val (.int (10 : Int32)), .val (.int (4 : Int32)), .val (.ref w_FORMAL_PARAMETER_TARGET)] [(.ref w_FORMAL_PARAMETER_TARGET), (.int p1)]))
    obtain ⟨T22, X22, e22, st22⟩ := getF X hx hZ hown (host := "") (Or.inl (hw _ (List.mem_of_getElem? (i := 7) rfl))) Via.refl e' F_FORMAL_PARAMETER_TARGET_firstType (g := (mkF m 22 #[.val (.int p1), .val (.ref w_VALUES), .val (.int (10 : Int32)), .val (.int (4 : Int32)), .val (.ref w_FORMAL_PARAMETER_TARGET)] [(.ref w_FORMAL_PARAMETER_TARGET), (.int p1)])) rfl rfl (hb hby d1_22)
    refine own_go (fun t k => st22 t k) ?_
    show Go p.tables e below _ (T22.setTop (mkF m 25 #[.val (.int p1), .val (.ref w_VALUES), .val (.int (10 : Int32)), .val (.int (4 : Int32)), .val (.ref w_FORMAL_PARAMETER_TARGET)] [(.int (22 : Int32)), (.int p1)]))
    by_cases hc23 : p1 < (22 : Int32)
    · refine own_go (fun t k => XS.icmpYes X22.here hx rfl (pc0 := 25) (pc' := 40) rfl (hb hby d1_25) rfl (XT.ii_lt_t hc23) (by decide) (by decide) k) ?_
      show Go p.tables e below _ (T22.setTop (mkF m 40 #[.val (.int p1), .val (.ref w_VALUES), .val (.int (10 : Int32)), .val (.int (4 : Int32)), .val (.ref w_FORMAL_PARAMETER_TARGET)] []))
      refine own_go (fun t k => XS.iinc X22.here hx rfl (hb hby d1_40) rfl (l' := #[.val (.int p1), .val (.ref w_VALUES), .val (.int (10 : Int32)), .val (.int (5 : Int32)), .val (.ref w_FORMAL_PARAMETER_TARGET)]) rfl k) ?_
      show Go p.tables e below _ (T22.setTop (mkF m 43 #[.val (.int p1), .val (.ref w_VALUES), .val (.int (10 : Int32)), .val (.int (5 : Int32)), .val (.ref w_FORMAL_PARAMETER_TARGET)] []))
      refine own_go (fun t k => XS.goto X22.here hx rfl (pc0 := 43) (pc' := 9) rfl (hb hby d1_43) (by decide) (by decide) k) ?_
      show Go p.tables e below _ (T22.setTop (mkF m 9 #[.val (.int p1), .val (.ref w_VALUES), .val (.int (10 : Int32)), .val (.int (5 : Int32)), .val (.ref w_FORMAL_PARAMETER_TARGET)] []))
      exact K5 T22 X22 e22 g0 g1 g2 g3 (by have j1 :=  (own_lt (x := p1) (k := 22) (n := 22) rfl).mp hc23; omega)
    · refine own_go (fun t k => XS.icmpNo X22.here hx rfl (hb hby d1_25) rfl (XT.ii_lt_f hc23) k) ?_
      show Go p.tables e below _ (T22.setTop (mkF m 28 #[.val (.int p1), .val (.ref w_VALUES), .val (.int (10 : Int32)), .val (.int (4 : Int32)), .val (.ref w_FORMAL_PARAMETER_TARGET)] []))
      refine own_go (fun t k => XS.iloadN X22.here hx rfl (hb hby d1_28) rfl k) ?_
      show Go p.tables e below _ (T22.setTop (mkF m 29 #[.val (.int p1), .val (.ref w_VALUES), .val (.int (10 : Int32)), .val (.int (4 : Int32)), .val (.ref w_FORMAL_PARAMETER_TARGET)] [(.int p1)]))
      refine own_go (fun t k => XS.aload X22.here hx rfl (hb hby d1_29) rfl rfl k) ?_
      show Go p.tables e below _ (T22.setTop (mkF m 31 #[.val (.int p1), .val (.ref w_VALUES), .val (.int (10 : Int32)), .val (.int (4 : Int32)), .val (.ref w_FORMAL_PARAMETER_TARGET)] [(.ref w_FORMAL_PARAMETER_TARGET), (.int p1)]))
      obtain ⟨T24, X24, e24, st24⟩ := getF X22 hx hZ hown (host := "") (Or.inl (hw _ (List.mem_of_getElem? (i := 9) rfl))) Via.refl e22 F_FORMAL_PARAMETER_TARGET_lastType (g := (mkF m 31 #[.val (.int p1), .val (.ref w_VALUES), .val (.int (10 : Int32)), .val (.int (4 : Int32)), .val (.ref w_FORMAL_PARAMETER_TARGET)] [(.ref w_FORMAL_PARAMETER_TARGET), (.int p1)])) rfl rfl (hb hby d1_31)
      refine own_go (fun t k => st24 t k) ?_
      show Go p.tables e below _ (T24.setTop (mkF m 34 #[.val (.int p1), .val (.ref w_VALUES), .val (.int (10 : Int32)), .val (.int (4 : Int32)), .val (.ref w_FORMAL_PARAMETER_TARGET)] [(.int (22 : Int32)), (.int p1)]))
      by_cases hc25 : (22 : Int32) < p1
      · refine own_go (fun t k => XS.icmpYes X24.here hx rfl (pc0 := 34) (pc' := 40) rfl (hb hby d1_34) rfl (XT.ii_gt_t hc25) (by decide) (by decide) k) ?_
        show Go p.tables e below _ (T24.setTop (mkF m 40 #[.val (.int p1), .val (.ref w_VALUES), .val (.int (10 : Int32)), .val (.int (4 : Int32)), .val (.ref w_FORMAL_PARAMETER_TARGET)] []))
        refine own_go (fun t k => XS.iinc X24.here hx rfl (hb hby d1_40) rfl (l' := #[.val (.int p1), .val (.ref w_VALUES), .val (.int (10 : Int32)), .val (.int (5 : Int32)), .val (.ref w_FORMAL_PARAMETER_TARGET)]) rfl k) ?_
        show Go p.tables e below _ (T24.setTop (mkF m 43 #[.val (.int p1), .val (.ref w_VALUES), .val (.int (10 : Int32)), .val (.int (5 : Int32)), .val (.ref w_FORMAL_PARAMETER_TARGET)] []))
        refine own_go (fun t k => XS.goto X24.here hx rfl (pc0 := 43) (pc' := 9) rfl (hb hby d1_43) (by decide) (by decide) k) ?_
        show Go p.tables e below _ (T24.setTop (mkF m 9 #[.val (.int p1), .val (.ref w_VALUES), .val (.int (10 : Int32)), .val (.int (5 : Int32)), .val (.ref w_FORMAL_PARAMETER_TARGET)] []))
        exact K5 T24 X24 e24 g0 g1 g2 g3 (by have j1 := mt (own_lt (x := p1) (k := 22) (n := 22) rfl).mpr hc23; have j2 :=  (own_gt (x := p1) (k := 22) (n := 22) rfl).mp hc25; omega)
      · refine own_go (fun t k => XS.icmpNo X24.here hx rfl (hb hby d1_34) rfl (XT.ii_gt_f hc25) k) ?_
        show Go p.tables e below _ (T24.setTop (mkF m 37 #[.val (.int p1), .val (.ref w_VALUES), .val (.int (10 : Int32)), .val (.int (4 : Int32)), .val (.ref w_FORMAL_PARAMETER_TARGET)] []))
        refine own_go (fun t k => XS.aload X24.here hx rfl (hb hby d1_37) rfl rfl k) ?_
        show Go p.tables e below _ (T24.setTop (mkF m 39 #[.val (.int p1), .val (.ref w_VALUES), .val (.int (10 : Int32)), .val (.int (4 : Int32)), .val (.ref w_FORMAL_PARAMETER_TARGET)] [(.ref w_FORMAL_PARAMETER_TARGET)]))
        exact own_ret X24 hx hlk Bd.returns rfl (Or.inr (Or.inr (Or.inr (Or.inr ⟨rfl, rfl, rfl⟩)))) (hb hby d1_39) ⟨congrArg some (show Value.ref w_FORMAL_PARAMETER_TARGET = own_exp w_TYPE_PARAMETER_TARGET w_SUPERTYPE_TARGET w_TYPE_PARAMETER_BOUND_TARGET w_EMPTY_TARGET w_FORMAL_PARAMETER_TARGET w_THROWS_TARGET w_LOCALVAR_TARGET w_CATCH_TARGET w_OFFSET_TARGET w_TYPE_ARGUMENT_TARGET p1.toInt by have j1 := mt (own_lt (x := p1) (k := 22) (n := 22) rfl).mpr hc23; have j2 := mt (own_gt (x := p1) (k := 22) (n := 22) rfl).mpr hc25; unfold own_exp; (repeat' split); all_goals first | rfl | (exfalso; omega)), N0, e24⟩ (by decide) (by decide)
  have K3 : ∀ T, Stand p l e ({ frames := 0, cells := 0, slots := 0, locals := 0 } : Room) s m #[(.int p1)] below meth c T [] 0 0 → T.heap = h0 → (¬ (0 ≤ p1.toInt ∧ p1.toInt ≤ 1)) → (¬ (16 ≤ p1.toInt ∧ p1.toInt ≤ 16)) → (¬ (17 ≤ p1.toInt ∧ p1.toInt ≤ 18)) → Go p.tables e below (Fin s below (PQ (own_exp w_TYPE_PARAMETER_TARGET w_SUPERTYPE_TARGET w_TYPE_PARAMETER_BOUND_TARGET w_EMPTY_TARGET w_FORMAL_PARAMETER_TARGET w_THROWS_TARGET w_LOCALVAR_TARGET w_CATCH_TARGET w_OFFSET_TARGET w_TYPE_ARGUMENT_TARGET p1.toInt) h0 n0) ({ frames := 0, cells := 0, slots := 0, locals := 0 } : Room).cells ({ frames := 0, cells := 0, slots := 0, locals := 0 } : Room).slots) (T.setTop (mkF m 9 #[.val (.int p1), .val (.ref w_VALUES), .val (.int (10 : Int32)), .val (.int (3 : Int32)), .val (.ref w_TYPE_PARAMETER_BOUND_TARGET)] [])) := by
    intro T X e' g0 g1 g2
    show Go p.tables e below _ (T.setTop (mkF m 9 #[.val (.int p1), .val (.ref w_VALUES), .val (.int (10 : Int32)), .val (.int (3 : Int32)), .val (.ref w_TYPE_PARAMETER_BOUND_TARGET)] []))
    refine own_go (fun t k => XS.iloadN X.here hx rfl (hb hby d1_9) rfl k) ?_
    show Go p.tables e below _ (T.setTop (mkF m 10 #[.val (.int p1), .val (.ref w_VALUES), .val (.int (10 : Int32)), .val (.int (3 : Int32)), .val (.ref w_TYPE_PARAMETER_BOUND_TARGET)] [(.int (3 : Int32))]))
    refine own_go (fun t k => XS.iloadN X.here hx rfl (hb hby d1_10) rfl k) ?_
    show Go p.tables e below _ (T.setTop (mkF m 11 #[.val (.int p1), .val (.ref w_VALUES), .val (.int (10 : Int32)), .val (.int (3 : Int32)), .val (.ref w_TYPE_PARAMETER_BOUND_TARGET)] [(.int (10 : Int32)), (.int (3 : Int32))]))
    refine own_go (fun t k => XS.icmpNo X.here hx rfl (hb hby d1_11) rfl (XT.ii_ge_f (by decide)) k) ?_
    show Go p.tables e below _ (T.setTop (mkF m 14 #[.val (.int p1), .val (.ref w_VALUES), .val (.int (10 : Int32)), .val (.int (3 : Int32)), .val (.ref w_TYPE_PARAMETER_BOUND_TARGET)] []))
    refine own_go (fun t k => XS.aloadN X.here hx rfl (hb hby d1_14) rfl rfl k) ?_
    show Go p.tables e below _ (T.setTop (mkF m 15 #[.val (.int p1), .val (.ref w_VALUES), .val (.int (10 : Int32)), .val (.int (3 : Int32)), .val (.ref w_TYPE_PARAMETER_BOUND_TARGET)] [(.ref w_VALUES)]))
    refine own_go (fun t k => XS.iloadN X.here hx rfl (hb hby d1_15) rfl k) ?_
    show Go p.tables e below _ (T.setTop (mkF m 16 #[.val (.int p1), .val (.ref w_VALUES), .val (.int (10 : Int32)), .val (.int (3 : Int32)), .val (.ref w_TYPE_PARAMETER_BOUND_TARGET)] [(.int (3 : Int32)), (.ref w_VALUES)]))
    refine own_go (fun t k => X.aaload hx (j := (3 : Int32)) (v := (.ref w_EMPTY_TARGET)) (by rw [e']; exact Ar.1) (State.isArrayOf_alike hZ.alike Ar.2.1) rfl Ar.2.2 At3.1 At3.2 (g := (mkF m 16 #[.val (.int p1), .val (.ref w_VALUES), .val (.int (10 : Int32)), .val (.int (3 : Int32)), .val (.ref w_TYPE_PARAMETER_BOUND_TARGET)] [(.int (3 : Int32)), (.ref w_VALUES)])) rfl rfl (hb hby d1_16) t k) ?_
    show Go p.tables e below _ (T.setTop (mkF m 17 #[.val (.int p1), .val (.ref w_VALUES), .val (.int (10 : Int32)), .val (.int (3 : Int32)), .val (.ref w_TYPE_PARAMETER_BOUND_TARGET)] [(.ref w_EMPTY_TARGET)]))
    refine own_go (fun t k => XS.astore X.here hx rfl (hb hby d1_17) rfl rfl (l' := #[.val (.int p1), .val (.ref w_VALUES), .val (.int (10 : Int32)), .val (.int (3 : Int32)), .val (.ref w_EMPTY_TARGET)]) rfl k) ?_
    show Go p.tables e below _ (T.setTop (mkF m 19 #[.val (.int p1), .val (.ref w_VALUES), .val (.int (10 : Int32)), .val (.int (3 : Int32)), .val (.ref w_EMPTY_TARGET)] []))
    refine own_go (fun t k => XS.iloadN X.here hx rfl (hb hby d1_19) rfl k) ?_
    show Go p.tables e below _ (T.setTop (mkF m 20 #[.val (.int p1), .val (.ref w_VALUES), .val (.int (10 : Int32)), .val (.int (3 : Int32)), .val (.ref w_EMPTY_TARGET)] [(.int p1)]))
    refine own_go (fun t k => XS.aload X.here hx rfl (hb hby d1_20) rfl rfl k) ?_
    show Go p.tables e below _ (T.setTop (mkF m 22 #[.val (.int p1), .val (.ref w_VALUES), .val (.int (10 : Int32)), .val (.int (3 : Int32)), .val (.ref w_EMPTY_TARGET)] [(.ref w_EMPTY_TARGET), (.int p1)]))
    obtain ⟨T26, X26, e26, st26⟩ := getF X hx hZ hown (host := "") (Or.inl (hw _ (List.mem_of_getElem? (i := 7) rfl))) Via.refl e' F_EMPTY_TARGET_firstType (g := (mkF m 22 #[.val (.int p1), .val (.ref w_VALUES), .val (.int (10 : Int32)), .val (.int (3 : Int32)), .val (.ref w_EMPTY_TARGET)] [(.ref w_EMPTY_TARGET), (.int p1)])) rfl rfl (hb hby d1_22)
    refine own_go (fun t k => st26 t k) ?_
    show Go p.tables e below _ (T26.setTop (mkF m 25 #[.val (.int p1), .val (.ref w_VALUES), .val (.int (10 : Int32)), .val (.int (3 : Int32)), .val (.ref w_EMPTY_TARGET)] [(.int (19 : Int32)), (.int p1)]))
    by_cases hc27 : p1 < (19 : Int32)
    · refine own_go (fun t k => XS.icmpYes X26.here hx rfl (pc0 := 25) (pc' := 40) rfl (hb hby d1_25) rfl (XT.ii_lt_t hc27) (by decide) (by decide) k) ?_
      show Go p.tables e below _ (T26.setTop (mkF m 40 #[.val (.int p1), .val (.ref w_VALUES), .val (.int (10 : Int32)), .val (.int (3 : Int32)), .val (.ref w_EMPTY_TARGET)] []))
      refine own_go (fun t k => XS.iinc X26.here hx rfl (hb hby d1_40) rfl (l' := #[.val (.int p1), .val (.ref w_VALUES), .val (.int (10 : Int32)), .val (.int (4 : Int32)), .val (.ref w_EMPTY_TARGET)]) rfl k) ?_
      show Go p.tables e below _ (T26.setTop (mkF m 43 #[.val (.int p1), .val (.ref w_VALUES), .val (.int (10 : Int32)), .val (.int (4 : Int32)), .val (.ref w_EMPTY_TARGET)] []))
      refine own_go (fun t k => XS.goto X26.here hx rfl (pc0 := 43) (pc' := 9) rfl (hb hby d1_43) (by decide) (by decide) k) ?_
      show Go p.tables e below _ (T26.setTop (mkF m 9 #[.val (.int p1), .val (.ref w_VALUES), .val (.int (10 : Int32)), .val (.int (4 : Int32)), .val (.ref w_EMPTY_TARGET)] []))
      exact K4 T26 X26 e26 g0 g1 g2 (by have j1 :=  (own_lt (x := p1) (k := 19) (n := 19) rfl).mp hc27; omega)
    · refine own_go (fun t k => XS.icmpNo X26.here hx rfl (hb hby d1_25) rfl (XT.ii_lt_f hc27) k) ?_
      show Go p.tables e below _ (T26.setTop (mkF m 28 #[.val (.int p1), .val (.ref w_VALUES), .val (.int (10 : Int32)), .val (.int (3 : Int32)), .val (.ref w_EMPTY_TARGET)] []))
      refine own_go (fun t k => XS.iloadN X26.here hx rfl (hb hby d1_28) rfl k) ?_
      show Go p.tables e below _ (T26.setTop (mkF m 29 #[.val (.int p1), .val (.ref w_VALUES), .val (.int (10 : Int32)), .val (.int (3 : Int32)), .val (.ref w_EMPTY_TARGET)] [(.int p1)]))
      refine own_go (fun t k => XS.aload X26.here hx rfl (hb hby d1_29) rfl rfl k) ?_
      show Go p.tables e below _ (T26.setTop (mkF m 31 #[.val (.int p1), .val (.ref w_VALUES), .val (.int (10 : Int32)), .val (.int (3 : Int32)), .val (.ref w_EMPTY_TARGET)] [(.ref w_EMPTY_TARGET), (.int p1)]))
      obtain ⟨T28, X28, e28, st28⟩ := getF X26 hx hZ hown (host := "") (Or.inl (hw _ (List.mem_of_getElem? (i := 9) rfl))) Via.refl e26 F_EMPTY_TARGET_lastType (g := (mkF m 31 #[.val (.int p1), .val (.ref w_VALUES), .val (.int (10 : Int32)), .val (.int (3 : Int32)), .val (.ref w_EMPTY_TARGET)] [(.ref w_EMPTY_TARGET), (.int p1)])) rfl rfl (hb hby d1_31)
      refine own_go (fun t k => st28 t k) ?_
      show Go p.tables e below _ (T28.setTop (mkF m 34 #[.val (.int p1), .val (.ref w_VALUES), .val (.int (10 : Int32)), .val (.int (3 : Int32)), .val (.ref w_EMPTY_TARGET)] [(.int (21 : Int32)), (.int p1)]))
      by_cases hc29 : (21 : Int32) < p1
      · refine own_go (fun t k => XS.icmpYes X28.here hx rfl (pc0 := 34) (pc' := 40) rfl (hb hby d1_34) rfl (XT.ii_gt_t hc29) (by decide) (by decide) k) ?_
        show Go p.tables e below _ (T28.setTop (mkF m 40 #[.val (.int p1), .val (.ref w_VALUES), .val (.int (10 : Int32)), .val (.int (3 : Int32)), .val (.ref w_EMPTY_TARGET)] []))
        refine own_go (fun t k => XS.iinc X28.here hx rfl (hb hby d1_40) rfl (l' := #[.val (.int p1), .val (.ref w_VALUES), .val (.int (10 : Int32)), .val (.int (4 : Int32)), .val (.ref w_EMPTY_TARGET)]) rfl k) ?_
        show Go p.tables e below _ (T28.setTop (mkF m 43 #[.val (.int p1), .val (.ref w_VALUES), .val (.int (10 : Int32)), .val (.int (4 : Int32)), .val (.ref w_EMPTY_TARGET)] []))
        refine own_go (fun t k => XS.goto X28.here hx rfl (pc0 := 43) (pc' := 9) rfl (hb hby d1_43) (by decide) (by decide) k) ?_
        show Go p.tables e below _ (T28.setTop (mkF m 9 #[.val (.int p1), .val (.ref w_VALUES), .val (.int (10 : Int32)), .val (.int (4 : Int32)), .val (.ref w_EMPTY_TARGET)] []))
        exact K4 T28 X28 e28 g0 g1 g2 (by have j1 := mt (own_lt (x := p1) (k := 19) (n := 19) rfl).mpr hc27; have j2 :=  (own_gt (x := p1) (k := 21) (n := 21) rfl).mp hc29; omega)
      · refine own_go (fun t k => XS.icmpNo X28.here hx rfl (hb hby d1_34) rfl (XT.ii_gt_f hc29) k) ?_
        show Go p.tables e below _ (T28.setTop (mkF m 37 #[.val (.int p1), .val (.ref w_VALUES), .val (.int (10 : Int32)), .val (.int (3 : Int32)), .val (.ref w_EMPTY_TARGET)] []))
        refine own_go (fun t k => XS.aload X28.here hx rfl (hb hby d1_37) rfl rfl k) ?_
        show Go p.tables e below _ (T28.setTop (mkF m 39 #[.val (.int p1), .val (.ref w_VALUES), .val (.int (10 : Int32)), .val (.int (3 : Int32)), .val (.ref w_EMPTY_TARGET)] [(.ref w_EMPTY_TARGET)]))
        exact own_ret X28 hx hlk Bd.returns rfl (Or.inr (Or.inr (Or.inr (Or.inr ⟨rfl, rfl, rfl⟩)))) (hb hby d1_39) ⟨congrArg some (show Value.ref w_EMPTY_TARGET = own_exp w_TYPE_PARAMETER_TARGET w_SUPERTYPE_TARGET w_TYPE_PARAMETER_BOUND_TARGET w_EMPTY_TARGET w_FORMAL_PARAMETER_TARGET w_THROWS_TARGET w_LOCALVAR_TARGET w_CATCH_TARGET w_OFFSET_TARGET w_TYPE_ARGUMENT_TARGET p1.toInt by have j1 := mt (own_lt (x := p1) (k := 19) (n := 19) rfl).mpr hc27; have j2 := mt (own_gt (x := p1) (k := 21) (n := 21) rfl).mpr hc29; unfold own_exp; (repeat' split); all_goals first | rfl | (exfalso; omega)), N0, e28⟩ (by decide) (by decide)
  have K2 : ∀ T, Stand p l e ({ frames := 0, cells := 0, slots := 0, locals := 0 } : Room) s m #[(.int p1)] below meth c T [] 0 0 → T.heap = h0 → (¬ (0 ≤ p1.toInt ∧ p1.toInt ≤ 1)) → (¬ (16 ≤ p1.toInt ∧ p1.toInt ≤ 16)) → Go p.tables e below (Fin s below (PQ (own_exp w_TYPE_PARAMETER_TARGET w_SUPERTYPE_TARGET w_TYPE_PARAMETER_BOUND_TARGET w_EMPTY_TARGET w_FORMAL_PARAMETER_TARGET w_THROWS_TARGET w_LOCALVAR_TARGET w_CATCH_TARGET w_OFFSET_TARGET w_TYPE_ARGUMENT_TARGET p1.toInt) h0 n0) ({ frames := 0, cells := 0, slots := 0, locals := 0 } : Room).cells ({ frames := 0, cells := 0, slots := 0, locals := 0 } : Room).slots) (T.setTop (mkF m 9 #[.val (.int p1), .val (.ref w_VALUES), .val (.int (10 : Int32)), .val (.int (2 : Int32)), .val (.ref w_SUPERTYPE_TARGET)] [])) := by
    intro T X e' g0 g1
    show Go p.tables e below _ (T.setTop (mkF m 9 #[.val (.int p1), .val (.ref w_VALUES), .val (.int (10 : Int32)), .val (.int (2 : Int32)), .val (.ref w_SUPERTYPE_TARGET)] []))
    refine own_go (fun t k => XS.iloadN X.here hx rfl (hb hby d1_9) rfl k) ?_
    show Go p.tables e below _ (T.setTop (mkF m 10 #[.val (.int p1), .val (.ref w_VALUES), .val (.int (10 : Int32)), .val (.int (2 : Int32)), .val (.ref w_SUPERTYPE_TARGET)] [(.int (2 : Int32))]))
    refine own_go (fun t k => XS.iloadN X.here hx rfl (hb hby d1_10) rfl k) ?_
    show Go p.tables e below _ (T.setTop (mkF m 11 #[.val (.int p1), .val (.ref w_VALUES), .val (.int (10 : Int32)), .val (.int (2 : Int32)), .val (.ref w_SUPERTYPE_TARGET)] [(.int (10 : Int32)), (.int (2 : Int32))]))
    refine own_go (fun t k => XS.icmpNo X.here hx rfl (hb hby d1_11) rfl (XT.ii_ge_f (by decide)) k) ?_
    show Go p.tables e below _ (T.setTop (mkF m 14 #[.val (.int p1), .val (.ref w_VALUES), .val (.int (10 : Int32)), .val (.int (2 : Int32)), .val (.ref w_SUPERTYPE_TARGET)] []))
    refine own_go (fun t k => XS.aloadN X.here hx rfl (hb hby d1_14) rfl rfl k) ?_
    show Go p.tables e below _ (T.setTop (mkF m 15 #[.val (.int p1), .val (.ref w_VALUES), .val (.int (10 : Int32)), .val (.int (2 : Int32)), .val (.ref w_SUPERTYPE_TARGET)] [(.ref w_VALUES)]))
    refine own_go (fun t k => XS.iloadN X.here hx rfl (hb hby d1_15) rfl k) ?_
    show Go p.tables e below _ (T.setTop (mkF m 16 #[.val (.int p1), .val (.ref w_VALUES), .val (.int (10 : Int32)), .val (.int (2 : Int32)), .val (.ref w_SUPERTYPE_TARGET)] [(.int (2 : Int32)), (.ref w_VALUES)]))
    refine own_go (fun t k => X.aaload hx (j := (2 : Int32)) (v := (.ref w_TYPE_PARAMETER_BOUND_TARGET)) (by rw [e']; exact Ar.1) (State.isArrayOf_alike hZ.alike Ar.2.1) rfl Ar.2.2 At2.1 At2.2 (g := (mkF m 16 #[.val (.int p1), .val (.ref w_VALUES), .val (.int (10 : Int32)), .val (.int (2 : Int32)), .val (.ref w_SUPERTYPE_TARGET)] [(.int (2 : Int32)), (.ref w_VALUES)])) rfl rfl (hb hby d1_16) t k) ?_
    show Go p.tables e below _ (T.setTop (mkF m 17 #[.val (.int p1), .val (.ref w_VALUES), .val (.int (10 : Int32)), .val (.int (2 : Int32)), .val (.ref w_SUPERTYPE_TARGET)] [(.ref w_TYPE_PARAMETER_BOUND_TARGET)]))
    refine own_go (fun t k => XS.astore X.here hx rfl (hb hby d1_17) rfl rfl (l' := #[.val (.int p1), .val (.ref w_VALUES), .val (.int (10 : Int32)), .val (.int (2 : Int32)), .val (.ref w_TYPE_PARAMETER_BOUND_TARGET)]) rfl k) ?_
    show Go p.tables e below _ (T.setTop (mkF m 19 #[.val (.int p1), .val (.ref w_VALUES), .val (.int (10 : Int32)), .val (.int (2 : Int32)), .val (.ref w_TYPE_PARAMETER_BOUND_TARGET)] []))
    refine own_go (fun t k => XS.iloadN X.here hx rfl (hb hby d1_19) rfl k) ?_
    show Go p.tables e below _ (T.setTop (mkF m 20 #[.val (.int p1), .val (.ref w_VALUES), .val (.int (10 : Int32)), .val (.int (2 : Int32)), .val (.ref w_TYPE_PARAMETER_BOUND_TARGET)] [(.int p1)]))
    refine own_go (fun t k => XS.aload X.here hx rfl (hb hby d1_20) rfl rfl k) ?_
    show Go p.tables e below _ (T.setTop (mkF m 22 #[.val (.int p1), .val (.ref w_VALUES), .val (.int (10 : Int32)), .val (.int (2 : Int32)), .val (.ref w_TYPE_PARAMETER_BOUND_TARGET)] [(.ref w_TYPE_PARAMETER_BOUND_TARGET), (.int p1)]))
    obtain ⟨T30, X30, e30, st30⟩ := getF X hx hZ hown (host := "") (Or.inl (hw _ (List.mem_of_getElem? (i := 7) rfl))) Via.refl e' F_TYPE_PARAMETER_BOUND_TARGET_firstType (g := (mkF m 22 #[.val (.int p1), .val (.ref w_VALUES), .val (.int (10 : Int32)), .val (.int (2 : Int32)), .val (.ref w_TYPE_PARAMETER_BOUND_TARGET)] [(.ref w_TYPE_PARAMETER_BOUND_TARGET), (.int p1)])) rfl rfl (hb hby d1_22)
    refine own_go (fun t k => st30 t k) ?_
    show Go p.tables e below _ (T30.setTop (mkF m 25 #[.val (.int p1), .val (.ref w_VALUES), .val (.int (10 : Int32)), .val (.int (2 : Int32)), .val (.ref w_TYPE_PARAMETER_BOUND_TARGET)] [(.int (17 : Int32)), (.int p1)]))
    by_cases hc31 : p1 < (17 : Int32)
    · refine own_go (fun t k => XS.icmpYes X30.here hx rfl (pc0 := 25) (pc' := 40) rfl (hb hby d1_25) rfl (XT.ii_lt_t hc31) (by decide) (by decide) k) ?_
      show Go p.tables e below _ (T30.setTop (mkF m 40 #[.val (.int p1), .val (.ref w_VALUES), .val (.int (10 : Int32)), .val (.int (2 : Int32)), .val (.ref w_TYPE_PARAMETER_BOUND_TARGET)] []))
      refine own_go (fun t k => XS.iinc X30.here hx rfl (hb hby d1_40) rfl (l' := #[.val (.int p1), .val (.ref w_VALUES), .val (.int (10 : Int32)), .val (.int (3 : Int32)), .val (.ref w_TYPE_PARAMETER_BOUND_TARGET)]) rfl k) ?_
      show Go p.tables e below _ (T30.setTop (mkF m 43 #[.val (.int p1), .val (.ref w_VALUES), .val (.int (10 : Int32)), .val (.int (3 : Int32)), .val (.ref w_TYPE_PARAMETER_BOUND_TARGET)] []))
      refine own_go (fun t k => XS.goto X30.here hx rfl (pc0 := 43) (pc' := 9) rfl (hb hby d1_43) (by decide) (by decide) k) ?_
      show Go p.tables e below _ (T30.setTop (mkF m 9 #[.val (.int p1), .val (.ref w_VALUES), .val (.int (10 : Int32)), .val (.int (3 : Int32)), .val (.ref w_TYPE_PARAMETER_BOUND_TARGET)] []))
      exact K3 T30 X30 e30 g0 g1 (by have j1 :=  (own_lt (x := p1) (k := 17) (n := 17) rfl).mp hc31; omega)
    · refine own_go (fun t k => XS.icmpNo X30.here hx rfl (hb hby d1_25) rfl (XT.ii_lt_f hc31) k) ?_
      show Go p.tables e below _ (T30.setTop (mkF m 28 #[.val (.int p1), .val (.ref w_VALUES), .val (.int (10 : Int32)), .val (.int (2 : Int32)), .val (.ref w_TYPE_PARAMETER_BOUND_TARGET)] []))
      refine own_go (fun t k => XS.iloadN X30.here hx rfl (hb hby d1_28) rfl k) ?_
      show Go p.tables e below _ (T30.setTop (mkF m 29 #[.val (.int p1), .val (.ref w_VALUES), .val (.int (10 : Int32)), .val (.int (2 : Int32)), .val (.ref w_TYPE_PARAMETER_BOUND_TARGET)] [(.int p1)]))
      refine own_go (fun t k => XS.aload X30.here hx rfl (hb hby d1_29) rfl rfl k) ?_
      show Go p.tables e below _ (T30.setTop (mkF m 31 #[.val (.int p1), .val (.ref w_VALUES), .val (.int (10 : Int32)), .val (.int (2 : Int32)), .val (.ref w_TYPE_PARAMETER_BOUND_TARGET)] [(.ref w_TYPE_PARAMETER_BOUND_TARGET), (.int p1)]))
      obtain ⟨T32, X32, e32, st32⟩ := getF X30 hx hZ hown (host := "") (Or.inl (hw _ (List.mem_of_getElem? (i := 9) rfl))) Via.refl e30 F_TYPE_PARAMETER_BOUND_TARGET_lastType (g := (mkF m 31 #[.val (.int p1), .val (.ref w_VALUES), .val (.int (10 : Int32)), .val (.int (2 : Int32)), .val (.ref w_TYPE_PARAMETER_BOUND_TARGET)] [(.ref w_TYPE_PARAMETER_BOUND_TARGET), (.int p1)])) rfl rfl (hb hby d1_31)
      refine own_go (fun t k => st32 t k) ?_
      show Go p.tables e below _ (T32.setTop (mkF m 34 #[.val (.int p1), .val (.ref w_VALUES), .val (.int (10 : Int32)), .val (.int (2 : Int32)), .val (.ref w_TYPE_PARAMETER_BOUND_TARGET)] [(.int (18 : Int32)), (.int p1)]))
      by_cases hc33 : (18 : Int32) < p1
      · refine own_go (fun t k => XS.icmpYes X32.here hx rfl (pc0 := 34) (pc' := 40) rfl (hb hby d1_34) rfl (XT.ii_gt_t hc33) (by decide) (by decide) k) ?_
        show Go p.tables e below _ (T32.setTop (mkF m 40 #[.val (.int p1), .val (.ref w_VALUES), .val (.int (10 : Int32)), .val (.int (2 : Int32)), .val (.ref w_TYPE_PARAMETER_BOUND_TARGET)] []))
        refine own_go (fun t k => XS.iinc X32.here hx rfl (hb hby d1_40) rfl (l' := #[.val (.int p1), .val (.ref w_VALUES), .val (.int (10 : Int32)), .val (.int (3 : Int32)), .val (.ref w_TYPE_PARAMETER_BOUND_TARGET)]) rfl k) ?_
        show Go p.tables e below _ (T32.setTop (mkF m 43 #[.val (.int p1), .val (.ref w_VALUES), .val (.int (10 : Int32)), .val (.int (3 : Int32)), .val (.ref w_TYPE_PARAMETER_BOUND_TARGET)] []))
        refine own_go (fun t k => XS.goto X32.here hx rfl (pc0 := 43) (pc' := 9) rfl (hb hby d1_43) (by decide) (by decide) k) ?_
        show Go p.tables e below _ (T32.setTop (mkF m 9 #[.val (.int p1), .val (.ref w_VALUES), .val (.int (10 : Int32)), .val (.int (3 : Int32)), .val (.ref w_TYPE_PARAMETER_BOUND_TARGET)] []))
        exact K3 T32 X32 e32 g0 g1 (by have j1 := mt (own_lt (x := p1) (k := 17) (n := 17) rfl).mpr hc31; have j2 :=  (own_gt (x := p1) (k := 18) (n := 18) rfl).mp hc33; omega)
      · refine own_go (fun t k => XS.icmpNo X32.here hx rfl (hb hby d1_34) rfl (XT.ii_gt_f hc33) k) ?_
        show Go p.tables e below _ (T32.setTop (mkF m 37 #[.val (.int p1), .val (.ref w_VALUES), .val (.int (10 : Int32)), .val (.int (2 : Int32)), .val (.ref w_TYPE_PARAMETER_BOUND_TARGET)] []))
        refine own_go (fun t k => XS.aload X32.here hx rfl (hb hby d1_37) rfl rfl k) ?_
        show Go p.tables e below _ (T32.setTop (mkF m 39 #[.val (.int p1), .val (.ref w_VALUES), .val (.int (10 : Int32)), .val (.int (2 : Int32)), .val (.ref w_TYPE_PARAMETER_BOUND_TARGET)] [(.ref w_TYPE_PARAMETER_BOUND_TARGET)]))
        exact own_ret X32 hx hlk Bd.returns rfl (Or.inr (Or.inr (Or.inr (Or.inr ⟨rfl, rfl, rfl⟩)))) (hb hby d1_39) ⟨congrArg some (show Value.ref w_TYPE_PARAMETER_BOUND_TARGET = own_exp w_TYPE_PARAMETER_TARGET w_SUPERTYPE_TARGET w_TYPE_PARAMETER_BOUND_TARGET w_EMPTY_TARGET w_FORMAL_PARAMETER_TARGET w_THROWS_TARGET w_LOCALVAR_TARGET w_CATCH_TARGET w_OFFSET_TARGET w_TYPE_ARGUMENT_TARGET p1.toInt by have j1 := mt (own_lt (x := p1) (k := 17) (n := 17) rfl).mpr hc31; have j2 := mt (own_gt (x := p1) (k := 18) (n := 18) rfl).mpr hc33; unfold own_exp; (repeat' split); all_goals first | rfl | (exfalso; omega)), N0, e32⟩ (by decide) (by decide)
  have K1 : ∀ T, Stand p l e ({ frames := 0, cells := 0, slots := 0, locals := 0 } : Room) s m #[(.int p1)] below meth c T [] 0 0 → T.heap = h0 → (¬ (0 ≤ p1.toInt ∧ p1.toInt ≤ 1)) → Go p.tables e below (Fin s below (PQ (own_exp w_TYPE_PARAMETER_TARGET w_SUPERTYPE_TARGET w_TYPE_PARAMETER_BOUND_TARGET w_EMPTY_TARGET w_FORMAL_PARAMETER_TARGET w_THROWS_TARGET w_LOCALVAR_TARGET w_CATCH_TARGET w_OFFSET_TARGET w_TYPE_ARGUMENT_TARGET p1.toInt) h0 n0) ({ frames := 0, cells := 0, slots := 0, locals := 0 } : Room).cells ({ frames := 0, cells := 0, slots := 0, locals := 0 } : Room).slots) (T.setTop (mkF m 9 #[.val (.int p1), .val (.ref w_VALUES), .val (.int (10 : Int32)), .val (.int (1 : Int32)), .val (.ref w_TYPE_PARAMETER_TARGET)] [])) := by
    intro T X e' g0
    show Go p.tables e below _ (T.setTop (mkF m 9 #[.val (.int p1), .val (.ref w_VALUES), .val (.int (10 : Int32)), .val (.int (1 : Int32)), .val (.ref w_TYPE_PARAMETER_TARGET)] []))
    refine own_go (fun t k => XS.iloadN X.here hx rfl (hb hby d1_9) rfl k) ?_
    show Go p.tables e below _ (T.setTop (mkF m 10 #[.val (.int p1), .val (.ref w_VALUES), .val (.int (10 : Int32)), .val (.int (1 : Int32)), .val (.ref w_TYPE_PARAMETER_TARGET)] [(.int (1 : Int32))]))
    refine own_go (fun t k => XS.iloadN X.here hx rfl (hb hby d1_10) rfl k) ?_
    show Go p.tables e below _ (T.setTop (mkF m 11 #[.val (.int p1), .val (.ref w_VALUES), .val (.int (10 : Int32)), .val (.int (1 : Int32)), .val (.ref w_TYPE_PARAMETER_TARGET)] [(.int (10 : Int32)), (.int (1 : Int32))]))
    refine own_go (fun t k => XS.icmpNo X.here hx rfl (hb hby d1_11) rfl (XT.ii_ge_f (by decide)) k) ?_
    show Go p.tables e below _ (T.setTop (mkF m 14 #[.val (.int p1), .val (.ref w_VALUES), .val (.int (10 : Int32)), .val (.int (1 : Int32)), .val (.ref w_TYPE_PARAMETER_TARGET)] []))
    refine own_go (fun t k => XS.aloadN X.here hx rfl (hb hby d1_14) rfl rfl k) ?_
    show Go p.tables e below _ (T.setTop (mkF m 15 #[.val (.int p1), .val (.ref w_VALUES), .val (.int (10 : Int32)), .val (.int (1 : Int32)), .val (.ref w_TYPE_PARAMETER_TARGET)] [(.ref w_VALUES)]))
    refine own_go (fun t k => XS.iloadN X.here hx rfl (hb hby d1_15) rfl k) ?_
    show Go p.tables e below _ (T.setTop (mkF m 16 #[.val (.int p1), .val (.ref w_VALUES), .val (.int (10 : Int32)), .val (.int (1 : Int32)), .val (.ref w_TYPE_PARAMETER_TARGET)] [(.int (1 : Int32)), (.ref w_VALUES)]))
    refine own_go (fun t k => X.aaload hx (j := (1 : Int32)) (v := (.ref w_SUPERTYPE_TARGET)) (by rw [e']; exact Ar.1) (State.isArrayOf_alike hZ.alike Ar.2.1) rfl Ar.2.2 At1.1 At1.2 (g := (mkF m 16 #[.val (.int p1), .val (.ref w_VALUES), .val (.int (10 : Int32)), .val (.int (1 : Int32)), .val (.ref w_TYPE_PARAMETER_TARGET)] [(.int (1 : Int32)), (.ref w_VALUES)])) rfl rfl (hb hby d1_16) t k) ?_
    show Go p.tables e below _ (T.setTop (mkF m 17 #[.val (.int p1), .val (.ref w_VALUES), .val (.int (10 : Int32)), .val (.int (1 : Int32)), .val (.ref w_TYPE_PARAMETER_TARGET)] [(.ref w_SUPERTYPE_TARGET)]))
    refine own_go (fun t k => XS.astore X.here hx rfl (hb hby d1_17) rfl rfl (l' := #[.val (.int p1), .val (.ref w_VALUES), .val (.int (10 : Int32)), .val (.int (1 : Int32)), .val (.ref w_SUPERTYPE_TARGET)]) rfl k) ?_
    show Go p.tables e below _ (T.setTop (mkF m 19 #[.val (.int p1), .val (.ref w_VALUES), .val (.int (10 : Int32)), .val (.int (1 : Int32)), .val (.ref w_SUPERTYPE_TARGET)] []))
    refine own_go (fun t k => XS.iloadN X.here hx rfl (hb hby d1_19) rfl k) ?_
    show Go p.tables e below _ (T.setTop (mkF m 20 #[.val (.int p1), .val (.ref w_VALUES), .val (.int (10 : Int32)), .val (.int (1 : Int32)), .val (.ref w_SUPERTYPE_TARGET)] [(.int p1)]))
    refine own_go (fun t k => XS.aload X.here hx rfl (hb hby d1_20) rfl rfl k) ?_
    show Go p.tables e below _ (T.setTop (mkF m 22 #[.val (.int p1), .val (.ref w_VALUES), .val (.int (10 : Int32)), .val (.int (1 : Int32)), .val (.ref w_SUPERTYPE_TARGET)] [(.ref w_SUPERTYPE_TARGET), (.int p1)]))
    obtain ⟨T34, X34, e34, st34⟩ := getF X hx hZ hown (host := "") (Or.inl (hw _ (List.mem_of_getElem? (i := 7) rfl))) Via.refl e' F_SUPERTYPE_TARGET_firstType (g := (mkF m 22 #[.val (.int p1), .val (.ref w_VALUES), .val (.int (10 : Int32)), .val (.int (1 : Int32)), .val (.ref w_SUPERTYPE_TARGET)] [(.ref w_SUPERTYPE_TARGET), (.int p1)])) rfl rfl (hb hby d1_22)
    refine own_go (fun t k => st34 t k) ?_
    show Go p.tables e below _ (T34.setTop (mkF m 25 #[.val (.int p1), .val (.ref w_VALUES), .val (.int (10 : Int32)), .val (.int (1 : Int32)), .val (.ref w_SUPERTYPE_TARGET)] [(.int (16 : Int32)), (.int p1)]))
    by_cases hc35 : p1 < (16 : Int32)
    · refine own_go (fun t k => XS.icmpYes X34.here hx rfl (pc0 := 25) (pc' := 40) rfl (hb hby d1_25) rfl (XT.ii_lt_t hc35) (by decide) (by decide) k) ?_
      show Go p.tables e below _ (T34.setTop (mkF m 40 #[.val (.int p1), .val (.ref w_VALUES), .val (.int (10 : Int32)), .val (.int (1 : Int32)), .val (.ref w_SUPERTYPE_TARGET)] []))
      refine own_go (fun t k => XS.iinc X34.here hx rfl (hb hby d1_40) rfl (l' := #[.val (.int p1), .val (.ref w_VALUES), .val (.int (10 : Int32)), .val (.int (2 : Int32)), .val (.ref w_SUPERTYPE_TARGET)]) rfl k) ?_
      show Go p.tables e below _ (T34.setTop (mkF m 43 #[.val (.int p1), .val (.ref w_VALUES), .val (.int (10 : Int32)), .val (.int (2 : Int32)), .val (.ref w_SUPERTYPE_TARGET)] []))
      refine own_go (fun t k => XS.goto X34.here hx rfl (pc0 := 43) (pc' := 9) rfl (hb hby d1_43) (by decide) (by decide) k) ?_
      show Go p.tables e below _ (T34.setTop (mkF m 9 #[.val (.int p1), .val (.ref w_VALUES), .val (.int (10 : Int32)), .val (.int (2 : Int32)), .val (.ref w_SUPERTYPE_TARGET)] []))
      exact K2 T34 X34 e34 g0 (by have j1 :=  (own_lt (x := p1) (k := 16) (n := 16) rfl).mp hc35; omega)
    · refine own_go (fun t k => XS.icmpNo X34.here hx rfl (hb hby d1_25) rfl (XT.ii_lt_f hc35) k) ?_
      show Go p.tables e below _ (T34.setTop (mkF m 28 #[.val (.int p1), .val (.ref w_VALUES), .val (.int (10 : Int32)), .val (.int (1 : Int32)), .val (.ref w_SUPERTYPE_TARGET)] []))
      refine own_go (fun t k => XS.iloadN X34.here hx rfl (hb hby d1_28) rfl k) ?_
      show Go p.tables e below _ (T34.setTop (mkF m 29 #[.val (.int p1), .val (.ref w_VALUES), .val (.int (10 : Int32)), .val (.int (1 : Int32)), .val (.ref w_SUPERTYPE_TARGET)] [(.int p1)]))
      refine own_go (fun t k => XS.aload X34.here hx rfl (hb hby d1_29) rfl rfl k) ?_
      show Go p.tables e below _ (T34.setTop (mkF m 31 #[.val (.int p1), .val (.ref w_VALUES), .val (.int (10 : Int32)), .val (.int (1 : Int32)), .val (.ref w_SUPERTYPE_TARGET)] [(.ref w_SUPERTYPE_TARGET), (.int p1)]))
      obtain ⟨T36, X36, e36, st36⟩ := getF X34 hx hZ hown (host := "") (Or.inl (hw _ (List.mem_of_getElem? (i := 9) rfl))) Via.refl e34 F_SUPERTYPE_TARGET_lastType (g := (mkF m 31 #[.val (.int p1), .val (.ref w_VALUES), .val (.int (10 : Int32)), .val (.int (1 : Int32)), .val (.ref w_SUPERTYPE_TARGET)] [(.ref w_SUPERTYPE_TARGET), (.int p1)])) rfl rfl (hb hby d1_31)
      refine own_go (fun t k => st36 t k) ?_
      show Go p.tables e below _ (T36.setTop (mkF m 34 #[.val (.int p1), .val (.ref w_VALUES), .val (.int (10 : Int32)), .val (.int (1 : Int32)), .val (.ref w_SUPERTYPE_TARGET)] [(.int (16 : Int32)), (.int p1)]))
      by_cases hc37 : (16 : Int32) < p1
      · refine own_go (fun t k => XS.icmpYes X36.here hx rfl (pc0 := 34) (pc' := 40) rfl (hb hby d1_34) rfl (XT.ii_gt_t hc37) (by decide) (by decide) k) ?_
        show Go p.tables e below _ (T36.setTop (mkF m 40 #[.val (.int p1), .val (.ref w_VALUES), .val (.int (10 : Int32)), .val (.int (1 : Int32)), .val (.ref w_SUPERTYPE_TARGET)] []))
        refine own_go (fun t k => XS.iinc X36.here hx rfl (hb hby d1_40) rfl (l' := #[.val (.int p1), .val (.ref w_VALUES), .val (.int (10 : Int32)), .val (.int (2 : Int32)), .val (.ref w_SUPERTYPE_TARGET)]) rfl k) ?_
        show Go p.tables e below _ (T36.setTop (mkF m 43 #[.val (.int p1), .val (.ref w_VALUES), .val (.int (10 : Int32)), .val (.int (2 : Int32)), .val (.ref w_SUPERTYPE_TARGET)] []))
        refine own_go (fun t k => XS.goto X36.here hx rfl (pc0 := 43) (pc' := 9) rfl (hb hby d1_43) (by decide) (by decide) k) ?_
        show Go p.tables e below _ (T36.setTop (mkF m 9 #[.val (.int p1), .val (.ref w_VALUES), .val (.int (10 : Int32)), .val (.int (2 : Int32)), .val (.ref w_SUPERTYPE_TARGET)] []))
        exact K2 T36 X36 e36 g0 (by have j1 := mt (own_lt (x := p1) (k := 16) (n := 16) rfl).mpr hc35; have j2 :=  (own_gt (x := p1) (k := 16) (n := 16) rfl).mp hc37; omega)
      · refine own_go (fun t k => XS.icmpNo X36.here hx rfl (hb hby d1_34) rfl (XT.ii_gt_f hc37) k) ?_
        show Go p.tables e below _ (T36.setTop (mkF m 37 #[.val (.int p1), .val (.ref w_VALUES), .val (.int (10 : Int32)), .val (.int (1 : Int32)), .val (.ref w_SUPERTYPE_TARGET)] []))
        refine own_go (fun t k => XS.aload X36.here hx rfl (hb hby d1_37) rfl rfl k) ?_
        show Go p.tables e below _ (T36.setTop (mkF m 39 #[.val (.int p1), .val (.ref w_VALUES), .val (.int (10 : Int32)), .val (.int (1 : Int32)), .val (.ref w_SUPERTYPE_TARGET)] [(.ref w_SUPERTYPE_TARGET)]))
        exact own_ret X36 hx hlk Bd.returns rfl (Or.inr (Or.inr (Or.inr (Or.inr ⟨rfl, rfl, rfl⟩)))) (hb hby d1_39) ⟨congrArg some (show Value.ref w_SUPERTYPE_TARGET = own_exp w_TYPE_PARAMETER_TARGET w_SUPERTYPE_TARGET w_TYPE_PARAMETER_BOUND_TARGET w_EMPTY_TARGET w_FORMAL_PARAMETER_TARGET w_THROWS_TARGET w_LOCALVAR_TARGET w_CATCH_TARGET w_OFFSET_TARGET w_TYPE_ARGUMENT_TARGET p1.toInt by have j1 := mt (own_lt (x := p1) (k := 16) (n := 16) rfl).mpr hc35; have j2 := mt (own_gt (x := p1) (k := 16) (n := 16) rfl).mpr hc37; unfold own_exp; (repeat' split); all_goals first | rfl | (exfalso; omega)), N0, e36⟩ (by decide) (by decide)
  have K0 : ∀ T, Stand p l e ({ frames := 0, cells := 0, slots := 0, locals := 0 } : Room) s m #[(.int p1)] below meth c T [] 0 0 → T.heap = h0 → Go p.tables e below (Fin s below (PQ (own_exp w_TYPE_PARAMETER_TARGET w_SUPERTYPE_TARGET w_TYPE_PARAMETER_BOUND_TARGET w_EMPTY_TARGET w_FORMAL_PARAMETER_TARGET w_THROWS_TARGET w_LOCALVAR_TARGET w_CATCH_TARGET w_OFFSET_TARGET w_TYPE_ARGUMENT_TARGET p1.toInt) h0 n0) ({ frames := 0, cells := 0, slots := 0, locals := 0 } : Room).cells ({ frames := 0, cells := 0, slots := 0, locals := 0 } : Room).slots) (T.setTop (mkF m 9 #[.val (.int p1), .val (.ref w_VALUES), .val (.int (10 : Int32)), .val (.int (0 : Int32)), .unset] [])) := by
    intro T X e' 
    show Go p.tables e below _ (T.setTop (mkF m 9 #[.val (.int p1), .val (.ref w_VALUES), .val (.int (10 : Int32)), .val (.int (0 : Int32)), .unset] []))
    refine own_go (fun t k => XS.iloadN X.here hx rfl (hb hby d1_9) rfl k) ?_
    show Go p.tables e below _ (T.setTop (mkF m 10 #[.val (.int p1), .val (.ref w_VALUES), .val (.int (10 : Int32)), .val (.int (0 : Int32)), .unset] [(.int (0 : Int32))]))
    refine own_go (fun t k => XS.iloadN X.here hx rfl (hb hby d1_10) rfl k) ?_
    show Go p.tables e below _ (T.setTop (mkF m 11 #[.val (.int p1), .val (.ref w_VALUES), .val (.int (10 : Int32)), .val (.int (0 : Int32)), .unset] [(.int (10 : Int32)), (.int (0 : Int32))]))
    refine own_go (fun t k => XS.icmpNo X.here hx rfl (hb hby d1_11) rfl (XT.ii_ge_f (by decide)) k) ?_
    show Go p.tables e below _ (T.setTop (mkF m 14 #[.val (.int p1), .val (.ref w_VALUES), .val (.int (10 : Int32)), .val (.int (0 : Int32)), .unset] []))
    refine own_go (fun t k => XS.aloadN X.here hx rfl (hb hby d1_14) rfl rfl k) ?_
    show Go p.tables e below _ (T.setTop (mkF m 15 #[.val (.int p1), .val (.ref w_VALUES), .val (.int (10 : Int32)), .val (.int (0 : Int32)), .unset] [(.ref w_VALUES)]))
    refine own_go (fun t k => XS.iloadN X.here hx rfl (hb hby d1_15) rfl k) ?_
    show Go p.tables e below _ (T.setTop (mkF m 16 #[.val (.int p1), .val (.ref w_VALUES), .val (.int (10 : Int32)), .val (.int (0 : Int32)), .unset] [(.int (0 : Int32)), (.ref w_VALUES)]))
    refine own_go (fun t k => X.aaload hx (j := (0 : Int32)) (v := (.ref w_TYPE_PARAMETER_TARGET)) (by rw [e']; exact Ar.1) (State.isArrayOf_alike hZ.alike Ar.2.1) rfl Ar.2.2 At0.1 At0.2 (g := (mkF m 16 #[.val (.int p1), .val (.ref w_VALUES), .val (.int (10 : Int32)), .val (.int (0 : Int32)), .unset] [(.int (0 : Int32)), (.ref w_VALUES)])) rfl rfl (hb hby d1_16) t k) ?_
    show Go p.tables e below _ (T.setTop (mkF m 17 #[.val (.int p1), .val (.ref w_VALUES), .val (.int (10 : Int32)), .val (.int (0 : Int32)), .unset] [(.ref w_TYPE_PARAMETER_TARGET)]))
    refine own_go (fun t k => XS.astore X.here hx rfl (hb hby d1_17) rfl rfl (l' := #[.val (.int p1), .val (.ref w_VALUES), .val (.int (10 : Int32)), .val (.int (0 : Int32)), .val (.ref w_TYPE_PARAMETER_TARGET)]) rfl k) ?_
    show Go p.tables e below _ (T.setTop (mkF m 19 #[.val (.int p1), .val (.ref w_VALUES), .val (.int (10 : Int32)), .val (.int (0 : Int32)), .val (.ref w_TYPE_PARAMETER_TARGET)] []))
    refine own_go (fun t k => XS.iloadN X.here hx rfl (hb hby d1_19) rfl k) ?_
    show Go p.tables e below _ (T.setTop (mkF m 20 #[.val (.int p1), .val (.ref w_VALUES), .val (.int (10 : Int32)), .val (.int (0 : Int32)), .val (.ref w_TYPE_PARAMETER_TARGET)] [(.int p1)]))
    refine own_go (fun t k => XS.aload X.here hx rfl (hb hby d1_20) rfl rfl k) ?_
    show Go p.tables e below _ (T.setTop (mkF m 22 #[.val (.int p1), .val (.ref w_VALUES), .val (.int (10 : Int32)), .val (.int (0 : Int32)), .val (.ref w_TYPE_PARAMETER_TARGET)] [(.ref w_TYPE_PARAMETER_TARGET), (.int p1)]))
    obtain ⟨T38, X38, e38, st38⟩ := getF X hx hZ hown (host := "") (Or.inl (hw _ (List.mem_of_getElem? (i := 7) rfl))) Via.refl e' F_TYPE_PARAMETER_TARGET_firstType (g := (mkF m 22 #[.val (.int p1), .val (.ref w_VALUES), .val (.int (10 : Int32)), .val (.int (0 : Int32)), .val (.ref w_TYPE_PARAMETER_TARGET)] [(.ref w_TYPE_PARAMETER_TARGET), (.int p1)])) rfl rfl (hb hby d1_22)
    refine own_go (fun t k => st38 t k) ?_
    show Go p.tables e below _ (T38.setTop (mkF m 25 #[.val (.int p1), .val (.ref w_VALUES), .val (.int (10 : Int32)), .val (.int (0 : Int32)), .val (.ref w_TYPE_PARAMETER_TARGET)] [(.int (0 : Int32)), (.int p1)]))
    by_cases hc39 : p1 < (0 : Int32)
    · refine own_go (fun t k => XS.icmpYes X38.here hx rfl (pc0 := 25) (pc' := 40) rfl (hb hby d1_25) rfl (XT.ii_lt_t hc39) (by decide) (by decide) k) ?_
      show Go p.tables e below _ (T38.setTop (mkF m 40 #[.val (.int p1), .val (.ref w_VALUES), .val (.int (10 : Int32)), .val (.int (0 : Int32)), .val (.ref w_TYPE_PARAMETER_TARGET)] []))
      refine own_go (fun t k => XS.iinc X38.here hx rfl (hb hby d1_40) rfl (l' := #[.val (.int p1), .val (.ref w_VALUES), .val (.int (10 : Int32)), .val (.int (1 : Int32)), .val (.ref w_TYPE_PARAMETER_TARGET)]) rfl k) ?_
      show Go p.tables e below _ (T38.setTop (mkF m 43 #[.val (.int p1), .val (.ref w_VALUES), .val (.int (10 : Int32)), .val (.int (1 : Int32)), .val (.ref w_TYPE_PARAMETER_TARGET)] []))
      refine own_go (fun t k => XS.goto X38.here hx rfl (pc0 := 43) (pc' := 9) rfl (hb hby d1_43) (by decide) (by decide) k) ?_
      show Go p.tables e below _ (T38.setTop (mkF m 9 #[.val (.int p1), .val (.ref w_VALUES), .val (.int (10 : Int32)), .val (.int (1 : Int32)), .val (.ref w_TYPE_PARAMETER_TARGET)] []))
      exact K1 T38 X38 e38  (by have j1 :=  (own_lt (x := p1) (k := 0) (n := 0) rfl).mp hc39; omega)
    · refine own_go (fun t k => XS.icmpNo X38.here hx rfl (hb hby d1_25) rfl (XT.ii_lt_f hc39) k) ?_
      show Go p.tables e below _ (T38.setTop (mkF m 28 #[.val (.int p1), .val (.ref w_VALUES), .val (.int (10 : Int32)), .val (.int (0 : Int32)), .val (.ref w_TYPE_PARAMETER_TARGET)] []))
      refine own_go (fun t k => XS.iloadN X38.here hx rfl (hb hby d1_28) rfl k) ?_
      show Go p.tables e below _ (T38.setTop (mkF m 29 #[.val (.int p1), .val (.ref w_VALUES), .val (.int (10 : Int32)), .val (.int (0 : Int32)), .val (.ref w_TYPE_PARAMETER_TARGET)] [(.int p1)]))
      refine own_go (fun t k => XS.aload X38.here hx rfl (hb hby d1_29) rfl rfl k) ?_
      show Go p.tables e below _ (T38.setTop (mkF m 31 #[.val (.int p1), .val (.ref w_VALUES), .val (.int (10 : Int32)), .val (.int (0 : Int32)), .val (.ref w_TYPE_PARAMETER_TARGET)] [(.ref w_TYPE_PARAMETER_TARGET), (.int p1)]))
      obtain ⟨T40, X40, e40, st40⟩ := getF X38 hx hZ hown (host := "") (Or.inl (hw _ (List.mem_of_getElem? (i := 9) rfl))) Via.refl e38 F_TYPE_PARAMETER_TARGET_lastType (g := (mkF m 31 #[.val (.int p1), .val (.ref w_VALUES), .val (.int (10 : Int32)), .val (.int (0 : Int32)), .val (.ref w_TYPE_PARAMETER_TARGET)] [(.ref w_TYPE_PARAMETER_TARGET), (.int p1)])) rfl rfl (hb hby d1_31)
      refine own_go (fun t k => st40 t k) ?_
      show Go p.tables e below _ (T40.setTop (mkF m 34 #[.val (.int p1), .val (.ref w_VALUES), .val (.int (10 : Int32)), .val (.int (0 : Int32)), .val (.ref w_TYPE_PARAMETER_TARGET)] [(.int (1 : Int32)), (.int p1)]))
      by_cases hc41 : (1 : Int32) < p1
      · refine own_go (fun t k => XS.icmpYes X40.here hx rfl (pc0 := 34) (pc' := 40) rfl (hb hby d1_34) rfl (XT.ii_gt_t hc41) (by decide) (by decide) k) ?_
        show Go p.tables e below _ (T40.setTop (mkF m 40 #[.val (.int p1), .val (.ref w_VALUES), .val (.int (10 : Int32)), .val (.int (0 : Int32)), .val (.ref w_TYPE_PARAMETER_TARGET)] []))
        refine own_go (fun t k => XS.iinc X40.here hx rfl (hb hby d1_40) rfl (l' := #[.val (.int p1), .val (.ref w_VALUES), .val (.int (10 : Int32)), .val (.int (1 : Int32)), .val (.ref w_TYPE_PARAMETER_TARGET)]) rfl k) ?_
        show Go p.tables e below _ (T40.setTop (mkF m 43 #[.val (.int p1), .val (.ref w_VALUES), .val (.int (10 : Int32)), .val (.int (1 : Int32)), .val (.ref w_TYPE_PARAMETER_TARGET)] []))
        refine own_go (fun t k => XS.goto X40.here hx rfl (pc0 := 43) (pc' := 9) rfl (hb hby d1_43) (by decide) (by decide) k) ?_
        show Go p.tables e below _ (T40.setTop (mkF m 9 #[.val (.int p1), .val (.ref w_VALUES), .val (.int (10 : Int32)), .val (.int (1 : Int32)), .val (.ref w_TYPE_PARAMETER_TARGET)] []))
        exact K1 T40 X40 e40  (by have j1 := mt (own_lt (x := p1) (k := 0) (n := 0) rfl).mpr hc39; have j2 :=  (own_gt (x := p1) (k := 1) (n := 1) rfl).mp hc41; omega)
      · refine own_go (fun t k => XS.icmpNo X40.here hx rfl (hb hby d1_34) rfl (XT.ii_gt_f hc41) k) ?_
        show Go p.tables e below _ (T40.setTop (mkF m 37 #[.val (.int p1), .val (.ref w_VALUES), .val (.int (10 : Int32)), .val (.int (0 : Int32)), .val (.ref w_TYPE_PARAMETER_TARGET)] []))
        refine own_go (fun t k => XS.aload X40.here hx rfl (hb hby d1_37) rfl rfl k) ?_
        show Go p.tables e below _ (T40.setTop (mkF m 39 #[.val (.int p1), .val (.ref w_VALUES), .val (.int (10 : Int32)), .val (.int (0 : Int32)), .val (.ref w_TYPE_PARAMETER_TARGET)] [(.ref w_TYPE_PARAMETER_TARGET)]))
        exact own_ret X40 hx hlk Bd.returns rfl (Or.inr (Or.inr (Or.inr (Or.inr ⟨rfl, rfl, rfl⟩)))) (hb hby d1_39) ⟨congrArg some (show Value.ref w_TYPE_PARAMETER_TARGET = own_exp w_TYPE_PARAMETER_TARGET w_SUPERTYPE_TARGET w_TYPE_PARAMETER_BOUND_TARGET w_EMPTY_TARGET w_FORMAL_PARAMETER_TARGET w_THROWS_TARGET w_LOCALVAR_TARGET w_CATCH_TARGET w_OFFSET_TARGET w_TYPE_ARGUMENT_TARGET p1.toInt by have j1 := mt (own_lt (x := p1) (k := 0) (n := 0) rfl).mpr hc39; have j2 := mt (own_gt (x := p1) (k := 1) (n := 1) rfl).mpr hc41; unfold own_exp; (repeat' split); all_goals first | rfl | (exfalso; omega)), N0, e40⟩ (by decide) (by decide)
  exact K0 T1 X1 e1
theorem pd_0 : parseMethodDescriptor site_20.desc = some ⟨[.int], some (.object own_C)⟩ := by decide +kernel
theorem ef_rm_law (m : MethodId) (x0 : Int32) (x1 : Int32) : entryFrame m #[(.int x0), (.int x1)] maxLocals = mkF m 0 #[.val (.int x0), .val (.int x1), .unset, .unset] [] := by first | (simp [entryFrame, mkF, argsToLocals, Value.category, maxLocals]; done) | rfl
set_option maxRecDepth 65536 in
set_option maxHeartbeats 40000000 in
theorem rm_law (l : Launch) (Z : State) (a0 : Array Value) (hw : ∀ d ∈ tables_1, d.before a0 Z = true) (ws : List Jvm.Cond) (p1 p2 : Int32) (w_TYPE_PARAMETER_TARGET w_SUPERTYPE_TARGET w_TYPE_PARAMETER_BOUND_TARGET w_EMPTY_TARGET w_FORMAL_PARAMETER_TARGET w_THROWS_TARGET w_LOCALVAR_TARGET w_CATCH_TARGET w_OFFSET_TARGET w_TYPE_ARGUMENT_TARGET : Addr) (w_VALUES : Addr) (cl : Cell) (h0 : Heap) (n0 : Nat) (SS : own_S Z h0 w_TYPE_PARAMETER_TARGET w_SUPERTYPE_TARGET w_TYPE_PARAMETER_BOUND_TARGET w_EMPTY_TARGET w_FORMAL_PARAMETER_TARGET w_THROWS_TARGET w_LOCALVAR_TARGET w_CATCH_TARGET w_OFFSET_TARGET w_TYPE_ARGUMENT_TARGET) (OO : own_O Z h0 w_TYPE_PARAMETER_TARGET w_SUPERTYPE_TARGET w_TYPE_PARAMETER_BOUND_TARGET w_EMPTY_TARGET w_FORMAL_PARAMETER_TARGET w_THROWS_TARGET w_LOCALVAR_TARGET w_CATCH_TARGET w_OFFSET_TARGET w_TYPE_ARGUMENT_TARGET) (S_VALUES : Sta Z h0 own_C "VALUES" own_A (.ref w_VALUES)) (Ar : Arr Z h0 w_VALUES cl (.object own_C)) (Len : cl.slots.size = 10 ∧ cl.slots.size.toInt32 = 10) (At0 : ¬ ((0 : Int32) < 0 ∨ cl.slots.size ≤ (0 : Int32).toNatClampNeg) ∧ cl.slots[(0 : Int32).toNatClampNeg]? = some (.ref w_TYPE_PARAMETER_TARGET)) (At1 : ¬ ((1 : Int32) < 0 ∨ cl.slots.size ≤ (1 : Int32).toNatClampNeg) ∧ cl.slots[(1 : Int32).toNatClampNeg]? = some (.ref w_SUPERTYPE_TARGET)) (At2 : ¬ ((2 : Int32) < 0 ∨ cl.slots.size ≤ (2 : Int32).toNatClampNeg) ∧ cl.slots[(2 : Int32).toNatClampNeg]? = some (.ref w_TYPE_PARAMETER_BOUND_TARGET)) (At3 : ¬ ((3 : Int32) < 0 ∨ cl.slots.size ≤ (3 : Int32).toNatClampNeg) ∧ cl.slots[(3 : Int32).toNatClampNeg]? = some (.ref w_EMPTY_TARGET)) (At4 : ¬ ((4 : Int32) < 0 ∨ cl.slots.size ≤ (4 : Int32).toNatClampNeg) ∧ cl.slots[(4 : Int32).toNatClampNeg]? = some (.ref w_FORMAL_PARAMETER_TARGET)) (At5 : ¬ ((5 : Int32) < 0 ∨ cl.slots.size ≤ (5 : Int32).toNatClampNeg) ∧ cl.slots[(5 : Int32).toNatClampNeg]? = some (.ref w_THROWS_TARGET)) (At6 : ¬ ((6 : Int32) < 0 ∨ cl.slots.size ≤ (6 : Int32).toNatClampNeg) ∧ cl.slots[(6 : Int32).toNatClampNeg]? = some (.ref w_LOCALVAR_TARGET)) (At7 : ¬ ((7 : Int32) < 0 ∨ cl.slots.size ≤ (7 : Int32).toNatClampNeg) ∧ cl.slots[(7 : Int32).toNatClampNeg]? = some (.ref w_CATCH_TARGET)) (At8 : ¬ ((8 : Int32) < 0 ∨ cl.slots.size ≤ (8 : Int32).toNatClampNeg) ∧ cl.slots[(8 : Int32).toNatClampNeg]? = some (.ref w_OFFSET_TARGET)) (At9 : ¬ ((9 : Int32) < 0 ∨ cl.slots.size ≤ (9 : Int32).toNatClampNeg) ∧ cl.slots[(9 : Int32).toNatClampNeg]? = some (.ref w_TYPE_ARGUMENT_TARGET)) :
    MetFree l x (head1 (Jvm.Cond.code x code maxLocals ret :: ws) room_1) (fun aa U => aa = #[(.int p1), (.int p2)] ∧ Z.Warmed39 U.vm ∧ U.heap = h0) (fun _ _ _ _ _ => True) (fun _ U o U' => ∃ v L, o = .returned v ∧ PQ (.int 1) h0 n0 v U'.heap L ∧ FrameEnd U o U' L room_1.cells room_1.slots) := by
  refine MetFree.of_bodySF (plainFor_of_name pn_0) hisR ?_
  intro p e s m args below meth c s₁ Bd hml0 hP hK
  obtain ⟨rfl, hZ, hh⟩ := hP
  have hx := Bd.exec
  have hby := Bd.bytes
  have hlk := Bd.notSynchronized
  have hml : c.maxLocals = 4 := hml0
  have hown : s.vm.findClass x.cls = some m.cls := by have q := findClass_of_methodNamed Bd.named; exact q
  have X0 : Stand p l e room_1 s m #[(.int p1), (.int p2)] below meth c s₁ [] 0 0 := Stand.of_body Bd
  have e0 : s₁.heap = h0 := by rw [← hh, Bd.state]; rfl
  have N0 := Fr.nil n0
  show Go p.tables e below (Fin s below (PQ (.int 1) h0 n0) room_1.cells room_1.slots) (s₁.setTop (entryFrame m #[(.int p1), (.int p2)] maxLocals))
  refine own_go (fun t k => castTop (ef_rm_law m p1 p2) k) ?_
  show Go p.tables e below _ (s₁.setTop (mkF m 0 #[.val (.int p1), .val (.int p2), .unset, .unset] []))
  refine own_go (fun t k => XS.iloadN X0.here hx rfl (hb hby at_0) rfl k) ?_
  show Go p.tables e below _ (s₁.setTop (mkF m 1 #[.val (.int p1), .val (.int p2), .unset, .unset] [(.int p2)]))
  refine own_go (fun t k => XS.iconst X0.here hx rfl (hb hby at_1) k) ?_
  show Go p.tables e below _ (s₁.setTop (mkF m 2 #[.val (.int p1), .val (.int p2), .unset, .unset] [(.int (1 : Int32)), (.int p2)]))
  refine own_go (fun t k => XS.iand X0.here hx rfl (hb hby at_2) rfl k) ?_
  show Go p.tables e below _ (s₁.setTop (mkF m 3 #[.val (.int p1), .val (.int p2), .unset, .unset] [(.int (p2 &&& (1 : Int32)))]))
  by_cases hc1 : (p2 &&& (1 : Int32)) = 0
  · refine own_go (fun t k => XS.ifYes X0.here hx rfl (pc0 := 3) (pc' := 10) rfl (hb hby at_3) rfl (XT.i0_eq_t hc1) (by decide) (by decide) k) ?_
    show Go p.tables e below _ (s₁.setTop (mkF m 10 #[.val (.int p1), .val (.int p2), .unset, .unset] []))
    refine own_go (fun t k => XS.iloadN X0.here hx rfl (hb hby at_10) rfl k) ?_
    show Go p.tables e below _ (s₁.setTop (mkF m 11 #[.val (.int p1), .val (.int p2), .unset, .unset] [(.int p1)]))
    refine own_go (fun t k => XS.sipush X0.here hx rfl (hb hby at_11) k) ?_
    show Go p.tables e below _ (s₁.setTop (mkF m 14 #[.val (.int p1), .val (.int p2), .unset, .unset] [(.int (255 : Int32)), (.int p1)]))
    refine own_go (fun t k => XS.iand X0.here hx rfl (hb hby at_14) rfl k) ?_
    show Go p.tables e below _ (s₁.setTop (mkF m 15 #[.val (.int p1), .val (.int p2), .unset, .unset] [(.int (p1 &&& (255 : Int32)))]))
    refine own_go (fun t k => XS.bipush X0.here hx rfl (hb hby at_15) k) ?_
    show Go p.tables e below _ (s₁.setTop (mkF m 17 #[.val (.int p1), .val (.int p2), .unset, .unset] [(.int (32 : Int32)), (.int (p1 &&& (255 : Int32)))]))
    refine own_go (fun t k => XS.isub X0.here hx rfl (hb hby at_17) rfl k) ?_
    show Go p.tables e below _ (s₁.setTop (mkF m 18 #[.val (.int p1), .val (.int p2), .unset, .unset] [(.int ((p1 &&& (255 : Int32)) - (32 : Int32)))]))
    refine own_go (fun t k => XS.istoreN X0.here hx rfl (hb hby at_18) rfl (l' := #[.val (.int p1), .val (.int p2), .val (.int ((p1 &&& (255 : Int32)) - (32 : Int32))), .unset]) rfl k) ?_
    show Go p.tables e below _ (s₁.setTop (mkF m 19 #[.val (.int p1), .val (.int p2), .val (.int ((p1 &&& (255 : Int32)) - (32 : Int32))), .unset] []))
    refine own_go (fun t k => XS.iloadN X0.here hx rfl (hb hby at_19) rfl k) ?_
    show Go p.tables e below _ (s₁.setTop (mkF m 20 #[.val (.int p1), .val (.int p2), .val (.int ((p1 &&& (255 : Int32)) - (32 : Int32))), .unset] [(.int ((p1 &&& (255 : Int32)) - (32 : Int32)))]))
    obtain ⟨v2, _, ⟨T2, L2, k2, n2⟩, -, X2, ⟨Lc2, hQ2, l2, y2, z2⟩, st2⟩ := Jvm.LawKit.callS X0 hx (y := site_20) hown (mvT hZ (hw _ (List.mem_of_getElem? (i := 0) rfl))) (mvT hZ (hw _ (List.mem_of_getElem? (i := 1) rfl))) (mvT hZ (hw _ (List.mem_of_getElem? (i := 2) rfl))) (mvT hZ (hw _ (List.mem_of_getElem? (i := 3) rfl))) (by decide) (backOf (W := 0) (rm_of l Z a0 hw [] ((p1 &&& (255 : Int32)) - (32 : Int32)) w_TYPE_PARAMETER_TARGET w_SUPERTYPE_TARGET w_TYPE_PARAMETER_BOUND_TARGET w_EMPTY_TARGET w_FORMAL_PARAMETER_TARGET w_THROWS_TARGET w_LOCALVAR_TARGET w_CATCH_TARGET w_OFFSET_TARGET w_TYPE_ARGUMENT_TARGET w_VALUES cl h0 n0 SS OO S_VALUES Ar Len At0 At1 At2 At3 At4 At5 At6 At7 At8 At9) hZ (hw _ (List.mem_of_getElem? (i := 3) rfl)) (hw _ (List.mem_of_getElem? (i := 2) rfl)) (by decide) (by decide)) (g := (mkF m 20 #[.val (.int p1), .val (.int p2), .val (.int ((p1 &&& (255 : Int32)) - (32 : Int32))), .unset] [(.int ((p1 &&& (255 : Int32)) - (32 : Int32)))])) rfl (by rw [hml]; rfl) (argsL := [(.int ((p1 &&& (255 : Int32)) - (32 : Int32)))]) (rest := []) (lenOf pd_0 rfl) rfl (by show 2 * 0 + _ ≤ _; exact Nat.le_of_eq rfl) (hb hby at_20) (fun _ _ => ⟨rfl, e0, (by decide : 0 + 0 ≤ _), (by decide : 0 + 0 ≤ _)⟩)
    dsimp only [Pt.U, Pt.locs, Pt.cells, Pt.slots] at X2 l2 y2 z2 st2 hQ2
    subst l2 y2 z2
    obtain ⟨hv2, N2q, e2⟩ := hQ2
    subst hv2
    have N2 := Fr.app N0 N2q
    refine own_go (fun t k => st2 t k) ?_
    show Go p.tables e below _ (T2.setTop (mkF m 23 #[.val (.int p1), .val (.int p2), .val (.int ((p1 &&& (255 : Int32)) - (32 : Int32))), .unset] [(own_exp w_TYPE_PARAMETER_TARGET w_SUPERTYPE_TARGET w_TYPE_PARAMETER_BOUND_TARGET w_EMPTY_TARGET w_FORMAL_PARAMETER_TARGET w_THROWS_TARGET w_LOCALVAR_TARGET w_CATCH_TARGET w_OFFSET_TARGET w_TYPE_ARGUMENT_TARGET ((p1 &&& (255 : Int32)) - (32 : Int32)).toInt)]))
    refine own_go (fun t k => XT.astoreNS X2.here hx rfl (hb hby at_23) rfl (own_exp_ref w_TYPE_PARAMETER_TARGET w_SUPERTYPE_TARGET w_TYPE_PARAMETER_BOUND_TARGET w_EMPTY_TARGET w_FORMAL_PARAMETER_TARGET w_THROWS_TARGET w_LOCALVAR_TARGET w_CATCH_TARGET w_OFFSET_TARGET w_TYPE_ARGUMENT_TARGET ((p1 &&& (255 : Int32)) - (32 : Int32)).toInt) (XT.cat1 (own_exp_ref w_TYPE_PARAMETER_TARGET w_SUPERTYPE_TARGET w_TYPE_PARAMETER_BOUND_TARGET w_EMPTY_TARGET w_FORMAL_PARAMETER_TARGET w_THROWS_TARGET w_LOCALVAR_TARGET w_CATCH_TARGET w_OFFSET_TARGET w_TYPE_ARGUMENT_TARGET ((p1 &&& (255 : Int32)) - (32 : Int32)).toInt)) rfl (Or.inl rfl) k) ?_
    show Go p.tables e below _ (T2.setTop (mkF m 24 #[.val (.int p1), .val (.int p2), .val (.int ((p1 &&& (255 : Int32)) - (32 : Int32))), .val (own_exp w_TYPE_PARAMETER_TARGET w_SUPERTYPE_TARGET w_TYPE_PARAMETER_BOUND_TARGET w_EMPTY_TARGET w_FORMAL_PARAMETER_TARGET w_THROWS_TARGET w_LOCALVAR_TARGET w_CATCH_TARGET w_OFFSET_TARGET w_TYPE_ARGUMENT_TARGET ((p1 &&& (255 : Int32)) - (32 : Int32)).toInt)] []))
    refine own_go (fun t k => XS.aloadN X2.here hx rfl (hb hby at_24) rfl (own_exp_ref w_TYPE_PARAMETER_TARGET w_SUPERTYPE_TARGET w_TYPE_PARAMETER_BOUND_TARGET w_EMPTY_TARGET w_FORMAL_PARAMETER_TARGET w_THROWS_TARGET w_LOCALVAR_TARGET w_CATCH_TARGET w_OFFSET_TARGET w_TYPE_ARGUMENT_TARGET ((p1 &&& (255 : Int32)) - (32 : Int32)).toInt) k) ?_
    show Go p.tables e below _ (T2.setTop (mkF m 25 #[.val (.int p1), .val (.int p2), .val (.int ((p1 &&& (255 : Int32)) - (32 : Int32))), .val (own_exp w_TYPE_PARAMETER_TARGET w_SUPERTYPE_TARGET w_TYPE_PARAMETER_BOUND_TARGET w_EMPTY_TARGET w_FORMAL_PARAMETER_TARGET w_THROWS_TARGET w_LOCALVAR_TARGET w_CATCH_TARGET w_OFFSET_TARGET w_TYPE_ARGUMENT_TARGET ((p1 &&& (255 : Int32)) - (32 : Int32)).toInt)] [(own_exp w_TYPE_PARAMETER_TARGET w_SUPERTYPE_TARGET w_TYPE_PARAMETER_BOUND_TARGET w_EMPTY_TARGET w_FORMAL_PARAMETER_TARGET w_THROWS_TARGET w_LOCALVAR_TARGET w_CATCH_TARGET w_OFFSET_TARGET w_TYPE_ARGUMENT_TARGET ((p1 &&& (255 : Int32)) - (32 : Int32)).toInt)]))
    refine own_go (fun t k => XS.iloadN X2.here hx rfl (hb hby at_25) rfl k) ?_
    show Go p.tables e below _ (T2.setTop (mkF m 26 #[.val (.int p1), .val (.int p2), .val (.int ((p1 &&& (255 : Int32)) - (32 : Int32))), .val (own_exp w_TYPE_PARAMETER_TARGET w_SUPERTYPE_TARGET w_TYPE_PARAMETER_BOUND_TARGET w_EMPTY_TARGET w_FORMAL_PARAMETER_TARGET w_THROWS_TARGET w_LOCALVAR_TARGET w_CATCH_TARGET w_OFFSET_TARGET w_TYPE_ARGUMENT_TARGET ((p1 &&& (255 : Int32)) - (32 : Int32)).toInt)] [(.int ((p1 &&& (255 : Int32)) - (32 : Int32))), (own_exp w_TYPE_PARAMETER_TARGET w_SUPERTYPE_TARGET w_TYPE_PARAMETER_BOUND_TARGET w_EMPTY_TARGET w_FORMAL_PARAMETER_TARGET w_THROWS_TARGET w_LOCALVAR_TARGET w_CATCH_TARGET w_OFFSET_TARGET w_TYPE_ARGUMENT_TARGET ((p1 &&& (255 : Int32)) - (32 : Int32)).toInt)]))
    obtain ⟨v3, _, ⟨T3, L3, k3, n3⟩, -, X3, ⟨Lc3, hQ3, l3, y3, z3⟩, st3⟩ := Jvm.LawKit.callS X2 hx (y := site_26) hown (mvT hZ (hw _ (List.mem_of_getElem? (i := 11) rfl))) (mvT hZ (hw _ (List.mem_of_getElem? (i := 12) rfl))) (mvT hZ (hw _ (List.mem_of_getElem? (i := 13) rfl))) (mvT hZ (hw _ (List.mem_of_getElem? (i := 14) rfl))) (by decide) (backOf (W := 1) (rm_exp l Z a0 hw [] ((p1 &&& (255 : Int32)) - (32 : Int32)) w_TYPE_PARAMETER_TARGET w_SUPERTYPE_TARGET w_TYPE_PARAMETER_BOUND_TARGET w_EMPTY_TARGET w_FORMAL_PARAMETER_TARGET w_THROWS_TARGET w_LOCALVAR_TARGET w_CATCH_TARGET w_OFFSET_TARGET w_TYPE_ARGUMENT_TARGET h0 n0 SS) hZ (hw _ (List.mem_of_getElem? (i := 14) rfl)) (hw _ (List.mem_of_getElem? (i := 13) rfl)) (by decide) (by decide)) (g := (mkF m 26 #[.val (.int p1), .val (.int p2), .val (.int ((p1 &&& (255 : Int32)) - (32 : Int32))), .val (own_exp w_TYPE_PARAMETER_TARGET w_SUPERTYPE_TARGET w_TYPE_PARAMETER_BOUND_TARGET w_EMPTY_TARGET w_FORMAL_PARAMETER_TARGET w_THROWS_TARGET w_LOCALVAR_TARGET w_CATCH_TARGET w_OFFSET_TARGET w_TYPE_ARGUMENT_TARGET ((p1 &&& (255 : Int32)) - (32 : Int32)).toInt)] [(.int ((p1 &&& (255 : Int32)) - (32 : Int32))), (own_exp w_TYPE_PARAMETER_TARGET w_SUPERTYPE_TARGET w_TYPE_PARAMETER_BOUND_TARGET w_EMPTY_TARGET w_FORMAL_PARAMETER_TARGET w_THROWS_TARGET w_LOCALVAR_TARGET w_CATCH_TARGET w_OFFSET_TARGET w_TYPE_ARGUMENT_TARGET ((p1 &&& (255 : Int32)) - (32 : Int32)).toInt)])) rfl (by rw [hml]; rfl) (argsL := [(.int ((p1 &&& (255 : Int32)) - (32 : Int32)))]) (rest := [(own_exp w_TYPE_PARAMETER_TARGET w_SUPERTYPE_TARGET w_TYPE_PARAMETER_BOUND_TARGET w_EMPTY_TARGET w_FORMAL_PARAMETER_TARGET w_THROWS_TARGET w_LOCALVAR_TARGET w_CATCH_TARGET w_OFFSET_TARGET w_TYPE_ARGUMENT_TARGET ((p1 &&& (255 : Int32)) - (32 : Int32)).toInt)]) (lenOf pd_0 rfl) rfl (by show 2 * 0 + (List.map (fun v => v.category) [(own_exp w_TYPE_PARAMETER_TARGET w_SUPERTYPE_TARGET w_TYPE_PARAMETER_BOUND_TARGET w_EMPTY_TARGET w_FORMAL_PARAMETER_TARGET w_THROWS_TARGET w_LOCALVAR_TARGET w_CATCH_TARGET w_OFFSET_TARGET w_TYPE_ARGUMENT_TARGET ((p1 &&& (255 : Int32)) - (32 : Int32)).toInt)]).sum ≤ _; simp only [List.map_cons, List.map_nil, List.sum_cons, List.sum_nil, XT.cat1 (own_exp_ref w_TYPE_PARAMETER_TARGET w_SUPERTYPE_TARGET w_TYPE_PARAMETER_BOUND_TARGET w_EMPTY_TARGET w_FORMAL_PARAMETER_TARGET w_THROWS_TARGET w_LOCALVAR_TARGET w_CATCH_TARGET w_OFFSET_TARGET w_TYPE_ARGUMENT_TARGET ((p1 &&& (255 : Int32)) - (32 : Int32)).toInt)]; exact Nat.le_of_eq rfl) (hb hby at_26) (fun _ _ => ⟨rfl, e2, (by decide : 0 + 0 ≤ _), (by decide : 0 + 0 ≤ _)⟩)
    dsimp only [Pt.U, Pt.locs, Pt.cells, Pt.slots] at X3 l3 y3 z3 st3 hQ3
    subst l3 y3 z3
    obtain ⟨hv3, N3q, e3⟩ := hQ3
    subst hv3
    have N3 := Fr.app N2 N3q
    refine own_go (fun t k => st3 t k) ?_
    show Go p.tables e below _ (T3.setTop (mkF m 29 #[.val (.int p1), .val (.int p2), .val (.int ((p1 &&& (255 : Int32)) - (32 : Int32))), .val (own_exp w_TYPE_PARAMETER_TARGET w_SUPERTYPE_TARGET w_TYPE_PARAMETER_BOUND_TARGET w_EMPTY_TARGET w_FORMAL_PARAMETER_TARGET w_THROWS_TARGET w_LOCALVAR_TARGET w_CATCH_TARGET w_OFFSET_TARGET w_TYPE_ARGUMENT_TARGET ((p1 &&& (255 : Int32)) - (32 : Int32)).toInt)] [(own_exp w_TYPE_PARAMETER_TARGET w_SUPERTYPE_TARGET w_TYPE_PARAMETER_BOUND_TARGET w_EMPTY_TARGET w_FORMAL_PARAMETER_TARGET w_THROWS_TARGET w_LOCALVAR_TARGET w_CATCH_TARGET w_OFFSET_TARGET w_TYPE_ARGUMENT_TARGET ((p1 &&& (255 : Int32)) - (32 : Int32)).toInt), (own_exp w_TYPE_PARAMETER_TARGET w_SUPERTYPE_TARGET w_TYPE_PARAMETER_BOUND_TARGET w_EMPTY_TARGET w_FORMAL_PARAMETER_TARGET w_THROWS_TARGET w_LOCALVAR_TARGET w_CATCH_TARGET w_OFFSET_TARGET w_TYPE_ARGUMENT_TARGET ((p1 &&& (255 : Int32)) - (32 : Int32)).toInt)]))
    refine own_go (fun t k => XT.acmpNo X3.here hx rfl (hb hby at_29) rfl (own_exp_ref w_TYPE_PARAMETER_TARGET w_SUPERTYPE_TARGET w_TYPE_PARAMETER_BOUND_TARGET w_EMPTY_TARGET w_FORMAL_PARAMETER_TARGET w_THROWS_TARGET w_LOCALVAR_TARGET w_CATCH_TARGET w_OFFSET_TARGET w_TYPE_ARGUMENT_TARGET ((p1 &&& (255 : Int32)) - (32 : Int32)).toInt) (own_exp_ref w_TYPE_PARAMETER_TARGET w_SUPERTYPE_TARGET w_TYPE_PARAMETER_BOUND_TARGET w_EMPTY_TARGET w_FORMAL_PARAMETER_TARGET w_THROWS_TARGET w_LOCALVAR_TARGET w_CATCH_TARGET w_OFFSET_TARGET w_TYPE_ARGUMENT_TARGET ((p1 &&& (255 : Int32)) - (32 : Int32)).toInt) (XT.aa_ne_f rfl) k) ?_
    show Go p.tables e below _ (T3.setTop (mkF m 32 #[.val (.int p1), .val (.int p2), .val (.int ((p1 &&& (255 : Int32)) - (32 : Int32))), .val (own_exp w_TYPE_PARAMETER_TARGET w_SUPERTYPE_TARGET w_TYPE_PARAMETER_BOUND_TARGET w_EMPTY_TARGET w_FORMAL_PARAMETER_TARGET w_THROWS_TARGET w_LOCALVAR_TARGET w_CATCH_TARGET w_OFFSET_TARGET w_TYPE_ARGUMENT_TARGET ((p1 &&& (255 : Int32)) - (32 : Int32)).toInt)] []))
    refine own_go (fun t k => XS.iconst X3.here hx rfl (hb hby at_32) k) ?_
    show Go p.tables e below _ (T3.setTop (mkF m 33 #[.val (.int p1), .val (.int p2), .val (.int ((p1 &&& (255 : Int32)) - (32 : Int32))), .val (own_exp w_TYPE_PARAMETER_TARGET w_SUPERTYPE_TARGET w_TYPE_PARAMETER_BOUND_TARGET w_EMPTY_TARGET w_FORMAL_PARAMETER_TARGET w_THROWS_TARGET w_LOCALVAR_TARGET w_CATCH_TARGET w_OFFSET_TARGET w_TYPE_ARGUMENT_TARGET ((p1 &&& (255 : Int32)) - (32 : Int32)).toInt)] [(.int (1 : Int32))]))
    refine own_go (fun t k => XS.goto X3.here hx rfl (pc0 := 33) (pc' := 37) rfl (hb hby at_33) (by decide) (by decide) k) ?_
    show Go p.tables e below _ (T3.setTop (mkF m 37 #[.val (.int p1), .val (.int p2), .val (.int ((p1 &&& (255 : Int32)) - (32 : Int32))), .val (own_exp w_TYPE_PARAMETER_TARGET w_SUPERTYPE_TARGET w_TYPE_PARAMETER_BOUND_TARGET w_EMPTY_TARGET w_FORMAL_PARAMETER_TARGET w_THROWS_TARGET w_LOCALVAR_TARGET w_CATCH_TARGET w_OFFSET_TARGET w_TYPE_ARGUMENT_TARGET ((p1 &&& (255 : Int32)) - (32 : Int32)).toInt)] [(.int (1 : Int32))]))
    exact own_ret X3 hx hlk Bd.returns rfl (Or.inl ⟨rfl, Or.inr (Or.inl rfl), _, rfl⟩) (hb hby at_37) ⟨rfl, N3, e3⟩ (by decide) (by decide)
  · refine own_go (fun t k => XS.ifNo X0.here hx rfl (hb hby at_3) rfl (XT.i0_eq_f hc1) k) ?_
    show Go p.tables e below _ (s₁.setTop (mkF m 6 #[.val (.int p1), .val (.int p2), .unset, .unset] []))
    refine own_go (fun t k => XS.iloadN X0.here hx rfl (hb hby at_6) rfl k) ?_
    show Go p.tables e below _ (s₁.setTop (mkF m 7 #[.val (.int p1), .val (.int p2), .unset, .unset] [(.int p1)]))
    refine own_go (fun t k => XS.goto X0.here hx rfl (pc0 := 7) (pc' := 18) rfl (hb hby at_7) (by decide) (by decide) k) ?_
    show Go p.tables e below _ (s₁.setTop (mkF m 18 #[.val (.int p1), .val (.int p2), .unset, .unset] [(.int p1)]))
    refine own_go (fun t k => XS.istoreN X0.here hx rfl (hb hby at_18) rfl (l' := #[.val (.int p1), .val (.int p2), .val (.int p1), .unset]) rfl k) ?_
    show Go p.tables e below _ (s₁.setTop (mkF m 19 #[.val (.int p1), .val (.int p2), .val (.int p1), .unset] []))
    refine own_go (fun t k => XS.iloadN X0.here hx rfl (hb hby at_19) rfl k) ?_
    show Go p.tables e below _ (s₁.setTop (mkF m 20 #[.val (.int p1), .val (.int p2), .val (.int p1), .unset] [(.int p1)]))
    obtain ⟨v4, _, ⟨T4, L4, k4, n4⟩, -, X4, ⟨Lc4, hQ4, l4, y4, z4⟩, st4⟩ := Jvm.LawKit.callS X0 hx (y := site_20) hown (mvT hZ (hw _ (List.mem_of_getElem? (i := 0) rfl))) (mvT hZ (hw _ (List.mem_of_getElem? (i := 1) rfl))) (mvT hZ (hw _ (List.mem_of_getElem? (i := 2) rfl))) (mvT hZ (hw _ (List.mem_of_getElem? (i := 3) rfl))) (by decide) (backOf (W := 0) (rm_of l Z a0 hw [] p1 w_TYPE_PARAMETER_TARGET w_SUPERTYPE_TARGET w_TYPE_PARAMETER_BOUND_TARGET w_EMPTY_TARGET w_FORMAL_PARAMETER_TARGET w_THROWS_TARGET w_LOCALVAR_TARGET w_CATCH_TARGET w_OFFSET_TARGET w_TYPE_ARGUMENT_TARGET w_VALUES cl h0 n0 SS OO S_VALUES Ar Len At0 At1 At2 At3 At4 At5 At6 At7 At8 At9) hZ (hw _ (List.mem_of_getElem? (i := 3) rfl)) (hw _ (List.mem_of_getElem? (i := 2) rfl)) (by decide) (by decide)) (g := (mkF m 20 #[.val (.int p1), .val (.int p2), .val (.int p1), .unset] [(.int p1)])) rfl (by rw [hml]; rfl) (argsL := [(.int p1)]) (rest := []) (lenOf pd_0 rfl) rfl (by show 2 * 0 + _ ≤ _; exact Nat.le_of_eq rfl) (hb hby at_20) (fun _ _ => ⟨rfl, e0, (by decide : 0 + 0 ≤ _), (by decide : 0 + 0 ≤ _)⟩)
    dsimp only [Pt.U, Pt.locs, Pt.cells, Pt.slots] at X4 l4 y4 z4 st4 hQ4
    subst l4 y4 z4
    obtain ⟨hv4, N4q, e4⟩ := hQ4
    subst hv4
    have N4 := Fr.app N0 N4q
    refine own_go (fun t k => st4 t k) ?_
    show Go p.tables e below _ (T4.setTop (mkF m 23 #[.val (.int p1), .val (.int p2), .val (.int p1), .unset] [(own_exp w_TYPE_PARAMETER_TARGET w_SUPERTYPE_TARGET w_TYPE_PARAMETER_BOUND_TARGET w_EMPTY_TARGET w_FORMAL_PARAMETER_TARGET w_THROWS_TARGET w_LOCALVAR_TARGET w_CATCH_TARGET w_OFFSET_TARGET w_TYPE_ARGUMENT_TARGET p1.toInt)]))
    refine own_go (fun t k => XT.astoreNS X4.here hx rfl (hb hby at_23) rfl (own_exp_ref w_TYPE_PARAMETER_TARGET w_SUPERTYPE_TARGET w_TYPE_PARAMETER_BOUND_TARGET w_EMPTY_TARGET w_FORMAL_PARAMETER_TARGET w_THROWS_TARGET w_LOCALVAR_TARGET w_CATCH_TARGET w_OFFSET_TARGET w_TYPE_ARGUMENT_TARGET p1.toInt) (XT.cat1 (own_exp_ref w_TYPE_PARAMETER_TARGET w_SUPERTYPE_TARGET w_TYPE_PARAMETER_BOUND_TARGET w_EMPTY_TARGET w_FORMAL_PARAMETER_TARGET w_THROWS_TARGET w_LOCALVAR_TARGET w_CATCH_TARGET w_OFFSET_TARGET w_TYPE_ARGUMENT_TARGET p1.toInt)) rfl (Or.inl rfl) k) ?_
    show Go p.tables e below _ (T4.setTop (mkF m 24 #[.val (.int p1), .val (.int p2), .val (.int p1), .val (own_exp w_TYPE_PARAMETER_TARGET w_SUPERTYPE_TARGET w_TYPE_PARAMETER_BOUND_TARGET w_EMPTY_TARGET w_FORMAL_PARAMETER_TARGET w_THROWS_TARGET w_LOCALVAR_TARGET w_CATCH_TARGET w_OFFSET_TARGET w_TYPE_ARGUMENT_TARGET p1.toInt)] []))
    refine own_go (fun t k => XS.aloadN X4.here hx rfl (hb hby at_24) rfl (own_exp_ref w_TYPE_PARAMETER_TARGET w_SUPERTYPE_TARGET w_TYPE_PARAMETER_BOUND_TARGET w_EMPTY_TARGET w_FORMAL_PARAMETER_TARGET w_THROWS_TARGET w_LOCALVAR_TARGET w_CATCH_TARGET w_OFFSET_TARGET w_TYPE_ARGUMENT_TARGET p1.toInt) k) ?_
    show Go p.tables e below _ (T4.setTop (mkF m 25 #[.val (.int p1), .val (.int p2), .val (.int p1), .val (own_exp w_TYPE_PARAMETER_TARGET w_SUPERTYPE_TARGET w_TYPE_PARAMETER_BOUND_TARGET w_EMPTY_TARGET w_FORMAL_PARAMETER_TARGET w_THROWS_TARGET w_LOCALVAR_TARGET w_CATCH_TARGET w_OFFSET_TARGET w_TYPE_ARGUMENT_TARGET p1.toInt)] [(own_exp w_TYPE_PARAMETER_TARGET w_SUPERTYPE_TARGET w_TYPE_PARAMETER_BOUND_TARGET w_EMPTY_TARGET w_FORMAL_PARAMETER_TARGET w_THROWS_TARGET w_LOCALVAR_TARGET w_CATCH_TARGET w_OFFSET_TARGET w_TYPE_ARGUMENT_TARGET p1.toInt)]))
    refine own_go (fun t k => XS.iloadN X4.here hx rfl (hb hby at_25) rfl k) ?_
    show Go p.tables e below _ (T4.setTop (mkF m 26 #[.val (.int p1), .val (.int p2), .val (.int p1), .val (own_exp w_TYPE_PARAMETER_TARGET w_SUPERTYPE_TARGET w_TYPE_PARAMETER_BOUND_TARGET w_EMPTY_TARGET w_FORMAL_PARAMETER_TARGET w_THROWS_TARGET w_LOCALVAR_TARGET w_CATCH_TARGET w_OFFSET_TARGET w_TYPE_ARGUMENT_TARGET p1.toInt)] [(.int p1), (own_exp w_TYPE_PARAMETER_TARGET w_SUPERTYPE_TARGET w_TYPE_PARAMETER_BOUND_TARGET w_EMPTY_TARGET w_FORMAL_PARAMETER_TARGET w_THROWS_TARGET w_LOCALVAR_TARGET w_CATCH_TARGET w_OFFSET_TARGET w_TYPE_ARGUMENT_TARGET p1.toInt)]))
    obtain ⟨v5, _, ⟨T5, L5, k5, n5⟩, -, X5, ⟨Lc5, hQ5, l5, y5, z5⟩, st5⟩ := Jvm.LawKit.callS X4 hx (y := site_26) hown (mvT hZ (hw _ (List.mem_of_getElem? (i := 11) rfl))) (mvT hZ (hw _ (List.mem_of_getElem? (i := 12) rfl))) (mvT hZ (hw _ (List.mem_of_getElem? (i := 13) rfl))) (mvT hZ (hw _ (List.mem_of_getElem? (i := 14) rfl))) (by decide) (backOf (W := 1) (rm_exp l Z a0 hw [] p1 w_TYPE_PARAMETER_TARGET w_SUPERTYPE_TARGET w_TYPE_PARAMETER_BOUND_TARGET w_EMPTY_TARGET w_FORMAL_PARAMETER_TARGET w_THROWS_TARGET w_LOCALVAR_TARGET w_CATCH_TARGET w_OFFSET_TARGET w_TYPE_ARGUMENT_TARGET h0 n0 SS) hZ (hw _ (List.mem_of_getElem? (i := 14) rfl)) (hw _ (List.mem_of_getElem? (i := 13) rfl)) (by decide) (by decide)) (g := (mkF m 26 #[.val (.int p1), .val (.int p2), .val (.int p1), .val (own_exp w_TYPE_PARAMETER_TARGET w_SUPERTYPE_TARGET w_TYPE_PARAMETER_BOUND_TARGET w_EMPTY_TARGET w_FORMAL_PARAMETER_TARGET w_THROWS_TARGET w_LOCALVAR_TARGET w_CATCH_TARGET w_OFFSET_TARGET w_TYPE_ARGUMENT_TARGET p1.toInt)] [(.int p1), (own_exp w_TYPE_PARAMETER_TARGET w_SUPERTYPE_TARGET w_TYPE_PARAMETER_BOUND_TARGET w_EMPTY_TARGET w_FORMAL_PARAMETER_TARGET w_THROWS_TARGET w_LOCALVAR_TARGET w_CATCH_TARGET w_OFFSET_TARGET w_TYPE_ARGUMENT_TARGET p1.toInt)])) rfl (by rw [hml]; rfl) (argsL := [(.int p1)]) (rest := [(own_exp w_TYPE_PARAMETER_TARGET w_SUPERTYPE_TARGET w_TYPE_PARAMETER_BOUND_TARGET w_EMPTY_TARGET w_FORMAL_PARAMETER_TARGET w_THROWS_TARGET w_LOCALVAR_TARGET w_CATCH_TARGET w_OFFSET_TARGET w_TYPE_ARGUMENT_TARGET p1.toInt)]) (lenOf pd_0 rfl) rfl (by show 2 * 0 + (List.map (fun v => v.category) [(own_exp w_TYPE_PARAMETER_TARGET w_SUPERTYPE_TARGET w_TYPE_PARAMETER_BOUND_TARGET w_EMPTY_TARGET w_FORMAL_PARAMETER_TARGET w_THROWS_TARGET w_LOCALVAR_TARGET w_CATCH_TARGET w_OFFSET_TARGET w_TYPE_ARGUMENT_TARGET p1.toInt)]).sum ≤ _; simp only [List.map_cons, List.map_nil, List.sum_cons, List.sum_nil, XT.cat1 (own_exp_ref w_TYPE_PARAMETER_TARGET w_SUPERTYPE_TARGET w_TYPE_PARAMETER_BOUND_TARGET w_EMPTY_TARGET w_FORMAL_PARAMETER_TARGET w_THROWS_TARGET w_LOCALVAR_TARGET w_CATCH_TARGET w_OFFSET_TARGET w_TYPE_ARGUMENT_TARGET p1.toInt)]; exact Nat.le_of_eq rfl) (hb hby at_26) (fun _ _ => ⟨rfl, e4, (by decide : 0 + 0 ≤ _), (by decide : 0 + 0 ≤ _)⟩)
    dsimp only [Pt.U, Pt.locs, Pt.cells, Pt.slots] at X5 l5 y5 z5 st5 hQ5
    subst l5 y5 z5
    obtain ⟨hv5, N5q, e5⟩ := hQ5
    subst hv5
    have N5 := Fr.app N4 N5q
    refine own_go (fun t k => st5 t k) ?_
    show Go p.tables e below _ (T5.setTop (mkF m 29 #[.val (.int p1), .val (.int p2), .val (.int p1), .val (own_exp w_TYPE_PARAMETER_TARGET w_SUPERTYPE_TARGET w_TYPE_PARAMETER_BOUND_TARGET w_EMPTY_TARGET w_FORMAL_PARAMETER_TARGET w_THROWS_TARGET w_LOCALVAR_TARGET w_CATCH_TARGET w_OFFSET_TARGET w_TYPE_ARGUMENT_TARGET p1.toInt)] [(own_exp w_TYPE_PARAMETER_TARGET w_SUPERTYPE_TARGET w_TYPE_PARAMETER_BOUND_TARGET w_EMPTY_TARGET w_FORMAL_PARAMETER_TARGET w_THROWS_TARGET w_LOCALVAR_TARGET w_CATCH_TARGET w_OFFSET_TARGET w_TYPE_ARGUMENT_TARGET p1.toInt), (own_exp w_TYPE_PARAMETER_TARGET w_SUPERTYPE_TARGET w_TYPE_PARAMETER_BOUND_TARGET w_EMPTY_TARGET w_FORMAL_PARAMETER_TARGET w_THROWS_TARGET w_LOCALVAR_TARGET w_CATCH_TARGET w_OFFSET_TARGET w_TYPE_ARGUMENT_TARGET p1.toInt)]))
    refine own_go (fun t k => XT.acmpNo X5.here hx rfl (hb hby at_29) rfl (own_exp_ref w_TYPE_PARAMETER_TARGET w_SUPERTYPE_TARGET w_TYPE_PARAMETER_BOUND_TARGET w_EMPTY_TARGET w_FORMAL_PARAMETER_TARGET w_THROWS_TARGET w_LOCALVAR_TARGET w_CATCH_TARGET w_OFFSET_TARGET w_TYPE_ARGUMENT_TARGET p1.toInt) (own_exp_ref w_TYPE_PARAMETER_TARGET w_SUPERTYPE_TARGET w_TYPE_PARAMETER_BOUND_TARGET w_EMPTY_TARGET w_FORMAL_PARAMETER_TARGET w_THROWS_TARGET w_LOCALVAR_TARGET w_CATCH_TARGET w_OFFSET_TARGET w_TYPE_ARGUMENT_TARGET p1.toInt) (XT.aa_ne_f rfl) k) ?_
    show Go p.tables e below _ (T5.setTop (mkF m 32 #[.val (.int p1), .val (.int p2), .val (.int p1), .val (own_exp w_TYPE_PARAMETER_TARGET w_SUPERTYPE_TARGET w_TYPE_PARAMETER_BOUND_TARGET w_EMPTY_TARGET w_FORMAL_PARAMETER_TARGET w_THROWS_TARGET w_LOCALVAR_TARGET w_CATCH_TARGET w_OFFSET_TARGET w_TYPE_ARGUMENT_TARGET p1.toInt)] []))
    refine own_go (fun t k => XS.iconst X5.here hx rfl (hb hby at_32) k) ?_
    show Go p.tables e below _ (T5.setTop (mkF m 33 #[.val (.int p1), .val (.int p2), .val (.int p1), .val (own_exp w_TYPE_PARAMETER_TARGET w_SUPERTYPE_TARGET w_TYPE_PARAMETER_BOUND_TARGET w_EMPTY_TARGET w_FORMAL_PARAMETER_TARGET w_THROWS_TARGET w_LOCALVAR_TARGET w_CATCH_TARGET w_OFFSET_TARGET w_TYPE_ARGUMENT_TARGET p1.toInt)] [(.int (1 : Int32))]))
    refine own_go (fun t k => XS.goto X5.here hx rfl (pc0 := 33) (pc' := 37) rfl (hb hby at_33) (by decide) (by decide) k) ?_
    show Go p.tables e below _ (T5.setTop (mkF m 37 #[.val (.int p1), .val (.int p2), .val (.int p1), .val (own_exp w_TYPE_PARAMETER_TARGET w_SUPERTYPE_TARGET w_TYPE_PARAMETER_BOUND_TARGET w_EMPTY_TARGET w_FORMAL_PARAMETER_TARGET w_THROWS_TARGET w_LOCALVAR_TARGET w_CATCH_TARGET w_OFFSET_TARGET w_TYPE_ARGUMENT_TARGET p1.toInt)] [(.int (1 : Int32))]))
    exact own_ret X5 hx hlk Bd.returns rfl (Or.inl ⟨rfl, Or.inr (Or.inl rfl), _, rfl⟩) (hb hby at_37) ⟨rfl, N5, e5⟩ (by decide) (by decide)
set_option maxRecDepth 65536 in
set_option maxHeartbeats 40000000 in
theorem comes_1 {Post : Tables → Env → Array Value → State → Outcome → State → Prop} (hpost : ∀ tb e args s v u, (limb_1_1.after args s (.returned v) u = true ∧ limb_1_2.after args s (.returned v) u = true ∧ True) → FrameEnd s (.returned v) u (Jvm.fieldLocs frame_1_writes args s ++ Jvm.arrayLocs frame_1_arrays args s ++ Jvm.staticLocs frame_1_statics s) 0 0 → Post tb e args s (.returned v) u) :
    ArmFor flags0 classFile x code maxLocals ret World_1 tables_1 room_1 Calls_1 rest_1 Pre_1 Post := by
  intro l hfl _ _ p e ha hc hk s m args below hf hA hF happ hP
  obtain ⟨hcalls, hrest, hpre⟩ := hP
  obtain ⟨-, -, -, hnamed, -, -, -, hat⟩ := (Spec.applies_iff hf).mp happ
  obtain ⟨hg, hn⟩ := and_e (Cond.before_iff.mp (show (Jvm.Cond.and given_1 narrow_1).before args s = true from hpre))
  obtain ⟨gc, ga0⟩ := and_e hg
  obtain ⟨gi0, ga1⟩ := and_e ga0
  have gi1 := ga1
  obtain ⟨w0, w1, rfl⟩ : ∃ w0 w1 : Value, args = #[w0, w1] := by
    have hs : args.size = 2 := by simpa [Cond.value, given_1] using gc
    obtain ⟨L⟩ := args
    match L, hs with
    | [w0, w1], _ => exact ⟨w0, w1, rfl⟩
  have hw := fun d (hd : d ∈ tables_1) => atoms_spec (ws := Jvm.Cond.code x code maxLocals ret :: tables_1) hat d (List.mem_cons_of_mem _ hd)
  obtain ⟨i0, ei0⟩ := is_v gi0
  obtain rfl : w0 = (.int i0) := Option.some.inj ei0
  obtain ⟨i1, ei1⟩ := is_v gi1
  obtain rfl : w1 = (.int i1) := Option.some.inj ei1
  obtain ⟨c0, r0⟩ := and_e hn
  obtain ⟨c1, r1⟩ := and_e r0
  obtain ⟨c2, r2⟩ := and_e r1
  obtain ⟨c3, r3⟩ := and_e r2
  obtain ⟨c4, r4⟩ := and_e r3
  obtain ⟨c5, r5⟩ := and_e r4
  obtain ⟨c6, r6⟩ := and_e r5
  obtain ⟨c7, r7⟩ := and_e r6
  obtain ⟨c8, r8⟩ := and_e r7
  obtain ⟨c9, r9⟩ := and_e r8
  obtain ⟨c10, r10⟩ := and_e r9
  obtain ⟨c11, r11⟩ := and_e r10
  obtain ⟨c12, r12⟩ := and_e r11
  obtain ⟨c13, r13⟩ := and_e r12
  obtain ⟨c14, r14⟩ := and_e r13
  obtain ⟨c15, r15⟩ := and_e r14
  obtain ⟨c16, r16⟩ := and_e r15
  obtain ⟨c17, r17⟩ := and_e r16
  obtain ⟨c18, r18⟩ := and_e r17
  obtain ⟨c19, r19⟩ := and_e r18
  obtain ⟨c20, r20⟩ := and_e r19
  obtain ⟨c21, r21⟩ := and_e r20
  obtain ⟨c22, r22⟩ := and_e r21
  obtain ⟨c23, r23⟩ := and_e r22
  obtain ⟨c24, r24⟩ := and_e r23
  obtain ⟨c25, r25⟩ := and_e r24
  obtain ⟨c26, r26⟩ := and_e r25
  obtain ⟨c27, r27⟩ := and_e r26
  obtain ⟨c28, r28⟩ := and_e r27
  obtain ⟨c29, r29⟩ := and_e r28
  obtain ⟨c30, r30⟩ := and_e r29
  obtain ⟨c31, r31⟩ := and_e r30
  obtain ⟨c32, r32⟩ := and_e r31
  obtain ⟨c33, r33⟩ := and_e r32
  obtain ⟨c34, r34⟩ := and_e r33
  obtain ⟨c35, r35⟩ := and_e r34
  obtain ⟨c36, r36⟩ := and_e r35
  obtain ⟨c37, r37⟩ := and_e r36
  obtain ⟨c38, r38⟩ := and_e r37
  obtain ⟨c39, r39⟩ := and_e r38
  obtain ⟨c40, r40⟩ := and_e r39
  have c41 := r40
  obtain ⟨w_VALUES, ev_VALUES⟩ := arr_v c0
  obtain ⟨cl_VALUES, Ar_VALUES⟩ := Arr.start ev_VALUES c0
  have S_VALUES := Sta.start ev_VALUES (Or.inr ⟨(hw _ (List.mem_of_getElem? (i := 2) rfl)), (hw _ (List.mem_of_getElem? (i := 5) rfl))⟩)
  obtain ⟨w_TYPE_PARAMETER_TARGET, ev_TYPE_PARAMETER_TARGET⟩ := exa_v c2
  have E_TYPE_PARAMETER_TARGET := Exa.start ev_TYPE_PARAMETER_TARGET c2
  have S_TYPE_PARAMETER_TARGET := Sta.start ev_TYPE_PARAMETER_TARGET (Or.inr ⟨(hw _ (List.mem_of_getElem? (i := 2) rfl)), (hw _ (List.mem_of_getElem? (i := 6) rfl))⟩)
  obtain ⟨w_SUPERTYPE_TARGET, ev_SUPERTYPE_TARGET⟩ := exa_v c6
  have E_SUPERTYPE_TARGET := Exa.start ev_SUPERTYPE_TARGET c6
  have S_SUPERTYPE_TARGET := Sta.start ev_SUPERTYPE_TARGET (Or.inr ⟨(hw _ (List.mem_of_getElem? (i := 2) rfl)), (hw _ (List.mem_of_getElem? (i := 16) rfl))⟩)
  obtain ⟨w_TYPE_PARAMETER_BOUND_TARGET, ev_TYPE_PARAMETER_BOUND_TARGET⟩ := exa_v c9
  have E_TYPE_PARAMETER_BOUND_TARGET := Exa.start ev_TYPE_PARAMETER_BOUND_TARGET c9
  have S_TYPE_PARAMETER_BOUND_TARGET := Sta.start ev_TYPE_PARAMETER_BOUND_TARGET (Or.inr ⟨(hw _ (List.mem_of_getElem? (i := 2) rfl)), (hw _ (List.mem_of_getElem? (i := 17) rfl))⟩)
  obtain ⟨w_EMPTY_TARGET, ev_EMPTY_TARGET⟩ := exa_v c12
  have E_EMPTY_TARGET := Exa.start ev_EMPTY_TARGET c12
  have S_EMPTY_TARGET := Sta.start ev_EMPTY_TARGET (Or.inr ⟨(hw _ (List.mem_of_getElem? (i := 2) rfl)), (hw _ (List.mem_of_getElem? (i := 18) rfl))⟩)
  obtain ⟨w_FORMAL_PARAMETER_TARGET, ev_FORMAL_PARAMETER_TARGET⟩ := exa_v c15
  have E_FORMAL_PARAMETER_TARGET := Exa.start ev_FORMAL_PARAMETER_TARGET c15
  have S_FORMAL_PARAMETER_TARGET := Sta.start ev_FORMAL_PARAMETER_TARGET (Or.inr ⟨(hw _ (List.mem_of_getElem? (i := 2) rfl)), (hw _ (List.mem_of_getElem? (i := 19) rfl))⟩)
  obtain ⟨w_THROWS_TARGET, ev_THROWS_TARGET⟩ := exa_v c18
  have E_THROWS_TARGET := Exa.start ev_THROWS_TARGET c18
  have S_THROWS_TARGET := Sta.start ev_THROWS_TARGET (Or.inr ⟨(hw _ (List.mem_of_getElem? (i := 2) rfl)), (hw _ (List.mem_of_getElem? (i := 20) rfl))⟩)
  obtain ⟨w_LOCALVAR_TARGET, ev_LOCALVAR_TARGET⟩ := exa_v c21
  have E_LOCALVAR_TARGET := Exa.start ev_LOCALVAR_TARGET c21
  have S_LOCALVAR_TARGET := Sta.start ev_LOCALVAR_TARGET (Or.inr ⟨(hw _ (List.mem_of_getElem? (i := 2) rfl)), (hw _ (List.mem_of_getElem? (i := 21) rfl))⟩)
  obtain ⟨w_CATCH_TARGET, ev_CATCH_TARGET⟩ := exa_v c24
  have E_CATCH_TARGET := Exa.start ev_CATCH_TARGET c24
  have S_CATCH_TARGET := Sta.start ev_CATCH_TARGET (Or.inr ⟨(hw _ (List.mem_of_getElem? (i := 2) rfl)), (hw _ (List.mem_of_getElem? (i := 22) rfl))⟩)
  obtain ⟨w_OFFSET_TARGET, ev_OFFSET_TARGET⟩ := exa_v c27
  have E_OFFSET_TARGET := Exa.start ev_OFFSET_TARGET c27
  have S_OFFSET_TARGET := Sta.start ev_OFFSET_TARGET (Or.inr ⟨(hw _ (List.mem_of_getElem? (i := 2) rfl)), (hw _ (List.mem_of_getElem? (i := 23) rfl))⟩)
  obtain ⟨w_TYPE_ARGUMENT_TARGET, ev_TYPE_ARGUMENT_TARGET⟩ := exa_v c30
  have E_TYPE_ARGUMENT_TARGET := Exa.start ev_TYPE_ARGUMENT_TARGET c30
  have S_TYPE_ARGUMENT_TARGET := Sta.start ev_TYPE_ARGUMENT_TARGET (Or.inr ⟨(hw _ (List.mem_of_getElem? (i := 2) rfl)), (hw _ (List.mem_of_getElem? (i := 24) rfl))⟩)
  have Len_VALUES := own_len ev_VALUES Ar_VALUES c1
  have At_VALUES_0 := own_at ev_VALUES Ar_VALUES ev_TYPE_PARAMETER_TARGET c3
  have F_TYPE_PARAMETER_TARGET_firstType := own_fld ev_TYPE_PARAMETER_TARGET c4
  have F_TYPE_PARAMETER_TARGET_lastType := own_fld ev_TYPE_PARAMETER_TARGET c5
  have At_VALUES_1 := own_at ev_VALUES Ar_VALUES ev_SUPERTYPE_TARGET c7
  have F_SUPERTYPE_TARGET_firstType := own_fld ev_SUPERTYPE_TARGET c8
  have At_VALUES_2 := own_at ev_VALUES Ar_VALUES ev_TYPE_PARAMETER_BOUND_TARGET c10
  have F_TYPE_PARAMETER_BOUND_TARGET_firstType := own_fld ev_TYPE_PARAMETER_BOUND_TARGET c11
  have At_VALUES_3 := own_at ev_VALUES Ar_VALUES ev_EMPTY_TARGET c13
  have F_EMPTY_TARGET_firstType := own_fld ev_EMPTY_TARGET c14
  have At_VALUES_4 := own_at ev_VALUES Ar_VALUES ev_FORMAL_PARAMETER_TARGET c16
  have F_FORMAL_PARAMETER_TARGET_firstType := own_fld ev_FORMAL_PARAMETER_TARGET c17
  have At_VALUES_5 := own_at ev_VALUES Ar_VALUES ev_THROWS_TARGET c19
  have F_THROWS_TARGET_firstType := own_fld ev_THROWS_TARGET c20
  have At_VALUES_6 := own_at ev_VALUES Ar_VALUES ev_LOCALVAR_TARGET c22
  have F_LOCALVAR_TARGET_firstType := own_fld ev_LOCALVAR_TARGET c23
  have At_VALUES_7 := own_at ev_VALUES Ar_VALUES ev_CATCH_TARGET c25
  have F_CATCH_TARGET_firstType := own_fld ev_CATCH_TARGET c26
  have At_VALUES_8 := own_at ev_VALUES Ar_VALUES ev_OFFSET_TARGET c28
  have F_OFFSET_TARGET_firstType := own_fld ev_OFFSET_TARGET c29
  have At_VALUES_9 := own_at ev_VALUES Ar_VALUES ev_TYPE_ARGUMENT_TARGET c31
  have F_TYPE_ARGUMENT_TARGET_firstType := own_fld ev_TYPE_ARGUMENT_TARGET c32
  have F_SUPERTYPE_TARGET_lastType := own_fld ev_SUPERTYPE_TARGET c33
  have F_TYPE_PARAMETER_BOUND_TARGET_lastType := own_fld ev_TYPE_PARAMETER_BOUND_TARGET c34
  have F_EMPTY_TARGET_lastType := own_fld ev_EMPTY_TARGET c35
  have F_FORMAL_PARAMETER_TARGET_lastType := own_fld ev_FORMAL_PARAMETER_TARGET c36
  have F_THROWS_TARGET_lastType := own_fld ev_THROWS_TARGET c37
  have F_LOCALVAR_TARGET_lastType := own_fld ev_LOCALVAR_TARGET c38
  have F_CATCH_TARGET_lastType := own_fld ev_CATCH_TARGET c39
  have F_OFFSET_TARGET_lastType := own_fld ev_OFFSET_TARGET c40
  have F_TYPE_ARGUMENT_TARGET_lastType := own_fld ev_TYPE_ARGUMENT_TARGET c41
  obtain ⟨n, o, h1, h2, h3, _, L, rfl, ⟨rfl, N, -⟩, hq⟩ := rm_law l s _ hw tables_1 i0 i1 w_TYPE_PARAMETER_TARGET w_SUPERTYPE_TARGET w_TYPE_PARAMETER_BOUND_TARGET w_EMPTY_TARGET w_FORMAL_PARAMETER_TARGET w_THROWS_TARGET w_LOCALVAR_TARGET w_CATCH_TARGET w_OFFSET_TARGET w_TYPE_ARGUMENT_TARGET w_VALUES cl_VALUES s.heap s.heap.size ⟨S_TYPE_PARAMETER_TARGET, S_SUPERTYPE_TARGET, S_TYPE_PARAMETER_BOUND_TARGET, S_EMPTY_TARGET, S_FORMAL_PARAMETER_TARGET, S_THROWS_TARGET, S_LOCALVAR_TARGET, S_CATCH_TARGET, S_OFFSET_TARGET, S_TYPE_ARGUMENT_TARGET⟩ ⟨F_TYPE_PARAMETER_TARGET_firstType, F_TYPE_PARAMETER_TARGET_lastType, F_SUPERTYPE_TARGET_firstType, F_TYPE_PARAMETER_BOUND_TARGET_firstType, F_EMPTY_TARGET_firstType, F_FORMAL_PARAMETER_TARGET_firstType, F_THROWS_TARGET_firstType, F_LOCALVAR_TARGET_firstType, F_CATCH_TARGET_firstType, F_OFFSET_TARGET_firstType, F_TYPE_ARGUMENT_TARGET_firstType, F_SUPERTYPE_TARGET_lastType, F_TYPE_PARAMETER_BOUND_TARGET_lastType, F_EMPTY_TARGET_lastType, F_FORMAL_PARAMETER_TARGET_lastType, F_THROWS_TARGET_lastType, F_LOCALVAR_TARGET_lastType, F_CATCH_TARGET_lastType, F_OFFSET_TARGET_lastType, F_TYPE_ARGUMENT_TARGET_lastType⟩ S_VALUES Ar_VALUES Len_VALUES At_VALUES_0 At_VALUES_1 At_VALUES_2 At_VALUES_3 At_VALUES_4 At_VALUES_5 At_VALUES_6 At_VALUES_7 At_VALUES_8 At_VALUES_9 p e ha hc hk s m _ below hf ((Spec.applies_iff_loose hf).mp happ).1 ⟨rfl, State.Warmed39.refl s, rfl⟩ trivial
  refine ⟨n, _, h1, h2, h3, hpost _ _ _ _ _ _ ⟨Cond.after_iff.mpr rfl, Cond.after_iff.mpr (eq_i res_at (Term.int_eval (1)) rfl), trivial⟩ ⟨hq.1, hq.2.1, (hq.2.2.sift fun y hy => Or.inr (N y hy)).mono (by decide) (by decide)⟩⟩
theorem main_1_1 : Claimed_1_1 := comes_1 fun _ _ _ _ _ _ h hF => ⟨h.1, hF⟩
theorem main_1_2 : Claimed_1_2 := comes_1 fun _ _ _ _ _ _ h hF => ⟨h.2.1, hF⟩
end Jvm.Pilot.@@N@@
namespace Jvm.Pilot.@@N@@
open Jvm Jvm.ClassFile Sem Op Lib Jvm.Free Jvm.Stand Jvm.Pilot.@@N@@.Jvm.D
/-! MADE BY PROGRAM (witnessworld.py) out of the Statement's table words and the real class files: 13 classes; the members and pool entries that the words name. The judged class is class 1, her method 2. -/
namespace start1
open Jvm.ClassFile
def u (s : String) : CpInfo := .utf8 (stringToUtf16 s)
/-- a pool by its gaps: so many unusable entries, then the entry; so many at the end -/
def gap : Nat → List CpInfo → List CpInfo
  | 0, r => r
  | n + 1, r => .unusable :: gap n r
def poolList (es : List (Nat × CpInfo)) (last : Nat) : List CpInfo := es.foldr (fun e r => gap e.1 (e.2 :: r)) (gap last [])
def pool (es : List (Nat × CpInfo)) (last : Nat) : Array CpInfo := ⟨poolList es last⟩
def fileOf (pool : Array CpInfo) (this : Nat) (attrs : Array Attribute := #[]) (ms : Array MethodInfo := #[]) (fl : Nat := 33) (sup : Nat := 0) (ifs : Array Nat := #[]) (fds : Array FieldInfo := #[]) : ClassFile where
  minorVersion := 0
  majorVersion := 65
  constantPool := pool
  accessFlags := fl
  thisClass := this
  superClass := sup
  interfaces := ifs
  fields := fds
  methods := ms
  attributes := attrs
def plain (name : String) (sup : Option ClassId) : Class where
  name := name
  kind := .ordinary
  loader := none
  accessFlags := 33
  super := sup
  interfaces := #[]
  cf := none
  fields := #[]
  methods := #[]
  instanceTypes := #[]
  staticTypes := #[]
  resolved := #[]
  callSites := []
  init := .initialized
  statics := none
  mirror := none

def pool0 : Array CpInfo := pool [(5, u "<init>"), (0, u "()V"), (1, .class_ 10), (1, u "java/lang/Object")] 113

def k0m0 : Method := { name := "<init>", desc := "()V", sig := { parameters := [], returnType := none }, accessFlags := 1, code := none }
/-- java/lang/Object -/
def k0 : Class := { plain "java/lang/Object" none with
  accessFlags := 33
  interfaces := #[]
  cf := some (fileOf pool0 8 #[] #[{ accessFlags := 1, nameIndex := 5, descriptorIndex := 6, attributes := #[] }] 33 0 #[] #[])
  fields := #[]
  methods := #[k0m0]
  instanceTypes := #[]
  staticTypes := #[]
  resolved := Array.replicate 124 none
  statics := none }

def pool1 : Array CpInfo := pool [(2, .class_ 4), (1, u "java/lang/Object"), (0, u "<init>"), (0, u "()V"), (0, .fieldref 8 9), (0, .class_ 10), (0, .nameAndType 11 12), (0, u own_C), (0, u "TYPE_PARAMETER_TARGET"), (0, u own_D), (0, .fieldref 8 14), (0, .nameAndType 15 12), (0, u "SUPERTYPE_TARGET"), (0, .fieldref 8 17), (0, .nameAndType 18 12), (0, u "TYPE_PARAMETER_BOUND_TARGET"), (0, .fieldref 8 20), (0, .nameAndType 21 12), (0, u "EMPTY_TARGET"), (0, .fieldref 8 23), (0, .nameAndType 24 12), (0, u "FORMAL_PARAMETER_TARGET"), (0, .fieldref 8 26), (0, .nameAndType 27 12), (0, u "THROWS_TARGET"), (0, .fieldref 8 29), (0, .nameAndType 30 12), (0, u "LOCALVAR_TARGET"), (0, .fieldref 8 32), (0, .nameAndType 33 12), (0, u "CATCH_TARGET"), (0, .fieldref 8 35), (0, .nameAndType 36 12), (0, u "OFFSET_TARGET"), (0, .fieldref 8 38), (0, .nameAndType 39 12), (0, u "TYPE_ARGUMENT_TARGET"), (0, .methodref 8 41), (0, .nameAndType 42 43), (0, u "of"), (0, u site_20.desc), (0, .methodref 45 46), (0, .class_ 47), (0, .nameAndType 48 43), (0, u "com/example/classlens/classlens/TypeAnnotationOfPinLaw"), (0, u "expected"), (3, u "law"), (0, u "(II)Z")] 6

def k1m0 : Method := { name := "<init>", desc := "()V", sig := { parameters := [], returnType := none }, accessFlags := 2, code := none }
def k1c1 : Code := { maxStack := 2, maxLocals := 1, code := method_2_code, exceptionTable := #[], attributes := #[] }
def k1m1 : Method := { name := "expected", desc := site_20.desc, sig := { parameters := [.int], returnType := some (.object own_C) }, accessFlags := 10, code := some k1c1 }
def k1c2 : Code := { maxStack := 2, maxLocals := 4, code := code, exceptionTable := #[], attributes := #[] }
def k1m2 : Method := { name := "law", desc := "(II)Z", sig := { parameters := [.int, .int], returnType := some .boolean }, accessFlags := 9, code := some k1c2 }
def k1 : Class := { plain "com/example/classlens/classlens/TypeAnnotationOfPinLaw" (some 0) with
  accessFlags := 49
  interfaces := #[]
  cf := some (fileOf pool1 45 #[] #[{ accessFlags := 2, nameIndex := 5, descriptorIndex := 6, attributes := #[] }, { accessFlags := 10, nameIndex := 48, descriptorIndex := 43, attributes := #[] }, { accessFlags := 9, nameIndex := 52, descriptorIndex := 53, attributes := #[] }] 49 2 #[] #[])
  fields := #[]
  methods := #[k1m0, k1m1, k1m2]
  instanceTypes := #[]
  staticTypes := #[]
  resolved := Array.replicate 60 none
  statics := none }

def pool2 : Array CpInfo := pool [(1, .class_ 2), (0, u "java/lang/constant/Constable"), (0, .class_ 4), (0, u "java/lang/Object")] 6

/-- java/lang/constant/Constable -/
def k2 : Class := { plain "java/lang/constant/Constable" (some 0) with
  accessFlags := 1537
  interfaces := #[]
  cf := some (fileOf pool2 1 #[] #[] 1537 3 #[] #[])
  fields := #[]
  methods := #[]
  instanceTypes := #[]
  staticTypes := #[]
  resolved := Array.replicate 11 none
  statics := none }

def pool3 : Array CpInfo := pool [(1, .class_ 2), (0, u "java/lang/Comparable"), (0, .class_ 4), (0, u "java/lang/Object")] 7

/-- java/lang/Comparable -/
def k3 : Class := { plain "java/lang/Comparable" (some 0) with
  accessFlags := 1537
  interfaces := #[]
  cf := some (fileOf pool3 1 #[] #[] 1537 3 #[] #[])
  fields := #[]
  methods := #[]
  instanceTypes := #[]
  staticTypes := #[]
  resolved := Array.replicate 12 none
  statics := none }

def pool4 : Array CpInfo := pool [(1, .class_ 2), (0, u "java/io/Serializable"), (0, .class_ 4), (0, u "java/lang/Object")] 2

/-- java/io/Serializable -/
def k4 : Class := { plain "java/io/Serializable" (some 0) with
  accessFlags := 1537
  interfaces := #[]
  cf := some (fileOf pool4 1 #[] #[] 1537 3 #[] #[])
  fields := #[]
  methods := #[]
  instanceTypes := #[]
  staticTypes := #[]
  resolved := Array.replicate 7 none
  statics := none }

def pool5 : Array CpInfo := pool [(2, .class_ 4), (1, u "java/lang/Enum"), (0, u "name"), (0, u "Ljava/lang/String;"), (2, u "ordinal"), (0, u "I"), (1, .class_ 14), (1, u "java/lang/Object"), (4, u "hash"), (86, .class_ 108), (1, u "java/lang/Enum$EnumDesc"), (2, .class_ 112), (0, u "java/lang/constant/Constable"), (0, .class_ 114), (0, u "java/lang/Comparable"), (0, .class_ 116), (0, u "java/io/Serializable")] 87

/-- java/lang/Enum -/
def k5 : Class := { plain "java/lang/Enum" (some 0) with
  accessFlags := 1057
  interfaces := #[2, 3, 4]
  cf := some (fileOf pool5 2 #[.nestMembers #[106]] #[] 1057 12 #[111, 113, 115] #[{ accessFlags := 18, nameIndex := 5, descriptorIndex := 6, attributes := #[] }, { accessFlags := 18, nameIndex := 9, descriptorIndex := 10, attributes := #[] }, { accessFlags := 2, nameIndex := 19, descriptorIndex := 10, attributes := #[] }])
  fields := #[{ name := "name", type := (.object "java/lang/String"), accessFlags := 18, slot := 0, constantValue := 0 }, { name := "ordinal", type := .int, accessFlags := 18, slot := 1, constantValue := 0 }, { name := "hash", type := .int, accessFlags := 2, slot := 2, constantValue := 0 }]
  methods := #[]
  instanceTypes := #[(.object "java/lang/String"), .int, .int]
  staticTypes := #[]
  resolved := Array.replicate 204 none
  statics := none }

def pool6 : Array CpInfo := pool [(1, .class_ 2), (0, u own_C), (2, u "TYPE_PARAMETER_TARGET"), (0, u own_D), (2, u "SUPERTYPE_TARGET"), (2, u "TYPE_PARAMETER_BOUND_TARGET"), (2, u "EMPTY_TARGET"), (2, u "FORMAL_PARAMETER_TARGET"), (2, u "THROWS_TARGET"), (2, u "LOCALVAR_TARGET"), (2, u "CATCH_TARGET"), (2, u "OFFSET_TARGET"), (2, u "TYPE_ARGUMENT_TARGET"), (2, u "$VALUES"), (0, u own_A), (6, .class_ 46), (1, u "java/lang/Enum"), (6, .fieldref 1 54), (0, .nameAndType 55 56), (0, u "firstType"), (0, u "I"), (0, .fieldref 1 58), (0, .nameAndType 59 56), (0, u "lastType"), (4, u "of"), (3, u "fieldSizes"), (0, u "Ljava/util/List;"), (0, .fieldref 1 71), (0, .nameAndType 72 37), (0, u "VALUES"), (71, u site_20.desc), (13, .class_ 159), (0, u "own/Outer")] 2

def k6c0 : Code := { maxStack := 2, maxLocals := 5, code := prog_118_method_4_code, exceptionTable := #[], attributes := #[] }
def k6m0 : Method := { name := "of", desc := site_20.desc, sig := { parameters := [.int], returnType := some (.object own_C) }, accessFlags := 8, code := some k6c0 }
def k6 : Class := { plain own_C (some 5) with
  accessFlags := 16432
  interfaces := #[]
  cf := some (fileOf pool6 1 #[.nestHost 158] #[{ accessFlags := 8, nameIndex := 64, descriptorIndex := 144, attributes := #[] }] 16432 44 #[] #[{ accessFlags := 16409, nameIndex := 5, descriptorIndex := 6, attributes := #[] }, { accessFlags := 16409, nameIndex := 9, descriptorIndex := 6, attributes := #[] }, { accessFlags := 16409, nameIndex := 12, descriptorIndex := 6, attributes := #[] }, { accessFlags := 16409, nameIndex := 15, descriptorIndex := 6, attributes := #[] }, { accessFlags := 16409, nameIndex := 18, descriptorIndex := 6, attributes := #[] }, { accessFlags := 16409, nameIndex := 21, descriptorIndex := 6, attributes := #[] }, { accessFlags := 16409, nameIndex := 24, descriptorIndex := 6, attributes := #[] }, { accessFlags := 16409, nameIndex := 27, descriptorIndex := 6, attributes := #[] }, { accessFlags := 16409, nameIndex := 30, descriptorIndex := 6, attributes := #[] }, { accessFlags := 16409, nameIndex := 33, descriptorIndex := 6, attributes := #[] }, { accessFlags := 26, nameIndex := 72, descriptorIndex := 37, attributes := #[] }, { accessFlags := 18, nameIndex := 55, descriptorIndex := 56, attributes := #[] }, { accessFlags := 18, nameIndex := 59, descriptorIndex := 56, attributes := #[] }, { accessFlags := 18, nameIndex := 68, descriptorIndex := 69, attributes := #[] }, { accessFlags := 4122, nameIndex := 36, descriptorIndex := 37, attributes := #[] }])
  fields := #[{ name := "TYPE_PARAMETER_TARGET", type := (.object own_C), accessFlags := 16409, slot := 0, constantValue := 0 }, { name := "SUPERTYPE_TARGET", type := (.object own_C), accessFlags := 16409, slot := 1, constantValue := 0 }, { name := "TYPE_PARAMETER_BOUND_TARGET", type := (.object own_C), accessFlags := 16409, slot := 2, constantValue := 0 }, { name := "EMPTY_TARGET", type := (.object own_C), accessFlags := 16409, slot := 3, constantValue := 0 }, { name := "FORMAL_PARAMETER_TARGET", type := (.object own_C), accessFlags := 16409, slot := 4, constantValue := 0 }, { name := "THROWS_TARGET", type := (.object own_C), accessFlags := 16409, slot := 5, constantValue := 0 }, { name := "LOCALVAR_TARGET", type := (.object own_C), accessFlags := 16409, slot := 6, constantValue := 0 }, { name := "CATCH_TARGET", type := (.object own_C), accessFlags := 16409, slot := 7, constantValue := 0 }, { name := "OFFSET_TARGET", type := (.object own_C), accessFlags := 16409, slot := 8, constantValue := 0 }, { name := "TYPE_ARGUMENT_TARGET", type := (.object own_C), accessFlags := 16409, slot := 9, constantValue := 0 }, { name := "VALUES", type := (.array (.object own_C)), accessFlags := 26, slot := 10, constantValue := 0 }, { name := "firstType", type := .int, accessFlags := 18, slot := 3, constantValue := 0 }, { name := "lastType", type := .int, accessFlags := 18, slot := 4, constantValue := 0 }, { name := "fieldSizes", type := (.object "java/util/List"), accessFlags := 18, slot := 5, constantValue := 0 }, { name := "$VALUES", type := (.array (.object own_C)), accessFlags := 4122, slot := 11, constantValue := 0 }]
  methods := #[k6m0]
  instanceTypes := #[(.object "java/lang/String"), .int, .int, .int, .int, (.object "java/util/List")]
  staticTypes := #[(.object own_C), (.object own_C), (.object own_C), (.object own_C), (.object own_C), (.object own_C), (.object own_C), (.object own_C), (.object own_C), (.object own_C), (.array (.object own_C)), (.array (.object own_C))]
  resolved := Array.replicate 162 none
  statics := some 0 }

def pool7 : Array CpInfo := pool [(1, u "java/lang/Cloneable"), (0, .class_ 1), (0, u "java/lang/Object"), (0, .class_ 3)] 3

/-- java/lang/Cloneable -/
def k7 : Class := { plain "java/lang/Cloneable" (some 0) with
  accessFlags := 1537
  interfaces := #[]
  cf := some (fileOf pool7 2 #[] #[] 1537 4 #[] #[])
  fields := #[]
  methods := #[]
  instanceTypes := #[]
  staticTypes := #[]
  resolved := Array.replicate 8 none
  statics := none }

/-- the primitive byte -/
def k8 : Class := { plain "byte" none with kind := .primitive 'B', accessFlags := 0x411 }
/-- [B -/
def k9 : Class := { plain "[B" (some 0) with kind := .array 8 .byte, interfaces := #[7, 4], accessFlags := 1041 }

/-- the primitive int -/
def k10 : Class := { plain "int" none with kind := .primitive 'I', accessFlags := 0x411 }
/-- [I -/
def k11 : Class := { plain "[I" (some 0) with kind := .array 10 .int, interfaces := #[7, 4], accessFlags := 1041 }

def k12 : Class := { plain own_A (some 0) with kind := .array 6 (.object own_C), interfaces := #[7, 4], accessFlags := 1041 }

def heap : Heap := #[{ cls := 6, slots := #[.ref 2, .ref 3, .ref 4, .ref 5, .ref 6, .ref 7, .ref 8, .ref 9, .ref 10, .ref 11, .ref 1, .null], vm := .statics 6 },
  { cls := 12, slots := #[.ref 2, .ref 3, .ref 4, .ref 5, .ref 6, .ref 7, .ref 8, .ref 9, .ref 10, .ref 11], vm := .none },
  { cls := 6, slots := #[.null, .int 0, .int 0, .int 0, .int 1, .null], vm := .none },
  { cls := 6, slots := #[.null, .int 1, .int 0, .int 16, .int 16, .null], vm := .none },
  { cls := 6, slots := #[.null, .int 2, .int 0, .int 17, .int 18, .null], vm := .none },
  { cls := 6, slots := #[.null, .int 3, .int 0, .int 19, .int 21, .null], vm := .none },
  { cls := 6, slots := #[.null, .int 4, .int 0, .int 22, .int 22, .null], vm := .none },
  { cls := 6, slots := #[.null, .int 5, .int 0, .int 23, .int 23, .null], vm := .none },
  { cls := 6, slots := #[.null, .int 6, .int 0, .int 64, .int 65, .null], vm := .none },
  { cls := 6, slots := #[.null, .int 7, .int 0, .int 66, .int 66, .null], vm := .none },
  { cls := 6, slots := #[.null, .int 8, .int 0, .int 67, .int 70, .null], vm := .none },
  { cls := 6, slots := #[.null, .int 9, .int 0, .int 71, .int 75, .null], vm := .none }]
def classes : Array Class := #[k0, k1, k2, k3, k4, k5, k6, k7, k8, k9, k10, k11, k12]
def interned : List (Array UInt16 × Addr) := []
def slotsUsed : Nat := 82
def theMethod : MethodId := ⟨1, 2⟩
def args0 : Array Value := #[.int 5, .int 3]
def aboutOver (below : List Frame) : State where
  vm := { classes := classes, interned := interned.toArray }
  heap := heap
  slotsUsed := slotsUsed
  threads := #[{ frames := .invoking theMethod args0 :: below }]
def below0 : List Frame := [.native { method := ⟨0, 0⟩, args := #[] }]
def about1 : State := aboutOver below0
def p0 : Program := .bare "" "" ""
def e0 : Env := launch0.env 0 0 0
theorem w_frames : about1.frames = Frame.invoking theMethod args0 :: below0 := rfl
set_option maxRecDepth 65536 in
theorem w_args : argsFit about1.vm theMethod args0 = true := by decide +kernel
set_option maxRecDepth 65536 in
theorem w_heap : heapFits about1 = true := by decide +kernel
set_option maxRecDepth 65536 in
theorem w_runnable : about1.curStatus? = some .runnable := by decide +kernel
set_option maxRecDepth 65536 in
theorem w_alone : about1.alone = true := by decide +kernel
set_option maxRecDepth 65536 in
theorem w_named : about1.methodNamed? x = some theMethod := by decide +kernel
set_option maxRecDepth 65536 in
theorem w_hears : about1.hears theMethod below0 = true := by decide +kernel
set_option maxRecDepth 65536 in
theorem w_ripe : about1.ripe theMethod args0 below0 = true := by decide +kernel
theorem w_running : about1.status = .running := rfl
set_option maxRecDepth 65536 in
theorem w_room : about1.hasRoom e0.platform room_1 = true :=
  launch0.hasRoom_least _ room_1 (by decide +kernel) (by decide +kernel) (by decide +kernel) (by decide +kernel) (by decide +kernel) (by decide +kernel)
theorem allAtoms_all (ts : List Jvm.Cond) (a : Array Jvm.Value) (st : Jvm.State) : (allAtoms ts).before a st = ts.all (fun c => c.before a st) := by
  induction ts with
  | nil => rfl
  | cons c t ih =>
    show (Jvm.Cond.and c (allAtoms t)).before a st = _
    rw [Jvm.Cond.before_and, ih, List.all_cons]
def words1 : List Jvm.Cond := Jvm.Cond.code x code maxLocals ret :: tables_1
/-- a 'code' word, met by the world's own term for the bytes: nothing is compared byte by byte -/
theorem code_word {y : MethodName} {bytes : ByteArray} {mx : Nat} {rt : Option FieldType} {a : Array Value} {s : State} {m : MethodId} {meth : Method} {c : Code} (h1 : s.methodNamed? y = some m) (h2 : s.vm.method? m = some meth) (h3 : meth.code = some c) (h4 : c.code = bytes)
    (h5 : (c.maxLocals == mx && c.exceptionTable.isEmpty && decide (c.maxStack ≤ mostOperands) && decide (meth.sig.returnType = rt) && !meth.locks && decide (parseMethodDescriptor y.desc = some meth.sig)) = true) : (Jvm.Cond.code y bytes mx rt).before a s = true := by
  simp only [Bool.and_eq_true, beq_iff_eq, Bool.not_eq_true', decide_eq_true_eq] at h5
  obtain ⟨⟨⟨⟨⟨g1, g2⟩, g3⟩, g4⟩, g5⟩, g6⟩ := h5
  simp [Cond.before, Cond.holds, Cond.value, h1, h2, h3, h4, g1, g2, g3, g4, g5, g6]
def isCode : Jvm.Cond → Bool
  | .code _ _ _ _ => true
  | _ => false
theorem all_split {L : List Jvm.Cond} {P : Jvm.Cond → Bool} (h1 : L.all (fun c => isCode c || P c) = true) (h2 : ∀ c ∈ L.filter isCode, P c = true) : L.all P = true := by
  refine List.all_eq_true.mpr fun c hc => ?_
  have h := List.all_eq_true.mp h1 c hc
  rcases Bool.eq_false_or_eq_true (isCode c) with hi | hi
  · exact h2 c (List.mem_filter.mpr ⟨hc, hi⟩)
  · simpa [hi] using h
set_option maxRecDepth 65536 in
theorem w_c0 : (Jvm.Cond.code x code maxLocals ret).before args0 about1 = true := code_word (m := ⟨1, 2⟩) (meth := k1m2) (c := k1c2) (by decide +kernel) rfl rfl rfl (by decide +kernel)
set_option maxRecDepth 65536 in
theorem w_c1 : (Jvm.Cond.code ({ cls := own_C, name := "of", desc := site_20.desc } : Jvm.MethodName) prog_118_method_4_code (5 : Nat) (Option.some (Jvm.ClassFile.FieldType.object own_C))).before args0 about1 = true := code_word (m := ⟨6, 0⟩) (meth := k6m0) (c := k6c0) (by decide +kernel) rfl rfl rfl (by decide +kernel)
set_option maxRecDepth 65536 in
theorem w_c2 : (Jvm.Cond.code ({ cls := "com/example/classlens/classlens/TypeAnnotationOfPinLaw", name := "expected", desc := site_20.desc } : Jvm.MethodName) method_2_code (1 : Nat) (Option.some (Jvm.ClassFile.FieldType.object own_C))).before args0 about1 = true := code_word (m := ⟨1, 1⟩) (meth := k1m1) (c := k1c1) (by decide +kernel) rfl rfl rfl (by decide +kernel)
def codes1 : List Jvm.Cond := [Jvm.Cond.code x code maxLocals ret, Jvm.Cond.code ({ cls := own_C, name := "of", desc := site_20.desc } : Jvm.MethodName) prog_118_method_4_code (5 : Nat) (Option.some (Jvm.ClassFile.FieldType.object own_C)), Jvm.Cond.code ({ cls := "com/example/classlens/classlens/TypeAnnotationOfPinLaw", name := "expected", desc := site_20.desc } : Jvm.MethodName) method_2_code (1 : Nat) (Option.some (Jvm.ClassFile.FieldType.object own_C))]
set_option maxRecDepth 65536 in
theorem codes_eq : words1.filter isCode = codes1 := rfl
theorem w_codes : ∀ c ∈ words1.filter isCode, c.before args0 about1 = true := by
  rw [codes_eq]
  intro c hc
  simp only [codes1, List.mem_cons, List.not_mem_nil, or_false] at hc
  rcases hc with rfl | rfl | rfl
  · exact w_c0
  · exact w_c1
  · exact w_c2
set_option maxRecDepth 65536 in
theorem w_t1 : (words1.take 24).all (fun c => isCode c || c.before args0 about1) = true := by decide +kernel
set_option maxRecDepth 65536 in
theorem w_t2 : (words1.drop 24).all (fun c => isCode c || c.before args0 about1) = true := by decide +kernel
theorem w_tables : (allAtoms (Jvm.Cond.code x code maxLocals ret :: tables_1)).before args0 about1 = true := by
  rw [allAtoms_all]
  show words1.all (fun c => c.before args0 about1) = true
  refine all_split ?_ w_codes
  rw [← List.take_append_drop 24 words1, List.all_append, w_t1, w_t2]
  rfl
set_option maxRecDepth 65536 in
theorem w_case : (Jvm.Cond.and given_1 narrow_1).before args0 about1 = true := by decide +kernel
theorem w_applies : (headSpec (Jvm.Cond.code x code maxLocals ret :: tables_1) room_1).applies x e0.platform about1 = true :=
  (Spec.applies_iff w_frames).mpr ⟨w_running, w_runnable, w_alone, w_named, w_hears, w_ripe, w_room, w_tables⟩
theorem atStart : AtStart classFile x code maxLocals ret World_1 tables_1 room_1 Calls_1 rest_1 Pre_1 launch0 p0 e0 about1 theMethod args0 below0 :=
  ⟨lists_1, trivial, launch0.admits_env _ _ _, launch0.least_env, fairChoices_fair.cas, fairChoices_fair.clock, w_frames, w_args, w_heap, w_applies, trivial, trivial, w_case⟩
end start1
theorem witness_1 : WitnessClaimed_1 := ⟨start1.p0, start1.e0, start1.about1, start1.theMethod, start1.args0, start1.below0, start1.atStart⟩
end Jvm.Pilot.@@N@@
