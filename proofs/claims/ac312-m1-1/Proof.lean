import JvmDerived
import JvmDerived.Pilot.@@N@@Statement
import JvmDerived.Pilot.@@N@@Code
set_option linter.unusedVariables false
set_option linter.unusedSimpArgs false
namespace Jvm.Pilot.@@N@@
open Jvm Jvm.ClassFile Sem Op Lib Jvm.Free Jvm.Stand Jvm.LawKit Jvm.RoadKit Bundle Jvm.Pilot.@@N@@.Jvm.D
def Go (tb : Tables) (e : Env) (below : List Frame) (P : State → Outcome → Prop) (T : State) : Prop := ∃ s₂ o, Steps tb e below T s₂ ∧ P s₂ o
theorem own_go {tb : Tables} {e : Env} {below : List Frame} {P : State → Outcome → Prop} {T T' : State} (h : ∀ t, Steps tb e below T' t → Steps tb e below T t) (k : Go tb e below P T') : Go tb e below P T := by
  obtain ⟨a, b, c, d⟩ := k
  exact ⟨a, b, h a c, d⟩
def Fin (s : State) (below : List Frame) (Q : Option Value → Heap → List Loc → Prop) (cc ss : Nat) (s₂ : State) (o : Outcome) : Prop := s₂.status = .running ∧ Ended s₂ below o ∧ ∃ v L, o = .returned v ∧ Q v s₂.heap L ∧ FrameEnd s o s₂ L cc ss
def PQ (w : Value) (h0 : Heap) (n0 : Nat) (v : Option Value) (h : Heap) (L : List Loc) : Prop := v = some w ∧ Fr n0 L ∧ h = h0
theorem own_ret {p : Program} {l : Launch} {e : Env} {R : Room} {s : State} {m : MethodId} {args : Array Value} {below : List Frame} {meth : Method} {c : Code} {T : State} {locs : List Loc} {cells slots : Nat} (X : Stand p l e R s m args below meth c T locs cells slots) (hx : p.tables.exec = Jvm.exec) (hlk : meth.locks = false)
    {pc : Nat} {Ls : Array Slot} {w : Value} {t : FieldType} {i : Instr} {rest : List Value} (hret : meth.sig.returnType = some t) (hn : narrow t w = w)
    (hi : (i = .ireturn ∧ (t = .int ∨ t = .boolean ∨ t = .byte ∨ t = .char ∨ t = .short) ∧ ∃ z, w = .int z) ∨ (i = .lreturn ∧ t = .long ∧ ∃ z, w = .long z) ∨ (i = .dreturn ∧ t = .double ∧ ∃ z, w = .double z) ∨ (i = .freturn ∧ t = .float ∧ ∃ z, w = .float z) ∨ (i = .areturn ∧ t.isReference = true ∧ w.isRef = true))
    (hd : decode c.code pc = .ok (i, 1)) {Q : Option Value → Heap → List Loc → Prop} (hQ : Q (some w) T.heap locs) {cc ss : Nat} (hc : cells ≤ cc) (hs : slots ≤ ss) :
    Go p.tables e below (Fin s below Q cc ss) (T.setTop (mkF m pc Ls (w :: rest))) := by
  obtain ⟨fs, hr, hrun, hended, hW, hsame⟩ := X.leave (v := some w) (fun h => by rw [hret] at h; cases h) hlk
  exact ⟨_, _, retOut X hx hret hn hi hd hr, hrun, hended, _, _, rfl, hQ, ⟨_, rfl⟩, hW, hsame.mono hc hs⟩
theorem own_fld {Z : State} {args : Array Value} {t : Term} {a : Addr} {C n d : String} {k : Int32} (ev : t.eval args Z none [] Z = some (.ref a)) (h : (Jvm.Cond.eq (.field t C n d) (.int k)).value args Z none Z [] = some true) : Fld Z Z.heap a C n d (.int k) := by
  have e1 : (Term.field t C n d).eval args Z none [] Z = Z.fieldOf? a C n d := fld_at ev
  obtain ⟨x, y, h1, h2, h3, h4⟩ := cmp_v (Or.inl h)
  have e2 : (Term.int k).eval args Z none [] Z = some (.int k) := Term.int_eval k
  cases e2.symm.trans h2
  obtain ⟨z, rfl⟩ := h4
  have q := gotT (u := (Jvm.Cond.eq (.field t C n d) (.int k)).value args Z none Z []) (P := z = k) (by simp [Cond.value, h1, e2]) h
  subst q
  exact Fld.start (e1 ▸ h1)
theorem own_ne {Z : State} {h : Heap} {a b : Addr} {C n d : String} {v w : Value} (F : Fld Z h a C n d v) (G : Fld Z h b C n d w) (hn : v ≠ w) : a ≠ b := by
  rintro rfl
  obtain ⟨c1, cf1, k1, i1, f1, a1, a2, a3, a4, a5, a6, a7⟩ := F
  obtain ⟨c2, cf2, k2, i2, f2, b1, b2, b3, b4, b5, b6, b7⟩ := G
  cases a1.symm.trans b1
  cases a2.symm.trans b2
  exact hn (Option.some.inj (a7.symm.trans b7))
theorem own_len {Z : State} {args : Array Value} {t : Term} {a : Addr} {cl : Cell} {ty : FieldType} {k : Int32} (ev : t.eval args Z none [] Z = some (.ref a)) (Ar : Arr Z Z.heap a cl ty) (h : (Jvm.Cond.eq (.length t) (.int k)).value args Z none Z [] = some true) : cl.slots.size = k.toInt.toNat ∧ cl.slots.size.toInt32 = k := by
  have ha := Arr.fin (Vm.Alike.refl _) Ar
  obtain ⟨x, y, h1, h2, h3, h4⟩ := cmp_v (Or.inl h)
  have e2 : (Term.int k).eval args Z none [] Z = some (.int k) := Term.int_eval k
  by_cases hl : cl.slots.size < 2 ^ 31
  · have e := len_f ev ha hl
    have q := gotT (u := (Jvm.Cond.eq (.length t) (.int k)).value args Z none Z []) (P := cl.slots.size.toInt32 = k) (by simp [Cond.value, e, e2]) h
    refine ⟨?_, q⟩
    rw [← q, len_toInt hl]
    rfl
  · simp [Term.eval, ev, ha, hl] at h1
theorem own_at {Z : State} {args : Array Value} {t t2 : Term} {a b : Addr} {cl : Cell} {ty : FieldType} {j : Int32} (ev : t.eval args Z none [] Z = some (.ref a)) (Ar : Arr Z Z.heap a cl ty) (ev2 : t2.eval args Z none [] Z = some (.ref b)) (h : (Jvm.Cond.eq (.elem t (.int j)) t2).value args Z none Z [] = some true) : ¬ (j < 0 ∨ cl.slots.size ≤ j.toNatClampNeg) ∧ cl.slots[j.toNatClampNeg]? = some (.ref b) := by
  obtain ⟨x, y, h1, h2, h3, h4⟩ := cmp_v (Or.inl h)
  cases ev2.symm.trans h2
  have h5 : x.isRef = true := h4.2
  have q := gotT (eq_R h1 h2 h5 rfl) h
  subst q
  exact elem_in h1 ev (Term.int_eval j) Ar.1
theorem own_lt {x k : Int32} {n : Int} (hk : k.toInt = n) : x < k ↔ x.toInt < n := by rw [Int32.lt_iff_toInt_lt, hk]
theorem own_gt {x k : Int32} {n : Int} (hk : k.toInt = n) : k < x ↔ n < x.toInt := by rw [Int32.lt_iff_toInt_lt, hk]
theorem own_eq {x k : Int32} {n : Int} (hk : k.toInt = n) : x = k ↔ x.toInt = n := by rw [← Int32.toInt_inj, hk]
/-! ### the plain law: sixteen slots, linear probing -/
def own_dist (a b : Nat) : Nat := (b + 16 - a) % 16
def own_upd {α β : Type} [DecidableEq α] (f : α → β) (i : α) (x : β) : α → β := fun j => if j = i then x else f j
theorem own_upd_same {α β : Type} [DecidableEq α] (f : α → β) (i : α) (x : β) : own_upd f i x i = x := by simp [own_upd]
theorem own_upd_ne {α β : Type} [DecidableEq α] (f : α → β) {i j : α} (x : β) (h : j ≠ i) : own_upd f i x j = f j := by simp [own_upd, h]
def own_cnt (vs : Nat → Value) : Nat → Nat
  | 0 => 0
  | n + 1 => own_cnt vs n + (if vs n = .null then 0 else 1)
theorem own_cnt_full {vs : Nat → Value} : ∀ n, (∀ i, i < n → vs i ≠ .null) → own_cnt vs n = n
  | 0, _ => rfl
  | n + 1, h => by
    show own_cnt vs n + _ = _
    rw [own_cnt_full n (fun i hi => h i (by omega)), if_neg (h n (by omega))]
theorem own_cnt_same {vs us : Nat → Value} : ∀ n, (∀ i, i < n → (vs i = .null ↔ us i = .null)) → own_cnt vs n = own_cnt us n
  | 0, _ => rfl
  | n + 1, h => by
    show own_cnt vs n + _ = own_cnt us n + _
    rw [own_cnt_same n (fun i hi => h i (by omega))]
    by_cases q : vs n = .null
    · rw [if_pos q, if_pos ((h n (by omega)).mp q)]
    · rw [if_neg q, if_neg (fun z => q ((h n (by omega)).mpr z))]
theorem own_cnt_add {vs : Nat → Value} {i : Nat} {v : Value} (hv : v ≠ .null) (hi : vs i = .null) : ∀ n, own_cnt (own_upd vs i v) n = own_cnt vs n + (if i < n then 1 else 0)
  | 0 => by simp [own_cnt]
  | n + 1 => by
    show own_cnt (own_upd vs i v) n + _ = own_cnt vs n + _ + _
    rw [own_cnt_add hv hi n]
    by_cases q : n = i
    · subst q
      rw [own_upd_same, if_neg hv, hi]
      simp
    · rw [own_upd_ne _ _ q]
      by_cases r : i < n
      · rw [if_pos r, if_pos (show i < n + 1 by omega)]; omega
      · rw [if_neg r, if_neg (show ¬ i < n + 1 by omega)]
        omega
theorem own_cnt_sub {vs : Nat → Value} {i : Nat} (hi : vs i ≠ .null) : ∀ n, own_cnt (own_upd vs i .null) n + (if i < n then 1 else 0) = own_cnt vs n
  | 0 => by simp [own_cnt]
  | n + 1 => by
    have ih := own_cnt_sub hi n
    show own_cnt (own_upd vs i .null) n + _ + _ = own_cnt vs n + _
    by_cases q : n = i
    · subst q
      rw [own_upd_same, if_neg hi]
      simp at ih ⊢
      omega
    · rw [own_upd_ne _ _ q]
      by_cases r : i < n
      · rw [if_pos r] at ih
        rw [if_pos (show i < n + 1 by omega)]
        omega
      · rw [if_neg r] at ih
        rw [if_neg (show ¬ i < n + 1 by omega)]
        omega
/-- what the arrays say: G is what get answers, n how many -/
def own_Inv (hm : Int64 → Nat) (ks : Nat → Int64) (vs : Nat → Value) : Prop :=
  (∀ i, i < 16 → vs i ≠ .null → ∀ d, d < own_dist (hm (ks i)) i → vs ((hm (ks i) + d) % 16) ≠ .null) ∧
  (∀ i j, i < 16 → j < 16 → vs i ≠ .null → vs j ≠ .null → ks i = ks j → i = j)
def own_Rep (hm : Int64 → Nat) (ks : Nat → Int64) (vs : Nat → Value) (G : Int64 → Value) (n : Nat) : Prop :=
  own_Inv hm ks vs ∧ (∀ i, i < 16 → vs i ≠ .null → G (ks i) = vs i) ∧ (∀ k, G k ≠ .null → ∃ i, i < 16 ∧ ks i = k ∧ vs i = G k) ∧ own_cnt vs 16 = n
theorem own_Rep_empty (hm : Int64 → Nat) : own_Rep hm (fun _ => 0) (fun _ => .null) (fun _ => .null) 0 :=
  ⟨⟨fun _ _ h => absurd rfl h, fun _ _ _ _ h => absurd rfl h⟩, fun _ _ h => absurd rfl h, fun _ h => absurd rfl h, by simp [own_cnt]⟩
/-- the first t places behind the home are occupied, by other keys -/
def own_Run (ks : Nat → Int64) (vs : Nat → Value) (k : Int64) (a t : Nat) : Prop := ∀ d, d < t → vs ((a + d) % 16) ≠ .null ∧ ks ((a + d) % 16) ≠ k
theorem own_Run.zero (ks : Nat → Int64) (vs : Nat → Value) (k : Int64) (a : Nat) : own_Run ks vs k a 0 := fun d h => absurd h (Nat.not_lt_zero d)
theorem own_Run.succ {ks : Nat → Int64} {vs : Nat → Value} {k : Int64} {a t : Nat} (R : own_Run ks vs k a t) (h1 : vs ((a + t) % 16) ≠ .null) (h2 : ks ((a + t) % 16) ≠ k) : own_Run ks vs k a (t + 1) := fun d hd => by
  by_cases q : d = t
  · subst q; exact ⟨h1, h2⟩
  · exact R d (by omega)
theorem own_Run.lt {ks : Nat → Int64} {vs : Nat → Value} {k : Int64} {a t n : Nat} (R : own_Run ks vs k a t) (hc : own_cnt vs 16 = n) (hn : n < 16) : t < 16 := by
  apply Nat.lt_of_not_le
  intro q
  have : own_cnt vs 16 = 16 := own_cnt_full 16 fun i hi => by
    have := (R (own_dist (a % 16) i) (by have : own_dist (a % 16) i < 16 := Nat.mod_lt _ (by decide); omega)).1
    have e : (a + own_dist (a % 16) i) % 16 = i := by unfold own_dist; omega
    rwa [e] at this
  omega
theorem own_absent {hm : Int64 → Nat} {ks : Nat → Int64} {vs : Nat → Value} {G : Int64 → Value} {n t : Nat} {k : Int64} (R : own_Rep hm ks vs G n) (hh : hm k < 16) (W : own_Run ks vs k (hm k) t) (h0 : vs ((hm k + t) % 16) = .null) : G k = .null := by
  apply Classical.byContradiction
  intro q
  obtain ⟨i, hi, e1, e2⟩ := R.2.2.1 k q
  have hv : vs i ≠ .null := by rw [e2]; exact q
  have P := R.1.1 i hi hv
  rw [e1] at P
  have ei : (hm k + own_dist (hm k) i) % 16 = i := by unfold own_dist; omega
  rcases Nat.lt_trichotomy t (own_dist (hm k) i) with h | h | h
  · exact P t h h0
  · rw [h, ei] at h0; exact hv h0
  · have := (W _ h).2
    rw [ei] at this
    exact this e1
theorem own_found {hm : Int64 → Nat} {ks : Nat → Int64} {vs : Nat → Value} {G : Int64 → Value} {n i : Nat} {k : Int64} (R : own_Rep hm ks vs G n) (hi : i < 16) (h0 : vs i ≠ .null) (hk : ks i = k) : G k = vs i := by rw [← hk]; exact R.2.1 i hi h0
/-- put, a new key -/
theorem own_put_new {hm : Int64 → Nat} {ks : Nat → Int64} {vs : Nat → Value} {G : Int64 → Value} {n t : Nat} {k : Int64} {v : Value} (R : own_Rep hm ks vs G n) (hh : hm k < 16) (ht : t < 16) (W : own_Run ks vs k (hm k) t) (h0 : vs ((hm k + t) % 16) = .null) (hv : v ≠ .null) :
    own_Rep hm (own_upd ks ((hm k + t) % 16) k) (own_upd vs ((hm k + t) % 16) v) (own_upd G k v) (n + 1) := by
  have hG := own_absent R hh W h0
  obtain ⟨⟨I1, I2⟩, R1, R2, R3⟩ := R
  have hs : (hm k + t) % 16 < 16 := Nat.mod_lt _ (by decide)
  generalize hq : (hm k + t) % 16 = s at *
  have ed : own_dist (hm k) s = t := by unfold own_dist; omega
  have nk : ∀ i, i < 16 → vs i ≠ .null → ks i ≠ k := fun i hi h e => h (by rw [← R1 i hi h, e, hG])
  refine ⟨⟨fun i hi hoc d hd => ?_, fun i j hi hj h1 h2 e => ?_⟩, fun i hi hoc => ?_, fun k' h => ?_, ?_⟩
  · by_cases q : i = s
    · subst q
      rw [own_upd_same] at hd ⊢
      rw [ed] at hd
      have := (W d hd).1
      by_cases r : (hm k + d) % 16 = i
      · rw [r, own_upd_same]; exact hv
      · rw [own_upd_ne _ _ r]; exact this
    · rw [own_upd_ne _ _ q] at hoc
      rw [own_upd_ne _ _ q] at hd ⊢
      have := I1 i hi hoc d hd
      by_cases r : (hm (ks i) + d) % 16 = s
      · rw [r, own_upd_same]; exact hv
      · rw [own_upd_ne _ _ r]; exact this
  · by_cases q : i = s <;> by_cases r : j = s
    · omega
    · subst q
      rw [own_upd_same, own_upd_ne _ _ r] at e
      rw [own_upd_ne _ _ r] at h2
      exact absurd e.symm (nk j hj h2)
    · subst r
      rw [own_upd_same, own_upd_ne _ _ q] at e
      rw [own_upd_ne _ _ q] at h1
      exact absurd e (nk i hi h1)
    · rw [own_upd_ne _ _ q, own_upd_ne _ _ r] at e
      rw [own_upd_ne _ _ q] at h1
      rw [own_upd_ne _ _ r] at h2
      exact I2 i j hi hj h1 h2 e
  · by_cases q : i = s
    · subst q; rw [own_upd_same, own_upd_same, own_upd_same]
    · rw [own_upd_ne _ _ q] at hoc
      rw [own_upd_ne _ _ q, own_upd_ne _ _ q, own_upd_ne _ _ (nk i hi hoc)]
      exact R1 i hi hoc
  · by_cases q : k' = k
    · subst q
      exact ⟨s, hs, own_upd_same _ _ _, by rw [own_upd_same, own_upd_same]⟩
    · rw [own_upd_ne _ _ q] at h
      obtain ⟨i, hi, e1, e2⟩ := R2 k' h
      have r : i ≠ s := fun z => h (by rw [← e2, z]; exact h0)
      exact ⟨i, hi, by rw [own_upd_ne _ _ r]; exact e1, by rw [own_upd_ne _ _ r, own_upd_ne _ _ q]; exact e2⟩
  · rw [own_cnt_add hv h0, R3, if_pos hs]
/-- put, a key that is there -/
theorem own_put_old {hm : Int64 → Nat} {ks : Nat → Int64} {vs : Nat → Value} {G : Int64 → Value} {n i : Nat} {k : Int64} {v : Value} (R : own_Rep hm ks vs G n) (hi : i < 16) (h0 : vs i ≠ .null) (hk : ks i = k) (hv : v ≠ .null) :
    own_Rep hm ks (own_upd vs i v) (own_upd G k v) n := by
  obtain ⟨⟨I1, I2⟩, R1, R2, R3⟩ := R
  have oc : ∀ j, own_upd vs i v j = .null ↔ vs j = .null := fun j => by
    by_cases q : j = i
    · subst q; rw [own_upd_same]; exact ⟨fun z => absurd z hv, fun z => absurd z h0⟩
    · rw [own_upd_ne _ _ q]
  have oc' : ∀ j, own_upd vs i v j ≠ .null ↔ vs j ≠ .null := fun j => not_congr (oc j)
  refine ⟨⟨fun j hj h d hd => (oc' _).mpr (I1 j hj ((oc' j).mp h) d hd), fun a b ha hb h1 h2 e => I2 a b ha hb ((oc' a).mp h1) ((oc' b).mp h2) e⟩, fun j hj h => ?_, fun k' h => ?_, ?_⟩
  · by_cases q : j = i
    · subst q; rw [own_upd_same, hk, own_upd_same]
    · rw [own_upd_ne _ _ q] at h ⊢
      rw [own_upd_ne _ _ (fun e => q (I2 j i hj hi h h0 (e.trans hk.symm)))]
      exact R1 j hj h
  · by_cases q : k' = k
    · subst q; exact ⟨i, hi, hk, by rw [own_upd_same, own_upd_same]⟩
    · rw [own_upd_ne _ _ q] at h
      obtain ⟨j, hj, e1, e2⟩ := R2 k' h
      have r : j ≠ i := fun z => q (by rw [← e1, z, hk])
      exact ⟨j, hj, e1, by rw [own_upd_ne _ _ r, own_upd_ne _ _ q]; exact e2⟩
  · rw [← R3]; exact own_cnt_same 16 fun j _ => oc j
theorem own_hole {vs : Nat → Value} {n : Nat} (hc : own_cnt vs 16 = n) (hn : n < 16) : ∃ z, z < 16 ∧ vs z = .null := by
  apply Classical.byContradiction
  intro q
  have := own_cnt_full (vs := vs) 16 fun i hi h => q ⟨i, hi, h⟩
  omega
/-- remove: the gap g wanders; the places from g to i are occupied; those behind g that have been looked at don't lean on g -/
def own_Gap (hm : Int64 → Nat) (ks : Nat → Int64) (vs : Nat → Value) (G : Int64 → Value) (n g i : Nat) : Prop :=
  (g < 16 ∧ i < 16 ∧ vs g ≠ .null ∧ 0 < own_dist g i) ∧
  (∀ j, j < 16 → j ≠ g → vs j ≠ .null → ∀ d, d < own_dist (hm (ks j)) j → vs ((hm (ks j) + d) % 16) ≠ .null) ∧
  (∀ j, j < 16 → j ≠ g → vs j ≠ .null → own_dist g j < own_dist g i → ∀ d, d < own_dist (hm (ks j)) j → (hm (ks j) + d) % 16 ≠ g) ∧
  (∀ a b, a < 16 → b < 16 → a ≠ g → b ≠ g → vs a ≠ .null → vs b ≠ .null → ks a = ks b → a = b) ∧
  (∀ j, j < 16 → j ≠ g → vs j ≠ .null → G (ks j) = vs j) ∧
  (∀ k, G k ≠ .null → ∃ j, j < 16 ∧ j ≠ g ∧ ks j = k ∧ vs j = G k) ∧
  own_cnt vs 16 = n ∧ (∀ d, d < own_dist g i → vs ((g + d) % 16) ≠ .null)
theorem own_gap_start {hm : Int64 → Nat} {ks : Nat → Int64} {vs : Nat → Value} {G : Int64 → Value} {n p : Nat} {k : Int64} (R : own_Rep hm ks vs G n) (hp : p < 16) (h0 : vs p ≠ .null) (hk : ks p = k) : own_Gap hm ks vs (own_upd G k .null) n p ((p + 1) % 16) := by
  obtain ⟨⟨I1, I2⟩, R1, R2, R3⟩ := R
  have e1 : own_dist p ((p + 1) % 16) = 1 := by unfold own_dist; omega
  have nk : ∀ j, j < 16 → j ≠ p → vs j ≠ .null → ks j ≠ k := fun j hj q h e => q (I2 j p hj hp h h0 (e.trans hk.symm))
  refine ⟨⟨hp, Nat.mod_lt _ (by decide), h0, by omega⟩, fun j hj _ h d hd => I1 j hj h d hd, fun j hj q h hd => ?_, fun a b ha hb _ _ h1 h2 e => I2 a b ha hb h1 h2 e, fun j hj q h => ?_, fun k' h => ?_, R3, fun d hd => ?_⟩
  · exfalso; rw [e1] at hd; unfold own_dist at hd; omega
  · rw [own_upd_ne _ _ (nk j hj q h)]; exact R1 j hj h
  · have q : k' ≠ k := fun z => h (by rw [z, own_upd_same])
    rw [own_upd_ne _ _ q] at h ⊢
    obtain ⟨j, hj, e1, e2⟩ := R2 k' h
    exact ⟨j, hj, fun z => q (by rw [← e1, z, hk]), e1, e2⟩
  · have : d = 0 := by omega
    subst this
    have : (p + 0) % 16 = p := by omega
    rw [this]; exact h0
theorem own_gap_move {hm : Int64 → Nat} {ks : Nat → Int64} {vs : Nat → Value} {G : Int64 → Value} {n g i : Nat} (hh : ∀ k, hm k < 16) (R : own_Gap hm ks vs G n g i) (h0 : vs i ≠ .null) (hd : own_dist g i ≤ own_dist (hm (ks i)) i) :
    own_Gap hm (own_upd ks g (ks i)) (own_upd vs g (vs i)) G n i ((i + 1) % 16) := by
  obtain ⟨⟨hg, hi, hvg, hp⟩, B, C, D, E, F, N, I⟩ := R
  have gi : i ≠ g := fun z => by subst z; unfold own_dist at hp; omega
  have oc : ∀ j, own_upd vs g (vs i) j = .null ↔ vs j = .null := fun j => by
    by_cases q : j = g
    · subst q; rw [own_upd_same]; exact ⟨fun z => absurd z h0, fun z => absurd z hvg⟩
    · rw [own_upd_ne _ _ q]
  have oc' : ∀ j, own_upd vs g (vs i) j ≠ .null ↔ vs j ≠ .null := fun j => not_congr (oc j)
  have ed1 : own_dist i ((i + 1) % 16) = 1 := by unfold own_dist; omega
  refine ⟨⟨hi, Nat.mod_lt _ (by decide), by rw [own_upd_ne _ _ gi]; exact h0, by omega⟩, fun j hj q h d hd' => ?_, fun j hj q h hd' => ?_, fun a b ha hb qa qb h1 h2 e => ?_, fun j hj q h => ?_, fun k h => ?_, ?_, fun d hd' => ?_⟩
  · by_cases r : j = g
    · subst r
      rw [own_upd_same] at hd' ⊢
      refine (oc' _).mpr (B i hi gi h0 d ?_)
      have := hh (ks i)
      unfold own_dist at *
      omega
    · rw [own_upd_ne _ _ r] at hd' ⊢
      exact (oc' _).mpr (B j hj r ((oc' j).mp h) d hd')
  · exfalso; rw [ed1] at hd'; unfold own_dist at hd'; omega
  · have v1 := (oc' a).mp h1
    have v2 := (oc' b).mp h2
    by_cases ra : a = g <;> by_cases rb : b = g
    · omega
    · subst ra
      rw [own_upd_same, own_upd_ne _ _ rb] at e
      exact absurd (D i b hi hb gi rb h0 v2 e).symm qb
    · subst rb
      rw [own_upd_same, own_upd_ne _ _ ra] at e
      exact absurd (D a i ha hi ra gi v1 h0 e) qa
    · rw [own_upd_ne _ _ ra, own_upd_ne _ _ rb] at e
      exact D a b ha hb ra rb v1 v2 e
  · by_cases r : j = g
    · subst r; rw [own_upd_same, own_upd_same]; exact E i hi gi h0
    · rw [own_upd_ne _ _ r, own_upd_ne _ _ r]
      rw [own_upd_ne _ _ r] at h
      exact E j hj r h
  · obtain ⟨j, hj, q, e1, e2⟩ := F k h
    by_cases r : j = i
    · subst r
      exact ⟨g, hg, fun z => gi z.symm, by rw [own_upd_same]; exact e1, by rw [own_upd_same]; exact e2⟩
    · exact ⟨j, hj, r, by rw [own_upd_ne _ _ q]; exact e1, by rw [own_upd_ne _ _ q]; exact e2⟩
  · rw [← N]; exact own_cnt_same 16 fun j _ => oc j
  · have : d = 0 := by omega
    subst this
    have : (i + 0) % 16 = i := by omega
    rw [this, own_upd_ne _ _ gi]; exact h0
theorem own_gap_skip {hm : Int64 → Nat} {ks : Nat → Int64} {vs : Nat → Value} {G : Int64 → Value} {n g i : Nat} (hh : ∀ k, hm k < 16) (hn : n < 16) (R : own_Gap hm ks vs G n g i) (h0 : vs i ≠ .null) (hd : own_dist (hm (ks i)) i < own_dist g i) :
    own_Gap hm ks vs G n g ((i + 1) % 16) := by
  obtain ⟨⟨hg, hi, hvg, hp⟩, B, C, D, E, F, N, I⟩ := R
  have ei : (g + own_dist g i) % 16 = i := by unfold own_dist; omega
  have I' : ∀ d, d < own_dist g i + 1 → vs ((g + d) % 16) ≠ .null := fun d hd' => by
    by_cases q : d = own_dist g i
    · rw [q, ei]; exact h0
    · exact I d (by omega)
  have small : own_dist g i < 15 := by
    apply Nat.lt_of_not_le
    intro q
    have : own_cnt vs 16 = 16 := own_cnt_full 16 fun j hj => by
      have := I' (own_dist g j) (by unfold own_dist at *; omega)
      have e : (g + own_dist g j) % 16 = j := by unfold own_dist; omega
      rwa [e] at this
    omega
  have e1 : own_dist g ((i + 1) % 16) = own_dist g i + 1 := by unfold own_dist at *; omega
  refine ⟨⟨hg, Nat.mod_lt _ (by decide), hvg, by omega⟩, B, fun j hj q h hd' d hdd => ?_, D, E, F, N, fun d hd' => I' d (by omega)⟩
  rw [e1] at hd'
  by_cases r : own_dist g j < own_dist g i
  · exact C j hj q h r d hdd
  · have : j = i := by unfold own_dist at *; omega
    subst this
    have := hh (ks j)
    unfold own_dist at *
    omega
theorem own_gap_end {hm : Int64 → Nat} {ks : Nat → Int64} {vs : Nat → Value} {G : Int64 → Value} {n g i : Nat} (hh : ∀ k, hm k < 16) (R : own_Gap hm ks vs G n g i) (h0 : vs i = .null) :
    own_Rep hm ks (own_upd vs g .null) G (n - 1) := by
  obtain ⟨⟨hg, hi, hvg, hp⟩, B, C, D, E, F, N, I⟩ := R
  have nz : ∀ j, own_upd vs g .null j ≠ .null → j ≠ g ∧ vs j ≠ .null := fun j h => by
    by_cases q : j = g
    · subst q; exact absurd (own_upd_same _ _ _) h
    · rw [own_upd_ne _ _ q] at h; exact ⟨q, h⟩
  refine ⟨⟨fun j hj h d hd => ?_, fun a b ha hb h1 h2 e => D a b ha hb (nz a h1).1 (nz b h2).1 (nz a h1).2 (nz b h2).2 e⟩, fun j hj h => ?_, fun k h => ?_, ?_⟩
  · obtain ⟨q, hv⟩ := nz j h
    have hB := B j hj q hv
    have ng : (hm (ks j) + d) % 16 ≠ g := by
      by_cases r : own_dist g j < own_dist g i
      · exact C j hj q hv r d hd
      · intro z
        have ji : j ≠ i := fun z => hv (z ▸ h0)
        have hk := hh (ks j)
        have lt : d + own_dist g i < own_dist (hm (ks j)) j := by unfold own_dist at *; omega
        have := hB _ lt
        have e : (hm (ks j) + (d + own_dist g i)) % 16 = i := by unfold own_dist at *; omega
        rw [e] at this
        exact this h0
    rw [own_upd_ne _ _ ng]
    exact hB d hd
  · obtain ⟨q, hv⟩ := nz j h
    rw [own_upd_ne _ _ q]
    exact E j hj q hv
  · obtain ⟨j, hj, q, e1, e2⟩ := F k h
    exact ⟨j, hj, e1, by rw [own_upd_ne _ _ q]; exact e2⟩
  · have := own_cnt_sub hvg 16
    rw [if_pos hg] at this
    omega
/-! ### the map in the heap -/
abbrev IDM : String := "com/example/rootlet/rootlet/IdMap"
abbrev OBJ : FieldType := .object "java/lang/Object"
def ix (n : Nat) : Int32 := Int32.ofNat n
theorem ix_clamp {n : Nat} (h : n < 16) : (ix n).toNatClampNeg = n := clamp_of rfl (by omega)
theorem ix_in {n : Nat} {c : Cell} (h : n < 16) (hs : c.slots.size = 16) : ¬ (ix n < 0 ∨ c.slots.size ≤ (ix n).toNatClampNeg) := by rw [hs]; exact within rfl h (by decide)
theorem ix_next : ∀ n, n < 16 → (ix n + 1) &&& 15 = ix ((n + 1) % 16) := by decide
theorem ix_sub : ∀ a, a < 16 → ∀ b, b < 16 → (ix a - ix b) &&& 15 = ix (own_dist b a) := by decide
theorem ix_lt : ∀ a, a < 16 → ∀ b, b < 16 → (ix a < ix b ↔ a < b) := by decide
theorem ix_nn : ∀ a, a < 16 → ¬ ix a < 0 := by decide
def own_hmI (k : Int64) : Int32 := ((((XT.ushrL k 4 * (-7046029254386353131)) ^^^ XT.ushrL (XT.ushrL k 4 * (-7046029254386353131)) 32) <<< ((4 : Int32).toInt64 &&& 63)) ||| (k &&& 15)).toInt32 &&& 15
def own_hm (k : Int64) : Nat := (own_hmI k).toNatClampNeg
theorem own_and15n (x : Int32) : (x &&& 15).toBitVec.toNat < 16 := by
  rw [Int32.toBitVec_and, BitVec.toNat_and]
  exact Nat.lt_of_le_of_lt Nat.and_le_right (by decide)
theorem own_and15i (x : Int32) : (x &&& 15).toInt = ((x &&& 15).toBitVec.toNat : Int) := by
  show (x &&& 15).toBitVec.toInt = _
  rw [BitVec.toInt_eq_toNat_of_lt (by have := own_and15n x; omega)]
theorem own_hm_lt (k : Int64) : own_hm k < 16 := by
  have h1 : ∀ x : Int32, (x &&& 15).toNatClampNeg < 16 := fun x => by
    have := own_and15n x
    show (x &&& 15).toInt.toNat < 16
    rw [own_and15i]; omega
  exact h1 _
theorem own_hm_ix (k : Int64) : own_hmI k = ix (own_hm k) := by
  have h1 : ∀ x : Int32, x &&& 15 = ix ((x &&& 15).toNatClampNeg) := fun x => by
    have := own_and15n x
    apply Int32.toInt_inj.mp
    have e : (x &&& 15).toNatClampNeg = (x &&& 15).toBitVec.toNat := by
      show (x &&& 15).toInt.toNat = _
      rw [own_and15i]; omega
    rw [e, own_and15i]
    exact (toInt_of (n := ix _) rfl (by omega)).symm
  exact h1 _
def own_Map (Z : State) (h : Heap) (n0 : Nat) (b ka va : Addr) (ks : Nat → Int64) (vs : Nat → Value) (n : Nat) : Prop :=
  (n0 ≤ b ∧ n0 ≤ ka ∧ n0 ≤ va ∧ b ≠ ka ∧ b ≠ va ∧ ka ≠ va) ∧ Exa Z h b IDM ∧
  (Fld Z h b IDM "keys" "[J" (.ref ka) ∧ Fld Z h b IDM "values" "[Ljava/lang/Object;" (.ref va) ∧ Fld Z h b IDM "mask" "I" (.int 15) ∧ Fld Z h b IDM "size" "I" (.int (ix n))) ∧
  (∃ ck : Cell, Arr Z h ka ck .long ∧ ck.slots.size = 16 ∧ ∀ i, i < 16 → ck.slots[i]? = some (.long (ks i))) ∧
  (∃ cv : Cell, Arr Z h va cv OBJ ∧ cv.slots.size = 16 ∧ Ovr Z cv.cls "java/lang/Object" ∧ ∀ i, i < 16 → cv.slots[i]? = some (vs i)) ∧
  (∀ i, i < 16 → vs i = .null ∨ ∃ w, vs i = .ref w ∧ Exa Z h w "java/lang/Integer")
section MapFacts
variable {Z : State} {h h' : Heap} {n0 : Nat} {b ka va : Addr} {ks : Nat → Int64} {vs : Nat → Value} {n : Nat}
theorem own_Map.isRef (M : own_Map Z h n0 b ka va ks vs n) {i : Nat} (hi : i < 16) : (vs i).isRef = true := by
  rcases M.2.2.2.2.2 i hi with q | ⟨w, q, -⟩ <;> rw [q] <;> rfl
theorem own_Map.ext (M : own_Map Z h n0 b ka va ks vs n) (E : Ext h h') : own_Map Z h' n0 b ka va ks vs n := by
  obtain ⟨A, B, ⟨F1, F2, F3, F4⟩, ⟨ck, K1, K2⟩, ⟨cv, V1, V2⟩, D⟩ := M
  exact ⟨A, B.ext E, ⟨F1.ext E, F2.ext E, F3.ext E, F4.ext E⟩, ⟨ck, K1.ext E, K2⟩, ⟨cv, V1.ext E, V2⟩, fun i hi => (D i hi).imp id fun ⟨w, q, r⟩ => ⟨w, q, r.ext E⟩⟩
theorem own_slots {c : Cell} {f : Nat → Value} {i : Nat} {v : Value} (hs : c.slots.size = 16) (H : ∀ j, j < 16 → c.slots[j]? = some (f j)) (hi : i < 16) : (c.setSlot i v).slots.size = 16 ∧ ∀ j, j < 16 → (c.setSlot i v).slots[j]? = some (own_upd f i v j) := by
  refine ⟨by rw [sz_set]; exact hs, fun j hj => ?_⟩
  by_cases q : j = i
  · subst q
    rw [own_upd_same]
    simp [Cell.setSlot, hs, hj]
  · rw [own_upd_ne _ _ q]
    show (c.slots.setIfInBounds i v)[j]? = _
    rw [Array.getElem?_setIfInBounds_ne (Ne.symm q)]
    exact H j hj
theorem own_Map.keys (M : own_Map Z h n0 b ka va ks vs n) {i : Nat} {x : Int64} (hi : i < 16) (W : Wr h h' ka (ix i).toNatClampNeg (.long x)) : own_Map Z h' n0 b ka va (own_upd ks i x) vs n := by
  rw [ix_clamp hi] at W
  obtain ⟨A, B, ⟨F1, F2, F3, F4⟩, ⟨ck, K1, K2, K3⟩, ⟨cv, V1, V2⟩, D⟩ := M
  obtain ⟨a1, a2, a3, a4, a5, a6⟩ := A
  have S := own_slots (f := fun j => .long (ks j)) (v := .long x) K2 K3 hi
  refine ⟨⟨a1, a2, a3, a4, a5, a6⟩, B.wr W, ⟨F1.other W (Or.inl a4), F2.other W (Or.inl a4), F3.other W (Or.inl a4), F4.other W (Or.inl a4)⟩, ⟨_, K1.same W, S.1, fun j hj => ?_⟩, ⟨cv, V1.other W (Ne.symm a6), V2⟩, fun j hj => (D j hj).imp id fun ⟨w, q, r⟩ => ⟨w, q, r.wr W⟩⟩
  rw [S.2 j hj]
  by_cases q : j = i
  · subst q; rw [own_upd_same, own_upd_same]
  · rw [own_upd_ne _ _ q, own_upd_ne _ _ q]
theorem own_Map.vals (M : own_Map Z h n0 b ka va ks vs n) {i : Nat} {v : Value} (hi : i < 16) (hv : v = .null ∨ ∃ w, v = .ref w ∧ Exa Z h w "java/lang/Integer") (W : Wr h h' va (ix i).toNatClampNeg v) : own_Map Z h' n0 b ka va ks (own_upd vs i v) n := by
  rw [ix_clamp hi] at W
  obtain ⟨A, B, ⟨F1, F2, F3, F4⟩, ⟨ck, K1, K2, K3⟩, ⟨cv, V1, V2, V3, V4⟩, D⟩ := M
  obtain ⟨a1, a2, a3, a4, a5, a6⟩ := A
  have S := own_slots (v := v) V2 V4 hi
  refine ⟨⟨a1, a2, a3, a4, a5, a6⟩, B.wr W, ⟨F1.other W (Or.inl a5), F2.other W (Or.inl a5), F3.other W (Or.inl a5), F4.other W (Or.inl a5)⟩, ⟨ck, K1.other W a6, K2, K3⟩, ⟨_, V1.same W, S.1, V3, S.2⟩, fun j hj => ?_⟩
  by_cases q : j = i
  · subst q; rw [own_upd_same]; exact hv.imp id fun ⟨w, q, r⟩ => ⟨w, q, r.wr W⟩
  · rw [own_upd_ne _ _ q]; exact (D j hj).imp id fun ⟨w, q, r⟩ => ⟨w, q, r.wr W⟩
theorem own_Map.sized {a0 : Array Value} (hk : (Cond.lays IDM IDM "keys" "[J").before a0 Z = true) (hv : (Cond.lays IDM IDM "values" "[Ljava/lang/Object;").before a0 Z = true) (hm : (Cond.lays IDM IDM "mask" "I").before a0 Z = true) (hs : (Cond.lays IDM IDM "size" "I").before a0 Z = true)
    (M : own_Map Z h n0 b ka va ks vs n) {n' : Nat} (W : Wr h h' b (RoadKit.slotOf Z IDM "size" "I") (.int (ix n'))) : own_Map Z h' n0 b ka va ks vs n' := by
  obtain ⟨A, B, ⟨F1, F2, F3, F4⟩, ⟨ck, K1, K2⟩, ⟨cv, V1, V2⟩, D⟩ := M
  refine ⟨A, B.wr W, ⟨F1.other W (Or.inr (RoadKit.slot_ne (Or.inl hk) (Or.inl hs) (by decide) (t := .array .long) (t' := .int) (by decide) (by decide))), F2.other W (Or.inr (RoadKit.slot_ne (Or.inl hv) (Or.inl hs) (by decide) (t := .array OBJ) (t' := .int) (by decide) (by decide))), F3.other W (Or.inr (RoadKit.slot_ne (Or.inl hm) (Or.inl hs) (by decide) (t := .int) (t' := .int) (by decide) (by decide))), F4.same W⟩, ⟨ck, K1.other W (Ne.symm A.2.2.2.1), K2⟩, ⟨cv, V1.other W (Ne.symm A.2.2.2.2.1), V2⟩, fun j hj => (D j hj).imp id fun ⟨w, q, r⟩ => ⟨w, q, r.wr W⟩⟩
end MapFacts
theorem own_Map.sto {Z : State} {h : Heap} {n0 : Nat} {b ka va : Addr} {ks : Nat → Int64} {vs : Nat → Value} {n : Nat} {a0 : Array Value} (M : own_Map Z h n0 b ka va ks vs n) (hc : (Jvm.Cond.castable "java/lang/Integer" "java/lang/Object").before a0 Z = true) {v : Value} (hv : v = .null ∨ ∃ w, v = .ref w ∧ Exa Z h w "java/lang/Integer") : Sto Z h va v := by
  rcases hv with rfl | ⟨w, rfl, E⟩
  · exact Or.inl rfl
  · obtain ⟨A, B, F, K, ⟨cv, V1, V2, V3, V4⟩, D⟩ := M
    exact Sto.of V1 V3 (Ins.of_exa E hc)
theorem own_selp {s : State} {args : Array Value} {y z : MethodName} (hz : (Jvm.Cond.selects z.cls z z).before args s = true) (e : y.cls = z.cls) (hp : (Jvm.Cond.privateMethod y).before args s = true) (hi : (Jvm.Cond.instanceMethod y).before args s = true) (hy : y.cls ≠ "java/lang/invoke/MethodHandle" ∧ y.cls ≠ "java/lang/invoke/VarHandle") : (Jvm.Cond.selects y.cls y y).before args s = true := by
  obtain ⟨c, r, m, h1, h2, h3, h4, mk, h5, h6⟩ := Cond.selects_spec hz
  have hc := findClass_of_methodNamed h3
  rw [← e] at hc
  exact Jvm.Stand.selects_self_of_private hc h5 h6 (Cond.privateMethod_at hp) hi hy
/-- what find answers -/
def own_QF (ks : Nat → Int64) (vs : Nat → Value) (G : Int64 → Value) (k : Int64) (h0 : Heap) (n0 : Nat) (v : Option Value) (h : Heap) (L : List Loc) : Prop :=
  (∃ r : Int32, v = some (.int r) ∧ ((∃ i, i < 16 ∧ r = ix i ∧ vs i ≠ .null ∧ ks i = k) ∨ (r = -1 ∧ G k = .null))) ∧ Fr n0 L ∧ h = h0
/-- what put and remove leave -/
def own_QM (Z : State) (n0 hs : Nat) (b ka va : Addr) (G : Int64 → Value) (n : Nat) (r : Value) (v : Option Value) (h : Heap) (L : List Loc) : Prop :=
  v = some r ∧ Fr n0 L ∧ (Old Z n0 h ∧ hs ≤ h.size) ∧ ∃ ks vs, own_Map Z h n0 b ka va ks vs n ∧ own_Rep own_hm ks vs G n
def FinW (s : State) (below : List Frame) (Q : Option Value → Heap → List Loc → Prop) (cc ss : Nat) (s₂ : State) (o : Outcome) : Prop := s₂.status = .running ∧ Ended s₂ below o ∧ ∃ v L, o = .returned v ∧ Q v s₂.heap L ∧ ReturnedEndW s o s₂ L cc ss
theorem own_endW {s t : State} {o : Outcome} {L : List Loc} {k n k' n' : Nat} (h : ReturnedEndW s o t L k n) (hk : k ≤ k') (hn : n ≤ n') : ReturnedEndW s o t L k' n' := ⟨h.1, h.2.1, h.2.2.1, h.2.2.2.mono hk hn⟩
section Rets
variable {p : Program} {l : Launch} {e : Env} {R : Room} {s : State} {m : MethodId} {args : Array Value} {below : List Frame} {meth : Method} {c : Code} {T : State} {locs : List Loc} {cells slots : Nat}
theorem own_retW {vm₁ : Vm} (X : Stand p l e R (s.setVm vm₁) m args below meth c T locs cells slots) {k : Nat} (hS : s.Since vm₁ k) (hk : k ≤ T.heap.size) (hx : p.tables.exec = Jvm.exec) (hlk : meth.locks = false)
    {pc : Nat} {Ls : Array Slot} {w : Value} {t : FieldType} {i : Instr} {rest : List Value} (hret : meth.sig.returnType = some t) (hn : narrow t w = w)
    (hi : (i = .ireturn ∧ (t = .int ∨ t = .boolean ∨ t = .byte ∨ t = .char ∨ t = .short) ∧ ∃ z, w = .int z) ∨ (i = .lreturn ∧ t = .long ∧ ∃ z, w = .long z) ∨ (i = .dreturn ∧ t = .double ∧ ∃ z, w = .double z) ∨ (i = .freturn ∧ t = .float ∧ ∃ z, w = .float z) ∨ (i = .areturn ∧ t.isReference = true ∧ w.isRef = true))
    (hd : decode c.code pc = .ok (i, 1)) {Q : Option Value → Heap → List Loc → Prop} (hQ : Q (some w) T.heap locs) {cc ss : Nat} (hc : cells ≤ cc) (hs : slots ≤ ss) :
    Go p.tables e below (FinW s below Q cc ss) (T.setTop (mkF m pc Ls (w :: rest))) := by
  obtain ⟨fs, hr, hrun, hended, hW⟩ := X.leaveW hS hk (v := some w) (fun h => by rw [hret] at h; cases h) hlk
  exact ⟨_, _, retOut X hx hret hn hi hd hr, hrun, hended, _, _, rfl, hQ, own_endW hW hc hs⟩
theorem own_retv (X : Stand p l e R s m args below meth c T locs cells slots) (hx : p.tables.exec = Jvm.exec) (hlk : meth.locks = false)
    {pc : Nat} {Ls : Array Slot} (hret : meth.sig.returnType = none)
    (hd : decode c.code pc = .ok (.return_, 1)) {Q : Option Value → Heap → List Loc → Prop} (hQ : Q none T.heap locs) {cc ss : Nat} (hc : cells ≤ cc) (hs : slots ≤ ss) :
    Go p.tables e below (Fin s below Q cc ss) (T.setTop (mkF m pc Ls [])) := by
  obtain ⟨fs, hr, hrun, hended, hW, hsame⟩ := X.leave (v := none) (fun _ => rfl) hlk
  exact ⟨_, _, X.returnOut hx hret hd hr, hrun, hended, _, _, rfl, hQ, ⟨_, rfl⟩, hW, hsame.mono hc hs⟩
end Rets
theorem ix_succ (n : Nat) : ix n + 1 = ix (n + 1) := (inc_ofNat n).symm
theorem ix_pred : ∀ n, 0 < n → ix n - 1 = ix (n - 1) := fun n h => by
  obtain ⟨k, rfl⟩ : ∃ k, n = k + 1 := ⟨n - 1, by omega⟩
  exact dec_ofNat k
theorem ix_ne15 : ∀ n, n < 8 → ¬ ix n = 15 := by decide
theorem ix_le8 : ∀ n, n < 8 → ¬ (16 : Int32) < (2 : Int32) * ix (n + 1) := by decide
theorem own_upd_id {α β : Type} [DecidableEq α] {f : α → β} {i : α} {x : β} (h : f i = x) : own_upd f i x = f := by
  funext j
  by_cases q : j = i
  · subst q; rw [own_upd_same, h]
  · rw [own_upd_ne _ _ q]
theorem own_dist_lt (a b : Nat) : own_dist a b < 16 := Nat.mod_lt _ (by decide)
theorem own_dist_next {i z : Nat} (hi : i < 16) (hz : z < 16) (h : i ≠ z) : own_dist ((i + 1) % 16) z + 1 = own_dist i z := by unfold own_dist; omega
theorem own_cnt_pos {vs : Nat → Value} {i n : Nat} (hi : i < 16) (h : vs i ≠ .null) (hc : own_cnt vs 16 = n) : 0 < n := by
  have := own_cnt_sub h 16
  rw [if_pos hi] at this
  omega
/-- what the constructor leaves -/
def own_QI (Z : State) (n0 : Nat) (b : Addr) (v : Option Value) (h : Heap) (L : List Loc) : Prop :=
  v = none ∧ Fr n0 L ∧ Old Z n0 h ∧ ∃ ka va, own_Map Z h n0 b ka va (fun _ => 0) (fun _ => .null) 0

def LQ (n0 : Nat) (v : Option Value) (h : Heap) (L : List Loc) : Prop := v = some (.int 1) ∧ Fr n0 L
theorem own_gone {G : Int64 → Value} {r q : Int64} : own_upd G r .null q = .null ↔ (q = r ∨ G q = .null) := by
  by_cases h : q = r
  · subst h; simp [own_upd_same]
  · simp [own_upd_ne _ _ h, h]
theorem own_come {G : Int64 → Value} {k q : Int64} {w : Addr} : own_upd G k (.ref w) q = .null ↔ (¬ q = k ∧ G q = .null) := by
  by_cases h : q = k
  · subst h; simp [own_upd_same]
  · simp [own_upd_ne _ _ h, h]
abbrev ICC : String := "java/lang/Integer$IntegerCache"
abbrev CACHE : Term := .static "java/lang/Integer$IntegerCache" "cache" "[Ljava/lang/Integer;"
theorem own_box {Z : State} {args : Array Value} {ca : Addr} {cl : Cell} (ev : ∀ idx, CACHE.eval args Z none idx Z = some (.ref ca)) (Ar : Arr Z Z.heap ca cl (.object "java/lang/Integer")) (hl : cl.slots.size = 256)
    (h : (Jvm.Cond.all CACHE (.and (.exactly (.elem CACHE (.index 0)) "java/lang/Integer") (.eq (.field (.elem CACHE (.index 0)) "java/lang/Integer" "value" "I") (.sub (.index 0) (.int 128))))).value args Z none Z [] = some true)
    (j : Int32) (hj : ¬ j < 0) (hj2 : j.toNatClampNeg < 256) : ∃ w, cl.slots[j.toNatClampNeg]? = some (.ref w) ∧ Exa Z Z.heap w "java/lang/Integer" ∧ Fld Z Z.heap w "java/lang/Integer" "value" "I" (.int (j - 128)) := by
  have ha := Arr.fin (Vm.Alike.refl _) Ar
  have q := Cond.all_elim (ev []) ha h j.toNatClampNeg (by omega)
  obtain ⟨q1, q2⟩ := and_e q
  obtain ⟨w, e1⟩ := exa_v q1
  have i1 := elem_in e1 (ev _) (idx_at hj) Ar.1
  refine ⟨w, i1.2, exa_at e1 q1, ?_⟩
  have f1 : (Term.field (.elem CACHE (.index 0)) "java/lang/Integer" "value" "I").eval args Z none [j.toNatClampNeg] Z = Z.fieldOf? w "java/lang/Integer" "value" "I" := fld_at e1
  obtain ⟨x, y, h1, h2, h3, h4⟩ := cmp_v (Or.inl q2)
  have e0 : (Term.index 0).eval args Z none [j.toNatClampNeg] Z = some (.int j) := idx_at hj
  have e2 : (Term.sub (.index 0) (.int 128)).eval args Z none [j.toNatClampNeg] Z = some (.int (j - 128)) := by
    have e3 : (Term.int 128).eval args Z none [j.toNatClampNeg] Z = some (.int 128) := Term.int_eval 128
    rw [Term.eval, e0, e3]; rfl
  cases e2.symm.trans h2
  obtain ⟨z, rfl⟩ := h4
  have q := gotT (u := (Jvm.Cond.eq (.field (.elem CACHE (.index 0)) "java/lang/Integer" "value" "I") (.sub (.index 0) (.int 128))).value args Z none Z [j.toNatClampNeg]) (P := z = j - 128) (by rw [Cond.value, h1, e2]) q2
  subst q
  exact Fld.start (f1 ▸ h1)
theorem own_gref {Z : State} {h : Heap} {n0 : Nat} {b ka va : Addr} {ks : Nat → Int64} {vs : Nat → Value} {n : Nat} {G : Int64 → Value} (M : own_Map Z h n0 b ka va ks vs n) (R : own_Rep own_hm ks vs G n) (q : Int64) : (G q).isRef = true := by
  by_cases hq : G q = .null
  · rw [hq]; rfl
  · obtain ⟨i, hi, -, e⟩ := R.2.2.1 q hq
    rw [← e]; exact M.isRef hi
theorem d7_0 : decode prog_24_method_12_code 0 = .ok (.lload_n 1, 1) := by decide +kernel
theorem d7_1 : decode prog_24_method_12_code 1 = .ok (.iconst 4, 1) := by decide +kernel
theorem d7_2 : decode prog_24_method_12_code 2 = .ok (.lushr, 1) := by decide +kernel
theorem d7_3 : decode prog_24_method_12_code 3 = .ok (.ldc2_w 66, 3) := by decide +kernel
theorem d7_6 : decode prog_24_method_12_code 6 = .ok (.lmul, 1) := by decide +kernel
theorem d7_7 : decode prog_24_method_12_code 7 = .ok (.lstore_n 3, 1) := by decide +kernel
theorem d7_8 : decode prog_24_method_12_code 8 = .ok (.lload_n 3, 1) := by decide +kernel
theorem d7_9 : decode prog_24_method_12_code 9 = .ok (.lload_n 3, 1) := by decide +kernel
theorem d7_10 : decode prog_24_method_12_code 10 = .ok (.bipush 32, 2) := by decide +kernel
theorem d7_12 : decode prog_24_method_12_code 12 = .ok (.lushr, 1) := by decide +kernel
theorem d7_13 : decode prog_24_method_12_code 13 = .ok (.lxor, 1) := by decide +kernel
theorem d7_14 : decode prog_24_method_12_code 14 = .ok (.iconst 4, 1) := by decide +kernel
theorem d7_15 : decode prog_24_method_12_code 15 = .ok (.lshl, 1) := by decide +kernel
theorem d7_16 : decode prog_24_method_12_code 16 = .ok (.lload_n 1, 1) := by decide +kernel
theorem d7_17 : decode prog_24_method_12_code 17 = .ok (.ldc2_w 68, 3) := by decide +kernel
theorem d7_20 : decode prog_24_method_12_code 20 = .ok (.land, 1) := by decide +kernel
theorem d7_21 : decode prog_24_method_12_code 21 = .ok (.lor, 1) := by decide +kernel
theorem d7_22 : decode prog_24_method_12_code 22 = .ok (.l2i, 1) := by decide +kernel
theorem d7_23 : decode prog_24_method_12_code 23 = .ok (.aload_n 0, 1) := by decide +kernel
theorem d7_24 : decode prog_24_method_12_code 24 = .ok (.getfield 43, 3) := by decide +kernel
theorem d7_27 : decode prog_24_method_12_code 27 = .ok (.iand, 1) := by decide +kernel
theorem d7_28 : decode prog_24_method_12_code 28 = .ok (.ireturn, 1) := by decide +kernel
theorem pn_0 : plainName "com/example/rootlet/rootlet/IdMap" = true := by first | (simp [plainName, overriddenIn]; done) | decide +kernel
theorem ef_rm_home (m : MethodId) (x0 : Addr) (x1 : Int64) : entryFrame m #[(.ref x0), (.long x1)] 5 = mkF m 0 #[.val (.ref x0), .val (.long x1), .second, .unset, .unset] [] := by first | (simp [entryFrame, mkF, argsToLocals, Value.category]; done) | rfl
set_option maxRecDepth 65536 in
set_option maxHeartbeats 40000000 in
theorem rm_home (l : Launch) (Z : State) (a0 : Array Value) (hw : ∀ d ∈ tables_1, d.before a0 Z = true) (ws : List Jvm.Cond) (b : Addr) (q : Int64) (h0 : Heap) (n0 : Nat) (Fm : Fld Z h0 b IDM "mask" "I" (.int 15)) :
    MetFree l (⟨"com/example/rootlet/rootlet/IdMap", "home", "(J)I"⟩ : MethodName) (head1 (Jvm.Cond.code (⟨"com/example/rootlet/rootlet/IdMap", "home", "(J)I"⟩ : MethodName) prog_24_method_12_code 5 (some .int) :: ws) ({ frames := 0, cells := 0, slots := 0, locals := 0 } : Room)) (fun aa U => aa = #[(.ref b), (.long q)] ∧ Z.Warmed39 U.vm ∧ U.heap = h0) (fun _ _ _ _ _ => True) (fun _ U o U' => ∃ v_ L_, o = .returned v_ ∧ PQ (.int (own_hmI q)) h0 n0 v_ U'.heap L_ ∧ FrameEnd U o U' L_ ({ frames := 0, cells := 0, slots := 0, locals := 0 } : Room).cells ({ frames := 0, cells := 0, slots := 0, locals := 0 } : Room).slots) := by
  refine MetFree.of_bodySF (plainFor_of_name pn_0) hisR ?_
  intro p e s m args below meth c s₁ Bd hml0 hP hK
  obtain ⟨rfl, hZ, hh⟩ := hP
  have hx := Bd.exec
  have hby := Bd.bytes
  have hlk := Bd.notSynchronized
  have hml : c.maxLocals = 5 := hml0
  have hown : s.vm.findClass "com/example/rootlet/rootlet/IdMap" = some m.cls := by have q := findClass_of_methodNamed Bd.named; exact q
  have X0 : Stand p l e ({ frames := 0, cells := 0, slots := 0, locals := 0 } : Room) s m #[(.ref b), (.long q)] below meth c s₁ [] 0 0 := Stand.of_body Bd
  have e0 : s₁.heap = h0 := by rw [← hh, Bd.state]; rfl
  have N0 := Fr.nil n0
  show Go p.tables e below (Fin s below (PQ (.int (own_hmI q)) h0 n0) ({ frames := 0, cells := 0, slots := 0, locals := 0 } : Room).cells ({ frames := 0, cells := 0, slots := 0, locals := 0 } : Room).slots) (s₁.setTop (entryFrame m #[(.ref b), (.long q)] 5))
  refine own_go (fun tt_ kk_ => castTop (ef_rm_home m b q) kk_) ?_
  show Go p.tables e below _ (s₁.setTop (mkF m 0 #[.val (.ref b), .val (.long q), .second, .unset, .unset] []))
  refine own_go (fun tt_ kk_ => XT.lloadN X0.here hx rfl (hb hby d7_0) rfl kk_) ?_
  show Go p.tables e below _ (s₁.setTop (mkF m 1 #[.val (.ref b), .val (.long q), .second, .unset, .unset] [(.long q)]))
  refine own_go (fun tt_ kk_ => XS.iconst X0.here hx rfl (hb hby d7_1) kk_) ?_
  show Go p.tables e below _ (s₁.setTop (mkF m 2 #[.val (.ref b), .val (.long q), .second, .unset, .unset] [(.int (4 : Int32)), (.long q)]))
  refine own_go (fun tt_ kk_ => XT.lushr X0.here hx rfl (hb hby d7_2) rfl kk_) ?_
  show Go p.tables e below _ (s₁.setTop (mkF m 3 #[.val (.ref b), .val (.long q), .second, .unset, .unset] [(.long (XT.ushrL q (4 : Int32)))]))
  refine own_go (fun tt_ kk_ => Jvm.Stand.ldc2J X0 hx hown (mvT hZ (hw _ (List.mem_of_getElem? (i := 50) rfl))) rfl (hb hby d7_3) kk_) ?_
  show Go p.tables e below _ (s₁.setTop (mkF m 6 #[.val (.ref b), .val (.long q), .second, .unset, .unset] [(.long ((-7046029254386353131) : Int64)), (.long (XT.ushrL q (4 : Int32)))]))
  refine own_go (fun tt_ kk_ => XT.lmul X0.here hx rfl (hb hby d7_6) rfl kk_) ?_
  show Go p.tables e below _ (s₁.setTop (mkF m 7 #[.val (.ref b), .val (.long q), .second, .unset, .unset] [(.long ((XT.ushrL q (4 : Int32)) * ((-7046029254386353131) : Int64)))]))
  refine own_go (fun tt_ kk_ => XT.lstoreN X0.here hx rfl (hb hby d7_7) rfl (l' := #[.val (.ref b), .val (.long q), .second, .val (.long ((XT.ushrL q (4 : Int32)) * ((-7046029254386353131) : Int64))), .second]) rfl kk_) ?_
  show Go p.tables e below _ (s₁.setTop (mkF m 8 #[.val (.ref b), .val (.long q), .second, .val (.long ((XT.ushrL q (4 : Int32)) * ((-7046029254386353131) : Int64))), .second] []))
  refine own_go (fun tt_ kk_ => XT.lloadN X0.here hx rfl (hb hby d7_8) rfl kk_) ?_
  show Go p.tables e below _ (s₁.setTop (mkF m 9 #[.val (.ref b), .val (.long q), .second, .val (.long ((XT.ushrL q (4 : Int32)) * ((-7046029254386353131) : Int64))), .second] [(.long ((XT.ushrL q (4 : Int32)) * ((-7046029254386353131) : Int64)))]))
  refine own_go (fun tt_ kk_ => XT.lloadN X0.here hx rfl (hb hby d7_9) rfl kk_) ?_
  show Go p.tables e below _ (s₁.setTop (mkF m 10 #[.val (.ref b), .val (.long q), .second, .val (.long ((XT.ushrL q (4 : Int32)) * ((-7046029254386353131) : Int64))), .second] [(.long ((XT.ushrL q (4 : Int32)) * ((-7046029254386353131) : Int64))), (.long ((XT.ushrL q (4 : Int32)) * ((-7046029254386353131) : Int64)))]))
  refine own_go (fun tt_ kk_ => XS.bipush X0.here hx rfl (hb hby d7_10) kk_) ?_
  show Go p.tables e below _ (s₁.setTop (mkF m 12 #[.val (.ref b), .val (.long q), .second, .val (.long ((XT.ushrL q (4 : Int32)) * ((-7046029254386353131) : Int64))), .second] [(.int (32 : Int32)), (.long ((XT.ushrL q (4 : Int32)) * ((-7046029254386353131) : Int64))), (.long ((XT.ushrL q (4 : Int32)) * ((-7046029254386353131) : Int64)))]))
  refine own_go (fun tt_ kk_ => XT.lushr X0.here hx rfl (hb hby d7_12) rfl kk_) ?_
  show Go p.tables e below _ (s₁.setTop (mkF m 13 #[.val (.ref b), .val (.long q), .second, .val (.long ((XT.ushrL q (4 : Int32)) * ((-7046029254386353131) : Int64))), .second] [(.long (XT.ushrL ((XT.ushrL q (4 : Int32)) * ((-7046029254386353131) : Int64)) (32 : Int32))), (.long ((XT.ushrL q (4 : Int32)) * ((-7046029254386353131) : Int64)))]))
  refine own_go (fun tt_ kk_ => XT.lxor X0.here hx rfl (hb hby d7_13) rfl kk_) ?_
  show Go p.tables e below _ (s₁.setTop (mkF m 14 #[.val (.ref b), .val (.long q), .second, .val (.long ((XT.ushrL q (4 : Int32)) * ((-7046029254386353131) : Int64))), .second] [(.long (((XT.ushrL q (4 : Int32)) * ((-7046029254386353131) : Int64)) ^^^ (XT.ushrL ((XT.ushrL q (4 : Int32)) * ((-7046029254386353131) : Int64)) (32 : Int32))))]))
  refine own_go (fun tt_ kk_ => XS.iconst X0.here hx rfl (hb hby d7_14) kk_) ?_
  show Go p.tables e below _ (s₁.setTop (mkF m 15 #[.val (.ref b), .val (.long q), .second, .val (.long ((XT.ushrL q (4 : Int32)) * ((-7046029254386353131) : Int64))), .second] [(.int (4 : Int32)), (.long (((XT.ushrL q (4 : Int32)) * ((-7046029254386353131) : Int64)) ^^^ (XT.ushrL ((XT.ushrL q (4 : Int32)) * ((-7046029254386353131) : Int64)) (32 : Int32))))]))
  refine own_go (fun tt_ kk_ => XT.lshl X0.here hx rfl (hb hby d7_15) rfl kk_) ?_
  show Go p.tables e below _ (s₁.setTop (mkF m 16 #[.val (.ref b), .val (.long q), .second, .val (.long ((XT.ushrL q (4 : Int32)) * ((-7046029254386353131) : Int64))), .second] [(.long ((((XT.ushrL q (4 : Int32)) * ((-7046029254386353131) : Int64)) ^^^ (XT.ushrL ((XT.ushrL q (4 : Int32)) * ((-7046029254386353131) : Int64)) (32 : Int32))) <<< ((4 : Int32).toInt64 &&& 63)))]))
  refine own_go (fun tt_ kk_ => XT.lloadN X0.here hx rfl (hb hby d7_16) rfl kk_) ?_
  show Go p.tables e below _ (s₁.setTop (mkF m 17 #[.val (.ref b), .val (.long q), .second, .val (.long ((XT.ushrL q (4 : Int32)) * ((-7046029254386353131) : Int64))), .second] [(.long q), (.long ((((XT.ushrL q (4 : Int32)) * ((-7046029254386353131) : Int64)) ^^^ (XT.ushrL ((XT.ushrL q (4 : Int32)) * ((-7046029254386353131) : Int64)) (32 : Int32))) <<< ((4 : Int32).toInt64 &&& 63)))]))
  refine own_go (fun tt_ kk_ => Jvm.Stand.ldc2J X0 hx hown (mvT hZ (hw _ (List.mem_of_getElem? (i := 51) rfl))) rfl (hb hby d7_17) kk_) ?_
  show Go p.tables e below _ (s₁.setTop (mkF m 20 #[.val (.ref b), .val (.long q), .second, .val (.long ((XT.ushrL q (4 : Int32)) * ((-7046029254386353131) : Int64))), .second] [(.long (15 : Int64)), (.long q), (.long ((((XT.ushrL q (4 : Int32)) * ((-7046029254386353131) : Int64)) ^^^ (XT.ushrL ((XT.ushrL q (4 : Int32)) * ((-7046029254386353131) : Int64)) (32 : Int32))) <<< ((4 : Int32).toInt64 &&& 63)))]))
  refine own_go (fun tt_ kk_ => XT.land X0.here hx rfl (hb hby d7_20) rfl kk_) ?_
  show Go p.tables e below _ (s₁.setTop (mkF m 21 #[.val (.ref b), .val (.long q), .second, .val (.long ((XT.ushrL q (4 : Int32)) * ((-7046029254386353131) : Int64))), .second] [(.long (q &&& (15 : Int64))), (.long ((((XT.ushrL q (4 : Int32)) * ((-7046029254386353131) : Int64)) ^^^ (XT.ushrL ((XT.ushrL q (4 : Int32)) * ((-7046029254386353131) : Int64)) (32 : Int32))) <<< ((4 : Int32).toInt64 &&& 63)))]))
  refine own_go (fun tt_ kk_ => XT.lor X0.here hx rfl (hb hby d7_21) rfl kk_) ?_
  show Go p.tables e below _ (s₁.setTop (mkF m 22 #[.val (.ref b), .val (.long q), .second, .val (.long ((XT.ushrL q (4 : Int32)) * ((-7046029254386353131) : Int64))), .second] [(.long (((((XT.ushrL q (4 : Int32)) * ((-7046029254386353131) : Int64)) ^^^ (XT.ushrL ((XT.ushrL q (4 : Int32)) * ((-7046029254386353131) : Int64)) (32 : Int32))) <<< ((4 : Int32).toInt64 &&& 63)) ||| (q &&& (15 : Int64))))]))
  refine own_go (fun tt_ kk_ => XT.l2i X0.here hx rfl (hb hby d7_22) rfl kk_) ?_
  show Go p.tables e below _ (s₁.setTop (mkF m 23 #[.val (.ref b), .val (.long q), .second, .val (.long ((XT.ushrL q (4 : Int32)) * ((-7046029254386353131) : Int64))), .second] [(.int (((((XT.ushrL q (4 : Int32)) * ((-7046029254386353131) : Int64)) ^^^ (XT.ushrL ((XT.ushrL q (4 : Int32)) * ((-7046029254386353131) : Int64)) (32 : Int32))) <<< ((4 : Int32).toInt64 &&& 63)) ||| (q &&& (15 : Int64))).toInt32)]))
  refine own_go (fun tt_ kk_ => XS.aloadN X0.here hx rfl (hb hby d7_23) rfl rfl kk_) ?_
  show Go p.tables e below _ (s₁.setTop (mkF m 24 #[.val (.ref b), .val (.long q), .second, .val (.long ((XT.ushrL q (4 : Int32)) * ((-7046029254386353131) : Int64))), .second] [(.ref b), (.int (((((XT.ushrL q (4 : Int32)) * ((-7046029254386353131) : Int64)) ^^^ (XT.ushrL ((XT.ushrL q (4 : Int32)) * ((-7046029254386353131) : Int64)) (32 : Int32))) <<< ((4 : Int32).toInt64 &&& 63)) ||| (q &&& (15 : Int64))).toInt32)]))
  obtain ⟨T1, X1, e1, st1⟩ := getF X0 hx hZ hown (host := "") (Or.inl (hw _ (List.mem_of_getElem? (i := 20) rfl))) Via.refl e0 Fm (g := (mkF m 24 #[.val (.ref b), .val (.long q), .second, .val (.long ((XT.ushrL q (4 : Int32)) * ((-7046029254386353131) : Int64))), .second] [(.ref b), (.int (((((XT.ushrL q (4 : Int32)) * ((-7046029254386353131) : Int64)) ^^^ (XT.ushrL ((XT.ushrL q (4 : Int32)) * ((-7046029254386353131) : Int64)) (32 : Int32))) <<< ((4 : Int32).toInt64 &&& 63)) ||| (q &&& (15 : Int64))).toInt32)])) rfl rfl (hb hby d7_24)
  refine own_go (fun tt_ kk_ => st1 tt_ kk_) ?_
  show Go p.tables e below _ (T1.setTop (mkF m 27 #[.val (.ref b), .val (.long q), .second, .val (.long ((XT.ushrL q (4 : Int32)) * ((-7046029254386353131) : Int64))), .second] [(.int (15 : Int32)), (.int (((((XT.ushrL q (4 : Int32)) * ((-7046029254386353131) : Int64)) ^^^ (XT.ushrL ((XT.ushrL q (4 : Int32)) * ((-7046029254386353131) : Int64)) (32 : Int32))) <<< ((4 : Int32).toInt64 &&& 63)) ||| (q &&& (15 : Int64))).toInt32)]))
  refine own_go (fun tt_ kk_ => XS.iand X1.here hx rfl (hb hby d7_27) rfl kk_) ?_
  show Go p.tables e below _ (T1.setTop (mkF m 28 #[.val (.ref b), .val (.long q), .second, .val (.long ((XT.ushrL q (4 : Int32)) * ((-7046029254386353131) : Int64))), .second] [(.int ((((((XT.ushrL q (4 : Int32)) * ((-7046029254386353131) : Int64)) ^^^ (XT.ushrL ((XT.ushrL q (4 : Int32)) * ((-7046029254386353131) : Int64)) (32 : Int32))) <<< ((4 : Int32).toInt64 &&& 63)) ||| (q &&& (15 : Int64))).toInt32 &&& (15 : Int32)))]))
  exact own_ret X1 hx hlk Bd.returns rfl (Or.inl ⟨rfl, Or.inl rfl, _, rfl⟩) (hb hby d7_28) ⟨rfl, N0, e1⟩ (by decide) (by decide)
theorem d8_0 : decode prog_24_method_13_code 0 = .ok (.aload_n 0, 1) := by decide +kernel
theorem d8_1 : decode prog_24_method_13_code 1 = .ok (.getfield 35, 3) := by decide +kernel
theorem d8_4 : decode prog_24_method_13_code 4 = .ok (.iload_n 1, 1) := by decide +kernel
theorem d8_5 : decode prog_24_method_13_code 5 = .ok (.aaload, 1) := by decide +kernel
theorem d8_6 : decode prog_24_method_13_code 6 = .ok (.areturn, 1) := by decide +kernel
theorem ef_rm_value (m : MethodId) (x0 : Addr) (x1 : Int32) : entryFrame m #[(.ref x0), (.int x1)] 2 = mkF m 0 #[.val (.ref x0), .val (.int x1)] [] := by first | (simp [entryFrame, mkF, argsToLocals, Value.category]; done) | rfl
set_option maxRecDepth 65536 in
set_option maxHeartbeats 40000000 in
theorem rm_value (l : Launch) (Z : State) (a0 : Array Value) (hw : ∀ d ∈ tables_1, d.before a0 Z = true) (ws : List Jvm.Cond) (b ka va : Addr) (ks : Nat → Int64) (vs : Nat → Value) (G : Int64 → Value) (n : Nat) (i : Nat) (h0 : Heap) (n0 : Nat) (M : own_Map Z h0 n0 b ka va ks vs n) (RR : own_Rep own_hm ks vs G n) (hi : i < 16) :
    MetFree l (⟨"com/example/rootlet/rootlet/IdMap", "value", "(I)Ljava/lang/Object;"⟩ : MethodName) (head1 (Jvm.Cond.code (⟨"com/example/rootlet/rootlet/IdMap", "value", "(I)Ljava/lang/Object;"⟩ : MethodName) prog_24_method_13_code 2 (some (.object "java/lang/Object")) :: ws) ({ frames := 0, cells := 0, slots := 0, locals := 0 } : Room)) (fun aa U => aa = #[(.ref b), (.int (ix i))] ∧ Z.Warmed39 U.vm ∧ U.heap = h0) (fun _ _ _ _ _ => True) (fun _ U o U' => ∃ v_ L_, o = .returned v_ ∧ PQ (vs i) h0 n0 v_ U'.heap L_ ∧ FrameEnd U o U' L_ ({ frames := 0, cells := 0, slots := 0, locals := 0 } : Room).cells ({ frames := 0, cells := 0, slots := 0, locals := 0 } : Room).slots) := by
  refine MetFree.of_bodySF (plainFor_of_name pn_0) hisR ?_
  intro p e s m args below meth c s₁ Bd hml0 hP hK
  obtain ⟨rfl, hZ, hh⟩ := hP
  have hx := Bd.exec
  have hby := Bd.bytes
  have hlk := Bd.notSynchronized
  have hml : c.maxLocals = 2 := hml0
  have hown : s.vm.findClass "com/example/rootlet/rootlet/IdMap" = some m.cls := by have q := findClass_of_methodNamed Bd.named; exact q
  have X0 : Stand p l e ({ frames := 0, cells := 0, slots := 0, locals := 0 } : Room) s m #[(.ref b), (.int (ix i))] below meth c s₁ [] 0 0 := Stand.of_body Bd
  have e0 : s₁.heap = h0 := by rw [← hh, Bd.state]; rfl
  have N0 := Fr.nil n0
  show Go p.tables e below (Fin s below (PQ (vs i) h0 n0) ({ frames := 0, cells := 0, slots := 0, locals := 0 } : Room).cells ({ frames := 0, cells := 0, slots := 0, locals := 0 } : Room).slots) (s₁.setTop (entryFrame m #[(.ref b), (.int (ix i))] 2))
  refine own_go (fun tt_ kk_ => castTop (ef_rm_value m b (ix i)) kk_) ?_
  show Go p.tables e below _ (s₁.setTop (mkF m 0 #[.val (.ref b), .val (.int (ix i))] []))
  have MM := M
  obtain ⟨AA, EX, ⟨Fk, Fv, Fm, Fs⟩, ⟨ck, K1, K2, K3⟩, ⟨cv, V1, V2, V3, V4⟩, DD⟩ := MM
  refine own_go (fun tt_ kk_ => XS.aloadN X0.here hx rfl (hb hby d8_0) rfl rfl kk_) ?_
  show Go p.tables e below _ (s₁.setTop (mkF m 1 #[.val (.ref b), .val (.int (ix i))] [(.ref b)]))
  obtain ⟨T1, X1, e1, st1⟩ := getF X0 hx hZ hown (host := "") (Or.inl (hw _ (List.mem_of_getElem? (i := 15) rfl))) Via.refl e0 Fv (g := (mkF m 1 #[.val (.ref b), .val (.int (ix i))] [(.ref b)])) rfl rfl (hb hby d8_1)
  refine own_go (fun tt_ kk_ => st1 tt_ kk_) ?_
  show Go p.tables e below _ (T1.setTop (mkF m 4 #[.val (.ref b), .val (.int (ix i))] [(.ref va)]))
  refine own_go (fun tt_ kk_ => XS.iloadN X1.here hx rfl (hb hby d8_4) rfl kk_) ?_
  show Go p.tables e below _ (T1.setTop (mkF m 5 #[.val (.ref b), .val (.int (ix i))] [(.int (ix i)), (.ref va)]))
  refine own_go (fun tt_ kk_ => X1.aaload hx (j := (ix i)) (v := (vs i)) (by rw [e1]; exact V1.1) (State.isArrayOf_alike hZ.alike V1.2.1) rfl V1.2.2 (ix_in hi V2) (by rw [ix_clamp hi]; exact V4 _ hi) (g := (mkF m 5 #[.val (.ref b), .val (.int (ix i))] [(.int (ix i)), (.ref va)])) rfl rfl (hb hby d8_5) tt_ kk_) ?_
  show Go p.tables e below _ (T1.setTop (mkF m 6 #[.val (.ref b), .val (.int (ix i))] [(vs i)]))
  exact own_ret X1 hx hlk Bd.returns rfl (Or.inr (Or.inr (Or.inr (Or.inr ⟨rfl, rfl, (M.isRef hi)⟩)))) (hb hby d8_6) ⟨rfl, N0, e1⟩ (by decide) (by decide)
theorem pd_0 : parseMethodDescriptor "(J)I" = some ⟨[.long], some .int⟩ := by decide +kernel
theorem d12_0 : decode prog_24_method_11_code 0 = .ok (.aload_n 0, 1) := by decide +kernel
theorem d12_1 : decode prog_24_method_11_code 1 = .ok (.lload_n 1, 1) := by decide +kernel
theorem d12_2 : decode prog_24_method_11_code 2 = .ok (.invokevirtual 32, 3) := by decide +kernel
theorem d12_5 : decode prog_24_method_11_code 5 = .ok (.istore_n 3, 1) := by decide +kernel
theorem d12_6 : decode prog_24_method_11_code 6 = .ok (.aload_n 0, 1) := by decide +kernel
theorem d12_7 : decode prog_24_method_11_code 7 = .ok (.getfield 35, 3) := by decide +kernel
theorem d12_10 : decode prog_24_method_11_code 10 = .ok (.iload_n 3, 1) := by decide +kernel
theorem d12_11 : decode prog_24_method_11_code 11 = .ok (.aaload, 1) := by decide +kernel
theorem d12_12 : decode prog_24_method_11_code 12 = .ok (.ifnull 28, 3) := by decide +kernel
theorem d12_15 : decode prog_24_method_11_code 15 = .ok (.aload_n 0, 1) := by decide +kernel
theorem d12_16 : decode prog_24_method_11_code 16 = .ok (.getfield 39, 3) := by decide +kernel
theorem d12_19 : decode prog_24_method_11_code 19 = .ok (.iload_n 3, 1) := by decide +kernel
theorem d12_20 : decode prog_24_method_11_code 20 = .ok (.laload, 1) := by decide +kernel
theorem d12_21 : decode prog_24_method_11_code 21 = .ok (.lload_n 1, 1) := by decide +kernel
theorem d12_22 : decode prog_24_method_11_code 22 = .ok (.lcmp, 1) := by decide +kernel
theorem d12_23 : decode prog_24_method_11_code 23 = .ok (.ifCond .ne 5, 3) := by decide +kernel
theorem d12_26 : decode prog_24_method_11_code 26 = .ok (.iload_n 3, 1) := by decide +kernel
theorem d12_27 : decode prog_24_method_11_code 27 = .ok (.ireturn, 1) := by decide +kernel
theorem d12_28 : decode prog_24_method_11_code 28 = .ok (.iload_n 3, 1) := by decide +kernel
theorem d12_29 : decode prog_24_method_11_code 29 = .ok (.iconst 1, 1) := by decide +kernel
theorem d12_30 : decode prog_24_method_11_code 30 = .ok (.iadd, 1) := by decide +kernel
theorem d12_31 : decode prog_24_method_11_code 31 = .ok (.aload_n 0, 1) := by decide +kernel
theorem d12_32 : decode prog_24_method_11_code 32 = .ok (.getfield 43, 3) := by decide +kernel
theorem d12_35 : decode prog_24_method_11_code 35 = .ok (.iand, 1) := by decide +kernel
theorem d12_36 : decode prog_24_method_11_code 36 = .ok (.istore_n 3, 1) := by decide +kernel
theorem d12_37 : decode prog_24_method_11_code 37 = .ok (.goto (-31), 3) := by decide +kernel
theorem d12_40 : decode prog_24_method_11_code 40 = .ok (.iconst (-1), 1) := by decide +kernel
theorem d12_41 : decode prog_24_method_11_code 41 = .ok (.ireturn, 1) := by decide +kernel
theorem ef_rm_find (m : MethodId) (x0 : Addr) (x1 : Int64) : entryFrame m #[(.ref x0), (.long x1)] 4 = mkF m 0 #[.val (.ref x0), .val (.long x1), .second, .unset] [] := by first | (simp [entryFrame, mkF, argsToLocals, Value.category]; done) | rfl
set_option maxRecDepth 65536 in
set_option maxHeartbeats 40000000 in
theorem rm_find (l : Launch) (Z : State) (a0 : Array Value) (hw : ∀ d ∈ tables_1, d.before a0 Z = true) (ws : List Jvm.Cond) (b ka va : Addr) (ks : Nat → Int64) (vs : Nat → Value) (G : Int64 → Value) (n : Nat) (q : Int64) (h0 : Heap) (n0 : Nat) (M : own_Map Z h0 n0 b ka va ks vs n) (RR : own_Rep own_hm ks vs G n) (hn : n < 16) :
    MetFree l (⟨"com/example/rootlet/rootlet/IdMap", "find", "(J)I"⟩ : MethodName) (head1 (Jvm.Cond.code (⟨"com/example/rootlet/rootlet/IdMap", "find", "(J)I"⟩ : MethodName) prog_24_method_11_code 4 (some .int) :: ws) ({ frames := 1, cells := 0, slots := 0, locals := 16 } : Room)) (fun aa U => aa = #[(.ref b), (.long q)] ∧ Z.Warmed39 U.vm ∧ U.heap = h0) (fun _ _ _ _ _ => True) (fun _ U o U' => ∃ v_ L_, o = .returned v_ ∧ own_QF ks vs G q h0 n0 v_ U'.heap L_ ∧ FrameEnd U o U' L_ ({ frames := 1, cells := 0, slots := 0, locals := 16 } : Room).cells ({ frames := 1, cells := 0, slots := 0, locals := 16 } : Room).slots) := by
  refine MetFree.of_bodySF (plainFor_of_name pn_0) hisR ?_
  intro p e s m args below meth c s₁ Bd hml0 hP hK
  obtain ⟨rfl, hZ, hh⟩ := hP
  have hx := Bd.exec
  have hby := Bd.bytes
  have hlk := Bd.notSynchronized
  have hml : c.maxLocals = 4 := hml0
  have hown : s.vm.findClass "com/example/rootlet/rootlet/IdMap" = some m.cls := by have q := findClass_of_methodNamed Bd.named; exact q
  have X0 : Stand p l e ({ frames := 1, cells := 0, slots := 0, locals := 16 } : Room) s m #[(.ref b), (.long q)] below meth c s₁ [] 0 0 := Stand.of_body Bd
  have e0 : s₁.heap = h0 := by rw [← hh, Bd.state]; rfl
  have N0 := Fr.nil n0
  show Go p.tables e below (Fin s below (own_QF ks vs G q h0 n0) ({ frames := 1, cells := 0, slots := 0, locals := 16 } : Room).cells ({ frames := 1, cells := 0, slots := 0, locals := 16 } : Room).slots) (s₁.setTop (entryFrame m #[(.ref b), (.long q)] 4))
  refine own_go (fun tt_ kk_ => castTop (ef_rm_find m b q) kk_) ?_
  show Go p.tables e below _ (s₁.setTop (mkF m 0 #[.val (.ref b), .val (.long q), .second, .unset] []))
  have MM := M
  obtain ⟨AA, EX, ⟨Fk, Fv, Fm, Fs⟩, ⟨ck, K1, K2, K3⟩, ⟨cv, V1, V2, V3, V4⟩, DD⟩ := MM
  refine own_go (fun tt_ kk_ => XS.aloadN X0.here hx rfl (hb hby d12_0) rfl rfl kk_) ?_
  show Go p.tables e below _ (s₁.setTop (mkF m 1 #[.val (.ref b), .val (.long q), .second, .unset] [(.ref b)]))
  refine own_go (fun tt_ kk_ => XT.lloadN X0.here hx rfl (hb hby d12_1) rfl kk_) ?_
  show Go p.tables e below _ (s₁.setTop (mkF m 2 #[.val (.ref b), .val (.long q), .second, .unset] [(.long q), (.ref b)]))
  obtain ⟨cq1, q1a, q1b⟩ := (EX).cell
  obtain ⟨v1, _, ⟨T1, L1, k1, n1⟩, -, X1, ⟨Lc1, hQ1, l1, y1, z1⟩, st1⟩ := X0.privateBack hx (y := (⟨"com/example/rootlet/rootlet/IdMap", "home", "(J)I"⟩ : MethodName)) hown (mvT hZ (hw _ (List.mem_of_getElem? (i := 46) rfl))) (mvT hZ (hw _ (List.mem_of_getElem? (i := 47) rfl))) (own_selp (z := (⟨"com/example/rootlet/rootlet/IdMap", "put", "(JLjava/lang/Object;)Ljava/lang/Object;"⟩ : MethodName)) (mvT hZ (hw _ (List.mem_of_getElem? (i := 32) rfl))) rfl (mvP hZ (hw _ (List.mem_of_getElem? (i := 48) rfl))) (mvT hZ (hw _ (List.mem_of_getElem? (i := 47) rfl))) (by decide)) (Cond.privateMethod_at (mvP hZ (hw _ (List.mem_of_getElem? (i := 48) rfl)) (args := #[]))) (mvT hZ (hw _ (List.mem_of_getElem? (i := 49) rfl))) (by decide) (backOf (W := 0) (rm_home l Z a0 hw [] b q h0 n0 Fm) hZ (hw _ (List.mem_of_getElem? (i := 49) rfl)) (hw _ (List.mem_of_getElem? (i := 2) rfl)) (by decide) (by decide)) (g := (mkF m 2 #[.val (.ref b), .val (.long q), .second, .unset] [(.long q), (.ref b)])) rfl (by rw [hml]; rfl) (Steps.refl _) (a := b) (by rw [e0]; exact q1a) q1b (argsL := [(.long q)]) (rest := []) (lenOf pd_0 rfl) rfl (by show 2 * 0 + _ ≤ _; exact Nat.le_of_eq rfl) (hb hby d12_2) (fun _ _ => ⟨rfl, e0, (by decide : 0 + 0 ≤ _), (by decide : 0 + 0 ≤ _)⟩)
  dsimp only [Pt.U, Pt.locs, Pt.cells, Pt.slots] at X1 l1 y1 z1 st1 hQ1
  subst y1 z1
  obtain ⟨hv1, N1q, e1⟩ := hQ1
  rw [show ((.int (own_hmI q)) : Value) = (.int (ix (own_hm q))) from congrArg Value.int (own_hm_ix q)] at hv1
  subst hv1
  have N1 : Fr n0 L1 := by rw [l1]; exact Fr.app N0 N1q
  refine own_go (fun tt_ kk_ => st1.trans kk_) ?_
  show Go p.tables e below _ (T1.setTop (mkF m 5 #[.val (.ref b), .val (.long q), .second, .unset] [(.int (ix (own_hm q)))]))
  refine own_go (fun tt_ kk_ => XS.istoreN X1.here hx rfl (hb hby d12_5) rfl (l' := #[.val (.ref b), .val (.long q), .second, .val (.int (ix (own_hm q)))]) rfl kk_) ?_
  show Go p.tables e below _ (T1.setTop (mkF m 6 #[.val (.ref b), .val (.long q), .second, .val (.int (ix (own_hm q)))] []))
  have loop : ∀ f t, t + f = 16 → own_Run ks vs q (own_hm q) t → ∀ T L, Stand p l e ({ frames := 1, cells := 0, slots := 0, locals := 16 } : Room) s m #[(.ref b), (.long q)] below meth c T L 0 0 → Fr n0 L → T.heap = h0 → Go p.tables e below (Fin s below (own_QF ks vs G q h0 n0) ({ frames := 1, cells := 0, slots := 0, locals := 16 } : Room).cells ({ frames := 1, cells := 0, slots := 0, locals := 16 } : Room).slots) (T.setTop (mkF m 6 #[.val (.ref b), .val (.long q), .second, .val (.int (ix ((own_hm q + t) % 16)))] [])) := by
    intro f
    induction f with
    | zero => intro t ht R; exact absurd (R.lt RR.2.2.2 hn) (by omega)
    | succ f ih =>
      intro t ht R T L X N e'
      have ht16 : t < 16 := by omega
      have hI : ((own_hm q + t) % 16) < 16 := Nat.mod_lt _ (by decide)
      show Go p.tables e below _ (T.setTop (mkF m 6 #[.val (.ref b), .val (.long q), .second, .val (.int (ix ((own_hm q + t) % 16)))] []))
      refine own_go (fun tt_ kk_ => XS.aloadN X.here hx rfl (hb hby d12_6) rfl rfl kk_) ?_
      show Go p.tables e below _ (T.setTop (mkF m 7 #[.val (.ref b), .val (.long q), .second, .val (.int (ix ((own_hm q + t) % 16)))] [(.ref b)]))
      obtain ⟨T2, X2, e2, st2⟩ := getF X hx hZ hown (host := "") (Or.inl (hw _ (List.mem_of_getElem? (i := 15) rfl))) Via.refl e' Fv (g := (mkF m 7 #[.val (.ref b), .val (.long q), .second, .val (.int (ix ((own_hm q + t) % 16)))] [(.ref b)])) rfl rfl (hb hby d12_7)
      refine own_go (fun tt_ kk_ => st2 tt_ kk_) ?_
      show Go p.tables e below _ (T2.setTop (mkF m 10 #[.val (.ref b), .val (.long q), .second, .val (.int (ix ((own_hm q + t) % 16)))] [(.ref va)]))
      refine own_go (fun tt_ kk_ => XS.iloadN X2.here hx rfl (hb hby d12_10) rfl kk_) ?_
      show Go p.tables e below _ (T2.setTop (mkF m 11 #[.val (.ref b), .val (.long q), .second, .val (.int (ix ((own_hm q + t) % 16)))] [(.int (ix ((own_hm q + t) % 16))), (.ref va)]))
      refine own_go (fun tt_ kk_ => X2.aaload hx (j := (ix ((own_hm q + t) % 16))) (v := (vs ((own_hm q + t) % 16))) (by rw [e2]; exact V1.1) (State.isArrayOf_alike hZ.alike V1.2.1) rfl V1.2.2 (ix_in hI V2) (by rw [ix_clamp hI]; exact V4 _ hI) (g := (mkF m 11 #[.val (.ref b), .val (.long q), .second, .val (.int (ix ((own_hm q + t) % 16)))] [(.int (ix ((own_hm q + t) % 16))), (.ref va)])) rfl rfl (hb hby d12_11) tt_ kk_) ?_
      show Go p.tables e below _ (T2.setTop (mkF m 12 #[.val (.ref b), .val (.long q), .second, .val (.int (ix ((own_hm q + t) % 16)))] [(vs ((own_hm q + t) % 16))]))
      by_cases hc3 : (vs ((own_hm q + t) % 16)) = .null
      · refine own_go (fun tt_ kk_ => XT.nullYes X2.here hx rfl (pc0 := 12) (pc' := 40) rfl (hb hby d12_12) rfl hc3 (by decide) (by decide) kk_) ?_
        show Go p.tables e below _ (T2.setTop (mkF m 40 #[.val (.ref b), .val (.long q), .second, .val (.int (ix ((own_hm q + t) % 16)))] []))
        refine own_go (fun tt_ kk_ => XS.iconst X2.here hx rfl (hb hby d12_40) kk_) ?_
        show Go p.tables e below _ (T2.setTop (mkF m 41 #[.val (.ref b), .val (.long q), .second, .val (.int (ix ((own_hm q + t) % 16)))] [(.int ((-1) : Int32))]))
        exact own_ret X2 hx hlk Bd.returns rfl (Or.inl ⟨rfl, Or.inl rfl, _, rfl⟩) (hb hby d12_41) ⟨⟨_, rfl, Or.inr ⟨rfl, own_absent RR (own_hm_lt q) R hc3⟩⟩, N, e2⟩ (by decide) (by decide)
      · refine own_go (fun tt_ kk_ => XT.nullNo X2.here hx rfl (hb hby d12_12) rfl (M.isRef hI) hc3 kk_) ?_
        show Go p.tables e below _ (T2.setTop (mkF m 15 #[.val (.ref b), .val (.long q), .second, .val (.int (ix ((own_hm q + t) % 16)))] []))
        refine own_go (fun tt_ kk_ => XS.aloadN X2.here hx rfl (hb hby d12_15) rfl rfl kk_) ?_
        show Go p.tables e below _ (T2.setTop (mkF m 16 #[.val (.ref b), .val (.long q), .second, .val (.int (ix ((own_hm q + t) % 16)))] [(.ref b)]))
        obtain ⟨T4, X4, e4, st4⟩ := getF X2 hx hZ hown (host := "") (Or.inl (hw _ (List.mem_of_getElem? (i := 13) rfl))) Via.refl e2 Fk (g := (mkF m 16 #[.val (.ref b), .val (.long q), .second, .val (.int (ix ((own_hm q + t) % 16)))] [(.ref b)])) rfl rfl (hb hby d12_16)
        refine own_go (fun tt_ kk_ => st4 tt_ kk_) ?_
        show Go p.tables e below _ (T4.setTop (mkF m 19 #[.val (.ref b), .val (.long q), .second, .val (.int (ix ((own_hm q + t) % 16)))] [(.ref ka)]))
        refine own_go (fun tt_ kk_ => XS.iloadN X4.here hx rfl (hb hby d12_19) rfl kk_) ?_
        show Go p.tables e below _ (T4.setTop (mkF m 20 #[.val (.ref b), .val (.long q), .second, .val (.int (ix ((own_hm q + t) % 16)))] [(.int (ix ((own_hm q + t) % 16))), (.ref ka)]))
        refine own_go (fun tt_ kk_ => X4.laload hx (j := (ix ((own_hm q + t) % 16))) (v := (.long (ks ((own_hm q + t) % 16)))) (by rw [e4]; exact K1.1) (State.isArrayOf_alike hZ.alike K1.2.1) K1.2.2 (ix_in hI K2) (by rw [ix_clamp hI]; exact K3 _ hI) (g := (mkF m 20 #[.val (.ref b), .val (.long q), .second, .val (.int (ix ((own_hm q + t) % 16)))] [(.int (ix ((own_hm q + t) % 16))), (.ref ka)])) rfl rfl (hb hby d12_20) tt_ kk_) ?_
        show Go p.tables e below _ (T4.setTop (mkF m 21 #[.val (.ref b), .val (.long q), .second, .val (.int (ix ((own_hm q + t) % 16)))] [(.long (ks ((own_hm q + t) % 16)))]))
        refine own_go (fun tt_ kk_ => XT.lloadN X4.here hx rfl (hb hby d12_21) rfl kk_) ?_
        show Go p.tables e below _ (T4.setTop (mkF m 22 #[.val (.ref b), .val (.long q), .second, .val (.int (ix ((own_hm q + t) % 16)))] [(.long q), (.long (ks ((own_hm q + t) % 16)))]))
        refine own_go (fun tt_ kk_ => XT.lcmp X4.here hx rfl (hb hby d12_22) rfl kk_) ?_
        show Go p.tables e below _ (T4.setTop (mkF m 23 #[.val (.ref b), .val (.long q), .second, .val (.int (ix ((own_hm q + t) % 16)))] [(.int (XT.cmpL (ks ((own_hm q + t) % 16)) q))]))
        by_cases hc5 : (ks ((own_hm q + t) % 16)) = q
        · refine own_go (fun tt_ kk_ => XS.ifNo X4.here hx rfl (hb hby d12_23) rfl (XT.ll_ne_f hc5) kk_) ?_
          show Go p.tables e below _ (T4.setTop (mkF m 26 #[.val (.ref b), .val (.long q), .second, .val (.int (ix ((own_hm q + t) % 16)))] []))
          refine own_go (fun tt_ kk_ => XS.iloadN X4.here hx rfl (hb hby d12_26) rfl kk_) ?_
          show Go p.tables e below _ (T4.setTop (mkF m 27 #[.val (.ref b), .val (.long q), .second, .val (.int (ix ((own_hm q + t) % 16)))] [(.int (ix ((own_hm q + t) % 16)))]))
          exact own_ret X4 hx hlk Bd.returns rfl (Or.inl ⟨rfl, Or.inl rfl, _, rfl⟩) (hb hby d12_27) ⟨⟨_, rfl, Or.inl ⟨_, hI, rfl, hc3, hc5⟩⟩, N, e4⟩ (by decide) (by decide)
        · refine own_go (fun tt_ kk_ => XS.ifYes X4.here hx rfl (pc0 := 23) (pc' := 28) rfl (hb hby d12_23) rfl (XT.ll_ne_t hc5) (by decide) (by decide) kk_) ?_
          show Go p.tables e below _ (T4.setTop (mkF m 28 #[.val (.ref b), .val (.long q), .second, .val (.int (ix ((own_hm q + t) % 16)))] []))
          refine own_go (fun tt_ kk_ => XS.iloadN X4.here hx rfl (hb hby d12_28) rfl kk_) ?_
          show Go p.tables e below _ (T4.setTop (mkF m 29 #[.val (.ref b), .val (.long q), .second, .val (.int (ix ((own_hm q + t) % 16)))] [(.int (ix ((own_hm q + t) % 16)))]))
          refine own_go (fun tt_ kk_ => XS.iconst X4.here hx rfl (hb hby d12_29) kk_) ?_
          show Go p.tables e below _ (T4.setTop (mkF m 30 #[.val (.ref b), .val (.long q), .second, .val (.int (ix ((own_hm q + t) % 16)))] [(.int (1 : Int32)), (.int (ix ((own_hm q + t) % 16)))]))
          refine own_go (fun tt_ kk_ => XS.iadd X4.here hx rfl (hb hby d12_30) rfl kk_) ?_
          show Go p.tables e below _ (T4.setTop (mkF m 31 #[.val (.ref b), .val (.long q), .second, .val (.int (ix ((own_hm q + t) % 16)))] [(.int ((ix ((own_hm q + t) % 16)) + (1 : Int32)))]))
          refine own_go (fun tt_ kk_ => XS.aloadN X4.here hx rfl (hb hby d12_31) rfl rfl kk_) ?_
          show Go p.tables e below _ (T4.setTop (mkF m 32 #[.val (.ref b), .val (.long q), .second, .val (.int (ix ((own_hm q + t) % 16)))] [(.ref b), (.int ((ix ((own_hm q + t) % 16)) + (1 : Int32)))]))
          obtain ⟨T6, X6, e6, st6⟩ := getF X4 hx hZ hown (host := "") (Or.inl (hw _ (List.mem_of_getElem? (i := 20) rfl))) Via.refl e4 Fm (g := (mkF m 32 #[.val (.ref b), .val (.long q), .second, .val (.int (ix ((own_hm q + t) % 16)))] [(.ref b), (.int ((ix ((own_hm q + t) % 16)) + (1 : Int32)))])) rfl rfl (hb hby d12_32)
          refine own_go (fun tt_ kk_ => st6 tt_ kk_) ?_
          show Go p.tables e below _ (T6.setTop (mkF m 35 #[.val (.ref b), .val (.long q), .second, .val (.int (ix ((own_hm q + t) % 16)))] [(.int (15 : Int32)), (.int ((ix ((own_hm q + t) % 16)) + (1 : Int32)))]))
          refine own_go (fun tt_ kk_ => XS.iand X6.here hx rfl (hb hby d12_35) rfl kk_) ?_
          show Go p.tables e below _ (T6.setTop (mkF m 36 #[.val (.ref b), .val (.long q), .second, .val (.int (ix ((own_hm q + t) % 16)))] [(.int (((ix ((own_hm q + t) % 16)) + (1 : Int32)) &&& (15 : Int32)))]))
          rw [ix_next _ hI, show ((own_hm q + t) % 16 + 1) % 16 = (own_hm q + (t + 1)) % 16 by omega]
          show Go p.tables e below _ (T6.setTop (mkF m 36 #[.val (.ref b), .val (.long q), .second, .val (.int (ix ((own_hm q + t) % 16)))] [(.int (ix ((own_hm q + (t + 1)) % 16)))]))
          refine own_go (fun tt_ kk_ => XS.istoreN X6.here hx rfl (hb hby d12_36) rfl (l' := #[.val (.ref b), .val (.long q), .second, .val (.int (ix ((own_hm q + (t + 1)) % 16)))]) rfl kk_) ?_
          show Go p.tables e below _ (T6.setTop (mkF m 37 #[.val (.ref b), .val (.long q), .second, .val (.int (ix ((own_hm q + (t + 1)) % 16)))] []))
          refine own_go (fun tt_ kk_ => XS.goto X6.here hx rfl (pc0 := 37) (pc' := 6) rfl (hb hby d12_37) (by decide) (by decide) kk_) ?_
          show Go p.tables e below _ (T6.setTop (mkF m 6 #[.val (.ref b), .val (.long q), .second, .val (.int (ix ((own_hm q + (t + 1)) % 16)))] []))
          exact ih (t + 1) (by omega) (R.succ hc3 hc5) T6 _ X6 N e6
  rw [show own_hm q = (own_hm q + 0) % 16 by have := own_hm_lt q; omega]
  exact loop 16 0 (by omega) (own_Run.zero _ _ _ _) T1 _ X1 N1 e1
theorem d6_0 : decode jdk_31_method_11_code 0 = .ok (.aload_n 0, 1) := by decide +kernel
theorem d6_1 : decode jdk_31_method_11_code 1 = .ok (.ifnonnull 12, 3) := by decide +kernel
theorem d6_4 : decode jdk_31_method_11_code 4 = .ok (.new 84, 3) := by decide +kernel
theorem d6_7 : decode jdk_31_method_11_code 7 = .ok (.dup, 1) := by decide +kernel
theorem d6_8 : decode jdk_31_method_11_code 8 = .ok (.aload_n 1, 1) := by decide +kernel
theorem d6_9 : decode jdk_31_method_11_code 9 = .ok (.invokespecial 87, 3) := by decide +kernel
theorem d6_12 : decode jdk_31_method_11_code 12 = .ok (.athrow, 1) := by decide +kernel
theorem d6_13 : decode jdk_31_method_11_code 13 = .ok (.aload_n 0, 1) := by decide +kernel
theorem d6_14 : decode jdk_31_method_11_code 14 = .ok (.areturn, 1) := by decide +kernel
theorem pn_1 : plainName "java/util/Objects" = true := by first | (simp [plainName, overriddenIn]; done) | decide +kernel
theorem ef_rm_rnn (m : MethodId) (x0 : Addr) (x1 : Addr) : entryFrame m #[(.ref x0), (.ref x1)] 2 = mkF m 0 #[.val (.ref x0), .val (.ref x1)] [] := by first | (simp [entryFrame, mkF, argsToLocals, Value.category]; done) | rfl
set_option maxRecDepth 65536 in
set_option maxHeartbeats 40000000 in
theorem rm_rnn (l : Launch) (Z : State) (a0 : Array Value) (hw : ∀ d ∈ tables_1, d.before a0 Z = true) (ws : List Jvm.Cond) (v z : Addr) (h0 : Heap) (n0 : Nat)  :
    MetFree l (⟨"java/util/Objects", "requireNonNull", "(Ljava/lang/Object;Ljava/lang/String;)Ljava/lang/Object;"⟩ : MethodName) (head1 (Jvm.Cond.code (⟨"java/util/Objects", "requireNonNull", "(Ljava/lang/Object;Ljava/lang/String;)Ljava/lang/Object;"⟩ : MethodName) jdk_31_method_11_code 2 (some (.object "java/lang/Object")) :: ws) ({ frames := 0, cells := 0, slots := 0, locals := 0 } : Room)) (fun aa U => aa = #[(.ref v), (.ref z)] ∧ Z.Warmed39 U.vm ∧ U.heap = h0) (fun _ _ _ _ _ => True) (fun _ U o U' => ∃ v_ L_, o = .returned v_ ∧ PQ (.ref v) h0 n0 v_ U'.heap L_ ∧ FrameEnd U o U' L_ ({ frames := 0, cells := 0, slots := 0, locals := 0 } : Room).cells ({ frames := 0, cells := 0, slots := 0, locals := 0 } : Room).slots) := by
  refine MetFree.of_bodySF (plainFor_of_name pn_1) hisR ?_
  intro p e s m args below meth c s₁ Bd hml0 hP hK
  obtain ⟨rfl, hZ, hh⟩ := hP
  have hx := Bd.exec
  have hby := Bd.bytes
  have hlk := Bd.notSynchronized
  have hml : c.maxLocals = 2 := hml0
  have hown : s.vm.findClass "java/util/Objects" = some m.cls := by have q := findClass_of_methodNamed Bd.named; exact q
  have X0 : Stand p l e ({ frames := 0, cells := 0, slots := 0, locals := 0 } : Room) s m #[(.ref v), (.ref z)] below meth c s₁ [] 0 0 := Stand.of_body Bd
  have e0 : s₁.heap = h0 := by rw [← hh, Bd.state]; rfl
  have N0 := Fr.nil n0
  show Go p.tables e below (Fin s below (PQ (.ref v) h0 n0) ({ frames := 0, cells := 0, slots := 0, locals := 0 } : Room).cells ({ frames := 0, cells := 0, slots := 0, locals := 0 } : Room).slots) (s₁.setTop (entryFrame m #[(.ref v), (.ref z)] 2))
  refine own_go (fun tt_ kk_ => castTop (ef_rm_rnn m v z) kk_) ?_
  show Go p.tables e below _ (s₁.setTop (mkF m 0 #[.val (.ref v), .val (.ref z)] []))
  refine own_go (fun tt_ kk_ => XS.aloadN X0.here hx rfl (hb hby d6_0) rfl rfl kk_) ?_
  show Go p.tables e below _ (s₁.setTop (mkF m 1 #[.val (.ref v), .val (.ref z)] [(.ref v)]))
  refine own_go (fun tt_ kk_ => XT.ifnonnullYes X0.here hx rfl (pc0 := 1) (pc' := 13) rfl (hb hby d6_1) rfl (by decide) (by decide) kk_) ?_
  show Go p.tables e below _ (s₁.setTop (mkF m 13 #[.val (.ref v), .val (.ref z)] []))
  refine own_go (fun tt_ kk_ => XS.aloadN X0.here hx rfl (hb hby d6_13) rfl rfl kk_) ?_
  show Go p.tables e below _ (s₁.setTop (mkF m 14 #[.val (.ref v), .val (.ref z)] [(.ref v)]))
  exact own_ret X0 hx hlk Bd.returns rfl (Or.inr (Or.inr (Or.inr (Or.inr ⟨rfl, rfl, rfl⟩)))) (hb hby d6_14) ⟨rfl, N0, e0⟩ (by decide) (by decide)
theorem pd_1 : parseMethodDescriptor "(Ljava/lang/Object;Ljava/lang/String;)Ljava/lang/Object;" = some ⟨[(.object "java/lang/Object"), (.object "java/lang/String")], some (.object "java/lang/Object")⟩ := by decide +kernel
theorem pd_2 : parseMethodDescriptor "(I)Ljava/lang/Object;" = some ⟨[.int], some (.object "java/lang/Object")⟩ := by decide +kernel
theorem pd_3 : parseMethodDescriptor "(I)V" = some ⟨[.int], none⟩ := by decide +kernel
theorem d5_0 : decode prog_24_method_5_code 0 = .ok (.aload_n 3, 1) := by decide +kernel
theorem d5_1 : decode prog_24_method_5_code 1 = .ok (.ldc 25, 2) := by decide +kernel
theorem d5_3 : decode prog_24_method_5_code 3 = .ok (.invokestatic 26, 3) := by decide +kernel
theorem d5_6 : decode prog_24_method_5_code 6 = .ok (.pop, 1) := by decide +kernel
theorem d5_7 : decode prog_24_method_5_code 7 = .ok (.aload_n 0, 1) := by decide +kernel
theorem d5_8 : decode prog_24_method_5_code 8 = .ok (.lload_n 1, 1) := by decide +kernel
theorem d5_9 : decode prog_24_method_5_code 9 = .ok (.invokevirtual 32, 3) := by decide +kernel
theorem d5_12 : decode prog_24_method_5_code 12 = .ok (.istore 4, 2) := by decide +kernel
theorem d5_14 : decode prog_24_method_5_code 14 = .ok (.aload_n 0, 1) := by decide +kernel
theorem d5_15 : decode prog_24_method_5_code 15 = .ok (.getfield 35, 3) := by decide +kernel
theorem d5_18 : decode prog_24_method_5_code 18 = .ok (.iload 4, 2) := by decide +kernel
theorem d5_20 : decode prog_24_method_5_code 20 = .ok (.aaload, 1) := by decide +kernel
theorem d5_21 : decode prog_24_method_5_code 21 = .ok (.ifnull 48, 3) := by decide +kernel
theorem d5_24 : decode prog_24_method_5_code 24 = .ok (.aload_n 0, 1) := by decide +kernel
theorem d5_25 : decode prog_24_method_5_code 25 = .ok (.getfield 39, 3) := by decide +kernel
theorem d5_28 : decode prog_24_method_5_code 28 = .ok (.iload 4, 2) := by decide +kernel
theorem d5_30 : decode prog_24_method_5_code 30 = .ok (.laload, 1) := by decide +kernel
theorem d5_31 : decode prog_24_method_5_code 31 = .ok (.lload_n 1, 1) := by decide +kernel
theorem d5_32 : decode prog_24_method_5_code 32 = .ok (.lcmp, 1) := by decide +kernel
theorem d5_33 : decode prog_24_method_5_code 33 = .ok (.ifCond .ne 22, 3) := by decide +kernel
theorem d5_36 : decode prog_24_method_5_code 36 = .ok (.aload_n 0, 1) := by decide +kernel
theorem d5_37 : decode prog_24_method_5_code 37 = .ok (.iload 4, 2) := by decide +kernel
theorem d5_39 : decode prog_24_method_5_code 39 = .ok (.invokevirtual 21, 3) := by decide +kernel
theorem d5_42 : decode prog_24_method_5_code 42 = .ok (.astore 5, 2) := by decide +kernel
theorem d5_44 : decode prog_24_method_5_code 44 = .ok (.aload_n 0, 1) := by decide +kernel
theorem d5_45 : decode prog_24_method_5_code 45 = .ok (.getfield 35, 3) := by decide +kernel
theorem d5_48 : decode prog_24_method_5_code 48 = .ok (.iload 4, 2) := by decide +kernel
theorem d5_50 : decode prog_24_method_5_code 50 = .ok (.aload_n 3, 1) := by decide +kernel
theorem d5_51 : decode prog_24_method_5_code 51 = .ok (.aastore, 1) := by decide +kernel
theorem d5_52 : decode prog_24_method_5_code 52 = .ok (.aload 5, 2) := by decide +kernel
theorem d5_54 : decode prog_24_method_5_code 54 = .ok (.areturn, 1) := by decide +kernel
theorem d5_55 : decode prog_24_method_5_code 55 = .ok (.iload 4, 2) := by decide +kernel
theorem d5_57 : decode prog_24_method_5_code 57 = .ok (.iconst 1, 1) := by decide +kernel
theorem d5_58 : decode prog_24_method_5_code 58 = .ok (.iadd, 1) := by decide +kernel
theorem d5_59 : decode prog_24_method_5_code 59 = .ok (.aload_n 0, 1) := by decide +kernel
theorem d5_60 : decode prog_24_method_5_code 60 = .ok (.getfield 43, 3) := by decide +kernel
theorem d5_63 : decode prog_24_method_5_code 63 = .ok (.iand, 1) := by decide +kernel
theorem d5_64 : decode prog_24_method_5_code 64 = .ok (.istore 4, 2) := by decide +kernel
theorem d5_66 : decode prog_24_method_5_code 66 = .ok (.goto (-52), 3) := by decide +kernel
theorem d5_69 : decode prog_24_method_5_code 69 = .ok (.aload_n 0, 1) := by decide +kernel
theorem d5_70 : decode prog_24_method_5_code 70 = .ok (.getfield 13, 3) := by decide +kernel
theorem d5_73 : decode prog_24_method_5_code 73 = .ok (.aload_n 0, 1) := by decide +kernel
theorem d5_74 : decode prog_24_method_5_code 74 = .ok (.getfield 35, 3) := by decide +kernel
theorem d5_77 : decode prog_24_method_5_code 77 = .ok (.arraylength, 1) := by decide +kernel
theorem d5_78 : decode prog_24_method_5_code 78 = .ok (.iconst 1, 1) := by decide +kernel
theorem d5_79 : decode prog_24_method_5_code 79 = .ok (.isub, 1) := by decide +kernel
theorem d5_80 : decode prog_24_method_5_code 80 = .ok (.if_icmp .ne 20, 3) := by decide +kernel
theorem d5_83 : decode prog_24_method_5_code 83 = .ok (.new 46, 3) := by decide +kernel
theorem d5_86 : decode prog_24_method_5_code 86 = .ok (.dup, 1) := by decide +kernel
theorem d5_87 : decode prog_24_method_5_code 87 = .ok (.aload_n 0, 1) := by decide +kernel
theorem d5_88 : decode prog_24_method_5_code 88 = .ok (.getfield 13, 3) := by decide +kernel
theorem d5_91 : decode prog_24_method_5_code 91 = .ok (.invokedynamic 48, 5) := by decide +kernel
theorem d5_96 : decode prog_24_method_5_code 96 = .ok (.invokespecial 52, 3) := by decide +kernel
theorem d5_99 : decode prog_24_method_5_code 99 = .ok (.athrow, 1) := by decide +kernel
theorem d5_100 : decode prog_24_method_5_code 100 = .ok (.aload_n 0, 1) := by decide +kernel
theorem d5_101 : decode prog_24_method_5_code 101 = .ok (.getfield 39, 3) := by decide +kernel
theorem d5_104 : decode prog_24_method_5_code 104 = .ok (.iload 4, 2) := by decide +kernel
theorem d5_106 : decode prog_24_method_5_code 106 = .ok (.lload_n 1, 1) := by decide +kernel
theorem d5_107 : decode prog_24_method_5_code 107 = .ok (.lastore, 1) := by decide +kernel
theorem d5_108 : decode prog_24_method_5_code 108 = .ok (.aload_n 0, 1) := by decide +kernel
theorem d5_109 : decode prog_24_method_5_code 109 = .ok (.getfield 35, 3) := by decide +kernel
theorem d5_112 : decode prog_24_method_5_code 112 = .ok (.iload 4, 2) := by decide +kernel
theorem d5_114 : decode prog_24_method_5_code 114 = .ok (.aload_n 3, 1) := by decide +kernel
theorem d5_115 : decode prog_24_method_5_code 115 = .ok (.aastore, 1) := by decide +kernel
theorem d5_116 : decode prog_24_method_5_code 116 = .ok (.aload_n 0, 1) := by decide +kernel
theorem d5_117 : decode prog_24_method_5_code 117 = .ok (.dup, 1) := by decide +kernel
theorem d5_118 : decode prog_24_method_5_code 118 = .ok (.getfield 13, 3) := by decide +kernel
theorem d5_121 : decode prog_24_method_5_code 121 = .ok (.iconst 1, 1) := by decide +kernel
theorem d5_122 : decode prog_24_method_5_code 122 = .ok (.iadd, 1) := by decide +kernel
theorem d5_123 : decode prog_24_method_5_code 123 = .ok (.putfield 13, 3) := by decide +kernel
theorem d5_126 : decode prog_24_method_5_code 126 = .ok (.iconst 2, 1) := by decide +kernel
theorem d5_127 : decode prog_24_method_5_code 127 = .ok (.aload_n 0, 1) := by decide +kernel
theorem d5_128 : decode prog_24_method_5_code 128 = .ok (.getfield 13, 3) := by decide +kernel
theorem d5_131 : decode prog_24_method_5_code 131 = .ok (.imul, 1) := by decide +kernel
theorem d5_132 : decode prog_24_method_5_code 132 = .ok (.aload_n 0, 1) := by decide +kernel
theorem d5_133 : decode prog_24_method_5_code 133 = .ok (.getfield 35, 3) := by decide +kernel
theorem d5_136 : decode prog_24_method_5_code 136 = .ok (.arraylength, 1) := by decide +kernel
theorem d5_137 : decode prog_24_method_5_code 137 = .ok (.if_icmp .le 24, 3) := by decide +kernel
theorem d5_140 : decode prog_24_method_5_code 140 = .ok (.aload_n 0, 1) := by decide +kernel
theorem d5_141 : decode prog_24_method_5_code 141 = .ok (.getfield 35, 3) := by decide +kernel
theorem d5_144 : decode prog_24_method_5_code 144 = .ok (.arraylength, 1) := by decide +kernel
theorem d5_145 : decode prog_24_method_5_code 145 = .ok (.ldc 55, 2) := by decide +kernel
theorem d5_147 : decode prog_24_method_5_code 147 = .ok (.if_icmp .ge 14, 3) := by decide +kernel
theorem d5_150 : decode prog_24_method_5_code 150 = .ok (.aload_n 0, 1) := by decide +kernel
theorem d5_151 : decode prog_24_method_5_code 151 = .ok (.iconst 2, 1) := by decide +kernel
theorem d5_152 : decode prog_24_method_5_code 152 = .ok (.aload_n 0, 1) := by decide +kernel
theorem d5_153 : decode prog_24_method_5_code 153 = .ok (.getfield 35, 3) := by decide +kernel
theorem d5_156 : decode prog_24_method_5_code 156 = .ok (.arraylength, 1) := by decide +kernel
theorem d5_157 : decode prog_24_method_5_code 157 = .ok (.imul, 1) := by decide +kernel
theorem d5_158 : decode prog_24_method_5_code 158 = .ok (.invokevirtual 9, 3) := by decide +kernel
theorem d5_161 : decode prog_24_method_5_code 161 = .ok (.aconst_null, 1) := by decide +kernel
theorem d5_162 : decode prog_24_method_5_code 162 = .ok (.areturn, 1) := by decide +kernel
theorem ef_rm_put (m : MethodId) (x0 : Addr) (x1 : Int64) (x2 : Addr) : entryFrame m #[(.ref x0), (.long x1), (.ref x2)] 6 = mkF m 0 #[.val (.ref x0), .val (.long x1), .second, .val (.ref x2), .unset, .unset] [] := by first | (simp [entryFrame, mkF, argsToLocals, Value.category]; done) | rfl
set_option maxRecDepth 65536 in
set_option maxHeartbeats 40000000 in
theorem rm_put (l : Launch) (Z : State) (a0 : Array Value) (hw : ∀ d ∈ tables_1, d.before a0 Z = true) (ws : List Jvm.Cond) (b ka va : Addr) (ks : Nat → Int64) (vs : Nat → Value) (G : Int64 → Value) (n : Nat) (q : Int64) (v : Addr) (h0 : Heap) (n0 : Nat) (M : own_Map Z h0 n0 b ka va ks vs n) (RR : own_Rep own_hm ks vs G n) (hn : n < 8) (OO : Old Z n0 h0) (Ev : Exa Z h0 v "java/lang/Integer") :
    MetFree l (⟨"com/example/rootlet/rootlet/IdMap", "put", "(JLjava/lang/Object;)Ljava/lang/Object;"⟩ : MethodName) (head1 (Jvm.Cond.code (⟨"com/example/rootlet/rootlet/IdMap", "put", "(JLjava/lang/Object;)Ljava/lang/Object;"⟩ : MethodName) prog_24_method_5_code 6 (some (.object "java/lang/Object")) :: ws) ({ frames := 1, cells := 2, slots := 24, locals := 16 } : Room)) (fun aa U => aa = #[(.ref b), (.long q), (.ref v)] ∧ Z.Warmed39 U.vm ∧ U.heap = h0) (fun _ _ _ _ _ => True) (fun _ U o U' => ∃ v_ L_, o = .returned v_ ∧ own_QM Z n0 h0.size b ka va (own_upd G q (.ref v)) (if G q = .null then n + 1 else n) (G q) v_ U'.heap L_ ∧ ReturnedEndW U o U' L_ ({ frames := 1, cells := 2, slots := 24, locals := 16 } : Room).cells ({ frames := 1, cells := 2, slots := 24, locals := 16 } : Room).slots) := by
  refine MetFree.of_bodySF (plainFor_of_name pn_0) hisR ?_
  intro p e s m args below meth c s₁ Bd hml0 hP hK
  obtain ⟨rfl, hZ, hh⟩ := hP
  have hx := Bd.exec
  have hby := Bd.bytes
  have hlk := Bd.notSynchronized
  have hml : c.maxLocals = 6 := hml0
  have hown : s.vm.findClass "com/example/rootlet/rootlet/IdMap" = some m.cls := by have q := findClass_of_methodNamed Bd.named; exact q
  have X0 : Stand p l e ({ frames := 1, cells := 2, slots := 24, locals := 16 } : Room) s m #[(.ref b), (.long q), (.ref v)] below meth c s₁ [] 0 0 := Stand.of_body Bd
  have e0 : s₁.heap = h0 := by rw [← hh, Bd.state]; rfl
  have N0 := Fr.nil n0
  show Go p.tables e below (FinW s below (own_QM Z n0 h0.size b ka va (own_upd G q (.ref v)) (if G q = .null then n + 1 else n) (G q)) ({ frames := 1, cells := 2, slots := 24, locals := 16 } : Room).cells ({ frames := 1, cells := 2, slots := 24, locals := 16 } : Room).slots) (s₁.setTop (entryFrame m #[(.ref b), (.long q), (.ref v)] 6))
  refine own_go (fun tt_ kk_ => castTop (ef_rm_put m b q v) kk_) ?_
  show Go p.tables e below _ (s₁.setTop (mkF m 0 #[.val (.ref b), .val (.long q), .second, .val (.ref v), .unset, .unset] []))
  have wS : ∀ d ∈ Bundle.stringAtoms, d.before a0 Z = true := by
    intro d hd
    simp only [Bundle.stringAtoms, List.mem_cons, List.not_mem_nil, or_false] at hd
    rcases hd with rfl | rfl | rfl | rfl | rfl | rfl | rfl
    · exact (hw _ (List.mem_of_getElem? (i := 35) rfl))
    · exact (hw _ (List.mem_of_getElem? (i := 36) rfl))
    · exact (hw _ (List.mem_of_getElem? (i := 37) rfl))
    · exact (hw _ (List.mem_of_getElem? (i := 38) rfl))
    · exact (hw _ (List.mem_of_getElem? (i := 39) rfl))
    · exact (hw _ (List.mem_of_getElem? (i := 40) rfl))
    · exact (hw _ (List.mem_of_getElem? (i := 41) rfl))
  refine own_go (fun tt_ kk_ => XS.aloadN X0.here hx rfl (hb hby d5_0) rfl rfl kk_) ?_
  show Go p.tables e below _ (s₁.setTop (mkF m 1 #[.val (.ref b), .val (.long q), .second, .val (.ref v), .unset, .unset] [(.ref v)]))
  obtain ⟨sa, T1, h1, k1, X1, e1, Ex1, sn1, kz1, hZ1, hown1, st1⟩ := ldcS (vm0 := s.vm) X0 hx hZ hown (hw _ (List.mem_of_getElem? (i := 34) rfl)) wS e0 ((State.WarmedH.refl s).since h0.size) (Nat.le_refl _) (g := (mkF m 1 #[.val (.ref b), .val (.long q), .second, .val (.ref v), .unset, .unset] [(.ref v)])) rfl (hb hby d5_1) (n := 20) (by decide) (by decide) (by decide) (by decide)
  have M1 := M.ext Ex1
  have O1 := OO.ext Ex1
  have E_v_1 := Ev.ext Ex1
  have MM1 := M1
  obtain ⟨AA1, EX1, ⟨Fk1, Fv1, Fm1, Fs1⟩, ⟨ck1, K11, K21, K31⟩, ⟨cv1, V11, V21, V31, V41⟩, DD1⟩ := MM1
  refine own_go (fun tt_ kk_ => st1 tt_ kk_) ?_
  show Go p.tables e below _ (T1.setTop (mkF m 3 #[.val (.ref b), .val (.long q), .second, .val (.ref v), .unset, .unset] [(.ref sa), (.ref v)]))
  obtain ⟨v2, _, ⟨T2, L2, k2, n2⟩, -, X2, ⟨Lc2, hQ2, l2, y2, z2⟩, st2⟩ := Jvm.LawKit.callS X1 hx (y := (⟨"java/util/Objects", "requireNonNull", "(Ljava/lang/Object;Ljava/lang/String;)Ljava/lang/Object;"⟩ : MethodName)) hown1 (mvT hZ1 (hw _ (List.mem_of_getElem? (i := 42) rfl))) (mvT hZ1 (hw _ (List.mem_of_getElem? (i := 43) rfl))) (mvT hZ1 (hw _ (List.mem_of_getElem? (i := 44) rfl))) (mvT hZ1 (hw _ (List.mem_of_getElem? (i := 45) rfl))) (by decide) (backOf (W := 0) (rm_rnn l Z a0 hw [] v sa h1 n0) hZ1 (hw _ (List.mem_of_getElem? (i := 45) rfl)) (hw _ (List.mem_of_getElem? (i := 44) rfl)) (by decide) (by decide)) (g := (mkF m 3 #[.val (.ref b), .val (.long q), .second, .val (.ref v), .unset, .unset] [(.ref sa), (.ref v)])) rfl (by rw [hml]; rfl) (argsL := [(.ref v), (.ref sa)]) (rest := []) (lenOf pd_1 rfl) rfl (by show 2 * 0 + _ ≤ _; exact Nat.le_of_eq rfl) (hb hby d5_3) (fun _ _ => ⟨rfl, e1, (by decide : (0 + 2) + 0 ≤ _), (by decide : (0 + 24) + 0 ≤ _)⟩)
  dsimp only [Pt.U, Pt.locs, Pt.cells, Pt.slots] at X2 l2 y2 z2 st2 hQ2
  subst y2 z2
  obtain ⟨hv2, N2q, e2⟩ := hQ2
  subst hv2
  have N2 : Fr n0 L2 := by rw [l2]; exact Fr.app N0 N2q
  refine own_go (fun tt_ kk_ => st2 tt_ kk_) ?_
  show Go p.tables e below _ (T2.setTop (mkF m 6 #[.val (.ref b), .val (.long q), .second, .val (.ref v), .unset, .unset] [(.ref v)]))
  refine own_go (fun tt_ kk_ => XT.pop X2.here hx rfl (hb hby d5_6) rfl rfl kk_) ?_
  show Go p.tables e below _ (T2.setTop (mkF m 7 #[.val (.ref b), .val (.long q), .second, .val (.ref v), .unset, .unset] []))
  refine own_go (fun tt_ kk_ => XS.aloadN X2.here hx rfl (hb hby d5_7) rfl rfl kk_) ?_
  show Go p.tables e below _ (T2.setTop (mkF m 8 #[.val (.ref b), .val (.long q), .second, .val (.ref v), .unset, .unset] [(.ref b)]))
  refine own_go (fun tt_ kk_ => XT.lloadN X2.here hx rfl (hb hby d5_8) rfl kk_) ?_
  show Go p.tables e below _ (T2.setTop (mkF m 9 #[.val (.ref b), .val (.long q), .second, .val (.ref v), .unset, .unset] [(.long q), (.ref b)]))
  obtain ⟨cq3, q3a, q3b⟩ := (EX1).cell
  obtain ⟨v3, _, ⟨T3, L3, k3, n3⟩, -, X3, ⟨Lc3, hQ3, l3, y3, z3⟩, st3⟩ := X2.privateBack hx (y := (⟨"com/example/rootlet/rootlet/IdMap", "home", "(J)I"⟩ : MethodName)) hown1 (mvT hZ1 (hw _ (List.mem_of_getElem? (i := 46) rfl))) (mvT hZ1 (hw _ (List.mem_of_getElem? (i := 47) rfl))) (own_selp (z := (⟨"com/example/rootlet/rootlet/IdMap", "put", "(JLjava/lang/Object;)Ljava/lang/Object;"⟩ : MethodName)) (mvT hZ1 (hw _ (List.mem_of_getElem? (i := 32) rfl))) rfl (mvP hZ1 (hw _ (List.mem_of_getElem? (i := 48) rfl))) (mvT hZ1 (hw _ (List.mem_of_getElem? (i := 47) rfl))) (by decide)) (Cond.privateMethod_at (mvP hZ1 (hw _ (List.mem_of_getElem? (i := 48) rfl)) (args := #[]))) (mvT hZ1 (hw _ (List.mem_of_getElem? (i := 49) rfl))) (by decide) (backOf (W := 0) (rm_home l Z a0 hw [] b q h1 n0 Fm1) hZ1 (hw _ (List.mem_of_getElem? (i := 49) rfl)) (hw _ (List.mem_of_getElem? (i := 2) rfl)) (by decide) (by decide)) (g := (mkF m 9 #[.val (.ref b), .val (.long q), .second, .val (.ref v), .unset, .unset] [(.long q), (.ref b)])) rfl (by rw [hml]; rfl) (Steps.refl _) (a := b) (by rw [e2]; exact q3a) q3b (argsL := [(.long q)]) (rest := []) (lenOf pd_0 rfl) rfl (by show 2 * 0 + _ ≤ _; exact Nat.le_of_eq rfl) (hb hby d5_9) (fun _ _ => ⟨rfl, e2, (by decide : (0 + 2) + 0 ≤ _), (by decide : (0 + 24) + 0 ≤ _)⟩)
  dsimp only [Pt.U, Pt.locs, Pt.cells, Pt.slots] at X3 l3 y3 z3 st3 hQ3
  subst y3 z3
  obtain ⟨hv3, N3q, e3⟩ := hQ3
  rw [show ((.int (own_hmI q)) : Value) = (.int (ix (own_hm q))) from congrArg Value.int (own_hm_ix q)] at hv3
  subst hv3
  have N3 : Fr n0 L3 := by rw [l3]; exact Fr.app N2 N3q
  refine own_go (fun tt_ kk_ => st3.trans kk_) ?_
  show Go p.tables e below _ (T3.setTop (mkF m 12 #[.val (.ref b), .val (.long q), .second, .val (.ref v), .unset, .unset] [(.int (ix (own_hm q)))]))
  refine own_go (fun tt_ kk_ => XS.istore X3.here hx rfl (hb hby d5_12) rfl (l' := #[.val (.ref b), .val (.long q), .second, .val (.ref v), .val (.int (ix (own_hm q))), .unset]) rfl kk_) ?_
  show Go p.tables e below _ (T3.setTop (mkF m 14 #[.val (.ref b), .val (.long q), .second, .val (.ref v), .val (.int (ix (own_hm q))), .unset] []))
  have loop : ∀ f t, t + f = 16 → own_Run ks vs q (own_hm q) t → ∀ T L, Stand p l e ({ frames := 1, cells := 2, slots := 24, locals := 16 } : Room) (s.setVm T1.vm) m #[(.ref b), (.long q), (.ref v)] below meth c T L (0 + 2) (0 + 24) → Fr n0 L → T.heap = h1 → Go p.tables e below (FinW s below (own_QM Z n0 h0.size b ka va (own_upd G q (.ref v)) (if G q = .null then n + 1 else n) (G q)) ({ frames := 1, cells := 2, slots := 24, locals := 16 } : Room).cells ({ frames := 1, cells := 2, slots := 24, locals := 16 } : Room).slots) (T.setTop (mkF m 14 #[.val (.ref b), .val (.long q), .second, .val (.ref v), .val (.int (ix ((own_hm q + t) % 16))), .unset] [])) := by
    intro f
    induction f with
    | zero => intro t ht R; exact absurd (R.lt RR.2.2.2 (by omega)) (by omega)
    | succ f ih =>
      intro t ht R T L X N e'
      have ht16 : t < 16 := by omega
      have hI : ((own_hm q + t) % 16) < 16 := Nat.mod_lt _ (by decide)
      show Go p.tables e below _ (T.setTop (mkF m 14 #[.val (.ref b), .val (.long q), .second, .val (.ref v), .val (.int (ix ((own_hm q + t) % 16))), .unset] []))
      refine own_go (fun tt_ kk_ => XS.aloadN X.here hx rfl (hb hby d5_14) rfl rfl kk_) ?_
      show Go p.tables e below _ (T.setTop (mkF m 15 #[.val (.ref b), .val (.long q), .second, .val (.ref v), .val (.int (ix ((own_hm q + t) % 16))), .unset] [(.ref b)]))
      obtain ⟨T4, X4, e4, st4⟩ := getF X hx hZ1 hown1 (host := "") (Or.inl (hw _ (List.mem_of_getElem? (i := 15) rfl))) Via.refl e' Fv1 (g := (mkF m 15 #[.val (.ref b), .val (.long q), .second, .val (.ref v), .val (.int (ix ((own_hm q + t) % 16))), .unset] [(.ref b)])) rfl rfl (hb hby d5_15)
      refine own_go (fun tt_ kk_ => st4 tt_ kk_) ?_
      show Go p.tables e below _ (T4.setTop (mkF m 18 #[.val (.ref b), .val (.long q), .second, .val (.ref v), .val (.int (ix ((own_hm q + t) % 16))), .unset] [(.ref va)]))
      refine own_go (fun tt_ kk_ => XS.iload X4.here hx rfl (hb hby d5_18) rfl kk_) ?_
      show Go p.tables e below _ (T4.setTop (mkF m 20 #[.val (.ref b), .val (.long q), .second, .val (.ref v), .val (.int (ix ((own_hm q + t) % 16))), .unset] [(.int (ix ((own_hm q + t) % 16))), (.ref va)]))
      refine own_go (fun tt_ kk_ => X4.aaload hx (j := (ix ((own_hm q + t) % 16))) (v := (vs ((own_hm q + t) % 16))) (by rw [e4]; exact V11.1) (State.isArrayOf_alike hZ1.alike V11.2.1) rfl V11.2.2 (ix_in hI V21) (by rw [ix_clamp hI]; exact V41 _ hI) (g := (mkF m 20 #[.val (.ref b), .val (.long q), .second, .val (.ref v), .val (.int (ix ((own_hm q + t) % 16))), .unset] [(.int (ix ((own_hm q + t) % 16))), (.ref va)])) rfl rfl (hb hby d5_20) tt_ kk_) ?_
      show Go p.tables e below _ (T4.setTop (mkF m 21 #[.val (.ref b), .val (.long q), .second, .val (.ref v), .val (.int (ix ((own_hm q + t) % 16))), .unset] [(vs ((own_hm q + t) % 16))]))
      by_cases hc5 : (vs ((own_hm q + t) % 16)) = .null
      · refine own_go (fun tt_ kk_ => XT.nullYes X4.here hx rfl (pc0 := 21) (pc' := 69) rfl (hb hby d5_21) rfl hc5 (by decide) (by decide) kk_) ?_
        show Go p.tables e below _ (T4.setTop (mkF m 69 #[.val (.ref b), .val (.long q), .second, .val (.ref v), .val (.int (ix ((own_hm q + t) % 16))), .unset] []))
        refine own_go (fun tt_ kk_ => XS.aloadN X4.here hx rfl (hb hby d5_69) rfl rfl kk_) ?_
        show Go p.tables e below _ (T4.setTop (mkF m 70 #[.val (.ref b), .val (.long q), .second, .val (.ref v), .val (.int (ix ((own_hm q + t) % 16))), .unset] [(.ref b)]))
        obtain ⟨T6, X6, e6, st6⟩ := getF X4 hx hZ1 hown1 (host := "") (Or.inl (hw _ (List.mem_of_getElem? (i := 52) rfl))) Via.refl e4 Fs1 (g := (mkF m 70 #[.val (.ref b), .val (.long q), .second, .val (.ref v), .val (.int (ix ((own_hm q + t) % 16))), .unset] [(.ref b)])) rfl rfl (hb hby d5_70)
        refine own_go (fun tt_ kk_ => st6 tt_ kk_) ?_
        show Go p.tables e below _ (T6.setTop (mkF m 73 #[.val (.ref b), .val (.long q), .second, .val (.ref v), .val (.int (ix ((own_hm q + t) % 16))), .unset] [(.int (ix n))]))
        refine own_go (fun tt_ kk_ => XS.aloadN X6.here hx rfl (hb hby d5_73) rfl rfl kk_) ?_
        show Go p.tables e below _ (T6.setTop (mkF m 74 #[.val (.ref b), .val (.long q), .second, .val (.ref v), .val (.int (ix ((own_hm q + t) % 16))), .unset] [(.ref b), (.int (ix n))]))
        obtain ⟨T7, X7, e7, st7⟩ := getF X6 hx hZ1 hown1 (host := "") (Or.inl (hw _ (List.mem_of_getElem? (i := 15) rfl))) Via.refl e6 Fv1 (g := (mkF m 74 #[.val (.ref b), .val (.long q), .second, .val (.ref v), .val (.int (ix ((own_hm q + t) % 16))), .unset] [(.ref b), (.int (ix n))])) rfl rfl (hb hby d5_74)
        refine own_go (fun tt_ kk_ => st7 tt_ kk_) ?_
        show Go p.tables e below _ (T7.setTop (mkF m 77 #[.val (.ref b), .val (.long q), .second, .val (.ref v), .val (.int (ix ((own_hm q + t) % 16))), .unset] [(.ref va), (.int (ix n))]))
        refine own_go (fun tt_ kk_ => X7.arraylength hx (by rw [e7]; exact V11.1) (State.isArrayOf_alike hZ1.alike V11.2.1) (g := (mkF m 77 #[.val (.ref b), .val (.long q), .second, .val (.ref v), .val (.int (ix ((own_hm q + t) % 16))), .unset] [(.ref va), (.int (ix n))])) rfl rfl (hb hby d5_77) tt_ (by rw [(show cv1.slots.size.toInt32 = 16 by rw [V21]; rfl)]; exact kk_)) ?_
        show Go p.tables e below _ (T7.setTop (mkF m 78 #[.val (.ref b), .val (.long q), .second, .val (.ref v), .val (.int (ix ((own_hm q + t) % 16))), .unset] [(.int (16 : Int32)), (.int (ix n))]))
        refine own_go (fun tt_ kk_ => XS.iconst X7.here hx rfl (hb hby d5_78) kk_) ?_
        show Go p.tables e below _ (T7.setTop (mkF m 79 #[.val (.ref b), .val (.long q), .second, .val (.ref v), .val (.int (ix ((own_hm q + t) % 16))), .unset] [(.int (1 : Int32)), (.int (16 : Int32)), (.int (ix n))]))
        refine own_go (fun tt_ kk_ => XS.isub X7.here hx rfl (hb hby d5_79) rfl kk_) ?_
        show Go p.tables e below _ (T7.setTop (mkF m 80 #[.val (.ref b), .val (.long q), .second, .val (.ref v), .val (.int (ix ((own_hm q + t) % 16))), .unset] [(.int (15 : Int32)), (.int (ix n))]))
        refine own_go (fun tt_ kk_ => XS.icmpYes X7.here hx rfl (pc0 := 80) (pc' := 100) rfl (hb hby d5_80) rfl (XT.ii_ne_t (ix_ne15 n hn)) (by decide) (by decide) kk_) ?_
        show Go p.tables e below _ (T7.setTop (mkF m 100 #[.val (.ref b), .val (.long q), .second, .val (.ref v), .val (.int (ix ((own_hm q + t) % 16))), .unset] []))
        refine own_go (fun tt_ kk_ => XS.aloadN X7.here hx rfl (hb hby d5_100) rfl rfl kk_) ?_
        show Go p.tables e below _ (T7.setTop (mkF m 101 #[.val (.ref b), .val (.long q), .second, .val (.ref v), .val (.int (ix ((own_hm q + t) % 16))), .unset] [(.ref b)]))
        obtain ⟨T8, X8, e8, st8⟩ := getF X7 hx hZ1 hown1 (host := "") (Or.inl (hw _ (List.mem_of_getElem? (i := 13) rfl))) Via.refl e7 Fk1 (g := (mkF m 101 #[.val (.ref b), .val (.long q), .second, .val (.ref v), .val (.int (ix ((own_hm q + t) % 16))), .unset] [(.ref b)])) rfl rfl (hb hby d5_101)
        refine own_go (fun tt_ kk_ => st8 tt_ kk_) ?_
        show Go p.tables e below _ (T8.setTop (mkF m 104 #[.val (.ref b), .val (.long q), .second, .val (.ref v), .val (.int (ix ((own_hm q + t) % 16))), .unset] [(.ref ka)]))
        refine own_go (fun tt_ kk_ => XS.iload X8.here hx rfl (hb hby d5_104) rfl kk_) ?_
        show Go p.tables e below _ (T8.setTop (mkF m 106 #[.val (.ref b), .val (.long q), .second, .val (.ref v), .val (.int (ix ((own_hm q + t) % 16))), .unset] [(.int (ix ((own_hm q + t) % 16))), (.ref ka)]))
        refine own_go (fun tt_ kk_ => XT.lloadN X8.here hx rfl (hb hby d5_106) rfl kk_) ?_
        show Go p.tables e below _ (T8.setTop (mkF m 107 #[.val (.ref b), .val (.long q), .second, .val (.ref v), .val (.int (ix ((own_hm q + t) % 16))), .unset] [(.long q), (.int (ix ((own_hm q + t) % 16))), (.ref ka)]))
        obtain ⟨T9, h9, X9, e9, W9, st9⟩ := stJ X8 hx hZ1 e8 K11 (j := (ix ((own_hm q + t) % 16))) (ix_in hI K21) (g := (mkF m 107 #[.val (.ref b), .val (.long q), .second, .val (.ref v), .val (.int (ix ((own_hm q + t) % 16))), .unset] [(.long q), (.int (ix ((own_hm q + t) % 16))), (.ref ka)])) rfl rfl (hb hby d5_107)
        have N9 := Fr.snoc X9 N AA1.2.1
        have M9 := M1.keys hI W9
        have O9 := O1.wr W9 AA1.2.1
        have kz9 : k1 ≤ h9.size := by rw [W9.size]; exact kz1
        have sz9 : h0.size ≤ h9.size := by rw [W9.size]; exact Ex1.1
        have E_v_9 := E_v_1.wr W9
        have MM9 := M9
        obtain ⟨AA9, EX9, ⟨Fk9, Fv9, Fm9, Fs9⟩, ⟨ck9, K19, K29, K39⟩, ⟨cv9, V19, V29, V39, V49⟩, DD9⟩ := MM9
        refine own_go (fun tt_ kk_ => st9 tt_ kk_) ?_
        show Go p.tables e below _ (T9.setTop (mkF m 108 #[.val (.ref b), .val (.long q), .second, .val (.ref v), .val (.int (ix ((own_hm q + t) % 16))), .unset] []))
        refine own_go (fun tt_ kk_ => XS.aloadN X9.here hx rfl (hb hby d5_108) rfl rfl kk_) ?_
        show Go p.tables e below _ (T9.setTop (mkF m 109 #[.val (.ref b), .val (.long q), .second, .val (.ref v), .val (.int (ix ((own_hm q + t) % 16))), .unset] [(.ref b)]))
        obtain ⟨T10, X10, e10, st10⟩ := getF X9 hx hZ1 hown1 (host := "") (Or.inl (hw _ (List.mem_of_getElem? (i := 15) rfl))) Via.refl e9 Fv9 (g := (mkF m 109 #[.val (.ref b), .val (.long q), .second, .val (.ref v), .val (.int (ix ((own_hm q + t) % 16))), .unset] [(.ref b)])) rfl rfl (hb hby d5_109)
        refine own_go (fun tt_ kk_ => st10 tt_ kk_) ?_
        show Go p.tables e below _ (T10.setTop (mkF m 112 #[.val (.ref b), .val (.long q), .second, .val (.ref v), .val (.int (ix ((own_hm q + t) % 16))), .unset] [(.ref va)]))
        refine own_go (fun tt_ kk_ => XS.iload X10.here hx rfl (hb hby d5_112) rfl kk_) ?_
        show Go p.tables e below _ (T10.setTop (mkF m 114 #[.val (.ref b), .val (.long q), .second, .val (.ref v), .val (.int (ix ((own_hm q + t) % 16))), .unset] [(.int (ix ((own_hm q + t) % 16))), (.ref va)]))
        refine own_go (fun tt_ kk_ => XS.aloadN X10.here hx rfl (hb hby d5_114) rfl rfl kk_) ?_
        show Go p.tables e below _ (T10.setTop (mkF m 115 #[.val (.ref b), .val (.long q), .second, .val (.ref v), .val (.int (ix ((own_hm q + t) % 16))), .unset] [(.ref v), (.int (ix ((own_hm q + t) % 16))), (.ref va)]))
        obtain ⟨T11, h11, X11, e11, W11, st11⟩ := stR X10 hx hZ1 e10 V19 (j := (ix ((own_hm q + t) % 16))) (ix_in hI V29) rfl (M9.sto (hw _ (List.mem_of_getElem? (i := 54) rfl)) (Or.inr ⟨_, rfl, E_v_9⟩)) (g := (mkF m 115 #[.val (.ref b), .val (.long q), .second, .val (.ref v), .val (.int (ix ((own_hm q + t) % 16))), .unset] [(.ref v), (.int (ix ((own_hm q + t) % 16))), (.ref va)])) rfl rfl (hb hby d5_115)
        have N11 := Fr.snoc X11 N9 AA9.2.2.1
        have M11 := M9.vals hI (Or.inr ⟨_, rfl, E_v_9⟩) W11
        have O11 := O9.wr W11 AA9.2.2.1
        have kz11 : k1 ≤ h11.size := by rw [W11.size]; exact kz9
        have sz11 : h0.size ≤ h11.size := by rw [W11.size]; exact sz9
        have E_v_11 := E_v_9.wr W11
        have MM11 := M11
        obtain ⟨AA11, EX11, ⟨Fk11, Fv11, Fm11, Fs11⟩, ⟨ck11, K111, K211, K311⟩, ⟨cv11, V111, V211, V311, V411⟩, DD11⟩ := MM11
        refine own_go (fun tt_ kk_ => st11 tt_ kk_) ?_
        show Go p.tables e below _ (T11.setTop (mkF m 116 #[.val (.ref b), .val (.long q), .second, .val (.ref v), .val (.int (ix ((own_hm q + t) % 16))), .unset] []))
        refine own_go (fun tt_ kk_ => XS.aloadN X11.here hx rfl (hb hby d5_116) rfl rfl kk_) ?_
        show Go p.tables e below _ (T11.setTop (mkF m 117 #[.val (.ref b), .val (.long q), .second, .val (.ref v), .val (.int (ix ((own_hm q + t) % 16))), .unset] [(.ref b)]))
        refine own_go (fun tt_ kk_ => XS.dup X11.here hx rfl (hb hby d5_117) rfl rfl kk_) ?_
        show Go p.tables e below _ (T11.setTop (mkF m 118 #[.val (.ref b), .val (.long q), .second, .val (.ref v), .val (.int (ix ((own_hm q + t) % 16))), .unset] [(.ref b), (.ref b)]))
        obtain ⟨T12, X12, e12, st12⟩ := getF X11 hx hZ1 hown1 (host := "") (Or.inl (hw _ (List.mem_of_getElem? (i := 52) rfl))) Via.refl e11 Fs11 (g := (mkF m 118 #[.val (.ref b), .val (.long q), .second, .val (.ref v), .val (.int (ix ((own_hm q + t) % 16))), .unset] [(.ref b), (.ref b)])) rfl rfl (hb hby d5_118)
        refine own_go (fun tt_ kk_ => st12 tt_ kk_) ?_
        show Go p.tables e below _ (T12.setTop (mkF m 121 #[.val (.ref b), .val (.long q), .second, .val (.ref v), .val (.int (ix ((own_hm q + t) % 16))), .unset] [(.int (ix n)), (.ref b)]))
        refine own_go (fun tt_ kk_ => XS.iconst X12.here hx rfl (hb hby d5_121) kk_) ?_
        show Go p.tables e below _ (T12.setTop (mkF m 122 #[.val (.ref b), .val (.long q), .second, .val (.ref v), .val (.int (ix ((own_hm q + t) % 16))), .unset] [(.int (1 : Int32)), (.int (ix n)), (.ref b)]))
        refine own_go (fun tt_ kk_ => XS.iadd X12.here hx rfl (hb hby d5_122) rfl kk_) ?_
        show Go p.tables e below _ (T12.setTop (mkF m 123 #[.val (.ref b), .val (.long q), .second, .val (.ref v), .val (.int (ix ((own_hm q + t) % 16))), .unset] [(.int ((ix n) + (1 : Int32))), (.ref b)]))
        rw [ix_succ n]
        show Go p.tables e below _ (T12.setTop (mkF m 123 #[.val (.ref b), .val (.long q), .second, .val (.ref v), .val (.int (ix ((own_hm q + t) % 16))), .unset] [(.int (ix (n + 1))), (.ref b)]))
        obtain ⟨T13, h13, X13, e13, W13, st13⟩ := putF X12 hx hZ1 hown1 (host := "") (Or.inl (hw _ (List.mem_of_getElem? (i := 52) rfl))) Via.refl e12 Fs11 EX11 (Or.inl (hw _ (List.mem_of_getElem? (i := 53) rfl))) (hw _ (List.mem_of_getElem? (i := 1) rfl)) (ty := .int) (by decide) rfl rfl (g := (mkF m 123 #[.val (.ref b), .val (.long q), .second, .val (.ref v), .val (.int (ix ((own_hm q + t) % 16))), .unset] [(.int (ix (n + 1))), (.ref b)])) rfl rfl (hb hby d5_123)
        have N13 := Fr.snoc X13 N11 AA11.1
        have M13 := own_Map.sized (hw _ (List.mem_of_getElem? (i := 14) rfl)) (hw _ (List.mem_of_getElem? (i := 16) rfl)) (hw _ (List.mem_of_getElem? (i := 21) rfl)) (hw _ (List.mem_of_getElem? (i := 53) rfl)) M11 W13
        have O13 := O11.wr W13 AA11.1
        have kz13 : k1 ≤ h13.size := by rw [W13.size]; exact kz11
        have sz13 : h0.size ≤ h13.size := by rw [W13.size]; exact sz11
        have E_v_13 := E_v_11.wr W13
        have MM13 := M13
        obtain ⟨AA13, EX13, ⟨Fk13, Fv13, Fm13, Fs13⟩, ⟨ck13, K113, K213, K313⟩, ⟨cv13, V113, V213, V313, V413⟩, DD13⟩ := MM13
        refine own_go (fun tt_ kk_ => st13 tt_ kk_) ?_
        show Go p.tables e below _ (T13.setTop (mkF m 126 #[.val (.ref b), .val (.long q), .second, .val (.ref v), .val (.int (ix ((own_hm q + t) % 16))), .unset] []))
        refine own_go (fun tt_ kk_ => XS.iconst X13.here hx rfl (hb hby d5_126) kk_) ?_
        show Go p.tables e below _ (T13.setTop (mkF m 127 #[.val (.ref b), .val (.long q), .second, .val (.ref v), .val (.int (ix ((own_hm q + t) % 16))), .unset] [(.int (2 : Int32))]))
        refine own_go (fun tt_ kk_ => XS.aloadN X13.here hx rfl (hb hby d5_127) rfl rfl kk_) ?_
        show Go p.tables e below _ (T13.setTop (mkF m 128 #[.val (.ref b), .val (.long q), .second, .val (.ref v), .val (.int (ix ((own_hm q + t) % 16))), .unset] [(.ref b), (.int (2 : Int32))]))
        obtain ⟨T14, X14, e14, st14⟩ := getF X13 hx hZ1 hown1 (host := "") (Or.inl (hw _ (List.mem_of_getElem? (i := 52) rfl))) Via.refl e13 Fs13 (g := (mkF m 128 #[.val (.ref b), .val (.long q), .second, .val (.ref v), .val (.int (ix ((own_hm q + t) % 16))), .unset] [(.ref b), (.int (2 : Int32))])) rfl rfl (hb hby d5_128)
        refine own_go (fun tt_ kk_ => st14 tt_ kk_) ?_
        show Go p.tables e below _ (T14.setTop (mkF m 131 #[.val (.ref b), .val (.long q), .second, .val (.ref v), .val (.int (ix ((own_hm q + t) % 16))), .unset] [(.int (ix (n + 1))), (.int (2 : Int32))]))
        refine own_go (fun tt_ kk_ => XS.imul X14.here hx rfl (hb hby d5_131) rfl kk_) ?_
        show Go p.tables e below _ (T14.setTop (mkF m 132 #[.val (.ref b), .val (.long q), .second, .val (.ref v), .val (.int (ix ((own_hm q + t) % 16))), .unset] [(.int ((2 : Int32) * (ix (n + 1))))]))
        refine own_go (fun tt_ kk_ => XS.aloadN X14.here hx rfl (hb hby d5_132) rfl rfl kk_) ?_
        show Go p.tables e below _ (T14.setTop (mkF m 133 #[.val (.ref b), .val (.long q), .second, .val (.ref v), .val (.int (ix ((own_hm q + t) % 16))), .unset] [(.ref b), (.int ((2 : Int32) * (ix (n + 1))))]))
        obtain ⟨T15, X15, e15, st15⟩ := getF X14 hx hZ1 hown1 (host := "") (Or.inl (hw _ (List.mem_of_getElem? (i := 15) rfl))) Via.refl e14 Fv13 (g := (mkF m 133 #[.val (.ref b), .val (.long q), .second, .val (.ref v), .val (.int (ix ((own_hm q + t) % 16))), .unset] [(.ref b), (.int ((2 : Int32) * (ix (n + 1))))])) rfl rfl (hb hby d5_133)
        refine own_go (fun tt_ kk_ => st15 tt_ kk_) ?_
        show Go p.tables e below _ (T15.setTop (mkF m 136 #[.val (.ref b), .val (.long q), .second, .val (.ref v), .val (.int (ix ((own_hm q + t) % 16))), .unset] [(.ref va), (.int ((2 : Int32) * (ix (n + 1))))]))
        refine own_go (fun tt_ kk_ => X15.arraylength hx (by rw [e15]; exact V113.1) (State.isArrayOf_alike hZ1.alike V113.2.1) (g := (mkF m 136 #[.val (.ref b), .val (.long q), .second, .val (.ref v), .val (.int (ix ((own_hm q + t) % 16))), .unset] [(.ref va), (.int ((2 : Int32) * (ix (n + 1))))])) rfl rfl (hb hby d5_136) tt_ (by rw [(show cv13.slots.size.toInt32 = 16 by rw [V213]; rfl)]; exact kk_)) ?_
        show Go p.tables e below _ (T15.setTop (mkF m 137 #[.val (.ref b), .val (.long q), .second, .val (.ref v), .val (.int (ix ((own_hm q + t) % 16))), .unset] [(.int (16 : Int32)), (.int ((2 : Int32) * (ix (n + 1))))]))
        refine own_go (fun tt_ kk_ => XS.icmpYes X15.here hx rfl (pc0 := 137) (pc' := 161) rfl (hb hby d5_137) rfl (XT.ii_le_t (ix_le8 n hn)) (by decide) (by decide) kk_) ?_
        show Go p.tables e below _ (T15.setTop (mkF m 161 #[.val (.ref b), .val (.long q), .second, .val (.ref v), .val (.int (ix ((own_hm q + t) % 16))), .unset] []))
        refine own_go (fun tt_ kk_ => XS.aconstNull X15.here hx rfl (hb hby d5_161) kk_) ?_
        show Go p.tables e below _ (T15.setTop (mkF m 162 #[.val (.ref b), .val (.long q), .second, .val (.ref v), .val (.int (ix ((own_hm q + t) % 16))), .unset] [.null]))
        exact own_retW X15 sn1 (by rw [e15]; exact kz13) hx hlk Bd.returns rfl (Or.inr (Or.inr (Or.inr (Or.inr ⟨rfl, rfl, rfl⟩)))) (hb hby d5_162) (by have g := own_absent RR (own_hm_lt q) R hc5; exact ⟨congrArg some g.symm, N13, by rw [e15]; exact ⟨O13, sz13⟩, _, _, by rw [e15, if_pos g]; exact M13, by rw [if_pos g]; exact own_put_new RR (own_hm_lt q) ht16 R hc5 (by simp)⟩) (by decide) (by decide)
      · refine own_go (fun tt_ kk_ => XT.nullNo X4.here hx rfl (hb hby d5_21) rfl (M1.isRef hI) hc5 kk_) ?_
        show Go p.tables e below _ (T4.setTop (mkF m 24 #[.val (.ref b), .val (.long q), .second, .val (.ref v), .val (.int (ix ((own_hm q + t) % 16))), .unset] []))
        refine own_go (fun tt_ kk_ => XS.aloadN X4.here hx rfl (hb hby d5_24) rfl rfl kk_) ?_
        show Go p.tables e below _ (T4.setTop (mkF m 25 #[.val (.ref b), .val (.long q), .second, .val (.ref v), .val (.int (ix ((own_hm q + t) % 16))), .unset] [(.ref b)]))
        obtain ⟨T16, X16, e16, st16⟩ := getF X4 hx hZ1 hown1 (host := "") (Or.inl (hw _ (List.mem_of_getElem? (i := 13) rfl))) Via.refl e4 Fk1 (g := (mkF m 25 #[.val (.ref b), .val (.long q), .second, .val (.ref v), .val (.int (ix ((own_hm q + t) % 16))), .unset] [(.ref b)])) rfl rfl (hb hby d5_25)
        refine own_go (fun tt_ kk_ => st16 tt_ kk_) ?_
        show Go p.tables e below _ (T16.setTop (mkF m 28 #[.val (.ref b), .val (.long q), .second, .val (.ref v), .val (.int (ix ((own_hm q + t) % 16))), .unset] [(.ref ka)]))
        refine own_go (fun tt_ kk_ => XS.iload X16.here hx rfl (hb hby d5_28) rfl kk_) ?_
        show Go p.tables e below _ (T16.setTop (mkF m 30 #[.val (.ref b), .val (.long q), .second, .val (.ref v), .val (.int (ix ((own_hm q + t) % 16))), .unset] [(.int (ix ((own_hm q + t) % 16))), (.ref ka)]))
        refine own_go (fun tt_ kk_ => X16.laload hx (j := (ix ((own_hm q + t) % 16))) (v := (.long (ks ((own_hm q + t) % 16)))) (by rw [e16]; exact K11.1) (State.isArrayOf_alike hZ1.alike K11.2.1) K11.2.2 (ix_in hI K21) (by rw [ix_clamp hI]; exact K31 _ hI) (g := (mkF m 30 #[.val (.ref b), .val (.long q), .second, .val (.ref v), .val (.int (ix ((own_hm q + t) % 16))), .unset] [(.int (ix ((own_hm q + t) % 16))), (.ref ka)])) rfl rfl (hb hby d5_30) tt_ kk_) ?_
        show Go p.tables e below _ (T16.setTop (mkF m 31 #[.val (.ref b), .val (.long q), .second, .val (.ref v), .val (.int (ix ((own_hm q + t) % 16))), .unset] [(.long (ks ((own_hm q + t) % 16)))]))
        refine own_go (fun tt_ kk_ => XT.lloadN X16.here hx rfl (hb hby d5_31) rfl kk_) ?_
        show Go p.tables e below _ (T16.setTop (mkF m 32 #[.val (.ref b), .val (.long q), .second, .val (.ref v), .val (.int (ix ((own_hm q + t) % 16))), .unset] [(.long q), (.long (ks ((own_hm q + t) % 16)))]))
        refine own_go (fun tt_ kk_ => XT.lcmp X16.here hx rfl (hb hby d5_32) rfl kk_) ?_
        show Go p.tables e below _ (T16.setTop (mkF m 33 #[.val (.ref b), .val (.long q), .second, .val (.ref v), .val (.int (ix ((own_hm q + t) % 16))), .unset] [(.int (XT.cmpL (ks ((own_hm q + t) % 16)) q))]))
        by_cases hc17 : (ks ((own_hm q + t) % 16)) = q
        · refine own_go (fun tt_ kk_ => XS.ifNo X16.here hx rfl (hb hby d5_33) rfl (XT.ll_ne_f hc17) kk_) ?_
          show Go p.tables e below _ (T16.setTop (mkF m 36 #[.val (.ref b), .val (.long q), .second, .val (.ref v), .val (.int (ix ((own_hm q + t) % 16))), .unset] []))
          refine own_go (fun tt_ kk_ => XS.aloadN X16.here hx rfl (hb hby d5_36) rfl rfl kk_) ?_
          show Go p.tables e below _ (T16.setTop (mkF m 37 #[.val (.ref b), .val (.long q), .second, .val (.ref v), .val (.int (ix ((own_hm q + t) % 16))), .unset] [(.ref b)]))
          refine own_go (fun tt_ kk_ => XS.iload X16.here hx rfl (hb hby d5_37) rfl kk_) ?_
          show Go p.tables e below _ (T16.setTop (mkF m 39 #[.val (.ref b), .val (.long q), .second, .val (.ref v), .val (.int (ix ((own_hm q + t) % 16))), .unset] [(.int (ix ((own_hm q + t) % 16))), (.ref b)]))
          obtain ⟨cq18, q18a, q18b⟩ := (EX1).cell
          obtain ⟨v18, _, ⟨T18, L18, k18, n18⟩, -, X18, ⟨Lc18, hQ18, l18, y18, z18⟩, st18⟩ := X16.privateBack hx (y := (⟨"com/example/rootlet/rootlet/IdMap", "value", "(I)Ljava/lang/Object;"⟩ : MethodName)) hown1 (mvT hZ1 (hw _ (List.mem_of_getElem? (i := 55) rfl))) (mvT hZ1 (hw _ (List.mem_of_getElem? (i := 56) rfl))) (own_selp (z := (⟨"com/example/rootlet/rootlet/IdMap", "put", "(JLjava/lang/Object;)Ljava/lang/Object;"⟩ : MethodName)) (mvT hZ1 (hw _ (List.mem_of_getElem? (i := 32) rfl))) rfl (mvP hZ1 (hw _ (List.mem_of_getElem? (i := 57) rfl))) (mvT hZ1 (hw _ (List.mem_of_getElem? (i := 56) rfl))) (by decide)) (Cond.privateMethod_at (mvP hZ1 (hw _ (List.mem_of_getElem? (i := 57) rfl)) (args := #[]))) (mvT hZ1 (hw _ (List.mem_of_getElem? (i := 58) rfl))) (by decide) (backOf (W := 0) (rm_value l Z a0 hw [] b ka va ks vs G n ((own_hm q + t) % 16) h1 n0 M1 RR hI) hZ1 (hw _ (List.mem_of_getElem? (i := 58) rfl)) (hw _ (List.mem_of_getElem? (i := 2) rfl)) (by decide) (by decide)) (g := (mkF m 39 #[.val (.ref b), .val (.long q), .second, .val (.ref v), .val (.int (ix ((own_hm q + t) % 16))), .unset] [(.int (ix ((own_hm q + t) % 16))), (.ref b)])) rfl (by rw [hml]; rfl) (Steps.refl _) (a := b) (by rw [e16]; exact q18a) q18b (argsL := [(.int (ix ((own_hm q + t) % 16)))]) (rest := []) (lenOf pd_2 rfl) rfl (by show 2 * 0 + _ ≤ _; exact Nat.le_of_eq rfl) (hb hby d5_39) (fun _ _ => ⟨rfl, e16, (by decide : (0 + 2) + 0 ≤ _), (by decide : (0 + 24) + 0 ≤ _)⟩)
          dsimp only [Pt.U, Pt.locs, Pt.cells, Pt.slots] at X18 l18 y18 z18 st18 hQ18
          subst y18 z18
          obtain ⟨hv18, N18q, e18⟩ := hQ18
          subst hv18
          have N18 : Fr n0 L18 := by rw [l18]; exact Fr.app N N18q
          refine own_go (fun tt_ kk_ => st18.trans kk_) ?_
          show Go p.tables e below _ (T18.setTop (mkF m 42 #[.val (.ref b), .val (.long q), .second, .val (.ref v), .val (.int (ix ((own_hm q + t) % 16))), .unset] [(vs ((own_hm q + t) % 16))]))
          refine own_go (fun tt_ kk_ => XS.astoreS X18.here hx rfl (hb hby d5_42) rfl (M1.isRef hI) (XT.cat1 (M1.isRef hI)) rfl (Or.inl rfl) kk_) ?_
          show Go p.tables e below _ (T18.setTop (mkF m 44 #[.val (.ref b), .val (.long q), .second, .val (.ref v), .val (.int (ix ((own_hm q + t) % 16))), .val (vs ((own_hm q + t) % 16))] []))
          refine own_go (fun tt_ kk_ => XS.aloadN X18.here hx rfl (hb hby d5_44) rfl rfl kk_) ?_
          show Go p.tables e below _ (T18.setTop (mkF m 45 #[.val (.ref b), .val (.long q), .second, .val (.ref v), .val (.int (ix ((own_hm q + t) % 16))), .val (vs ((own_hm q + t) % 16))] [(.ref b)]))
          obtain ⟨T19, X19, e19, st19⟩ := getF X18 hx hZ1 hown1 (host := "") (Or.inl (hw _ (List.mem_of_getElem? (i := 15) rfl))) Via.refl e18 Fv1 (g := (mkF m 45 #[.val (.ref b), .val (.long q), .second, .val (.ref v), .val (.int (ix ((own_hm q + t) % 16))), .val (vs ((own_hm q + t) % 16))] [(.ref b)])) rfl rfl (hb hby d5_45)
          refine own_go (fun tt_ kk_ => st19 tt_ kk_) ?_
          show Go p.tables e below _ (T19.setTop (mkF m 48 #[.val (.ref b), .val (.long q), .second, .val (.ref v), .val (.int (ix ((own_hm q + t) % 16))), .val (vs ((own_hm q + t) % 16))] [(.ref va)]))
          refine own_go (fun tt_ kk_ => XS.iload X19.here hx rfl (hb hby d5_48) rfl kk_) ?_
          show Go p.tables e below _ (T19.setTop (mkF m 50 #[.val (.ref b), .val (.long q), .second, .val (.ref v), .val (.int (ix ((own_hm q + t) % 16))), .val (vs ((own_hm q + t) % 16))] [(.int (ix ((own_hm q + t) % 16))), (.ref va)]))
          refine own_go (fun tt_ kk_ => XS.aloadN X19.here hx rfl (hb hby d5_50) rfl rfl kk_) ?_
          show Go p.tables e below _ (T19.setTop (mkF m 51 #[.val (.ref b), .val (.long q), .second, .val (.ref v), .val (.int (ix ((own_hm q + t) % 16))), .val (vs ((own_hm q + t) % 16))] [(.ref v), (.int (ix ((own_hm q + t) % 16))), (.ref va)]))
          obtain ⟨T20, h20, X20, e20, W20, st20⟩ := stR X19 hx hZ1 e19 V11 (j := (ix ((own_hm q + t) % 16))) (ix_in hI V21) rfl (M1.sto (hw _ (List.mem_of_getElem? (i := 54) rfl)) (Or.inr ⟨_, rfl, E_v_1⟩)) (g := (mkF m 51 #[.val (.ref b), .val (.long q), .second, .val (.ref v), .val (.int (ix ((own_hm q + t) % 16))), .val (vs ((own_hm q + t) % 16))] [(.ref v), (.int (ix ((own_hm q + t) % 16))), (.ref va)])) rfl rfl (hb hby d5_51)
          have N20 := Fr.snoc X20 N18 AA1.2.2.1
          have M20 := M1.vals hI (Or.inr ⟨_, rfl, E_v_1⟩) W20
          have O20 := O1.wr W20 AA1.2.2.1
          have kz20 : k1 ≤ h20.size := by rw [W20.size]; exact kz1
          have sz20 : h0.size ≤ h20.size := by rw [W20.size]; exact Ex1.1
          have E_v_20 := E_v_1.wr W20
          have MM20 := M20
          obtain ⟨AA20, EX20, ⟨Fk20, Fv20, Fm20, Fs20⟩, ⟨ck20, K120, K220, K320⟩, ⟨cv20, V120, V220, V320, V420⟩, DD20⟩ := MM20
          refine own_go (fun tt_ kk_ => st20 tt_ kk_) ?_
          show Go p.tables e below _ (T20.setTop (mkF m 52 #[.val (.ref b), .val (.long q), .second, .val (.ref v), .val (.int (ix ((own_hm q + t) % 16))), .val (vs ((own_hm q + t) % 16))] []))
          refine own_go (fun tt_ kk_ => XS.aload X20.here hx rfl (hb hby d5_52) rfl (M1.isRef hI) kk_) ?_
          show Go p.tables e below _ (T20.setTop (mkF m 54 #[.val (.ref b), .val (.long q), .second, .val (.ref v), .val (.int (ix ((own_hm q + t) % 16))), .val (vs ((own_hm q + t) % 16))] [(vs ((own_hm q + t) % 16))]))
          exact own_retW X20 sn1 (by rw [e20]; exact kz20) hx hlk Bd.returns rfl (Or.inr (Or.inr (Or.inr (Or.inr ⟨rfl, rfl, (M1.isRef hI)⟩)))) (hb hby d5_54) (by have g := own_found RR hI hc5 hc17; have g2 : G q ≠ .null := (by rw [g]; exact hc5); exact ⟨congrArg some g.symm, N20, by rw [e20]; exact ⟨O20, sz20⟩, _, _, by rw [e20, if_neg g2]; exact M20, by rw [if_neg g2]; exact own_put_old RR hI hc5 hc17 (by simp)⟩) (by decide) (by decide)
        · refine own_go (fun tt_ kk_ => XS.ifYes X16.here hx rfl (pc0 := 33) (pc' := 55) rfl (hb hby d5_33) rfl (XT.ll_ne_t hc17) (by decide) (by decide) kk_) ?_
          show Go p.tables e below _ (T16.setTop (mkF m 55 #[.val (.ref b), .val (.long q), .second, .val (.ref v), .val (.int (ix ((own_hm q + t) % 16))), .unset] []))
          refine own_go (fun tt_ kk_ => XS.iload X16.here hx rfl (hb hby d5_55) rfl kk_) ?_
          show Go p.tables e below _ (T16.setTop (mkF m 57 #[.val (.ref b), .val (.long q), .second, .val (.ref v), .val (.int (ix ((own_hm q + t) % 16))), .unset] [(.int (ix ((own_hm q + t) % 16)))]))
          refine own_go (fun tt_ kk_ => XS.iconst X16.here hx rfl (hb hby d5_57) kk_) ?_
          show Go p.tables e below _ (T16.setTop (mkF m 58 #[.val (.ref b), .val (.long q), .second, .val (.ref v), .val (.int (ix ((own_hm q + t) % 16))), .unset] [(.int (1 : Int32)), (.int (ix ((own_hm q + t) % 16)))]))
          refine own_go (fun tt_ kk_ => XS.iadd X16.here hx rfl (hb hby d5_58) rfl kk_) ?_
          show Go p.tables e below _ (T16.setTop (mkF m 59 #[.val (.ref b), .val (.long q), .second, .val (.ref v), .val (.int (ix ((own_hm q + t) % 16))), .unset] [(.int ((ix ((own_hm q + t) % 16)) + (1 : Int32)))]))
          refine own_go (fun tt_ kk_ => XS.aloadN X16.here hx rfl (hb hby d5_59) rfl rfl kk_) ?_
          show Go p.tables e below _ (T16.setTop (mkF m 60 #[.val (.ref b), .val (.long q), .second, .val (.ref v), .val (.int (ix ((own_hm q + t) % 16))), .unset] [(.ref b), (.int ((ix ((own_hm q + t) % 16)) + (1 : Int32)))]))
          obtain ⟨T21, X21, e21, st21⟩ := getF X16 hx hZ1 hown1 (host := "") (Or.inl (hw _ (List.mem_of_getElem? (i := 20) rfl))) Via.refl e16 Fm1 (g := (mkF m 60 #[.val (.ref b), .val (.long q), .second, .val (.ref v), .val (.int (ix ((own_hm q + t) % 16))), .unset] [(.ref b), (.int ((ix ((own_hm q + t) % 16)) + (1 : Int32)))])) rfl rfl (hb hby d5_60)
          refine own_go (fun tt_ kk_ => st21 tt_ kk_) ?_
          show Go p.tables e below _ (T21.setTop (mkF m 63 #[.val (.ref b), .val (.long q), .second, .val (.ref v), .val (.int (ix ((own_hm q + t) % 16))), .unset] [(.int (15 : Int32)), (.int ((ix ((own_hm q + t) % 16)) + (1 : Int32)))]))
          refine own_go (fun tt_ kk_ => XS.iand X21.here hx rfl (hb hby d5_63) rfl kk_) ?_
          show Go p.tables e below _ (T21.setTop (mkF m 64 #[.val (.ref b), .val (.long q), .second, .val (.ref v), .val (.int (ix ((own_hm q + t) % 16))), .unset] [(.int (((ix ((own_hm q + t) % 16)) + (1 : Int32)) &&& (15 : Int32)))]))
          rw [ix_next _ hI, show ((own_hm q + t) % 16 + 1) % 16 = (own_hm q + (t + 1)) % 16 by omega]
          show Go p.tables e below _ (T21.setTop (mkF m 64 #[.val (.ref b), .val (.long q), .second, .val (.ref v), .val (.int (ix ((own_hm q + t) % 16))), .unset] [(.int (ix ((own_hm q + (t + 1)) % 16)))]))
          refine own_go (fun tt_ kk_ => XS.istore X21.here hx rfl (hb hby d5_64) rfl (l' := #[.val (.ref b), .val (.long q), .second, .val (.ref v), .val (.int (ix ((own_hm q + (t + 1)) % 16))), .unset]) rfl kk_) ?_
          show Go p.tables e below _ (T21.setTop (mkF m 66 #[.val (.ref b), .val (.long q), .second, .val (.ref v), .val (.int (ix ((own_hm q + (t + 1)) % 16))), .unset] []))
          refine own_go (fun tt_ kk_ => XS.goto X21.here hx rfl (pc0 := 66) (pc' := 14) rfl (hb hby d5_66) (by decide) (by decide) kk_) ?_
          show Go p.tables e below _ (T21.setTop (mkF m 14 #[.val (.ref b), .val (.long q), .second, .val (.ref v), .val (.int (ix ((own_hm q + (t + 1)) % 16))), .unset] []))
          exact ih (t + 1) (by omega) (R.succ hc5 hc17) T21 _ X21 N e21
  rw [show own_hm q = (own_hm q + 0) % 16 by have := own_hm_lt q; omega]
  exact loop 16 0 (by omega) (own_Run.zero _ _ _ _) T3 _ X3 N3 e3
theorem d11_0 : decode prog_24_method_6_code 0 = .ok (.aload_n 0, 1) := by decide +kernel
theorem d11_1 : decode prog_24_method_6_code 1 = .ok (.lload_n 1, 1) := by decide +kernel
theorem d11_2 : decode prog_24_method_6_code 2 = .ok (.invokevirtual 17, 3) := by decide +kernel
theorem d11_5 : decode prog_24_method_6_code 5 = .ok (.istore_n 3, 1) := by decide +kernel
theorem d11_6 : decode prog_24_method_6_code 6 = .ok (.iload_n 3, 1) := by decide +kernel
theorem d11_7 : decode prog_24_method_6_code 7 = .ok (.ifCond .ge 5, 3) := by decide +kernel
theorem d11_10 : decode prog_24_method_6_code 10 = .ok (.aconst_null, 1) := by decide +kernel
theorem d11_11 : decode prog_24_method_6_code 11 = .ok (.areturn, 1) := by decide +kernel
theorem d11_12 : decode prog_24_method_6_code 12 = .ok (.aload_n 0, 1) := by decide +kernel
theorem d11_13 : decode prog_24_method_6_code 13 = .ok (.iload_n 3, 1) := by decide +kernel
theorem d11_14 : decode prog_24_method_6_code 14 = .ok (.invokevirtual 21, 3) := by decide +kernel
theorem d11_17 : decode prog_24_method_6_code 17 = .ok (.astore 4, 2) := by decide +kernel
theorem d11_19 : decode prog_24_method_6_code 19 = .ok (.iload_n 3, 1) := by decide +kernel
theorem d11_20 : decode prog_24_method_6_code 20 = .ok (.istore 5, 2) := by decide +kernel
theorem d11_22 : decode prog_24_method_6_code 22 = .ok (.iload 5, 2) := by decide +kernel
theorem d11_24 : decode prog_24_method_6_code 24 = .ok (.iconst 1, 1) := by decide +kernel
theorem d11_25 : decode prog_24_method_6_code 25 = .ok (.iadd, 1) := by decide +kernel
theorem d11_26 : decode prog_24_method_6_code 26 = .ok (.aload_n 0, 1) := by decide +kernel
theorem d11_27 : decode prog_24_method_6_code 27 = .ok (.getfield 43, 3) := by decide +kernel
theorem d11_30 : decode prog_24_method_6_code 30 = .ok (.iand, 1) := by decide +kernel
theorem d11_31 : decode prog_24_method_6_code 31 = .ok (.istore 6, 2) := by decide +kernel
theorem d11_33 : decode prog_24_method_6_code 33 = .ok (.aload_n 0, 1) := by decide +kernel
theorem d11_34 : decode prog_24_method_6_code 34 = .ok (.getfield 35, 3) := by decide +kernel
theorem d11_37 : decode prog_24_method_6_code 37 = .ok (.iload 6, 2) := by decide +kernel
theorem d11_39 : decode prog_24_method_6_code 39 = .ok (.aaload, 1) := by decide +kernel
theorem d11_40 : decode prog_24_method_6_code 40 = .ok (.ifnull 81, 3) := by decide +kernel
theorem d11_43 : decode prog_24_method_6_code 43 = .ok (.iload 6, 2) := by decide +kernel
theorem d11_45 : decode prog_24_method_6_code 45 = .ok (.aload_n 0, 1) := by decide +kernel
theorem d11_46 : decode prog_24_method_6_code 46 = .ok (.aload_n 0, 1) := by decide +kernel
theorem d11_47 : decode prog_24_method_6_code 47 = .ok (.getfield 39, 3) := by decide +kernel
theorem d11_50 : decode prog_24_method_6_code 50 = .ok (.iload 6, 2) := by decide +kernel
theorem d11_52 : decode prog_24_method_6_code 52 = .ok (.laload, 1) := by decide +kernel
theorem d11_53 : decode prog_24_method_6_code 53 = .ok (.invokevirtual 32, 3) := by decide +kernel
theorem d11_56 : decode prog_24_method_6_code 56 = .ok (.isub, 1) := by decide +kernel
theorem d11_57 : decode prog_24_method_6_code 57 = .ok (.aload_n 0, 1) := by decide +kernel
theorem d11_58 : decode prog_24_method_6_code 58 = .ok (.getfield 43, 3) := by decide +kernel
theorem d11_61 : decode prog_24_method_6_code 61 = .ok (.iand, 1) := by decide +kernel
theorem d11_62 : decode prog_24_method_6_code 62 = .ok (.iload 6, 2) := by decide +kernel
theorem d11_64 : decode prog_24_method_6_code 64 = .ok (.iload 5, 2) := by decide +kernel
theorem d11_66 : decode prog_24_method_6_code 66 = .ok (.isub, 1) := by decide +kernel
theorem d11_67 : decode prog_24_method_6_code 67 = .ok (.aload_n 0, 1) := by decide +kernel
theorem d11_68 : decode prog_24_method_6_code 68 = .ok (.getfield 43, 3) := by decide +kernel
theorem d11_71 : decode prog_24_method_6_code 71 = .ok (.iand, 1) := by decide +kernel
theorem d11_72 : decode prog_24_method_6_code 72 = .ok (.if_icmp .lt 35, 3) := by decide +kernel
theorem d11_75 : decode prog_24_method_6_code 75 = .ok (.aload_n 0, 1) := by decide +kernel
theorem d11_76 : decode prog_24_method_6_code 76 = .ok (.getfield 39, 3) := by decide +kernel
theorem d11_79 : decode prog_24_method_6_code 79 = .ok (.iload 5, 2) := by decide +kernel
theorem d11_81 : decode prog_24_method_6_code 81 = .ok (.aload_n 0, 1) := by decide +kernel
theorem d11_82 : decode prog_24_method_6_code 82 = .ok (.getfield 39, 3) := by decide +kernel
theorem d11_85 : decode prog_24_method_6_code 85 = .ok (.iload 6, 2) := by decide +kernel
theorem d11_87 : decode prog_24_method_6_code 87 = .ok (.laload, 1) := by decide +kernel
theorem d11_88 : decode prog_24_method_6_code 88 = .ok (.lastore, 1) := by decide +kernel
theorem d11_89 : decode prog_24_method_6_code 89 = .ok (.aload_n 0, 1) := by decide +kernel
theorem d11_90 : decode prog_24_method_6_code 90 = .ok (.getfield 35, 3) := by decide +kernel
theorem d11_93 : decode prog_24_method_6_code 93 = .ok (.iload 5, 2) := by decide +kernel
theorem d11_95 : decode prog_24_method_6_code 95 = .ok (.aload_n 0, 1) := by decide +kernel
theorem d11_96 : decode prog_24_method_6_code 96 = .ok (.getfield 35, 3) := by decide +kernel
theorem d11_99 : decode prog_24_method_6_code 99 = .ok (.iload 6, 2) := by decide +kernel
theorem d11_101 : decode prog_24_method_6_code 101 = .ok (.aaload, 1) := by decide +kernel
theorem d11_102 : decode prog_24_method_6_code 102 = .ok (.aastore, 1) := by decide +kernel
theorem d11_103 : decode prog_24_method_6_code 103 = .ok (.iload 6, 2) := by decide +kernel
theorem d11_105 : decode prog_24_method_6_code 105 = .ok (.istore 5, 2) := by decide +kernel
theorem d11_107 : decode prog_24_method_6_code 107 = .ok (.iload 6, 2) := by decide +kernel
theorem d11_109 : decode prog_24_method_6_code 109 = .ok (.iconst 1, 1) := by decide +kernel
theorem d11_110 : decode prog_24_method_6_code 110 = .ok (.iadd, 1) := by decide +kernel
theorem d11_111 : decode prog_24_method_6_code 111 = .ok (.aload_n 0, 1) := by decide +kernel
theorem d11_112 : decode prog_24_method_6_code 112 = .ok (.getfield 43, 3) := by decide +kernel
theorem d11_115 : decode prog_24_method_6_code 115 = .ok (.iand, 1) := by decide +kernel
theorem d11_116 : decode prog_24_method_6_code 116 = .ok (.istore 6, 2) := by decide +kernel
theorem d11_118 : decode prog_24_method_6_code 118 = .ok (.goto (-85), 3) := by decide +kernel
theorem d11_121 : decode prog_24_method_6_code 121 = .ok (.aload_n 0, 1) := by decide +kernel
theorem d11_122 : decode prog_24_method_6_code 122 = .ok (.getfield 35, 3) := by decide +kernel
theorem d11_125 : decode prog_24_method_6_code 125 = .ok (.iload 5, 2) := by decide +kernel
theorem d11_127 : decode prog_24_method_6_code 127 = .ok (.aconst_null, 1) := by decide +kernel
theorem d11_128 : decode prog_24_method_6_code 128 = .ok (.aastore, 1) := by decide +kernel
theorem d11_129 : decode prog_24_method_6_code 129 = .ok (.aload_n 0, 1) := by decide +kernel
theorem d11_130 : decode prog_24_method_6_code 130 = .ok (.dup, 1) := by decide +kernel
theorem d11_131 : decode prog_24_method_6_code 131 = .ok (.getfield 13, 3) := by decide +kernel
theorem d11_134 : decode prog_24_method_6_code 134 = .ok (.iconst 1, 1) := by decide +kernel
theorem d11_135 : decode prog_24_method_6_code 135 = .ok (.isub, 1) := by decide +kernel
theorem d11_136 : decode prog_24_method_6_code 136 = .ok (.putfield 13, 3) := by decide +kernel
theorem d11_139 : decode prog_24_method_6_code 139 = .ok (.aload 4, 2) := by decide +kernel
theorem d11_141 : decode prog_24_method_6_code 141 = .ok (.areturn, 1) := by decide +kernel
theorem ef_rm_remove (m : MethodId) (x0 : Addr) (x1 : Int64) : entryFrame m #[(.ref x0), (.long x1)] 7 = mkF m 0 #[.val (.ref x0), .val (.long x1), .second, .unset, .unset, .unset, .unset] [] := by first | (simp [entryFrame, mkF, argsToLocals, Value.category]; done) | rfl
set_option maxRecDepth 65536 in
set_option maxHeartbeats 40000000 in
theorem rm_remove (l : Launch) (Z : State) (a0 : Array Value) (hw : ∀ d ∈ tables_1, d.before a0 Z = true) (ws : List Jvm.Cond) (b ka va : Addr) (ks : Nat → Int64) (vs : Nat → Value) (G : Int64 → Value) (n : Nat) (q : Int64) (h0 : Heap) (n0 : Nat) (M : own_Map Z h0 n0 b ka va ks vs n) (RR : own_Rep own_hm ks vs G n) (hn : n < 16) (OO : Old Z n0 h0) :
    MetFree l (⟨"com/example/rootlet/rootlet/IdMap", "remove", "(J)Ljava/lang/Object;"⟩ : MethodName) (head1 (Jvm.Cond.code (⟨"com/example/rootlet/rootlet/IdMap", "remove", "(J)Ljava/lang/Object;"⟩ : MethodName) prog_24_method_6_code 7 (some (.object "java/lang/Object")) :: ws) ({ frames := 2, cells := 0, slots := 0, locals := 31 } : Room)) (fun aa U => aa = #[(.ref b), (.long q)] ∧ Z.Warmed39 U.vm ∧ U.heap = h0) (fun _ _ _ _ _ => True) (fun _ U o U' => ∃ v_ L_, o = .returned v_ ∧ own_QM Z n0 h0.size b ka va (own_upd G q .null) (if G q = .null then n else n - 1) (G q) v_ U'.heap L_ ∧ FrameEnd U o U' L_ ({ frames := 2, cells := 0, slots := 0, locals := 31 } : Room).cells ({ frames := 2, cells := 0, slots := 0, locals := 31 } : Room).slots) := by
  refine MetFree.of_bodySF (plainFor_of_name pn_0) hisR ?_
  intro p e s m args below meth c s₁ Bd hml0 hP hK
  obtain ⟨rfl, hZ, hh⟩ := hP
  have hx := Bd.exec
  have hby := Bd.bytes
  have hlk := Bd.notSynchronized
  have hml : c.maxLocals = 7 := hml0
  have hown : s.vm.findClass "com/example/rootlet/rootlet/IdMap" = some m.cls := by have q := findClass_of_methodNamed Bd.named; exact q
  have X0 : Stand p l e ({ frames := 2, cells := 0, slots := 0, locals := 31 } : Room) s m #[(.ref b), (.long q)] below meth c s₁ [] 0 0 := Stand.of_body Bd
  have e0 : s₁.heap = h0 := by rw [← hh, Bd.state]; rfl
  have N0 := Fr.nil n0
  show Go p.tables e below (Fin s below (own_QM Z n0 h0.size b ka va (own_upd G q .null) (if G q = .null then n else n - 1) (G q)) ({ frames := 2, cells := 0, slots := 0, locals := 31 } : Room).cells ({ frames := 2, cells := 0, slots := 0, locals := 31 } : Room).slots) (s₁.setTop (entryFrame m #[(.ref b), (.long q)] 7))
  refine own_go (fun tt_ kk_ => castTop (ef_rm_remove m b q) kk_) ?_
  show Go p.tables e below _ (s₁.setTop (mkF m 0 #[.val (.ref b), .val (.long q), .second, .unset, .unset, .unset, .unset] []))
  have MM := M
  obtain ⟨AA, EX, ⟨Fk, Fv, Fm, Fs⟩, ⟨ck, K1, K2, K3⟩, ⟨cv, V1, V2, V3, V4⟩, DD⟩ := MM
  refine own_go (fun tt_ kk_ => XS.aloadN X0.here hx rfl (hb hby d11_0) rfl rfl kk_) ?_
  show Go p.tables e below _ (s₁.setTop (mkF m 1 #[.val (.ref b), .val (.long q), .second, .unset, .unset, .unset, .unset] [(.ref b)]))
  refine own_go (fun tt_ kk_ => XT.lloadN X0.here hx rfl (hb hby d11_1) rfl kk_) ?_
  show Go p.tables e below _ (s₁.setTop (mkF m 2 #[.val (.ref b), .val (.long q), .second, .unset, .unset, .unset, .unset] [(.long q), (.ref b)]))
  obtain ⟨cq1, q1a, q1b⟩ := (EX).cell
  obtain ⟨v1, _, ⟨T1, L1, k1, n1⟩, -, X1, ⟨Lc1, hQ1, l1, y1, z1⟩, st1⟩ := X0.privateBack hx (y := (⟨"com/example/rootlet/rootlet/IdMap", "find", "(J)I"⟩ : MethodName)) hown (mvT hZ (hw _ (List.mem_of_getElem? (i := 75) rfl))) (mvT hZ (hw _ (List.mem_of_getElem? (i := 76) rfl))) (own_selp (z := (⟨"com/example/rootlet/rootlet/IdMap", "put", "(JLjava/lang/Object;)Ljava/lang/Object;"⟩ : MethodName)) (mvT hZ (hw _ (List.mem_of_getElem? (i := 32) rfl))) rfl (mvP hZ (hw _ (List.mem_of_getElem? (i := 77) rfl))) (mvT hZ (hw _ (List.mem_of_getElem? (i := 76) rfl))) (by decide)) (Cond.privateMethod_at (mvP hZ (hw _ (List.mem_of_getElem? (i := 77) rfl)) (args := #[]))) (mvT hZ (hw _ (List.mem_of_getElem? (i := 78) rfl))) (by decide) (backOf (W := 0) (rm_find l Z a0 hw [] b ka va ks vs G n q h0 n0 M RR (by omega)) hZ (hw _ (List.mem_of_getElem? (i := 78) rfl)) (hw _ (List.mem_of_getElem? (i := 2) rfl)) (by decide) (by decide)) (g := (mkF m 2 #[.val (.ref b), .val (.long q), .second, .unset, .unset, .unset, .unset] [(.long q), (.ref b)])) rfl (by rw [hml]; rfl) (Steps.refl _) (a := b) (by rw [e0]; exact q1a) q1b (argsL := [(.long q)]) (rest := []) (lenOf pd_0 rfl) rfl (by show 2 * 0 + _ ≤ _; exact Nat.le_of_eq rfl) (hb hby d11_2) (fun _ _ => ⟨rfl, e0, (by decide : 0 + 0 ≤ _), (by decide : 0 + 0 ≤ _)⟩)
  dsimp only [Pt.U, Pt.locs, Pt.cells, Pt.slots] at X1 l1 y1 z1 st1 hQ1
  subst y1 z1
  obtain ⟨⟨r1, hv1, hr1⟩, N1q, e1⟩ := hQ1
  subst hv1
  have N1 : Fr n0 L1 := by rw [l1]; exact Fr.app N0 N1q
  refine own_go (fun tt_ kk_ => st1.trans kk_) ?_
  show Go p.tables e below _ (T1.setTop (mkF m 5 #[.val (.ref b), .val (.long q), .second, .unset, .unset, .unset, .unset] [(.int r1)]))
  refine own_go (fun tt_ kk_ => XS.istoreN X1.here hx rfl (hb hby d11_5) rfl (l' := #[.val (.ref b), .val (.long q), .second, .val (.int r1), .unset, .unset, .unset]) rfl kk_) ?_
  show Go p.tables e below _ (T1.setTop (mkF m 6 #[.val (.ref b), .val (.long q), .second, .val (.int r1), .unset, .unset, .unset] []))
  rcases hr1 with ⟨p0, hp0, rfl, hnn, hkp⟩ | ⟨rfl, hG0⟩
  · show Go p.tables e below _ (T1.setTop (mkF m 6 #[.val (.ref b), .val (.long q), .second, .val (.int (ix p0)), .unset, .unset, .unset] []))
    refine own_go (fun tt_ kk_ => XS.iloadN X1.here hx rfl (hb hby d11_6) rfl kk_) ?_
    show Go p.tables e below _ (T1.setTop (mkF m 7 #[.val (.ref b), .val (.long q), .second, .val (.int (ix p0)), .unset, .unset, .unset] [(.int (ix p0))]))
    refine own_go (fun tt_ kk_ => XS.ifYes X1.here hx rfl (pc0 := 7) (pc' := 12) rfl (hb hby d11_7) rfl (XT.i0_ge_t (ix_nn p0 hp0)) (by decide) (by decide) kk_) ?_
    show Go p.tables e below _ (T1.setTop (mkF m 12 #[.val (.ref b), .val (.long q), .second, .val (.int (ix p0)), .unset, .unset, .unset] []))
    refine own_go (fun tt_ kk_ => XS.aloadN X1.here hx rfl (hb hby d11_12) rfl rfl kk_) ?_
    show Go p.tables e below _ (T1.setTop (mkF m 13 #[.val (.ref b), .val (.long q), .second, .val (.int (ix p0)), .unset, .unset, .unset] [(.ref b)]))
    refine own_go (fun tt_ kk_ => XS.iloadN X1.here hx rfl (hb hby d11_13) rfl kk_) ?_
    show Go p.tables e below _ (T1.setTop (mkF m 14 #[.val (.ref b), .val (.long q), .second, .val (.int (ix p0)), .unset, .unset, .unset] [(.int (ix p0)), (.ref b)]))
    obtain ⟨cq2, q2a, q2b⟩ := (EX).cell
    obtain ⟨v2, _, ⟨T2, L2, k2, n2⟩, -, X2, ⟨Lc2, hQ2, l2, y2, z2⟩, st2⟩ := X1.privateBack hx (y := (⟨"com/example/rootlet/rootlet/IdMap", "value", "(I)Ljava/lang/Object;"⟩ : MethodName)) hown (mvT hZ (hw _ (List.mem_of_getElem? (i := 55) rfl))) (mvT hZ (hw _ (List.mem_of_getElem? (i := 56) rfl))) (own_selp (z := (⟨"com/example/rootlet/rootlet/IdMap", "put", "(JLjava/lang/Object;)Ljava/lang/Object;"⟩ : MethodName)) (mvT hZ (hw _ (List.mem_of_getElem? (i := 32) rfl))) rfl (mvP hZ (hw _ (List.mem_of_getElem? (i := 57) rfl))) (mvT hZ (hw _ (List.mem_of_getElem? (i := 56) rfl))) (by decide)) (Cond.privateMethod_at (mvP hZ (hw _ (List.mem_of_getElem? (i := 57) rfl)) (args := #[]))) (mvT hZ (hw _ (List.mem_of_getElem? (i := 58) rfl))) (by decide) (backOf (W := 0) (rm_value l Z a0 hw [] b ka va ks vs G n p0 h0 n0 M RR hp0) hZ (hw _ (List.mem_of_getElem? (i := 58) rfl)) (hw _ (List.mem_of_getElem? (i := 2) rfl)) (by decide) (by decide)) (g := (mkF m 14 #[.val (.ref b), .val (.long q), .second, .val (.int (ix p0)), .unset, .unset, .unset] [(.int (ix p0)), (.ref b)])) rfl (by rw [hml]; rfl) (Steps.refl _) (a := b) (by rw [e1]; exact q2a) q2b (argsL := [(.int (ix p0))]) (rest := []) (lenOf pd_2 rfl) rfl (by show 2 * 0 + _ ≤ _; exact Nat.le_of_eq rfl) (hb hby d11_14) (fun _ _ => ⟨rfl, e1, (by decide : 0 + 0 ≤ _), (by decide : 0 + 0 ≤ _)⟩)
    dsimp only [Pt.U, Pt.locs, Pt.cells, Pt.slots] at X2 l2 y2 z2 st2 hQ2
    subst y2 z2
    obtain ⟨hv2, N2q, e2⟩ := hQ2
    subst hv2
    have N2 : Fr n0 L2 := by rw [l2]; exact Fr.app N1 N2q
    refine own_go (fun tt_ kk_ => st2.trans kk_) ?_
    show Go p.tables e below _ (T2.setTop (mkF m 17 #[.val (.ref b), .val (.long q), .second, .val (.int (ix p0)), .unset, .unset, .unset] [(vs p0)]))
    refine own_go (fun tt_ kk_ => XS.astoreS X2.here hx rfl (hb hby d11_17) rfl (M.isRef hp0) (XT.cat1 (M.isRef hp0)) rfl (Or.inl rfl) kk_) ?_
    show Go p.tables e below _ (T2.setTop (mkF m 19 #[.val (.ref b), .val (.long q), .second, .val (.int (ix p0)), .val (vs p0), .unset, .unset] []))
    refine own_go (fun tt_ kk_ => XS.iloadN X2.here hx rfl (hb hby d11_19) rfl kk_) ?_
    show Go p.tables e below _ (T2.setTop (mkF m 20 #[.val (.ref b), .val (.long q), .second, .val (.int (ix p0)), .val (vs p0), .unset, .unset] [(.int (ix p0))]))
    refine own_go (fun tt_ kk_ => XS.istore X2.here hx rfl (hb hby d11_20) rfl (l' := #[.val (.ref b), .val (.long q), .second, .val (.int (ix p0)), .val (vs p0), .val (.int (ix p0)), .unset]) rfl kk_) ?_
    show Go p.tables e below _ (T2.setTop (mkF m 22 #[.val (.ref b), .val (.long q), .second, .val (.int (ix p0)), .val (vs p0), .val (.int (ix p0)), .unset] []))
    refine own_go (fun tt_ kk_ => XS.iload X2.here hx rfl (hb hby d11_22) rfl kk_) ?_
    show Go p.tables e below _ (T2.setTop (mkF m 24 #[.val (.ref b), .val (.long q), .second, .val (.int (ix p0)), .val (vs p0), .val (.int (ix p0)), .unset] [(.int (ix p0))]))
    refine own_go (fun tt_ kk_ => XS.iconst X2.here hx rfl (hb hby d11_24) kk_) ?_
    show Go p.tables e below _ (T2.setTop (mkF m 25 #[.val (.ref b), .val (.long q), .second, .val (.int (ix p0)), .val (vs p0), .val (.int (ix p0)), .unset] [(.int (1 : Int32)), (.int (ix p0))]))
    refine own_go (fun tt_ kk_ => XS.iadd X2.here hx rfl (hb hby d11_25) rfl kk_) ?_
    show Go p.tables e below _ (T2.setTop (mkF m 26 #[.val (.ref b), .val (.long q), .second, .val (.int (ix p0)), .val (vs p0), .val (.int (ix p0)), .unset] [(.int ((ix p0) + (1 : Int32)))]))
    refine own_go (fun tt_ kk_ => XS.aloadN X2.here hx rfl (hb hby d11_26) rfl rfl kk_) ?_
    show Go p.tables e below _ (T2.setTop (mkF m 27 #[.val (.ref b), .val (.long q), .second, .val (.int (ix p0)), .val (vs p0), .val (.int (ix p0)), .unset] [(.ref b), (.int ((ix p0) + (1 : Int32)))]))
    obtain ⟨T3, X3, e3, st3⟩ := getF X2 hx hZ hown (host := "") (Or.inl (hw _ (List.mem_of_getElem? (i := 20) rfl))) Via.refl e2 Fm (g := (mkF m 27 #[.val (.ref b), .val (.long q), .second, .val (.int (ix p0)), .val (vs p0), .val (.int (ix p0)), .unset] [(.ref b), (.int ((ix p0) + (1 : Int32)))])) rfl rfl (hb hby d11_27)
    refine own_go (fun tt_ kk_ => st3 tt_ kk_) ?_
    show Go p.tables e below _ (T3.setTop (mkF m 30 #[.val (.ref b), .val (.long q), .second, .val (.int (ix p0)), .val (vs p0), .val (.int (ix p0)), .unset] [(.int (15 : Int32)), (.int ((ix p0) + (1 : Int32)))]))
    refine own_go (fun tt_ kk_ => XS.iand X3.here hx rfl (hb hby d11_30) rfl kk_) ?_
    show Go p.tables e below _ (T3.setTop (mkF m 31 #[.val (.ref b), .val (.long q), .second, .val (.int (ix p0)), .val (vs p0), .val (.int (ix p0)), .unset] [(.int (((ix p0) + (1 : Int32)) &&& (15 : Int32)))]))
    rw [ix_next _ hp0]
    show Go p.tables e below _ (T3.setTop (mkF m 31 #[.val (.ref b), .val (.long q), .second, .val (.int (ix p0)), .val (vs p0), .val (.int (ix p0)), .unset] [(.int (ix ((p0 + 1) % 16)))]))
    refine own_go (fun tt_ kk_ => XS.istore X3.here hx rfl (hb hby d11_31) rfl (l' := #[.val (.ref b), .val (.long q), .second, .val (.int (ix p0)), .val (vs p0), .val (.int (ix p0)), .val (.int (ix ((p0 + 1) % 16)))]) rfl kk_) ?_
    show Go p.tables e below _ (T3.setTop (mkF m 33 #[.val (.ref b), .val (.long q), .second, .val (.int (ix p0)), .val (vs p0), .val (.int (ix p0)), .val (.int (ix ((p0 + 1) % 16)))] []))
    obtain ⟨z, hz, hvz⟩ := own_hole RR.2.2.2 (show n < 16 by omega)
    have gG := own_found RR hp0 hnn hkp
    have gN : G q ≠ .null := by rw [gG]; exact hnn
    have loop : ∀ f ks2 vs2 gp ii, own_Gap own_hm ks2 vs2 (own_upd G q .null) n gp ii → vs2 z = .null → own_dist ii z < f → ∀ T L h, Stand p l e ({ frames := 2, cells := 0, slots := 0, locals := 31 } : Room) s m #[(.ref b), (.long q)] below meth c T L 0 0 → Fr n0 L → T.heap = h → own_Map Z h n0 b ka va ks2 vs2 n → Old Z n0 h → h0.size ≤ h.size → Go p.tables e below (Fin s below (own_QM Z n0 h0.size b ka va (own_upd G q .null) (if G q = .null then n else n - 1) (G q)) ({ frames := 2, cells := 0, slots := 0, locals := 31 } : Room).cells ({ frames := 2, cells := 0, slots := 0, locals := 31 } : Room).slots) (T.setTop (mkF m 33 #[.val (.ref b), .val (.long q), .second, .val (.int (ix p0)), .val (vs p0), .val (.int (ix gp)), .val (.int (ix ii))] [])) := by
      intro f
      induction f with
      | zero => intro ks2 vs2 gp ii R hv hd; exact absurd hd (Nat.not_lt_zero _)
      | succ f ih =>
        intro ks2 vs2 gp ii R hv hd T L h X N e' M' O' hsz
        have hg := R.1.1
        have hi := R.1.2.1
        have hvg := R.1.2.2.1
        have MMa := M'
        obtain ⟨AAa, EXa, ⟨Fka, Fva, Fma, Fsa⟩, ⟨cka, K1a, K2a, K3a⟩, ⟨cva, V1a, V2a, V3a, V4a⟩, DDa⟩ := MMa
        show Go p.tables e below _ (T.setTop (mkF m 33 #[.val (.ref b), .val (.long q), .second, .val (.int (ix p0)), .val (vs p0), .val (.int (ix gp)), .val (.int (ix ii))] []))
        refine own_go (fun tt_ kk_ => XS.aloadN X.here hx rfl (hb hby d11_33) rfl rfl kk_) ?_
        show Go p.tables e below _ (T.setTop (mkF m 34 #[.val (.ref b), .val (.long q), .second, .val (.int (ix p0)), .val (vs p0), .val (.int (ix gp)), .val (.int (ix ii))] [(.ref b)]))
        obtain ⟨T4, X4, e4, st4⟩ := getF X hx hZ hown (host := "") (Or.inl (hw _ (List.mem_of_getElem? (i := 15) rfl))) Via.refl e' Fva (g := (mkF m 34 #[.val (.ref b), .val (.long q), .second, .val (.int (ix p0)), .val (vs p0), .val (.int (ix gp)), .val (.int (ix ii))] [(.ref b)])) rfl rfl (hb hby d11_34)
        refine own_go (fun tt_ kk_ => st4 tt_ kk_) ?_
        show Go p.tables e below _ (T4.setTop (mkF m 37 #[.val (.ref b), .val (.long q), .second, .val (.int (ix p0)), .val (vs p0), .val (.int (ix gp)), .val (.int (ix ii))] [(.ref va)]))
        refine own_go (fun tt_ kk_ => XS.iload X4.here hx rfl (hb hby d11_37) rfl kk_) ?_
        show Go p.tables e below _ (T4.setTop (mkF m 39 #[.val (.ref b), .val (.long q), .second, .val (.int (ix p0)), .val (vs p0), .val (.int (ix gp)), .val (.int (ix ii))] [(.int (ix ii)), (.ref va)]))
        refine own_go (fun tt_ kk_ => X4.aaload hx (j := (ix ii)) (v := (vs2 ii)) (by rw [e4]; exact V1a.1) (State.isArrayOf_alike hZ.alike V1a.2.1) rfl V1a.2.2 (ix_in hi V2a) (by rw [ix_clamp hi]; exact V4a _ hi) (g := (mkF m 39 #[.val (.ref b), .val (.long q), .second, .val (.int (ix p0)), .val (vs p0), .val (.int (ix gp)), .val (.int (ix ii))] [(.int (ix ii)), (.ref va)])) rfl rfl (hb hby d11_39) tt_ kk_) ?_
        show Go p.tables e below _ (T4.setTop (mkF m 40 #[.val (.ref b), .val (.long q), .second, .val (.int (ix p0)), .val (vs p0), .val (.int (ix gp)), .val (.int (ix ii))] [(vs2 ii)]))
        by_cases hc5 : (vs2 ii) = .null
        · refine own_go (fun tt_ kk_ => XT.nullYes X4.here hx rfl (pc0 := 40) (pc' := 121) rfl (hb hby d11_40) rfl hc5 (by decide) (by decide) kk_) ?_
          show Go p.tables e below _ (T4.setTop (mkF m 121 #[.val (.ref b), .val (.long q), .second, .val (.int (ix p0)), .val (vs p0), .val (.int (ix gp)), .val (.int (ix ii))] []))
          refine own_go (fun tt_ kk_ => XS.aloadN X4.here hx rfl (hb hby d11_121) rfl rfl kk_) ?_
          show Go p.tables e below _ (T4.setTop (mkF m 122 #[.val (.ref b), .val (.long q), .second, .val (.int (ix p0)), .val (vs p0), .val (.int (ix gp)), .val (.int (ix ii))] [(.ref b)]))
          obtain ⟨T6, X6, e6, st6⟩ := getF X4 hx hZ hown (host := "") (Or.inl (hw _ (List.mem_of_getElem? (i := 15) rfl))) Via.refl e4 Fva (g := (mkF m 122 #[.val (.ref b), .val (.long q), .second, .val (.int (ix p0)), .val (vs p0), .val (.int (ix gp)), .val (.int (ix ii))] [(.ref b)])) rfl rfl (hb hby d11_122)
          refine own_go (fun tt_ kk_ => st6 tt_ kk_) ?_
          show Go p.tables e below _ (T6.setTop (mkF m 125 #[.val (.ref b), .val (.long q), .second, .val (.int (ix p0)), .val (vs p0), .val (.int (ix gp)), .val (.int (ix ii))] [(.ref va)]))
          refine own_go (fun tt_ kk_ => XS.iload X6.here hx rfl (hb hby d11_125) rfl kk_) ?_
          show Go p.tables e below _ (T6.setTop (mkF m 127 #[.val (.ref b), .val (.long q), .second, .val (.int (ix p0)), .val (vs p0), .val (.int (ix gp)), .val (.int (ix ii))] [(.int (ix gp)), (.ref va)]))
          refine own_go (fun tt_ kk_ => XS.aconstNull X6.here hx rfl (hb hby d11_127) kk_) ?_
          show Go p.tables e below _ (T6.setTop (mkF m 128 #[.val (.ref b), .val (.long q), .second, .val (.int (ix p0)), .val (vs p0), .val (.int (ix gp)), .val (.int (ix ii))] [.null, (.int (ix gp)), (.ref va)]))
          obtain ⟨T7, h7, X7, e7, W7, st7⟩ := stR X6 hx hZ e6 V1a (j := (ix gp)) (ix_in hg V2a) rfl (M'.sto (hw _ (List.mem_of_getElem? (i := 54) rfl)) (Or.inl rfl)) (g := (mkF m 128 #[.val (.ref b), .val (.long q), .second, .val (.int (ix p0)), .val (vs p0), .val (.int (ix gp)), .val (.int (ix ii))] [.null, (.int (ix gp)), (.ref va)])) rfl rfl (hb hby d11_128)
          have N7 := Fr.snoc X7 N AAa.2.2.1
          have M7 := M'.vals hg (Or.inl rfl) W7
          have O7 := O'.wr W7 AAa.2.2.1
          have sz7 : h0.size ≤ h7.size := by rw [W7.size]; exact hsz
          have MM7 := M7
          obtain ⟨AA7, EX7, ⟨Fk7, Fv7, Fm7, Fs7⟩, ⟨ck7, K17, K27, K37⟩, ⟨cv7, V17, V27, V37, V47⟩, DD7⟩ := MM7
          refine own_go (fun tt_ kk_ => st7 tt_ kk_) ?_
          show Go p.tables e below _ (T7.setTop (mkF m 129 #[.val (.ref b), .val (.long q), .second, .val (.int (ix p0)), .val (vs p0), .val (.int (ix gp)), .val (.int (ix ii))] []))
          refine own_go (fun tt_ kk_ => XS.aloadN X7.here hx rfl (hb hby d11_129) rfl rfl kk_) ?_
          show Go p.tables e below _ (T7.setTop (mkF m 130 #[.val (.ref b), .val (.long q), .second, .val (.int (ix p0)), .val (vs p0), .val (.int (ix gp)), .val (.int (ix ii))] [(.ref b)]))
          refine own_go (fun tt_ kk_ => XS.dup X7.here hx rfl (hb hby d11_130) rfl rfl kk_) ?_
          show Go p.tables e below _ (T7.setTop (mkF m 131 #[.val (.ref b), .val (.long q), .second, .val (.int (ix p0)), .val (vs p0), .val (.int (ix gp)), .val (.int (ix ii))] [(.ref b), (.ref b)]))
          obtain ⟨T8, X8, e8, st8⟩ := getF X7 hx hZ hown (host := "") (Or.inl (hw _ (List.mem_of_getElem? (i := 52) rfl))) Via.refl e7 Fs7 (g := (mkF m 131 #[.val (.ref b), .val (.long q), .second, .val (.int (ix p0)), .val (vs p0), .val (.int (ix gp)), .val (.int (ix ii))] [(.ref b), (.ref b)])) rfl rfl (hb hby d11_131)
          refine own_go (fun tt_ kk_ => st8 tt_ kk_) ?_
          show Go p.tables e below _ (T8.setTop (mkF m 134 #[.val (.ref b), .val (.long q), .second, .val (.int (ix p0)), .val (vs p0), .val (.int (ix gp)), .val (.int (ix ii))] [(.int (ix n)), (.ref b)]))
          refine own_go (fun tt_ kk_ => XS.iconst X8.here hx rfl (hb hby d11_134) kk_) ?_
          show Go p.tables e below _ (T8.setTop (mkF m 135 #[.val (.ref b), .val (.long q), .second, .val (.int (ix p0)), .val (vs p0), .val (.int (ix gp)), .val (.int (ix ii))] [(.int (1 : Int32)), (.int (ix n)), (.ref b)]))
          refine own_go (fun tt_ kk_ => XS.isub X8.here hx rfl (hb hby d11_135) rfl kk_) ?_
          show Go p.tables e below _ (T8.setTop (mkF m 136 #[.val (.ref b), .val (.long q), .second, .val (.int (ix p0)), .val (vs p0), .val (.int (ix gp)), .val (.int (ix ii))] [(.int ((ix n) - (1 : Int32))), (.ref b)]))
          rw [ix_pred n (own_cnt_pos hg hvg R.2.2.2.2.2.2.1)]
          show Go p.tables e below _ (T8.setTop (mkF m 136 #[.val (.ref b), .val (.long q), .second, .val (.int (ix p0)), .val (vs p0), .val (.int (ix gp)), .val (.int (ix ii))] [(.int (ix (n - 1))), (.ref b)]))
          obtain ⟨T9, h9, X9, e9, W9, st9⟩ := putF X8 hx hZ hown (host := "") (Or.inl (hw _ (List.mem_of_getElem? (i := 52) rfl))) Via.refl e8 Fs7 EX7 (Or.inl (hw _ (List.mem_of_getElem? (i := 53) rfl))) (hw _ (List.mem_of_getElem? (i := 1) rfl)) (ty := .int) (by decide) rfl rfl (g := (mkF m 136 #[.val (.ref b), .val (.long q), .second, .val (.int (ix p0)), .val (vs p0), .val (.int (ix gp)), .val (.int (ix ii))] [(.int (ix (n - 1))), (.ref b)])) rfl rfl (hb hby d11_136)
          have N9 := Fr.snoc X9 N7 AA7.1
          have M9 := own_Map.sized (hw _ (List.mem_of_getElem? (i := 14) rfl)) (hw _ (List.mem_of_getElem? (i := 16) rfl)) (hw _ (List.mem_of_getElem? (i := 21) rfl)) (hw _ (List.mem_of_getElem? (i := 53) rfl)) M7 W9
          have O9 := O7.wr W9 AA7.1
          have sz9 : h0.size ≤ h9.size := by rw [W9.size]; exact sz7
          have MM9 := M9
          obtain ⟨AA9, EX9, ⟨Fk9, Fv9, Fm9, Fs9⟩, ⟨ck9, K19, K29, K39⟩, ⟨cv9, V19, V29, V39, V49⟩, DD9⟩ := MM9
          refine own_go (fun tt_ kk_ => st9 tt_ kk_) ?_
          show Go p.tables e below _ (T9.setTop (mkF m 139 #[.val (.ref b), .val (.long q), .second, .val (.int (ix p0)), .val (vs p0), .val (.int (ix gp)), .val (.int (ix ii))] []))
          refine own_go (fun tt_ kk_ => XS.aload X9.here hx rfl (hb hby d11_139) rfl (M.isRef hp0) kk_) ?_
          show Go p.tables e below _ (T9.setTop (mkF m 141 #[.val (.ref b), .val (.long q), .second, .val (.int (ix p0)), .val (vs p0), .val (.int (ix gp)), .val (.int (ix ii))] [(vs p0)]))
          exact own_ret X9 hx hlk Bd.returns rfl (Or.inr (Or.inr (Or.inr (Or.inr ⟨rfl, rfl, (M.isRef hp0)⟩)))) (hb hby d11_141) ⟨congrArg some gG.symm, N9, by rw [e9]; exact ⟨O9, sz9⟩, _, _, by rw [e9, if_neg gN]; exact M9, by rw [if_neg gN]; exact own_gap_end own_hm_lt R hc5⟩ (by decide) (by decide)
        · refine own_go (fun tt_ kk_ => XT.nullNo X4.here hx rfl (hb hby d11_40) rfl (M'.isRef hi) hc5 kk_) ?_
          show Go p.tables e below _ (T4.setTop (mkF m 43 #[.val (.ref b), .val (.long q), .second, .val (.int (ix p0)), .val (vs p0), .val (.int (ix gp)), .val (.int (ix ii))] []))
          refine own_go (fun tt_ kk_ => XS.iload X4.here hx rfl (hb hby d11_43) rfl kk_) ?_
          show Go p.tables e below _ (T4.setTop (mkF m 45 #[.val (.ref b), .val (.long q), .second, .val (.int (ix p0)), .val (vs p0), .val (.int (ix gp)), .val (.int (ix ii))] [(.int (ix ii))]))
          refine own_go (fun tt_ kk_ => XS.aloadN X4.here hx rfl (hb hby d11_45) rfl rfl kk_) ?_
          show Go p.tables e below _ (T4.setTop (mkF m 46 #[.val (.ref b), .val (.long q), .second, .val (.int (ix p0)), .val (vs p0), .val (.int (ix gp)), .val (.int (ix ii))] [(.ref b), (.int (ix ii))]))
          refine own_go (fun tt_ kk_ => XS.aloadN X4.here hx rfl (hb hby d11_46) rfl rfl kk_) ?_
          show Go p.tables e below _ (T4.setTop (mkF m 47 #[.val (.ref b), .val (.long q), .second, .val (.int (ix p0)), .val (vs p0), .val (.int (ix gp)), .val (.int (ix ii))] [(.ref b), (.ref b), (.int (ix ii))]))
          obtain ⟨T10, X10, e10, st10⟩ := getF X4 hx hZ hown (host := "") (Or.inl (hw _ (List.mem_of_getElem? (i := 13) rfl))) Via.refl e4 Fka (g := (mkF m 47 #[.val (.ref b), .val (.long q), .second, .val (.int (ix p0)), .val (vs p0), .val (.int (ix gp)), .val (.int (ix ii))] [(.ref b), (.ref b), (.int (ix ii))])) rfl rfl (hb hby d11_47)
          refine own_go (fun tt_ kk_ => st10 tt_ kk_) ?_
          show Go p.tables e below _ (T10.setTop (mkF m 50 #[.val (.ref b), .val (.long q), .second, .val (.int (ix p0)), .val (vs p0), .val (.int (ix gp)), .val (.int (ix ii))] [(.ref ka), (.ref b), (.int (ix ii))]))
          refine own_go (fun tt_ kk_ => XS.iload X10.here hx rfl (hb hby d11_50) rfl kk_) ?_
          show Go p.tables e below _ (T10.setTop (mkF m 52 #[.val (.ref b), .val (.long q), .second, .val (.int (ix p0)), .val (vs p0), .val (.int (ix gp)), .val (.int (ix ii))] [(.int (ix ii)), (.ref ka), (.ref b), (.int (ix ii))]))
          refine own_go (fun tt_ kk_ => X10.laload hx (j := (ix ii)) (v := (.long (ks2 ii))) (by rw [e10]; exact K1a.1) (State.isArrayOf_alike hZ.alike K1a.2.1) K1a.2.2 (ix_in hi K2a) (by rw [ix_clamp hi]; exact K3a _ hi) (g := (mkF m 52 #[.val (.ref b), .val (.long q), .second, .val (.int (ix p0)), .val (vs p0), .val (.int (ix gp)), .val (.int (ix ii))] [(.int (ix ii)), (.ref ka), (.ref b), (.int (ix ii))])) rfl rfl (hb hby d11_52) tt_ kk_) ?_
          show Go p.tables e below _ (T10.setTop (mkF m 53 #[.val (.ref b), .val (.long q), .second, .val (.int (ix p0)), .val (vs p0), .val (.int (ix gp)), .val (.int (ix ii))] [(.long (ks2 ii)), (.ref b), (.int (ix ii))]))
          obtain ⟨cq11, q11a, q11b⟩ := (EXa).cell
          obtain ⟨v11, _, ⟨T11, L11, k11, n11⟩, -, X11, ⟨Lc11, hQ11, l11, y11, z11⟩, st11⟩ := X10.privateBack hx (y := (⟨"com/example/rootlet/rootlet/IdMap", "home", "(J)I"⟩ : MethodName)) hown (mvT hZ (hw _ (List.mem_of_getElem? (i := 46) rfl))) (mvT hZ (hw _ (List.mem_of_getElem? (i := 47) rfl))) (own_selp (z := (⟨"com/example/rootlet/rootlet/IdMap", "put", "(JLjava/lang/Object;)Ljava/lang/Object;"⟩ : MethodName)) (mvT hZ (hw _ (List.mem_of_getElem? (i := 32) rfl))) rfl (mvP hZ (hw _ (List.mem_of_getElem? (i := 48) rfl))) (mvT hZ (hw _ (List.mem_of_getElem? (i := 47) rfl))) (by decide)) (Cond.privateMethod_at (mvP hZ (hw _ (List.mem_of_getElem? (i := 48) rfl)) (args := #[]))) (mvT hZ (hw _ (List.mem_of_getElem? (i := 49) rfl))) (by decide) (backOf (W := 1) (rm_home l Z a0 hw [] b (ks2 ii) h n0 Fma) hZ (hw _ (List.mem_of_getElem? (i := 49) rfl)) (hw _ (List.mem_of_getElem? (i := 2) rfl)) (by decide) (by decide)) (g := (mkF m 53 #[.val (.ref b), .val (.long q), .second, .val (.int (ix p0)), .val (vs p0), .val (.int (ix gp)), .val (.int (ix ii))] [(.long (ks2 ii)), (.ref b), (.int (ix ii))])) rfl (by rw [hml]; rfl) (Steps.refl _) (a := b) (by rw [e10]; exact q11a) q11b (argsL := [(.long (ks2 ii))]) (rest := [(.int (ix ii))]) (lenOf pd_0 rfl) rfl (by show 2 * 0 + _ ≤ _; exact Nat.le_of_eq rfl) (hb hby d11_53) (fun _ _ => ⟨rfl, e10, (by decide : 0 + 0 ≤ _), (by decide : 0 + 0 ≤ _)⟩)
          dsimp only [Pt.U, Pt.locs, Pt.cells, Pt.slots] at X11 l11 y11 z11 st11 hQ11
          subst y11 z11
          obtain ⟨hv11, N11q, e11⟩ := hQ11
          rw [show ((.int (own_hmI (ks2 ii))) : Value) = (.int (ix (own_hm (ks2 ii)))) from congrArg Value.int (own_hm_ix (ks2 ii))] at hv11
          subst hv11
          have N11 : Fr n0 L11 := by rw [l11]; exact Fr.app N N11q
          refine own_go (fun tt_ kk_ => st11.trans kk_) ?_
          show Go p.tables e below _ (T11.setTop (mkF m 56 #[.val (.ref b), .val (.long q), .second, .val (.int (ix p0)), .val (vs p0), .val (.int (ix gp)), .val (.int (ix ii))] [(.int (ix (own_hm (ks2 ii)))), (.int (ix ii))]))
          refine own_go (fun tt_ kk_ => XS.isub X11.here hx rfl (hb hby d11_56) rfl kk_) ?_
          show Go p.tables e below _ (T11.setTop (mkF m 57 #[.val (.ref b), .val (.long q), .second, .val (.int (ix p0)), .val (vs p0), .val (.int (ix gp)), .val (.int (ix ii))] [(.int ((ix ii) - (ix (own_hm (ks2 ii)))))]))
          refine own_go (fun tt_ kk_ => XS.aloadN X11.here hx rfl (hb hby d11_57) rfl rfl kk_) ?_
          show Go p.tables e below _ (T11.setTop (mkF m 58 #[.val (.ref b), .val (.long q), .second, .val (.int (ix p0)), .val (vs p0), .val (.int (ix gp)), .val (.int (ix ii))] [(.ref b), (.int ((ix ii) - (ix (own_hm (ks2 ii)))))]))
          obtain ⟨T12, X12, e12, st12⟩ := getF X11 hx hZ hown (host := "") (Or.inl (hw _ (List.mem_of_getElem? (i := 20) rfl))) Via.refl e11 Fma (g := (mkF m 58 #[.val (.ref b), .val (.long q), .second, .val (.int (ix p0)), .val (vs p0), .val (.int (ix gp)), .val (.int (ix ii))] [(.ref b), (.int ((ix ii) - (ix (own_hm (ks2 ii)))))])) rfl rfl (hb hby d11_58)
          refine own_go (fun tt_ kk_ => st12 tt_ kk_) ?_
          show Go p.tables e below _ (T12.setTop (mkF m 61 #[.val (.ref b), .val (.long q), .second, .val (.int (ix p0)), .val (vs p0), .val (.int (ix gp)), .val (.int (ix ii))] [(.int (15 : Int32)), (.int ((ix ii) - (ix (own_hm (ks2 ii)))))]))
          refine own_go (fun tt_ kk_ => XS.iand X12.here hx rfl (hb hby d11_61) rfl kk_) ?_
          show Go p.tables e below _ (T12.setTop (mkF m 62 #[.val (.ref b), .val (.long q), .second, .val (.int (ix p0)), .val (vs p0), .val (.int (ix gp)), .val (.int (ix ii))] [(.int (((ix ii) - (ix (own_hm (ks2 ii)))) &&& (15 : Int32)))]))
          rw [ix_sub _ hi _ (own_hm_lt _)]
          show Go p.tables e below _ (T12.setTop (mkF m 62 #[.val (.ref b), .val (.long q), .second, .val (.int (ix p0)), .val (vs p0), .val (.int (ix gp)), .val (.int (ix ii))] [(.int (ix (own_dist (own_hm (ks2 ii)) ii)))]))
          refine own_go (fun tt_ kk_ => XS.iload X12.here hx rfl (hb hby d11_62) rfl kk_) ?_
          show Go p.tables e below _ (T12.setTop (mkF m 64 #[.val (.ref b), .val (.long q), .second, .val (.int (ix p0)), .val (vs p0), .val (.int (ix gp)), .val (.int (ix ii))] [(.int (ix ii)), (.int (ix (own_dist (own_hm (ks2 ii)) ii)))]))
          refine own_go (fun tt_ kk_ => XS.iload X12.here hx rfl (hb hby d11_64) rfl kk_) ?_
          show Go p.tables e below _ (T12.setTop (mkF m 66 #[.val (.ref b), .val (.long q), .second, .val (.int (ix p0)), .val (vs p0), .val (.int (ix gp)), .val (.int (ix ii))] [(.int (ix gp)), (.int (ix ii)), (.int (ix (own_dist (own_hm (ks2 ii)) ii)))]))
          refine own_go (fun tt_ kk_ => XS.isub X12.here hx rfl (hb hby d11_66) rfl kk_) ?_
          show Go p.tables e below _ (T12.setTop (mkF m 67 #[.val (.ref b), .val (.long q), .second, .val (.int (ix p0)), .val (vs p0), .val (.int (ix gp)), .val (.int (ix ii))] [(.int ((ix ii) - (ix gp))), (.int (ix (own_dist (own_hm (ks2 ii)) ii)))]))
          refine own_go (fun tt_ kk_ => XS.aloadN X12.here hx rfl (hb hby d11_67) rfl rfl kk_) ?_
          show Go p.tables e below _ (T12.setTop (mkF m 68 #[.val (.ref b), .val (.long q), .second, .val (.int (ix p0)), .val (vs p0), .val (.int (ix gp)), .val (.int (ix ii))] [(.ref b), (.int ((ix ii) - (ix gp))), (.int (ix (own_dist (own_hm (ks2 ii)) ii)))]))
          obtain ⟨T13, X13, e13, st13⟩ := getF X12 hx hZ hown (host := "") (Or.inl (hw _ (List.mem_of_getElem? (i := 20) rfl))) Via.refl e12 Fma (g := (mkF m 68 #[.val (.ref b), .val (.long q), .second, .val (.int (ix p0)), .val (vs p0), .val (.int (ix gp)), .val (.int (ix ii))] [(.ref b), (.int ((ix ii) - (ix gp))), (.int (ix (own_dist (own_hm (ks2 ii)) ii)))])) rfl rfl (hb hby d11_68)
          refine own_go (fun tt_ kk_ => st13 tt_ kk_) ?_
          show Go p.tables e below _ (T13.setTop (mkF m 71 #[.val (.ref b), .val (.long q), .second, .val (.int (ix p0)), .val (vs p0), .val (.int (ix gp)), .val (.int (ix ii))] [(.int (15 : Int32)), (.int ((ix ii) - (ix gp))), (.int (ix (own_dist (own_hm (ks2 ii)) ii)))]))
          refine own_go (fun tt_ kk_ => XS.iand X13.here hx rfl (hb hby d11_71) rfl kk_) ?_
          show Go p.tables e below _ (T13.setTop (mkF m 72 #[.val (.ref b), .val (.long q), .second, .val (.int (ix p0)), .val (vs p0), .val (.int (ix gp)), .val (.int (ix ii))] [(.int (((ix ii) - (ix gp)) &&& (15 : Int32))), (.int (ix (own_dist (own_hm (ks2 ii)) ii)))]))
          rw [ix_sub _ hi _ hg]
          show Go p.tables e below _ (T13.setTop (mkF m 72 #[.val (.ref b), .val (.long q), .second, .val (.int (ix p0)), .val (vs p0), .val (.int (ix gp)), .val (.int (ix ii))] [(.int (ix (own_dist gp ii))), (.int (ix (own_dist (own_hm (ks2 ii)) ii)))]))
          by_cases hc14 : (ix (own_dist (own_hm (ks2 ii)) ii)) < (ix (own_dist gp ii))
          · refine own_go (fun tt_ kk_ => XS.icmpYes X13.here hx rfl (pc0 := 72) (pc' := 107) rfl (hb hby d11_72) rfl (XT.ii_lt_t hc14) (by decide) (by decide) kk_) ?_
            show Go p.tables e below _ (T13.setTop (mkF m 107 #[.val (.ref b), .val (.long q), .second, .val (.int (ix p0)), .val (vs p0), .val (.int (ix gp)), .val (.int (ix ii))] []))
            refine own_go (fun tt_ kk_ => XS.iload X13.here hx rfl (hb hby d11_107) rfl kk_) ?_
            show Go p.tables e below _ (T13.setTop (mkF m 109 #[.val (.ref b), .val (.long q), .second, .val (.int (ix p0)), .val (vs p0), .val (.int (ix gp)), .val (.int (ix ii))] [(.int (ix ii))]))
            refine own_go (fun tt_ kk_ => XS.iconst X13.here hx rfl (hb hby d11_109) kk_) ?_
            show Go p.tables e below _ (T13.setTop (mkF m 110 #[.val (.ref b), .val (.long q), .second, .val (.int (ix p0)), .val (vs p0), .val (.int (ix gp)), .val (.int (ix ii))] [(.int (1 : Int32)), (.int (ix ii))]))
            refine own_go (fun tt_ kk_ => XS.iadd X13.here hx rfl (hb hby d11_110) rfl kk_) ?_
            show Go p.tables e below _ (T13.setTop (mkF m 111 #[.val (.ref b), .val (.long q), .second, .val (.int (ix p0)), .val (vs p0), .val (.int (ix gp)), .val (.int (ix ii))] [(.int ((ix ii) + (1 : Int32)))]))
            refine own_go (fun tt_ kk_ => XS.aloadN X13.here hx rfl (hb hby d11_111) rfl rfl kk_) ?_
            show Go p.tables e below _ (T13.setTop (mkF m 112 #[.val (.ref b), .val (.long q), .second, .val (.int (ix p0)), .val (vs p0), .val (.int (ix gp)), .val (.int (ix ii))] [(.ref b), (.int ((ix ii) + (1 : Int32)))]))
            obtain ⟨T15, X15, e15, st15⟩ := getF X13 hx hZ hown (host := "") (Or.inl (hw _ (List.mem_of_getElem? (i := 20) rfl))) Via.refl e13 Fma (g := (mkF m 112 #[.val (.ref b), .val (.long q), .second, .val (.int (ix p0)), .val (vs p0), .val (.int (ix gp)), .val (.int (ix ii))] [(.ref b), (.int ((ix ii) + (1 : Int32)))])) rfl rfl (hb hby d11_112)
            refine own_go (fun tt_ kk_ => st15 tt_ kk_) ?_
            show Go p.tables e below _ (T15.setTop (mkF m 115 #[.val (.ref b), .val (.long q), .second, .val (.int (ix p0)), .val (vs p0), .val (.int (ix gp)), .val (.int (ix ii))] [(.int (15 : Int32)), (.int ((ix ii) + (1 : Int32)))]))
            refine own_go (fun tt_ kk_ => XS.iand X15.here hx rfl (hb hby d11_115) rfl kk_) ?_
            show Go p.tables e below _ (T15.setTop (mkF m 116 #[.val (.ref b), .val (.long q), .second, .val (.int (ix p0)), .val (vs p0), .val (.int (ix gp)), .val (.int (ix ii))] [(.int (((ix ii) + (1 : Int32)) &&& (15 : Int32)))]))
            rw [ix_next _ hi]
            show Go p.tables e below _ (T15.setTop (mkF m 116 #[.val (.ref b), .val (.long q), .second, .val (.int (ix p0)), .val (vs p0), .val (.int (ix gp)), .val (.int (ix ii))] [(.int (ix ((ii + 1) % 16)))]))
            refine own_go (fun tt_ kk_ => XS.istore X15.here hx rfl (hb hby d11_116) rfl (l' := #[.val (.ref b), .val (.long q), .second, .val (.int (ix p0)), .val (vs p0), .val (.int (ix gp)), .val (.int (ix ((ii + 1) % 16)))]) rfl kk_) ?_
            show Go p.tables e below _ (T15.setTop (mkF m 118 #[.val (.ref b), .val (.long q), .second, .val (.int (ix p0)), .val (vs p0), .val (.int (ix gp)), .val (.int (ix ((ii + 1) % 16)))] []))
            refine own_go (fun tt_ kk_ => XS.goto X15.here hx rfl (pc0 := 118) (pc' := 33) rfl (hb hby d11_118) (by decide) (by decide) kk_) ?_
            show Go p.tables e below _ (T15.setTop (mkF m 33 #[.val (.ref b), .val (.long q), .second, .val (.int (ix p0)), .val (vs p0), .val (.int (ix gp)), .val (.int (ix ((ii + 1) % 16)))] []))
            have iz : ii ≠ z := fun q => hc5 (q ▸ hv)
            have dz := own_dist_next hi hz iz
            exact ih _ _ _ _ (own_gap_skip own_hm_lt (by omega) R hc5 ((ix_lt _ (own_dist_lt _ _) _ (own_dist_lt _ _)).mp hc14)) hv (by omega) T15 _ _ X15 N11 e15 M' O' hsz
          · refine own_go (fun tt_ kk_ => XS.icmpNo X13.here hx rfl (hb hby d11_72) rfl (XT.ii_lt_f hc14) kk_) ?_
            show Go p.tables e below _ (T13.setTop (mkF m 75 #[.val (.ref b), .val (.long q), .second, .val (.int (ix p0)), .val (vs p0), .val (.int (ix gp)), .val (.int (ix ii))] []))
            refine own_go (fun tt_ kk_ => XS.aloadN X13.here hx rfl (hb hby d11_75) rfl rfl kk_) ?_
            show Go p.tables e below _ (T13.setTop (mkF m 76 #[.val (.ref b), .val (.long q), .second, .val (.int (ix p0)), .val (vs p0), .val (.int (ix gp)), .val (.int (ix ii))] [(.ref b)]))
            obtain ⟨T16, X16, e16, st16⟩ := getF X13 hx hZ hown (host := "") (Or.inl (hw _ (List.mem_of_getElem? (i := 13) rfl))) Via.refl e13 Fka (g := (mkF m 76 #[.val (.ref b), .val (.long q), .second, .val (.int (ix p0)), .val (vs p0), .val (.int (ix gp)), .val (.int (ix ii))] [(.ref b)])) rfl rfl (hb hby d11_76)
            refine own_go (fun tt_ kk_ => st16 tt_ kk_) ?_
            show Go p.tables e below _ (T16.setTop (mkF m 79 #[.val (.ref b), .val (.long q), .second, .val (.int (ix p0)), .val (vs p0), .val (.int (ix gp)), .val (.int (ix ii))] [(.ref ka)]))
            refine own_go (fun tt_ kk_ => XS.iload X16.here hx rfl (hb hby d11_79) rfl kk_) ?_
            show Go p.tables e below _ (T16.setTop (mkF m 81 #[.val (.ref b), .val (.long q), .second, .val (.int (ix p0)), .val (vs p0), .val (.int (ix gp)), .val (.int (ix ii))] [(.int (ix gp)), (.ref ka)]))
            refine own_go (fun tt_ kk_ => XS.aloadN X16.here hx rfl (hb hby d11_81) rfl rfl kk_) ?_
            show Go p.tables e below _ (T16.setTop (mkF m 82 #[.val (.ref b), .val (.long q), .second, .val (.int (ix p0)), .val (vs p0), .val (.int (ix gp)), .val (.int (ix ii))] [(.ref b), (.int (ix gp)), (.ref ka)]))
            obtain ⟨T17, X17, e17, st17⟩ := getF X16 hx hZ hown (host := "") (Or.inl (hw _ (List.mem_of_getElem? (i := 13) rfl))) Via.refl e16 Fka (g := (mkF m 82 #[.val (.ref b), .val (.long q), .second, .val (.int (ix p0)), .val (vs p0), .val (.int (ix gp)), .val (.int (ix ii))] [(.ref b), (.int (ix gp)), (.ref ka)])) rfl rfl (hb hby d11_82)
            refine own_go (fun tt_ kk_ => st17 tt_ kk_) ?_
            show Go p.tables e below _ (T17.setTop (mkF m 85 #[.val (.ref b), .val (.long q), .second, .val (.int (ix p0)), .val (vs p0), .val (.int (ix gp)), .val (.int (ix ii))] [(.ref ka), (.int (ix gp)), (.ref ka)]))
            refine own_go (fun tt_ kk_ => XS.iload X17.here hx rfl (hb hby d11_85) rfl kk_) ?_
            show Go p.tables e below _ (T17.setTop (mkF m 87 #[.val (.ref b), .val (.long q), .second, .val (.int (ix p0)), .val (vs p0), .val (.int (ix gp)), .val (.int (ix ii))] [(.int (ix ii)), (.ref ka), (.int (ix gp)), (.ref ka)]))
            refine own_go (fun tt_ kk_ => X17.laload hx (j := (ix ii)) (v := (.long (ks2 ii))) (by rw [e17]; exact K1a.1) (State.isArrayOf_alike hZ.alike K1a.2.1) K1a.2.2 (ix_in hi K2a) (by rw [ix_clamp hi]; exact K3a _ hi) (g := (mkF m 87 #[.val (.ref b), .val (.long q), .second, .val (.int (ix p0)), .val (vs p0), .val (.int (ix gp)), .val (.int (ix ii))] [(.int (ix ii)), (.ref ka), (.int (ix gp)), (.ref ka)])) rfl rfl (hb hby d11_87) tt_ kk_) ?_
            show Go p.tables e below _ (T17.setTop (mkF m 88 #[.val (.ref b), .val (.long q), .second, .val (.int (ix p0)), .val (vs p0), .val (.int (ix gp)), .val (.int (ix ii))] [(.long (ks2 ii)), (.int (ix gp)), (.ref ka)]))
            obtain ⟨T18, h18, X18, e18, W18, st18⟩ := stJ X17 hx hZ e17 K1a (j := (ix gp)) (ix_in hg K2a) (g := (mkF m 88 #[.val (.ref b), .val (.long q), .second, .val (.int (ix p0)), .val (vs p0), .val (.int (ix gp)), .val (.int (ix ii))] [(.long (ks2 ii)), (.int (ix gp)), (.ref ka)])) rfl rfl (hb hby d11_88)
            have N18 := Fr.snoc X18 N11 AAa.2.1
            have M18 := M'.keys hg W18
            have O18 := O'.wr W18 AAa.2.1
            have sz18 : h0.size ≤ h18.size := by rw [W18.size]; exact hsz
            have MM18 := M18
            obtain ⟨AA18, EX18, ⟨Fk18, Fv18, Fm18, Fs18⟩, ⟨ck18, K118, K218, K318⟩, ⟨cv18, V118, V218, V318, V418⟩, DD18⟩ := MM18
            refine own_go (fun tt_ kk_ => st18 tt_ kk_) ?_
            show Go p.tables e below _ (T18.setTop (mkF m 89 #[.val (.ref b), .val (.long q), .second, .val (.int (ix p0)), .val (vs p0), .val (.int (ix gp)), .val (.int (ix ii))] []))
            refine own_go (fun tt_ kk_ => XS.aloadN X18.here hx rfl (hb hby d11_89) rfl rfl kk_) ?_
            show Go p.tables e below _ (T18.setTop (mkF m 90 #[.val (.ref b), .val (.long q), .second, .val (.int (ix p0)), .val (vs p0), .val (.int (ix gp)), .val (.int (ix ii))] [(.ref b)]))
            obtain ⟨T19, X19, e19, st19⟩ := getF X18 hx hZ hown (host := "") (Or.inl (hw _ (List.mem_of_getElem? (i := 15) rfl))) Via.refl e18 Fv18 (g := (mkF m 90 #[.val (.ref b), .val (.long q), .second, .val (.int (ix p0)), .val (vs p0), .val (.int (ix gp)), .val (.int (ix ii))] [(.ref b)])) rfl rfl (hb hby d11_90)
            refine own_go (fun tt_ kk_ => st19 tt_ kk_) ?_
            show Go p.tables e below _ (T19.setTop (mkF m 93 #[.val (.ref b), .val (.long q), .second, .val (.int (ix p0)), .val (vs p0), .val (.int (ix gp)), .val (.int (ix ii))] [(.ref va)]))
            refine own_go (fun tt_ kk_ => XS.iload X19.here hx rfl (hb hby d11_93) rfl kk_) ?_
            show Go p.tables e below _ (T19.setTop (mkF m 95 #[.val (.ref b), .val (.long q), .second, .val (.int (ix p0)), .val (vs p0), .val (.int (ix gp)), .val (.int (ix ii))] [(.int (ix gp)), (.ref va)]))
            refine own_go (fun tt_ kk_ => XS.aloadN X19.here hx rfl (hb hby d11_95) rfl rfl kk_) ?_
            show Go p.tables e below _ (T19.setTop (mkF m 96 #[.val (.ref b), .val (.long q), .second, .val (.int (ix p0)), .val (vs p0), .val (.int (ix gp)), .val (.int (ix ii))] [(.ref b), (.int (ix gp)), (.ref va)]))
            obtain ⟨T20, X20, e20, st20⟩ := getF X19 hx hZ hown (host := "") (Or.inl (hw _ (List.mem_of_getElem? (i := 15) rfl))) Via.refl e19 Fv18 (g := (mkF m 96 #[.val (.ref b), .val (.long q), .second, .val (.int (ix p0)), .val (vs p0), .val (.int (ix gp)), .val (.int (ix ii))] [(.ref b), (.int (ix gp)), (.ref va)])) rfl rfl (hb hby d11_96)
            refine own_go (fun tt_ kk_ => st20 tt_ kk_) ?_
            show Go p.tables e below _ (T20.setTop (mkF m 99 #[.val (.ref b), .val (.long q), .second, .val (.int (ix p0)), .val (vs p0), .val (.int (ix gp)), .val (.int (ix ii))] [(.ref va), (.int (ix gp)), (.ref va)]))
            refine own_go (fun tt_ kk_ => XS.iload X20.here hx rfl (hb hby d11_99) rfl kk_) ?_
            show Go p.tables e below _ (T20.setTop (mkF m 101 #[.val (.ref b), .val (.long q), .second, .val (.int (ix p0)), .val (vs p0), .val (.int (ix gp)), .val (.int (ix ii))] [(.int (ix ii)), (.ref va), (.int (ix gp)), (.ref va)]))
            refine own_go (fun tt_ kk_ => X20.aaload hx (j := (ix ii)) (v := (vs2 ii)) (by rw [e20]; exact V118.1) (State.isArrayOf_alike hZ.alike V118.2.1) rfl V118.2.2 (ix_in hi V218) (by rw [ix_clamp hi]; exact V418 _ hi) (g := (mkF m 101 #[.val (.ref b), .val (.long q), .second, .val (.int (ix p0)), .val (vs p0), .val (.int (ix gp)), .val (.int (ix ii))] [(.int (ix ii)), (.ref va), (.int (ix gp)), (.ref va)])) rfl rfl (hb hby d11_101) tt_ kk_) ?_
            show Go p.tables e below _ (T20.setTop (mkF m 102 #[.val (.ref b), .val (.long q), .second, .val (.int (ix p0)), .val (vs p0), .val (.int (ix gp)), .val (.int (ix ii))] [(vs2 ii), (.int (ix gp)), (.ref va)]))
            obtain ⟨T21, h21, X21, e21, W21, st21⟩ := stR X20 hx hZ e20 V118 (j := (ix gp)) (ix_in hg V218) rfl (M18.sto (hw _ (List.mem_of_getElem? (i := 54) rfl)) (DD18 _ hi)) (g := (mkF m 102 #[.val (.ref b), .val (.long q), .second, .val (.int (ix p0)), .val (vs p0), .val (.int (ix gp)), .val (.int (ix ii))] [(vs2 ii), (.int (ix gp)), (.ref va)])) rfl rfl (hb hby d11_102)
            have N21 := Fr.snoc X21 N18 AA18.2.2.1
            have M21 := M18.vals hg (DD18 _ hi) W21
            have O21 := O18.wr W21 AA18.2.2.1
            have sz21 : h0.size ≤ h21.size := by rw [W21.size]; exact sz18
            have MM21 := M21
            obtain ⟨AA21, EX21, ⟨Fk21, Fv21, Fm21, Fs21⟩, ⟨ck21, K121, K221, K321⟩, ⟨cv21, V121, V221, V321, V421⟩, DD21⟩ := MM21
            refine own_go (fun tt_ kk_ => st21 tt_ kk_) ?_
            show Go p.tables e below _ (T21.setTop (mkF m 103 #[.val (.ref b), .val (.long q), .second, .val (.int (ix p0)), .val (vs p0), .val (.int (ix gp)), .val (.int (ix ii))] []))
            refine own_go (fun tt_ kk_ => XS.iload X21.here hx rfl (hb hby d11_103) rfl kk_) ?_
            show Go p.tables e below _ (T21.setTop (mkF m 105 #[.val (.ref b), .val (.long q), .second, .val (.int (ix p0)), .val (vs p0), .val (.int (ix gp)), .val (.int (ix ii))] [(.int (ix ii))]))
            refine own_go (fun tt_ kk_ => XS.istore X21.here hx rfl (hb hby d11_105) rfl (l' := #[.val (.ref b), .val (.long q), .second, .val (.int (ix p0)), .val (vs p0), .val (.int (ix ii)), .val (.int (ix ii))]) rfl kk_) ?_
            show Go p.tables e below _ (T21.setTop (mkF m 107 #[.val (.ref b), .val (.long q), .second, .val (.int (ix p0)), .val (vs p0), .val (.int (ix ii)), .val (.int (ix ii))] []))
            refine own_go (fun tt_ kk_ => XS.iload X21.here hx rfl (hb hby d11_107) rfl kk_) ?_
            show Go p.tables e below _ (T21.setTop (mkF m 109 #[.val (.ref b), .val (.long q), .second, .val (.int (ix p0)), .val (vs p0), .val (.int (ix ii)), .val (.int (ix ii))] [(.int (ix ii))]))
            refine own_go (fun tt_ kk_ => XS.iconst X21.here hx rfl (hb hby d11_109) kk_) ?_
            show Go p.tables e below _ (T21.setTop (mkF m 110 #[.val (.ref b), .val (.long q), .second, .val (.int (ix p0)), .val (vs p0), .val (.int (ix ii)), .val (.int (ix ii))] [(.int (1 : Int32)), (.int (ix ii))]))
            refine own_go (fun tt_ kk_ => XS.iadd X21.here hx rfl (hb hby d11_110) rfl kk_) ?_
            show Go p.tables e below _ (T21.setTop (mkF m 111 #[.val (.ref b), .val (.long q), .second, .val (.int (ix p0)), .val (vs p0), .val (.int (ix ii)), .val (.int (ix ii))] [(.int ((ix ii) + (1 : Int32)))]))
            refine own_go (fun tt_ kk_ => XS.aloadN X21.here hx rfl (hb hby d11_111) rfl rfl kk_) ?_
            show Go p.tables e below _ (T21.setTop (mkF m 112 #[.val (.ref b), .val (.long q), .second, .val (.int (ix p0)), .val (vs p0), .val (.int (ix ii)), .val (.int (ix ii))] [(.ref b), (.int ((ix ii) + (1 : Int32)))]))
            obtain ⟨T22, X22, e22, st22⟩ := getF X21 hx hZ hown (host := "") (Or.inl (hw _ (List.mem_of_getElem? (i := 20) rfl))) Via.refl e21 Fm21 (g := (mkF m 112 #[.val (.ref b), .val (.long q), .second, .val (.int (ix p0)), .val (vs p0), .val (.int (ix ii)), .val (.int (ix ii))] [(.ref b), (.int ((ix ii) + (1 : Int32)))])) rfl rfl (hb hby d11_112)
            refine own_go (fun tt_ kk_ => st22 tt_ kk_) ?_
            show Go p.tables e below _ (T22.setTop (mkF m 115 #[.val (.ref b), .val (.long q), .second, .val (.int (ix p0)), .val (vs p0), .val (.int (ix ii)), .val (.int (ix ii))] [(.int (15 : Int32)), (.int ((ix ii) + (1 : Int32)))]))
            refine own_go (fun tt_ kk_ => XS.iand X22.here hx rfl (hb hby d11_115) rfl kk_) ?_
            show Go p.tables e below _ (T22.setTop (mkF m 116 #[.val (.ref b), .val (.long q), .second, .val (.int (ix p0)), .val (vs p0), .val (.int (ix ii)), .val (.int (ix ii))] [(.int (((ix ii) + (1 : Int32)) &&& (15 : Int32)))]))
            rw [ix_next _ hi]
            show Go p.tables e below _ (T22.setTop (mkF m 116 #[.val (.ref b), .val (.long q), .second, .val (.int (ix p0)), .val (vs p0), .val (.int (ix ii)), .val (.int (ix ii))] [(.int (ix ((ii + 1) % 16)))]))
            refine own_go (fun tt_ kk_ => XS.istore X22.here hx rfl (hb hby d11_116) rfl (l' := #[.val (.ref b), .val (.long q), .second, .val (.int (ix p0)), .val (vs p0), .val (.int (ix ii)), .val (.int (ix ((ii + 1) % 16)))]) rfl kk_) ?_
            show Go p.tables e below _ (T22.setTop (mkF m 118 #[.val (.ref b), .val (.long q), .second, .val (.int (ix p0)), .val (vs p0), .val (.int (ix ii)), .val (.int (ix ((ii + 1) % 16)))] []))
            refine own_go (fun tt_ kk_ => XS.goto X22.here hx rfl (pc0 := 118) (pc' := 33) rfl (hb hby d11_118) (by decide) (by decide) kk_) ?_
            show Go p.tables e below _ (T22.setTop (mkF m 33 #[.val (.ref b), .val (.long q), .second, .val (.int (ix p0)), .val (vs p0), .val (.int (ix ii)), .val (.int (ix ((ii + 1) % 16)))] []))
            have iz : ii ≠ z := fun q => hc5 (q ▸ hv)
            have dz := own_dist_next hi hz iz
            have gz : z ≠ gp := fun q => hvg (q ▸ hv)
            exact ih _ _ _ _ (own_gap_move own_hm_lt R hc5 (Nat.le_of_not_lt (fun q => hc14 ((ix_lt _ (own_dist_lt _ _) _ (own_dist_lt _ _)).mpr q)))) (by rw [own_upd_ne _ _ gz]; exact hv) (by omega) T22 _ _ X22 N21 e22 M21 O21 sz21
    exact loop 16 ks vs p0 ((p0 + 1) % 16) (own_gap_start RR hp0 hnn hkp) hvz (own_dist_lt _ _) T3 _ _ X3 N2 e3 M OO (Nat.le_refl _)
  · show Go p.tables e below _ (T1.setTop (mkF m 6 #[.val (.ref b), .val (.long q), .second, .val (.int ((-1) : Int32)), .unset, .unset, .unset] []))
    refine own_go (fun tt_ kk_ => XS.iloadN X1.here hx rfl (hb hby d11_6) rfl kk_) ?_
    show Go p.tables e below _ (T1.setTop (mkF m 7 #[.val (.ref b), .val (.long q), .second, .val (.int ((-1) : Int32)), .unset, .unset, .unset] [(.int ((-1) : Int32))]))
    refine own_go (fun tt_ kk_ => XS.ifNo X1.here hx rfl (hb hby d11_7) rfl (XT.i0_ge_f (by decide)) kk_) ?_
    show Go p.tables e below _ (T1.setTop (mkF m 10 #[.val (.ref b), .val (.long q), .second, .val (.int ((-1) : Int32)), .unset, .unset, .unset] []))
    refine own_go (fun tt_ kk_ => XS.aconstNull X1.here hx rfl (hb hby d11_10) kk_) ?_
    show Go p.tables e below _ (T1.setTop (mkF m 11 #[.val (.ref b), .val (.long q), .second, .val (.int ((-1) : Int32)), .unset, .unset, .unset] [.null]))
    exact own_ret X1 hx hlk Bd.returns rfl (Or.inr (Or.inr (Or.inr (Or.inr ⟨rfl, rfl, rfl⟩)))) (hb hby d11_11) ⟨congrArg some hG0.symm, N1, by rw [e1]; exact ⟨OO, Nat.le_refl _⟩, ks, vs, by rw [e1, if_pos hG0]; exact M, by rw [if_pos hG0, own_upd_id hG0]; exact RR⟩ (by decide) (by decide)
theorem d3_0 : decode prog_24_method_14_code 0 = .ok (.aload_n 0, 1) := by decide +kernel
theorem d3_1 : decode prog_24_method_14_code 1 = .ok (.getfield 39, 3) := by decide +kernel
theorem d3_4 : decode prog_24_method_14_code 4 = .ok (.astore_n 2, 1) := by decide +kernel
theorem d3_5 : decode prog_24_method_14_code 5 = .ok (.aload_n 0, 1) := by decide +kernel
theorem d3_6 : decode prog_24_method_14_code 6 = .ok (.getfield 35, 3) := by decide +kernel
theorem d3_9 : decode prog_24_method_14_code 9 = .ok (.astore_n 3, 1) := by decide +kernel
theorem d3_10 : decode prog_24_method_14_code 10 = .ok (.aload_n 0, 1) := by decide +kernel
theorem d3_11 : decode prog_24_method_14_code 11 = .ok (.iload_n 1, 1) := by decide +kernel
theorem d3_12 : decode prog_24_method_14_code 12 = .ok (.newarray .long, 2) := by decide +kernel
theorem d3_14 : decode prog_24_method_14_code 14 = .ok (.putfield 39, 3) := by decide +kernel
theorem d3_17 : decode prog_24_method_14_code 17 = .ok (.aload_n 0, 1) := by decide +kernel
theorem d3_18 : decode prog_24_method_14_code 18 = .ok (.iload_n 1, 1) := by decide +kernel
theorem d3_19 : decode prog_24_method_14_code 19 = .ok (.anewarray 2, 3) := by decide +kernel
theorem d3_22 : decode prog_24_method_14_code 22 = .ok (.putfield 35, 3) := by decide +kernel
theorem d3_25 : decode prog_24_method_14_code 25 = .ok (.aload_n 0, 1) := by decide +kernel
theorem d3_26 : decode prog_24_method_14_code 26 = .ok (.iload_n 1, 1) := by decide +kernel
theorem d3_27 : decode prog_24_method_14_code 27 = .ok (.iconst 1, 1) := by decide +kernel
theorem d3_28 : decode prog_24_method_14_code 28 = .ok (.isub, 1) := by decide +kernel
theorem d3_29 : decode prog_24_method_14_code 29 = .ok (.putfield 43, 3) := by decide +kernel
theorem d3_32 : decode prog_24_method_14_code 32 = .ok (.aload_n 3, 1) := by decide +kernel
theorem d3_33 : decode prog_24_method_14_code 33 = .ok (.ifnonnull 4, 3) := by decide +kernel
theorem d3_36 : decode prog_24_method_14_code 36 = .ok (.return_, 1) := by decide +kernel
theorem d3_37 : decode prog_24_method_14_code 37 = .ok (.iconst 0, 1) := by decide +kernel
theorem d3_38 : decode prog_24_method_14_code 38 = .ok (.istore 4, 2) := by decide +kernel
theorem d3_40 : decode prog_24_method_14_code 40 = .ok (.iload 4, 2) := by decide +kernel
theorem d3_42 : decode prog_24_method_14_code 42 = .ok (.aload_n 3, 1) := by decide +kernel
theorem d3_43 : decode prog_24_method_14_code 43 = .ok (.arraylength, 1) := by decide +kernel
theorem d3_44 : decode prog_24_method_14_code 44 = .ok (.if_icmp .ge 72, 3) := by decide +kernel
theorem d3_47 : decode prog_24_method_14_code 47 = .ok (.aload_n 3, 1) := by decide +kernel
theorem d3_48 : decode prog_24_method_14_code 48 = .ok (.iload 4, 2) := by decide +kernel
theorem d3_50 : decode prog_24_method_14_code 50 = .ok (.aaload, 1) := by decide +kernel
theorem d3_51 : decode prog_24_method_14_code 51 = .ok (.ifnull 59, 3) := by decide +kernel
theorem d3_54 : decode prog_24_method_14_code 54 = .ok (.aload_n 0, 1) := by decide +kernel
theorem d3_55 : decode prog_24_method_14_code 55 = .ok (.aload_n 2, 1) := by decide +kernel
theorem d3_56 : decode prog_24_method_14_code 56 = .ok (.iload 4, 2) := by decide +kernel
theorem d3_58 : decode prog_24_method_14_code 58 = .ok (.laload, 1) := by decide +kernel
theorem d3_59 : decode prog_24_method_14_code 59 = .ok (.invokevirtual 32, 3) := by decide +kernel
theorem d3_62 : decode prog_24_method_14_code 62 = .ok (.istore 5, 2) := by decide +kernel
theorem d3_64 : decode prog_24_method_14_code 64 = .ok (.aload_n 0, 1) := by decide +kernel
theorem d3_65 : decode prog_24_method_14_code 65 = .ok (.getfield 35, 3) := by decide +kernel
theorem d3_68 : decode prog_24_method_14_code 68 = .ok (.iload 5, 2) := by decide +kernel
theorem d3_70 : decode prog_24_method_14_code 70 = .ok (.aaload, 1) := by decide +kernel
theorem d3_71 : decode prog_24_method_14_code 71 = .ok (.ifnull 17, 3) := by decide +kernel
theorem d3_74 : decode prog_24_method_14_code 74 = .ok (.iload 5, 2) := by decide +kernel
theorem d3_76 : decode prog_24_method_14_code 76 = .ok (.iconst 1, 1) := by decide +kernel
theorem d3_77 : decode prog_24_method_14_code 77 = .ok (.iadd, 1) := by decide +kernel
theorem d3_78 : decode prog_24_method_14_code 78 = .ok (.aload_n 0, 1) := by decide +kernel
theorem d3_79 : decode prog_24_method_14_code 79 = .ok (.getfield 43, 3) := by decide +kernel
theorem d3_82 : decode prog_24_method_14_code 82 = .ok (.iand, 1) := by decide +kernel
theorem d3_83 : decode prog_24_method_14_code 83 = .ok (.istore 5, 2) := by decide +kernel
theorem d3_85 : decode prog_24_method_14_code 85 = .ok (.goto (-21), 3) := by decide +kernel
theorem d3_88 : decode prog_24_method_14_code 88 = .ok (.aload_n 0, 1) := by decide +kernel
theorem d3_89 : decode prog_24_method_14_code 89 = .ok (.getfield 39, 3) := by decide +kernel
theorem d3_92 : decode prog_24_method_14_code 92 = .ok (.iload 5, 2) := by decide +kernel
theorem d3_94 : decode prog_24_method_14_code 94 = .ok (.aload_n 2, 1) := by decide +kernel
theorem d3_95 : decode prog_24_method_14_code 95 = .ok (.iload 4, 2) := by decide +kernel
theorem d3_97 : decode prog_24_method_14_code 97 = .ok (.laload, 1) := by decide +kernel
theorem d3_98 : decode prog_24_method_14_code 98 = .ok (.lastore, 1) := by decide +kernel
theorem d3_99 : decode prog_24_method_14_code 99 = .ok (.aload_n 0, 1) := by decide +kernel
theorem d3_100 : decode prog_24_method_14_code 100 = .ok (.getfield 35, 3) := by decide +kernel
theorem d3_103 : decode prog_24_method_14_code 103 = .ok (.iload 5, 2) := by decide +kernel
theorem d3_105 : decode prog_24_method_14_code 105 = .ok (.aload_n 3, 1) := by decide +kernel
theorem d3_106 : decode prog_24_method_14_code 106 = .ok (.iload 4, 2) := by decide +kernel
theorem d3_108 : decode prog_24_method_14_code 108 = .ok (.aaload, 1) := by decide +kernel
theorem d3_109 : decode prog_24_method_14_code 109 = .ok (.aastore, 1) := by decide +kernel
theorem d3_110 : decode prog_24_method_14_code 110 = .ok (.iinc 4 1, 3) := by decide +kernel
theorem d3_113 : decode prog_24_method_14_code 113 = .ok (.goto (-73), 3) := by decide +kernel
theorem d3_116 : decode prog_24_method_14_code 116 = .ok (.return_, 1) := by decide +kernel
theorem ef_rm_alloc (m : MethodId) (x0 : Addr) (x1 : Int32) : entryFrame m #[(.ref x0), (.int x1)] 6 = mkF m 0 #[.val (.ref x0), .val (.int x1), .unset, .unset, .unset, .unset] [] := by first | (simp [entryFrame, mkF, argsToLocals, Value.category]; done) | rfl
set_option maxRecDepth 65536 in
set_option maxHeartbeats 40000000 in
theorem rm_alloc (l : Launch) (Z : State) (a0 : Array Value) (hw : ∀ d ∈ tables_1, d.before a0 Z = true) (ws : List Jvm.Cond) (b : Addr) (h0 : Heap) (n0 : Nat) (EX : Exa Z h0 b IDM) (Fk : Fld Z h0 b IDM "keys" "[J" .null) (Fv : Fld Z h0 b IDM "values" "[Ljava/lang/Object;" .null) (Fm : Fld Z h0 b IDM "mask" "I" (.int 0)) (Fs : Fld Z h0 b IDM "size" "I" (.int 0)) (gb : n0 ≤ b) (Z0 : n0 ≤ h0.size) (OO : Old Z n0 h0) :
    MetFree l (⟨"com/example/rootlet/rootlet/IdMap", "allocate", "(I)V"⟩ : MethodName) (head1 (Jvm.Cond.code (⟨"com/example/rootlet/rootlet/IdMap", "allocate", "(I)V"⟩ : MethodName) prog_24_method_14_code 6 none :: ws) ({ frames := 0, cells := 2, slots := 32, locals := 0 } : Room)) (fun aa U => aa = #[(.ref b), (.int (16 : Int32))] ∧ Z.Warmed39 U.vm ∧ U.heap = h0) (fun _ _ _ _ _ => True) (fun _ U o U' => ∃ v_ L_, o = .returned v_ ∧ own_QI Z n0 b v_ U'.heap L_ ∧ FrameEnd U o U' L_ ({ frames := 0, cells := 2, slots := 32, locals := 0 } : Room).cells ({ frames := 0, cells := 2, slots := 32, locals := 0 } : Room).slots) := by
  refine MetFree.of_bodySF (plainFor_of_name pn_0) hisR ?_
  intro p e s m args below meth c s₁ Bd hml0 hP hK
  obtain ⟨rfl, hZ, hh⟩ := hP
  have hx := Bd.exec
  have hby := Bd.bytes
  have hlk := Bd.notSynchronized
  have hml : c.maxLocals = 6 := hml0
  have hown : s.vm.findClass "com/example/rootlet/rootlet/IdMap" = some m.cls := by have q := findClass_of_methodNamed Bd.named; exact q
  have X0 : Stand p l e ({ frames := 0, cells := 2, slots := 32, locals := 0 } : Room) s m #[(.ref b), (.int (16 : Int32))] below meth c s₁ [] 0 0 := Stand.of_body Bd
  have e0 : s₁.heap = h0 := by rw [← hh, Bd.state]; rfl
  have N0 := Fr.nil n0
  show Go p.tables e below (Fin s below (own_QI Z n0 b) ({ frames := 0, cells := 2, slots := 32, locals := 0 } : Room).cells ({ frames := 0, cells := 2, slots := 32, locals := 0 } : Room).slots) (s₁.setTop (entryFrame m #[(.ref b), (.int (16 : Int32))] 6))
  refine own_go (fun tt_ kk_ => castTop (ef_rm_alloc m b (16 : Int32)) kk_) ?_
  show Go p.tables e below _ (s₁.setTop (mkF m 0 #[.val (.ref b), .val (.int (16 : Int32)), .unset, .unset, .unset, .unset] []))
  refine own_go (fun tt_ kk_ => XS.aloadN X0.here hx rfl (hb hby d3_0) rfl rfl kk_) ?_
  show Go p.tables e below _ (s₁.setTop (mkF m 1 #[.val (.ref b), .val (.int (16 : Int32)), .unset, .unset, .unset, .unset] [(.ref b)]))
  obtain ⟨T11, X11, e11, st11⟩ := getF X0 hx hZ hown (host := "") (Or.inl (hw _ (List.mem_of_getElem? (i := 13) rfl))) Via.refl e0 Fk (g := (mkF m 1 #[.val (.ref b), .val (.int (16 : Int32)), .unset, .unset, .unset, .unset] [(.ref b)])) rfl rfl (hb hby d3_1)
  refine own_go (fun tt_ kk_ => st11 tt_ kk_) ?_
  show Go p.tables e below _ (T11.setTop (mkF m 4 #[.val (.ref b), .val (.int (16 : Int32)), .unset, .unset, .unset, .unset] [.null]))
  refine own_go (fun tt_ kk_ => XS.astoreN X11.here hx rfl (hb hby d3_4) rfl rfl (l' := #[.val (.ref b), .val (.int (16 : Int32)), .val .null, .unset, .unset, .unset]) rfl kk_) ?_
  show Go p.tables e below _ (T11.setTop (mkF m 5 #[.val (.ref b), .val (.int (16 : Int32)), .val .null, .unset, .unset, .unset] []))
  refine own_go (fun tt_ kk_ => XS.aloadN X11.here hx rfl (hb hby d3_5) rfl rfl kk_) ?_
  show Go p.tables e below _ (T11.setTop (mkF m 6 #[.val (.ref b), .val (.int (16 : Int32)), .val .null, .unset, .unset, .unset] [(.ref b)]))
  obtain ⟨T12, X12, e12, st12⟩ := getF X11 hx hZ hown (host := "") (Or.inl (hw _ (List.mem_of_getElem? (i := 15) rfl))) Via.refl e11 Fv (g := (mkF m 6 #[.val (.ref b), .val (.int (16 : Int32)), .val .null, .unset, .unset, .unset] [(.ref b)])) rfl rfl (hb hby d3_6)
  refine own_go (fun tt_ kk_ => st12 tt_ kk_) ?_
  show Go p.tables e below _ (T12.setTop (mkF m 9 #[.val (.ref b), .val (.int (16 : Int32)), .val .null, .unset, .unset, .unset] [.null]))
  refine own_go (fun tt_ kk_ => XS.astoreN X12.here hx rfl (hb hby d3_9) rfl rfl (l' := #[.val (.ref b), .val (.int (16 : Int32)), .val .null, .val .null, .unset, .unset]) rfl kk_) ?_
  show Go p.tables e below _ (T12.setTop (mkF m 10 #[.val (.ref b), .val (.int (16 : Int32)), .val .null, .val .null, .unset, .unset] []))
  refine own_go (fun tt_ kk_ => XS.aloadN X12.here hx rfl (hb hby d3_10) rfl rfl kk_) ?_
  show Go p.tables e below _ (T12.setTop (mkF m 11 #[.val (.ref b), .val (.int (16 : Int32)), .val .null, .val .null, .unset, .unset] [(.ref b)]))
  refine own_go (fun tt_ kk_ => XS.iloadN X12.here hx rfl (hb hby d3_11) rfl kk_) ?_
  show Go p.tables e below _ (T12.setTop (mkF m 12 #[.val (.ref b), .val (.int (16 : Int32)), .val .null, .val .null, .unset, .unset] [(.int (16 : Int32)), (.ref b)]))
  obtain ⟨T1, h1, kk1, X1, e1, Ex1, A1, st1⟩ := newP X12 hx hZ (hw _ (List.mem_of_getElem? (i := 17) rfl)) e12 (g := (mkF m 12 #[.val (.ref b), .val (.int (16 : Int32)), .val .null, .val .null, .unset, .unset] [(.int (16 : Int32)), (.ref b)])) rfl (hb hby d3_12) rfl (by decide) (cap := 16) (by decide) (by decide) (by decide) (by decide)
  obtain ⟨ka, gka⟩ : ∃ z, z = h0.size := ⟨_, rfl⟩
  rw [← gka] at A1 st1
  refine own_go (fun tt_ kk_ => st1 tt_ kk_) ?_
  show Go p.tables e below _ (T1.setTop (mkF m 14 #[.val (.ref b), .val (.int (16 : Int32)), .val .null, .val .null, .unset, .unset] [(.ref ka), (.ref b)]))
  obtain ⟨T2, h2, X2, e2, W2, st2⟩ := putF X1 hx hZ hown (host := "") (Or.inl (hw _ (List.mem_of_getElem? (i := 13) rfl))) Via.refl e1 (Fk.ext Ex1) (EX.ext Ex1) (Or.inl (hw _ (List.mem_of_getElem? (i := 14) rfl))) (hw _ (List.mem_of_getElem? (i := 1) rfl)) (ty := (.array .long)) (by decide) rfl rfl (g := (mkF m 14 #[.val (.ref b), .val (.int (16 : Int32)), .val .null, .val .null, .unset, .unset] [(.ref ka), (.ref b)])) rfl rfl (hb hby d3_14)
  have N2 := Fr.snoc X2 N0 gb
  refine own_go (fun tt_ kk_ => st2 tt_ kk_) ?_
  show Go p.tables e below _ (T2.setTop (mkF m 17 #[.val (.ref b), .val (.int (16 : Int32)), .val .null, .val .null, .unset, .unset] []))
  refine own_go (fun tt_ kk_ => XS.aloadN X2.here hx rfl (hb hby d3_17) rfl rfl kk_) ?_
  show Go p.tables e below _ (T2.setTop (mkF m 18 #[.val (.ref b), .val (.int (16 : Int32)), .val .null, .val .null, .unset, .unset] [(.ref b)]))
  refine own_go (fun tt_ kk_ => XS.iloadN X2.here hx rfl (hb hby d3_18) rfl kk_) ?_
  show Go p.tables e below _ (T2.setTop (mkF m 19 #[.val (.ref b), .val (.int (16 : Int32)), .val .null, .val .null, .unset, .unset] [(.int (16 : Int32)), (.ref b)]))
  obtain ⟨T3, h3, kk3, X3, e3, Ex3, A3, O3, st3⟩ := newR X2 hx hZ hown (hw _ (List.mem_of_getElem? (i := 18) rfl)) (hw _ (List.mem_of_getElem? (i := 19) rfl)) e2 (g := (mkF m 19 #[.val (.ref b), .val (.int (16 : Int32)), .val .null, .val .null, .unset, .unset] [(.int (16 : Int32)), (.ref b)])) rfl (hb hby d3_19) rfl (by decide) (cap := 16) (by decide) (by decide) (by decide) (by decide)
  obtain ⟨va, gva⟩ : ∃ z, z = h2.size := ⟨_, rfl⟩
  rw [← gva] at A3 st3
  refine own_go (fun tt_ kk_ => st3 tt_ kk_) ?_
  show Go p.tables e below _ (T3.setTop (mkF m 22 #[.val (.ref b), .val (.int (16 : Int32)), .val .null, .val .null, .unset, .unset] [(.ref va), (.ref b)]))
  obtain ⟨T4, h4, X4, e4, W4, st4⟩ := putF X3 hx hZ hown (host := "") (Or.inl (hw _ (List.mem_of_getElem? (i := 15) rfl))) Via.refl e3 (((Fv.ext Ex1).other W2 (Or.inr (RoadKit.slot_ne (Or.inl (hw _ (List.mem_of_getElem? (i := 16) rfl))) (Or.inl (hw _ (List.mem_of_getElem? (i := 14) rfl))) (by decide) (t := (.array OBJ)) (t' := (.array .long)) (by decide) (by decide)))).ext Ex3) (((EX.ext Ex1).wr W2).ext Ex3) (Or.inl (hw _ (List.mem_of_getElem? (i := 16) rfl))) (hw _ (List.mem_of_getElem? (i := 1) rfl)) (ty := (.array OBJ)) (by decide) rfl rfl (g := (mkF m 22 #[.val (.ref b), .val (.int (16 : Int32)), .val .null, .val .null, .unset, .unset] [(.ref va), (.ref b)])) rfl rfl (hb hby d3_22)
  have N4 := Fr.snoc X4 N2 gb
  refine own_go (fun tt_ kk_ => st4 tt_ kk_) ?_
  show Go p.tables e below _ (T4.setTop (mkF m 25 #[.val (.ref b), .val (.int (16 : Int32)), .val .null, .val .null, .unset, .unset] []))
  refine own_go (fun tt_ kk_ => XS.aloadN X4.here hx rfl (hb hby d3_25) rfl rfl kk_) ?_
  show Go p.tables e below _ (T4.setTop (mkF m 26 #[.val (.ref b), .val (.int (16 : Int32)), .val .null, .val .null, .unset, .unset] [(.ref b)]))
  refine own_go (fun tt_ kk_ => XS.iloadN X4.here hx rfl (hb hby d3_26) rfl kk_) ?_
  show Go p.tables e below _ (T4.setTop (mkF m 27 #[.val (.ref b), .val (.int (16 : Int32)), .val .null, .val .null, .unset, .unset] [(.int (16 : Int32)), (.ref b)]))
  refine own_go (fun tt_ kk_ => XS.iconst X4.here hx rfl (hb hby d3_27) kk_) ?_
  show Go p.tables e below _ (T4.setTop (mkF m 28 #[.val (.ref b), .val (.int (16 : Int32)), .val .null, .val .null, .unset, .unset] [(.int (1 : Int32)), (.int (16 : Int32)), (.ref b)]))
  refine own_go (fun tt_ kk_ => XS.isub X4.here hx rfl (hb hby d3_28) rfl kk_) ?_
  show Go p.tables e below _ (T4.setTop (mkF m 29 #[.val (.ref b), .val (.int (16 : Int32)), .val .null, .val .null, .unset, .unset] [(.int (15 : Int32)), (.ref b)]))
  obtain ⟨T5, h5, X5, e5, W5, st5⟩ := putF X4 hx hZ hown (host := "") (Or.inl (hw _ (List.mem_of_getElem? (i := 20) rfl))) Via.refl e4 ((((Fm.ext Ex1).other W2 (Or.inr (RoadKit.slot_ne (Or.inl (hw _ (List.mem_of_getElem? (i := 21) rfl))) (Or.inl (hw _ (List.mem_of_getElem? (i := 14) rfl))) (by decide) (t := .int) (t' := (.array .long)) (by decide) (by decide)))).ext Ex3).other W4 (Or.inr (RoadKit.slot_ne (Or.inl (hw _ (List.mem_of_getElem? (i := 21) rfl))) (Or.inl (hw _ (List.mem_of_getElem? (i := 16) rfl))) (by decide) (t := .int) (t' := (.array OBJ)) (by decide) (by decide)))) ((((EX.ext Ex1).wr W2).ext Ex3).wr W4) (Or.inl (hw _ (List.mem_of_getElem? (i := 21) rfl))) (hw _ (List.mem_of_getElem? (i := 1) rfl)) (ty := .int) (by decide) rfl rfl (g := (mkF m 29 #[.val (.ref b), .val (.int (16 : Int32)), .val .null, .val .null, .unset, .unset] [(.int (15 : Int32)), (.ref b)])) rfl rfl (hb hby d3_29)
  have N5 := Fr.snoc X5 N4 gb
  refine own_go (fun tt_ kk_ => st5 tt_ kk_) ?_
  show Go p.tables e below _ (T5.setTop (mkF m 32 #[.val (.ref b), .val (.int (16 : Int32)), .val .null, .val .null, .unset, .unset] []))
  refine own_go (fun tt_ kk_ => XS.aloadN X5.here hx rfl (hb hby d3_32) rfl rfl kk_) ?_
  show Go p.tables e below _ (T5.setTop (mkF m 33 #[.val (.ref b), .val (.int (16 : Int32)), .val .null, .val .null, .unset, .unset] [.null]))
  refine own_go (fun tt_ kk_ => XT.ifnonnullNo X5.here hx rfl (hb hby d3_33) rfl kk_) ?_
  show Go p.tables e below _ (T5.setTop (mkF m 36 #[.val (.ref b), .val (.int (16 : Int32)), .val .null, .val .null, .unset, .unset] []))
  have s1 := Ex1.1
  have s2 : h2.size = h1.size := W2.size
  have s0 : b < h0.size := EX.lt
  have sk : ka < h1.size := A1.lt
  have s3 : h0.size ≤ va := by omega
  have nk : b ≠ ka := Nat.ne_of_lt (Nat.lt_of_lt_of_eq s0 gka.symm)
  have nv : b ≠ va := Nat.ne_of_lt (Nat.lt_of_lt_of_le s0 s3)
  have kv : ka ≠ va := by omega
  have MM : own_Map Z h5 n0 b ka va (fun _ => 0) (fun _ => .null) 0 := by
    refine ⟨⟨gb, by omega, by omega, nk, nv, kv⟩, ((((EX.ext Ex1).wr W2).ext Ex3).wr W4).wr W5, ⟨(((((Fk.ext Ex1).same W2).ext Ex3).other W4 (Or.inr (RoadKit.slot_ne (Or.inl (hw _ (List.mem_of_getElem? (i := 14) rfl))) (Or.inl (hw _ (List.mem_of_getElem? (i := 16) rfl))) (by decide) (t := (.array .long)) (t' := (.array OBJ)) (by decide) (by decide)))).other W5 (Or.inr (RoadKit.slot_ne (Or.inl (hw _ (List.mem_of_getElem? (i := 14) rfl))) (Or.inl (hw _ (List.mem_of_getElem? (i := 21) rfl))) (by decide) (t := (.array .long)) (t' := .int) (by decide) (by decide)))), (((((Fv.ext Ex1).other W2 (Or.inr (RoadKit.slot_ne (Or.inl (hw _ (List.mem_of_getElem? (i := 16) rfl))) (Or.inl (hw _ (List.mem_of_getElem? (i := 14) rfl))) (by decide) (t := (.array OBJ)) (t' := (.array .long)) (by decide) (by decide)))).ext Ex3).same W4).other W5 (Or.inr (RoadKit.slot_ne (Or.inl (hw _ (List.mem_of_getElem? (i := 16) rfl))) (Or.inl (hw _ (List.mem_of_getElem? (i := 21) rfl))) (by decide) (t := (.array OBJ)) (t' := .int) (by decide) (by decide)))), ((((Fm.ext Ex1).other W2 (Or.inr (RoadKit.slot_ne (Or.inl (hw _ (List.mem_of_getElem? (i := 21) rfl))) (Or.inl (hw _ (List.mem_of_getElem? (i := 14) rfl))) (by decide) (t := .int) (t' := (.array .long)) (by decide) (by decide)))).ext Ex3).other W4 (Or.inr (RoadKit.slot_ne (Or.inl (hw _ (List.mem_of_getElem? (i := 21) rfl))) (Or.inl (hw _ (List.mem_of_getElem? (i := 16) rfl))) (by decide) (t := .int) (t' := (.array OBJ)) (by decide) (by decide)))).same W5, (((((Fs.ext Ex1).other W2 (Or.inr (RoadKit.slot_ne (Or.inl (hw _ (List.mem_of_getElem? (i := 53) rfl))) (Or.inl (hw _ (List.mem_of_getElem? (i := 14) rfl))) (by decide) (t := .int) (t' := (.array .long)) (by decide) (by decide)))).ext Ex3).other W4 (Or.inr (RoadKit.slot_ne (Or.inl (hw _ (List.mem_of_getElem? (i := 53) rfl))) (Or.inl (hw _ (List.mem_of_getElem? (i := 16) rfl))) (by decide) (t := .int) (t' := (.array OBJ)) (by decide) (by decide)))).other W5 (Or.inr (RoadKit.slot_ne (Or.inl (hw _ (List.mem_of_getElem? (i := 53) rfl))) (Or.inl (hw _ (List.mem_of_getElem? (i := 21) rfl))) (by decide) (t := .int) (t' := .int) (by decide) (by decide))))⟩, ⟨_, (((A1.other W2 (Ne.symm nk)).ext Ex3).other W4 (Ne.symm nk)).other W5 (Ne.symm nk), by rw [sz_new]; rfl, fun i hi => ?_⟩, ⟨_, (A3.other W4 (Ne.symm nv)).other W5 (Ne.symm nv), by rw [sz_new]; rfl, O3, fun i hi => ?_⟩, fun i hi => Or.inl rfl⟩
    · have := hi; show (Array.replicate 16 (Value.long 0))[i]? = _; rw [Array.getElem?_replicate, if_pos hi]
    · have := hi; show (Array.replicate 16 Value.null)[i]? = _; rw [Array.getElem?_replicate, if_pos hi]
  have O5 := ((((OO.ext Ex1).wr W2 gb).ext Ex3).wr W4 gb).wr W5 gb
  exact own_retv X5 hx hlk Bd.returns (hb hby d3_36) ⟨rfl, N5, by rw [e5]; exact O5, ka, va, by rw [e5]; exact MM⟩ (by decide) (by decide)
theorem pd_4 : parseMethodDescriptor "()V" = some ⟨[], none⟩ := by decide +kernel
theorem d1_0 : decode prog_24_method_1_code 0 = .ok (.aload_n 0, 1) := by decide +kernel
theorem d1_1 : decode prog_24_method_1_code 1 = .ok (.invokespecial 1, 3) := by decide +kernel
theorem d1_4 : decode prog_24_method_1_code 4 = .ok (.aload_n 0, 1) := by decide +kernel
theorem d1_5 : decode prog_24_method_1_code 5 = .ok (.bipush 16, 2) := by decide +kernel
theorem d1_7 : decode prog_24_method_1_code 7 = .ok (.invokevirtual 9, 3) := by decide +kernel
theorem d1_10 : decode prog_24_method_1_code 10 = .ok (.return_, 1) := by decide +kernel
theorem ef_rm_init (m : MethodId) (x0 : Addr) : entryFrame m #[(.ref x0)] 1 = mkF m 0 #[.val (.ref x0)] [] := by first | (simp [entryFrame, mkF, argsToLocals, Value.category]; done) | rfl
set_option maxRecDepth 65536 in
set_option maxHeartbeats 40000000 in
theorem rm_init (l : Launch) (Z : State) (a0 : Array Value) (hw : ∀ d ∈ tables_1, d.before a0 Z = true) (ws : List Jvm.Cond) (b : Addr) (h0 : Heap) (n0 : Nat) (EX : Exa Z h0 b IDM) (Fk : Fld Z h0 b IDM "keys" "[J" .null) (Fv : Fld Z h0 b IDM "values" "[Ljava/lang/Object;" .null) (Fm : Fld Z h0 b IDM "mask" "I" (.int 0)) (Fs : Fld Z h0 b IDM "size" "I" (.int 0)) (gb : n0 ≤ b) (Z0 : n0 ≤ h0.size) (OO : Old Z n0 h0) :
    MetFree l (⟨"com/example/rootlet/rootlet/IdMap", "<init>", "()V"⟩ : MethodName) (head1 (Jvm.Cond.code (⟨"com/example/rootlet/rootlet/IdMap", "<init>", "()V"⟩ : MethodName) prog_24_method_1_code 1 none :: ws) ({ frames := 1, cells := 2, slots := 32, locals := 17 } : Room)) (fun aa U => aa = #[(.ref b)] ∧ Z.Warmed39 U.vm ∧ U.heap = h0) (fun _ _ _ _ _ => True) (fun _ U o U' => ∃ v_ L_, o = .returned v_ ∧ own_QI Z n0 b v_ U'.heap L_ ∧ FrameEnd U o U' L_ ({ frames := 1, cells := 2, slots := 32, locals := 17 } : Room).cells ({ frames := 1, cells := 2, slots := 32, locals := 17 } : Room).slots) := by
  refine MetFree.of_bodySF (plainFor_of_name pn_0) hisR ?_
  intro p e s m args below meth c s₁ Bd hml0 hP hK
  obtain ⟨rfl, hZ, hh⟩ := hP
  have hx := Bd.exec
  have hby := Bd.bytes
  have hlk := Bd.notSynchronized
  have hml : c.maxLocals = 1 := hml0
  have hown : s.vm.findClass "com/example/rootlet/rootlet/IdMap" = some m.cls := by have q := findClass_of_methodNamed Bd.named; exact q
  have X0 : Stand p l e ({ frames := 1, cells := 2, slots := 32, locals := 17 } : Room) s m #[(.ref b)] below meth c s₁ [] 0 0 := Stand.of_body Bd
  have e0 : s₁.heap = h0 := by rw [← hh, Bd.state]; rfl
  have N0 := Fr.nil n0
  show Go p.tables e below (Fin s below (own_QI Z n0 b) ({ frames := 1, cells := 2, slots := 32, locals := 17 } : Room).cells ({ frames := 1, cells := 2, slots := 32, locals := 17 } : Room).slots) (s₁.setTop (entryFrame m #[(.ref b)] 1))
  refine own_go (fun tt_ kk_ => castTop (ef_rm_init m b) kk_) ?_
  show Go p.tables e below _ (s₁.setTop (mkF m 0 #[.val (.ref b)] []))
  refine own_go (fun tt_ kk_ => XS.aloadN X0.here hx rfl (hb hby d1_0) rfl rfl kk_) ?_
  show Go p.tables e below _ (s₁.setTop (mkF m 1 #[.val (.ref b)] [(.ref b)]))
  obtain ⟨T1, X1, e1, st1⟩ := initO X0 hx hZ hown (hw _ (List.mem_of_getElem? (i := 6) rfl)) (hw _ (List.mem_of_getElem? (i := 7) rfl)) (hw _ (List.mem_of_getElem? (i := 8) rfl)) e0 (g := (mkF m 1 #[.val (.ref b)] [(.ref b)])) rfl (by rw [hml]; rfl) rfl (hb hby d1_1) (by decide) (W := 0) (by show 2 * 0 + _ ≤ _; exact Nat.le_of_eq rfl) (by decide)
  refine own_go (fun tt_ kk_ => st1 tt_ kk_) ?_
  show Go p.tables e below _ (T1.setTop (mkF m 4 #[.val (.ref b)] []))
  refine own_go (fun tt_ kk_ => XS.aloadN X1.here hx rfl (hb hby d1_4) rfl rfl kk_) ?_
  show Go p.tables e below _ (T1.setTop (mkF m 5 #[.val (.ref b)] [(.ref b)]))
  refine own_go (fun tt_ kk_ => XS.bipush X1.here hx rfl (hb hby d1_5) kk_) ?_
  show Go p.tables e below _ (T1.setTop (mkF m 7 #[.val (.ref b)] [(.int (16 : Int32)), (.ref b)]))
  obtain ⟨cq2, q2a, q2b⟩ := (EX).cell
  obtain ⟨v2, _, ⟨T2, L2, k2, n2⟩, -, X2, ⟨Lc2, hQ2, l2, y2, z2⟩, st2⟩ := X1.privateBack hx (y := (⟨"com/example/rootlet/rootlet/IdMap", "allocate", "(I)V"⟩ : MethodName)) hown (mvT hZ (hw _ (List.mem_of_getElem? (i := 9) rfl))) (mvT hZ (hw _ (List.mem_of_getElem? (i := 10) rfl))) (own_selp (z := (⟨"com/example/rootlet/rootlet/IdMap", "put", "(JLjava/lang/Object;)Ljava/lang/Object;"⟩ : MethodName)) (mvT hZ (hw _ (List.mem_of_getElem? (i := 32) rfl))) rfl (mvP hZ (hw _ (List.mem_of_getElem? (i := 11) rfl))) (mvT hZ (hw _ (List.mem_of_getElem? (i := 10) rfl))) (by decide)) (Cond.privateMethod_at (mvP hZ (hw _ (List.mem_of_getElem? (i := 11) rfl)) (args := #[]))) (mvT hZ (hw _ (List.mem_of_getElem? (i := 12) rfl))) (by decide) (backOf (W := 0) (rm_alloc l Z a0 hw [] b h0 n0 EX Fk Fv Fm Fs gb Z0 OO) hZ (hw _ (List.mem_of_getElem? (i := 12) rfl)) (hw _ (List.mem_of_getElem? (i := 2) rfl)) (by decide) (by decide)) (g := (mkF m 7 #[.val (.ref b)] [(.int (16 : Int32)), (.ref b)])) rfl (by rw [hml]; rfl) (Steps.refl _) (a := b) (by rw [e1]; exact q2a) q2b (argsL := [(.int (16 : Int32))]) (rest := []) (lenOf pd_3 rfl) rfl (by show 2 * 0 + _ ≤ _; exact Nat.le_of_eq rfl) (hb hby d1_7) (fun _ _ => ⟨rfl, e1, (by decide : 0 + 2 ≤ _), (by decide : 0 + 32 ≤ _)⟩)
  dsimp only [Pt.U, Pt.locs, Pt.cells, Pt.slots] at X2 l2 y2 z2 st2 hQ2
  subst y2 z2
  obtain ⟨hv2, N2q, O2, ka, va, M2⟩ := hQ2
  subst hv2
  have N2 : Fr n0 L2 := by rw [l2]; exact Fr.app N0 N2q
  refine own_go (fun tt_ kk_ => st2.trans kk_) ?_
  show Go p.tables e below _ (T2.setTop (mkF m 10 #[.val (.ref b)] []))
  exact own_retv X2 hx hlk Bd.returns (hb hby d1_10) ⟨rfl, N2, O2, ka, va, M2⟩ (by decide) (by decide)
theorem d4_0 : decode jdk_33_method_22_code 0 = .ok (.iload_n 0, 1) := by decide +kernel
theorem d4_1 : decode jdk_33_method_22_code 1 = .ok (.bipush (-128), 2) := by decide +kernel
theorem d4_3 : decode jdk_33_method_22_code 3 = .ok (.if_icmp .lt 20, 3) := by decide +kernel
theorem d4_6 : decode jdk_33_method_22_code 6 = .ok (.iload_n 0, 1) := by decide +kernel
theorem d4_7 : decode jdk_33_method_22_code 7 = .ok (.getstatic 191, 3) := by decide +kernel
theorem d4_10 : decode jdk_33_method_22_code 10 = .ok (.if_icmp .gt 13, 3) := by decide +kernel
theorem d4_13 : decode jdk_33_method_22_code 13 = .ok (.getstatic 195, 3) := by decide +kernel
theorem d4_16 : decode jdk_33_method_22_code 16 = .ok (.iload_n 0, 1) := by decide +kernel
theorem d4_17 : decode jdk_33_method_22_code 17 = .ok (.sipush 128, 3) := by decide +kernel
theorem d4_20 : decode jdk_33_method_22_code 20 = .ok (.iadd, 1) := by decide +kernel
theorem d4_21 : decode jdk_33_method_22_code 21 = .ok (.aaload, 1) := by decide +kernel
theorem d4_22 : decode jdk_33_method_22_code 22 = .ok (.areturn, 1) := by decide +kernel
theorem d4_23 : decode jdk_33_method_22_code 23 = .ok (.new 1, 3) := by decide +kernel
theorem d4_26 : decode jdk_33_method_22_code 26 = .ok (.dup, 1) := by decide +kernel
theorem d4_27 : decode jdk_33_method_22_code 27 = .ok (.iload_n 0, 1) := by decide +kernel
theorem d4_28 : decode jdk_33_method_22_code 28 = .ok (.invokespecial 199, 3) := by decide +kernel
theorem d4_31 : decode jdk_33_method_22_code 31 = .ok (.areturn, 1) := by decide +kernel
theorem pn_2 : plainName "java/lang/Integer" = true := by first | (simp [plainName, overriddenIn]; done) | decide +kernel
theorem ef_rm_valueOf (m : MethodId) (x0 : Int32) : entryFrame m #[(.int x0)] 1 = mkF m 0 #[.val (.int x0)] [] := by first | (simp [entryFrame, mkF, argsToLocals, Value.category]; done) | rfl
set_option maxRecDepth 65536 in
set_option maxHeartbeats 40000000 in
theorem rm_valueOf (l : Launch) (Z : State) (a0 : Array Value) (hw : ∀ d ∈ tables_1, d.before a0 Z = true) (ws : List Jvm.Cond) (i : Int32) (ca w : Addr) (cl : Cell) (h0 : Heap) (n0 : Nat) (S_high : Sta Z h0 ICC "high" "I" (.int 127)) (S_cache : Sta Z h0 ICC "cache" "[Ljava/lang/Integer;" (.ref ca)) (Ar : Arr Z h0 ca cl (.object "java/lang/Integer")) (g1 : ¬ i < (-128)) (g2 : ¬ (127 : Int32) < i) (hin : ¬ ((i + 128) < 0 ∨ cl.slots.size ≤ (i + 128).toNatClampNeg)) (hat : cl.slots[(i + 128).toNatClampNeg]? = some (.ref w)) :
    MetFree l (⟨"java/lang/Integer", "valueOf", "(I)Ljava/lang/Integer;"⟩ : MethodName) (head1 (Jvm.Cond.code (⟨"java/lang/Integer", "valueOf", "(I)Ljava/lang/Integer;"⟩ : MethodName) jdk_33_method_22_code 1 (some (.object "java/lang/Integer")) :: ws) ({ frames := 0, cells := 0, slots := 0, locals := 0 } : Room)) (fun aa U => aa = #[(.int i)] ∧ Z.Warmed39 U.vm ∧ U.heap = h0) (fun _ _ _ _ _ => True) (fun _ U o U' => ∃ v_ L_, o = .returned v_ ∧ PQ (.ref w) h0 n0 v_ U'.heap L_ ∧ FrameEnd U o U' L_ ({ frames := 0, cells := 0, slots := 0, locals := 0 } : Room).cells ({ frames := 0, cells := 0, slots := 0, locals := 0 } : Room).slots) := by
  refine MetFree.of_bodySF (plainFor_of_name pn_2) hisR ?_
  intro p e s m args below meth c s₁ Bd hml0 hP hK
  obtain ⟨rfl, hZ, hh⟩ := hP
  have hx := Bd.exec
  have hby := Bd.bytes
  have hlk := Bd.notSynchronized
  have hml : c.maxLocals = 1 := hml0
  have hown : s.vm.findClass "java/lang/Integer" = some m.cls := by have q := findClass_of_methodNamed Bd.named; exact q
  have X0 : Stand p l e ({ frames := 0, cells := 0, slots := 0, locals := 0 } : Room) s m #[(.int i)] below meth c s₁ [] 0 0 := Stand.of_body Bd
  have e0 : s₁.heap = h0 := by rw [← hh, Bd.state]; rfl
  have N0 := Fr.nil n0
  show Go p.tables e below (Fin s below (PQ (.ref w) h0 n0) ({ frames := 0, cells := 0, slots := 0, locals := 0 } : Room).cells ({ frames := 0, cells := 0, slots := 0, locals := 0 } : Room).slots) (s₁.setTop (entryFrame m #[(.int i)] 1))
  refine own_go (fun tt_ kk_ => castTop (ef_rm_valueOf m i) kk_) ?_
  show Go p.tables e below _ (s₁.setTop (mkF m 0 #[.val (.int i)] []))
  refine own_go (fun tt_ kk_ => XS.iloadN X0.here hx rfl (hb hby d4_0) rfl kk_) ?_
  show Go p.tables e below _ (s₁.setTop (mkF m 1 #[.val (.int i)] [(.int i)]))
  refine own_go (fun tt_ kk_ => XS.bipush X0.here hx rfl (hb hby d4_1) kk_) ?_
  show Go p.tables e below _ (s₁.setTop (mkF m 3 #[.val (.int i)] [(.int ((-128) : Int32)), (.int i)]))
  refine own_go (fun tt_ kk_ => XS.icmpNo X0.here hx rfl (hb hby d4_3) rfl (XT.ii_lt_f g1) kk_) ?_
  show Go p.tables e below _ (s₁.setTop (mkF m 6 #[.val (.int i)] []))
  refine own_go (fun tt_ kk_ => XS.iloadN X0.here hx rfl (hb hby d4_6) rfl kk_) ?_
  show Go p.tables e below _ (s₁.setTop (mkF m 7 #[.val (.int i)] [(.int i)]))
  obtain ⟨T1, X1, e1, st1⟩ := getS2 X0 hx hZ hown (host := "") (Or.inl (hw _ (List.mem_of_getElem? (i := 26) rfl))) Via.refl e0 S_high (g := (mkF m 7 #[.val (.int i)] [(.int i)])) rfl (hb hby d4_7)
  refine own_go (fun tt_ kk_ => st1 tt_ kk_) ?_
  show Go p.tables e below _ (T1.setTop (mkF m 10 #[.val (.int i)] [(.int (127 : Int32)), (.int i)]))
  refine own_go (fun tt_ kk_ => XS.icmpNo X1.here hx rfl (hb hby d4_10) rfl (XT.ii_gt_f g2) kk_) ?_
  show Go p.tables e below _ (T1.setTop (mkF m 13 #[.val (.int i)] []))
  obtain ⟨T2, X2, e2, st2⟩ := getS2 X1 hx hZ hown (host := "") (Or.inl (hw _ (List.mem_of_getElem? (i := 28) rfl))) Via.refl e1 S_cache (g := (mkF m 13 #[.val (.int i)] [])) rfl (hb hby d4_13)
  refine own_go (fun tt_ kk_ => st2 tt_ kk_) ?_
  show Go p.tables e below _ (T2.setTop (mkF m 16 #[.val (.int i)] [(.ref ca)]))
  refine own_go (fun tt_ kk_ => XS.iloadN X2.here hx rfl (hb hby d4_16) rfl kk_) ?_
  show Go p.tables e below _ (T2.setTop (mkF m 17 #[.val (.int i)] [(.int i), (.ref ca)]))
  refine own_go (fun tt_ kk_ => XS.sipush X2.here hx rfl (hb hby d4_17) kk_) ?_
  show Go p.tables e below _ (T2.setTop (mkF m 20 #[.val (.int i)] [(.int (128 : Int32)), (.int i), (.ref ca)]))
  refine own_go (fun tt_ kk_ => XS.iadd X2.here hx rfl (hb hby d4_20) rfl kk_) ?_
  show Go p.tables e below _ (T2.setTop (mkF m 21 #[.val (.int i)] [(.int (i + (128 : Int32))), (.ref ca)]))
  refine own_go (fun tt_ kk_ => X2.aaload hx (j := (i + (128 : Int32))) (v := (.ref w)) (by rw [e2]; exact Ar.1) (State.isArrayOf_alike hZ.alike Ar.2.1) rfl Ar.2.2 hin hat (g := (mkF m 21 #[.val (.int i)] [(.int (i + (128 : Int32))), (.ref ca)])) rfl rfl (hb hby d4_21) tt_ kk_) ?_
  show Go p.tables e below _ (T2.setTop (mkF m 22 #[.val (.int i)] [(.ref w)]))
  exact own_ret X2 hx hlk Bd.returns rfl (Or.inr (Or.inr (Or.inr (Or.inr ⟨rfl, rfl, rfl⟩)))) (hb hby d4_22) ⟨rfl, N0, e2⟩ (by decide) (by decide)
theorem own_cnt_mono {vs : Nat → Value} {i : Nat} : ∀ j, i ≤ j → own_cnt vs i ≤ own_cnt vs j
  | 0, h => by have : i = 0 := by omega
               subst this; exact Nat.le_refl _
  | j + 1, h => by
    by_cases q : i = j + 1
    · subst q; exact Nat.le_refl _
    · exact Nat.le_trans (own_cnt_mono j (by omega)) (Nat.le_add_right _ _)
theorem own_cnt_step {vs : Nat → Value} {i : Nat} (h : vs i ≠ .null) : own_cnt vs (i + 1) = own_cnt vs i + 1 := by
  show own_cnt vs i + _ = _
  rw [if_neg h]
theorem own_cnt_skip {vs : Nat → Value} {i : Nat} (h : vs i = .null) : own_cnt vs (i + 1) = own_cnt vs i := by
  show own_cnt vs i + _ = _
  rw [if_pos h]; rfl
theorem own_cnt_lt {vs : Nat → Value} {i m : Nat} (h : vs i ≠ .null) (hi : i < m) : own_cnt vs i < own_cnt vs m := by
  have := own_cnt_mono (vs := vs) m (show i + 1 ≤ m by omega)
  rw [own_cnt_step h] at this
  omega
theorem own_cnt_surj {vs : Nat → Value} {j : Nat} : ∀ m, j < own_cnt vs m → ∃ i, i < m ∧ vs i ≠ .null ∧ own_cnt vs i = j
  | 0, h => absurd h (Nat.not_lt_zero _)
  | m + 1, h => by
    by_cases q : vs m = .null
    · rw [own_cnt_skip q] at h
      obtain ⟨i, h1, h2⟩ := own_cnt_surj m h
      exact ⟨i, by omega, h2⟩
    · rw [own_cnt_step q] at h
      by_cases r : j < own_cnt vs m
      · obtain ⟨i, h1, h2⟩ := own_cnt_surj m r
        exact ⟨i, by omega, h2⟩
      · exact ⟨m, by omega, q, by omega⟩
theorem own_cnt_inj {vs : Nat → Value} {i j : Nat} (hi : vs i ≠ .null) (hj : vs j ≠ .null) (h : own_cnt vs i = own_cnt vs j) : i = j := by
  rcases Nat.lt_trichotomy i j with q | q | q
  · have := own_cnt_lt hi q; omega
  · exact q
  · have := own_cnt_lt hj q; omega
theorem own_Map.off {Z : State} {h h' : Heap} {n0 : Nat} {b ka va : Addr} {ks : Nat → Int64} {vs : Nat → Value} {n : Nat} {ia : Addr} {sl : Nat} {v : Value} (M : own_Map Z h n0 b ka va ks vs n) (W : Wr h h' ia sl v) (h1 : b ≠ ia) (h2 : ka ≠ ia) (h3 : va ≠ ia) : own_Map Z h' n0 b ka va ks vs n := by
  obtain ⟨A, B, ⟨F1, F2, F3, F4⟩, ⟨ck, K1, K2⟩, ⟨cv, V1, V2⟩, D⟩ := M
  exact ⟨A, B.wr W, ⟨F1.other W (Or.inl h1), F2.other W (Or.inl h1), F3.other W (Or.inl h1), F4.other W (Or.inl h1)⟩, ⟨ck, K1.other W h2, K2⟩, ⟨cv, V1.other W h3, V2⟩, fun i hi => (D i hi).imp id fun ⟨w, q, r⟩ => ⟨w, q, r.wr W⟩⟩
theorem ix_lt16 : ∀ i, i < 16 → ix i < 16 := by decide
theorem ix_in8 {c n : Nat} {cl : Cell} (h : c < n) (hn : n < 8) (hs : cl.slots.size = n) : ¬ (ix c < 0 ∨ cl.slots.size ≤ (ix c).toNatClampNeg) := by rw [hs]; exact within rfl h (by omega)
theorem own_slotsN {c : Cell} {f : Nat → Value} {i n : Nat} {v : Value} (hs : c.slots.size = n) (H : ∀ j, j < n → c.slots[j]? = some (f j)) (hi : i < n) : (c.setSlot i v).slots.size = n ∧ ∀ j, j < n → (c.setSlot i v).slots[j]? = some (own_upd f i v j) := by
  refine ⟨by rw [sz_set]; exact hs, fun j hj => ?_⟩
  by_cases q : j = i
  · subst q
    rw [own_upd_same]
    simp [Cell.setSlot, hs, hj]
  · rw [own_upd_ne _ _ q]
    show (c.slots.setIfInBounds i v)[j]? = _
    rw [Array.getElem?_setIfInBounds_ne (Ne.symm q)]
    exact H j hj
/-- what ids leaves -/
def own_QJ (Z : State) (n0 hs : Nat) (G : Int64 → Value) (n : Nat) (v : Option Value) (h : Heap) (L : List Loc) : Prop :=
  ∃ (ia : Addr) (ci : Cell) (out : Nat → Int64), v = some (.ref ia) ∧ Fr n0 L ∧ (Old Z n0 h ∧ hs ≤ h.size) ∧ Arr Z h ia ci .long ∧ ci.slots.size = n ∧ (∀ j, j < n → ci.slots[j]? = some (.long (out j))) ∧ (∀ j, j < n → G (out j) ≠ .null) ∧ (∀ i, i < n → ∀ j, j < n → out i = out j → i = j)
theorem own_ids {hm : Int64 → Nat} {ks : Nat → Int64} {vs : Nat → Value} {G : Int64 → Value} {n : Nat} {out : Nat → Int64} (R : own_Rep hm ks vs G n) (H : ∀ i, i < 16 → vs i ≠ .null → out (own_cnt vs i) = ks i) : (∀ j, j < n → G (out j) ≠ .null) ∧ (∀ i, i < n → ∀ j, j < n → out i = out j → i = j) := by
  have key : ∀ j, j < n → ∃ i, i < 16 ∧ vs i ≠ .null ∧ own_cnt vs i = j ∧ out j = ks i := fun j hj => by
    rw [← R.2.2.2] at hj
    obtain ⟨i, h1, h2, h3⟩ := own_cnt_surj 16 hj
    exact ⟨i, h1, h2, h3, by rw [← h3]; exact H i h1 h2⟩
  refine ⟨fun j hj => ?_, fun a ha c hc e => ?_⟩
  · obtain ⟨i, h1, h2, h3, h4⟩ := key j hj
    rw [h4, R.2.1 i h1 h2]; exact h2
  · obtain ⟨i, h1, h2, h3, h4⟩ := key a ha
    obtain ⟨i', k1, k2, k3, k4⟩ := key c hc
    have : i = i' := R.1.2 i i' h1 k1 h2 k2 (by rw [← h4, ← k4, e])
    subst this
    rw [← h3, ← k3]
def own_T (x a b c : Int64) : Int32 := if x = a then 1 else if x = b then 1 else if x = c then 1 else 0
def own_expd (x a b c : Int64) (rem : Int32) (r : Int64) : Int32 := if rem = 0 then own_T x a b c else if x = r then 0 else own_T x a b c
theorem own_T_one {x a b c : Int64} (h : x = a ∨ x = b ∨ x = c) : own_T x a b c = 1 := by
  unfold own_T
  by_cases q : x = a
  · rw [if_pos q]
  · rw [if_neg q]
    by_cases r : x = b
    · rw [if_pos r]
    · rw [if_neg r]
      rcases h with h | h | h
      · exact absurd h q
      · exact absurd h r
      · rw [if_pos h]
theorem own_expd_one {x a b c r : Int64} {rem : Int32} (h : x = a ∨ x = b ∨ x = c) (hr : rem = 0 ∨ ¬ x = r) : own_expd x a b c rem r = 1 := by
  unfold own_expd
  by_cases q : rem = 0
  · rw [if_pos q]; exact own_T_one h
  · rw [if_neg q, if_neg (hr.resolve_left q)]; exact own_T_one h
theorem own_has3 {a b c q : Int64} {u v w : Addr} : own_upd (own_upd (own_upd (fun _ => Value.null) a (.ref u)) b (.ref v)) c (.ref w) q = .null ↔ ¬ (q = a ∨ q = b ∨ q = c) := by
  rw [own_come, own_come, own_come]
  constructor
  · rintro ⟨h3, h2, h1, -⟩ (h | h | h)
    · exact h1 h
    · exact h2 h
    · exact h3 h
  · intro h; exact ⟨fun z => h (Or.inr (Or.inr z)), fun z => h (Or.inr (Or.inl z)), fun z => h (Or.inl z), rfl⟩
def own_dn3 (a b c : Int64) : Nat := 1 + (if b = a then 0 else 1) + (if c = a then 0 else if c = b then 0 else 1)
theorem own_count3 {a b c : Int64} {w1 w2 : Addr} {G0 G1 G2 : Int64 → Value} {n1 n2 n3 : Nat} (g0 : G0 = fun _ => .null) (g1 : G1 = own_upd G0 a (.ref w1)) (g2 : G2 = own_upd G1 b (.ref w2))
    (h1 : n1 = if G0 a = .null then 0 + 1 else 0) (h2 : n2 = if G1 b = .null then n1 + 1 else n1) (h3 : n3 = if G2 c = .null then n2 + 1 else n2) : n3 = own_dn3 a b c := by
  subst g0 g1 g2
  rw [if_pos rfl] at h1
  have e2 : n2 = n1 + (if b = a then 0 else 1) := by
    rw [h2]
    by_cases q : b = a
    · rw [if_pos q, if_neg (fun z => (own_come.mp z).1 q)]; rfl
    · rw [if_neg q, if_pos (own_come.mpr ⟨q, rfl⟩)]
  have e3 : n3 = n2 + (if c = a then 0 else if c = b then 0 else 1) := by
    rw [h3]
    by_cases q : c = a
    · rw [if_pos q, if_neg (fun z => (own_come.mp (own_come.mp z).2).1 q)]; rfl
    · by_cases r : c = b
      · rw [if_neg q, if_pos r, if_neg (fun z => (own_come.mp z).1 r)]; rfl
      · rw [if_neg q, if_neg r, if_pos (own_come.mpr ⟨r, own_come.mpr ⟨q, rfl⟩⟩)]
  rw [e3, e2, h1]
  unfold own_dn3
  omega
theorem d9_0 : decode prog_24_method_8_code 0 = .ok (.aload_n 0, 1) := by decide +kernel
theorem d9_1 : decode prog_24_method_8_code 1 = .ok (.getfield 13, 3) := by decide +kernel
theorem d9_4 : decode prog_24_method_8_code 4 = .ok (.newarray .long, 2) := by decide +kernel
theorem d9_6 : decode prog_24_method_8_code 6 = .ok (.astore_n 1, 1) := by decide +kernel
theorem d9_7 : decode prog_24_method_8_code 7 = .ok (.iconst 0, 1) := by decide +kernel
theorem d9_8 : decode prog_24_method_8_code 8 = .ok (.istore_n 2, 1) := by decide +kernel
theorem d9_9 : decode prog_24_method_8_code 9 = .ok (.iconst 0, 1) := by decide +kernel
theorem d9_10 : decode prog_24_method_8_code 10 = .ok (.istore_n 3, 1) := by decide +kernel
theorem d9_11 : decode prog_24_method_8_code 11 = .ok (.iload_n 3, 1) := by decide +kernel
theorem d9_12 : decode prog_24_method_8_code 12 = .ok (.aload_n 0, 1) := by decide +kernel
theorem d9_13 : decode prog_24_method_8_code 13 = .ok (.getfield 35, 3) := by decide +kernel
theorem d9_16 : decode prog_24_method_8_code 16 = .ok (.arraylength, 1) := by decide +kernel
theorem d9_17 : decode prog_24_method_8_code 17 = .ok (.if_icmp .ge 30, 3) := by decide +kernel
theorem d9_20 : decode prog_24_method_8_code 20 = .ok (.aload_n 0, 1) := by decide +kernel
theorem d9_21 : decode prog_24_method_8_code 21 = .ok (.getfield 35, 3) := by decide +kernel
theorem d9_24 : decode prog_24_method_8_code 24 = .ok (.iload_n 3, 1) := by decide +kernel
theorem d9_25 : decode prog_24_method_8_code 25 = .ok (.aaload, 1) := by decide +kernel
theorem d9_26 : decode prog_24_method_8_code 26 = .ok (.ifnull 15, 3) := by decide +kernel
theorem d9_29 : decode prog_24_method_8_code 29 = .ok (.aload_n 1, 1) := by decide +kernel
theorem d9_30 : decode prog_24_method_8_code 30 = .ok (.iload_n 2, 1) := by decide +kernel
theorem d9_31 : decode prog_24_method_8_code 31 = .ok (.iinc 2 1, 3) := by decide +kernel
theorem d9_34 : decode prog_24_method_8_code 34 = .ok (.aload_n 0, 1) := by decide +kernel
theorem d9_35 : decode prog_24_method_8_code 35 = .ok (.getfield 39, 3) := by decide +kernel
theorem d9_38 : decode prog_24_method_8_code 38 = .ok (.iload_n 3, 1) := by decide +kernel
theorem d9_39 : decode prog_24_method_8_code 39 = .ok (.laload, 1) := by decide +kernel
theorem d9_40 : decode prog_24_method_8_code 40 = .ok (.lastore, 1) := by decide +kernel
theorem d9_41 : decode prog_24_method_8_code 41 = .ok (.iinc 3 1, 3) := by decide +kernel
theorem d9_44 : decode prog_24_method_8_code 44 = .ok (.goto (-33), 3) := by decide +kernel
theorem d9_47 : decode prog_24_method_8_code 47 = .ok (.aload_n 1, 1) := by decide +kernel
theorem d9_48 : decode prog_24_method_8_code 48 = .ok (.areturn, 1) := by decide +kernel
theorem ef_rm_ids (m : MethodId) (x0 : Addr) : entryFrame m #[(.ref x0)] 4 = mkF m 0 #[.val (.ref x0), .unset, .unset, .unset] [] := by first | (simp [entryFrame, mkF, argsToLocals, Value.category]; done) | rfl
set_option maxRecDepth 65536 in
set_option maxHeartbeats 40000000 in
theorem rm_ids (l : Launch) (Z : State) (a0 : Array Value) (hw : ∀ d ∈ tables_1, d.before a0 Z = true) (ws : List Jvm.Cond) (b ka va : Addr) (ks : Nat → Int64) (vs : Nat → Value) (G : Int64 → Value) (n : Nat) (h0 : Heap) (n0 : Nat) (M : own_Map Z h0 n0 b ka va ks vs n) (RR : own_Rep own_hm ks vs G n) (hn : n < 8) (OO : Old Z n0 h0) (Z0 : n0 ≤ h0.size) :
    MetFree l (⟨"com/example/rootlet/rootlet/IdMap", "ids", "()[J"⟩ : MethodName) (head1 (Jvm.Cond.code (⟨"com/example/rootlet/rootlet/IdMap", "ids", "()[J"⟩ : MethodName) prog_24_method_8_code 4 (some (.array .long)) :: ws) ({ frames := 0, cells := 1, slots := 8, locals := 0 } : Room)) (fun aa U => aa = #[(.ref b)] ∧ Z.Warmed39 U.vm ∧ U.heap = h0) (fun _ _ _ _ _ => True) (fun _ U o U' => ∃ v_ L_, o = .returned v_ ∧ own_QJ Z n0 h0.size G n v_ U'.heap L_ ∧ FrameEnd U o U' L_ ({ frames := 0, cells := 1, slots := 8, locals := 0 } : Room).cells ({ frames := 0, cells := 1, slots := 8, locals := 0 } : Room).slots) := by
  refine MetFree.of_bodySF (plainFor_of_name pn_0) hisR ?_
  intro p e s m args below meth c s₁ Bd hml0 hP hK
  obtain ⟨rfl, hZ, hh⟩ := hP
  have hx := Bd.exec
  have hby := Bd.bytes
  have hlk := Bd.notSynchronized
  have hml : c.maxLocals = 4 := hml0
  have hown : s.vm.findClass "com/example/rootlet/rootlet/IdMap" = some m.cls := by have q := findClass_of_methodNamed Bd.named; exact q
  have X0 : Stand p l e ({ frames := 0, cells := 1, slots := 8, locals := 0 } : Room) s m #[(.ref b)] below meth c s₁ [] 0 0 := Stand.of_body Bd
  have e0 : s₁.heap = h0 := by rw [← hh, Bd.state]; rfl
  have N0 := Fr.nil n0
  show Go p.tables e below (Fin s below (own_QJ Z n0 h0.size G n) ({ frames := 0, cells := 1, slots := 8, locals := 0 } : Room).cells ({ frames := 0, cells := 1, slots := 8, locals := 0 } : Room).slots) (s₁.setTop (entryFrame m #[(.ref b)] 4))
  refine own_go (fun tt_ kk_ => castTop (ef_rm_ids m b) kk_) ?_
  show Go p.tables e below _ (s₁.setTop (mkF m 0 #[.val (.ref b), .unset, .unset, .unset] []))
  have MM := M
  obtain ⟨AA, EX, ⟨Fk, Fv, Fm, Fs⟩, ⟨ck, K1, K2, K3⟩, ⟨cv, V1, V2, V3, V4⟩, DD⟩ := MM
  refine own_go (fun tt_ kk_ => XS.aloadN X0.here hx rfl (hb hby d9_0) rfl rfl kk_) ?_
  show Go p.tables e below _ (s₁.setTop (mkF m 1 #[.val (.ref b), .unset, .unset, .unset] [(.ref b)]))
  obtain ⟨T6, X6, e6, st6⟩ := getF X0 hx hZ hown (host := "") (Or.inl (hw _ (List.mem_of_getElem? (i := 52) rfl))) Via.refl e0 Fs (g := (mkF m 1 #[.val (.ref b), .unset, .unset, .unset] [(.ref b)])) rfl rfl (hb hby d9_1)
  refine own_go (fun tt_ kk_ => st6 tt_ kk_) ?_
  show Go p.tables e below _ (T6.setTop (mkF m 4 #[.val (.ref b), .unset, .unset, .unset] [(.int (ix n))]))
  obtain ⟨T1, h1, kk1, X1, e1, Ex1, A1, st1⟩ := newP X6 hx hZ (hw _ (List.mem_of_getElem? (i := 17) rfl)) e6 (g := (mkF m 4 #[.val (.ref b), .unset, .unset, .unset] [(.int (ix n))])) rfl (hb hby d9_4) rfl (ix_nn n (by omega)) (cap := 8) (by rw [ix_clamp (show n < 16 by omega)]; omega) (by decide) (by decide) (by decide)
  obtain ⟨ia, gia⟩ : ∃ z, z = h0.size := ⟨_, rfl⟩
  rw [← gia] at A1 st1
  have gi0 : n0 ≤ ia := Nat.le_trans Z0 (Nat.le_of_eq gia.symm)
  have nb : b ≠ ia := Nat.ne_of_lt (Nat.lt_of_lt_of_eq EX.lt gia.symm)
  have nk : ka ≠ ia := Nat.ne_of_lt (Nat.lt_of_lt_of_eq K1.lt gia.symm)
  have nv : va ≠ ia := Nat.ne_of_lt (Nat.lt_of_lt_of_eq V1.lt gia.symm)
  have M1 := M.ext Ex1
  have O1 := OO.ext Ex1
  have sz1 : (newA kk1 .long (ix n)).slots.size = n := by rw [sz_new, ix_clamp (show n < 16 by omega)]
  have at1 : ∀ j, j < n → (newA kk1 .long (ix n)).slots[j]? = some (.long ((fun _ => 0 : Nat → Int64) j)) := fun j hj => by
    show (Array.replicate (ix n).toNatClampNeg (Value.long 0))[j]? = _
    rw [ix_clamp (show n < 16 by omega), Array.getElem?_replicate, if_pos hj]
  refine own_go (fun tt_ kk_ => st1 tt_ kk_) ?_
  show Go p.tables e below _ (T1.setTop (mkF m 6 #[.val (.ref b), .unset, .unset, .unset] [(.ref ia)]))
  refine own_go (fun tt_ kk_ => XS.astoreN X1.here hx rfl (hb hby d9_6) rfl rfl (l' := #[.val (.ref b), .val (.ref ia), .unset, .unset]) rfl kk_) ?_
  show Go p.tables e below _ (T1.setTop (mkF m 7 #[.val (.ref b), .val (.ref ia), .unset, .unset] []))
  refine own_go (fun tt_ kk_ => XS.iconst X1.here hx rfl (hb hby d9_7) kk_) ?_
  show Go p.tables e below _ (T1.setTop (mkF m 8 #[.val (.ref b), .val (.ref ia), .unset, .unset] [(.int (0 : Int32))]))
  refine own_go (fun tt_ kk_ => XS.istoreN X1.here hx rfl (hb hby d9_8) rfl (l' := #[.val (.ref b), .val (.ref ia), .val (.int (0 : Int32)), .unset]) rfl kk_) ?_
  show Go p.tables e below _ (T1.setTop (mkF m 9 #[.val (.ref b), .val (.ref ia), .val (.int (0 : Int32)), .unset] []))
  refine own_go (fun tt_ kk_ => XS.iconst X1.here hx rfl (hb hby d9_9) kk_) ?_
  show Go p.tables e below _ (T1.setTop (mkF m 10 #[.val (.ref b), .val (.ref ia), .val (.int (0 : Int32)), .unset] [(.int (0 : Int32))]))
  refine own_go (fun tt_ kk_ => XS.istoreN X1.here hx rfl (hb hby d9_10) rfl (l' := #[.val (.ref b), .val (.ref ia), .val (.int (0 : Int32)), .val (.int (0 : Int32))]) rfl kk_) ?_
  show Go p.tables e below _ (T1.setTop (mkF m 11 #[.val (.ref b), .val (.ref ia), .val (.int (0 : Int32)), .val (.int (0 : Int32))] []))
  have loop : ∀ f i, i + f = 16 → ∀ (T : State) (L : List Loc) (h : Heap) (ci : Cell) (out : Nat → Int64), Stand p l e ({ frames := 0, cells := 1, slots := 8, locals := 0 } : Room) s m #[(.ref b)] below meth c T L (0 + 1) (0 + 8) → Fr n0 L → T.heap = h → own_Map Z h n0 b ka va ks vs n → Old Z n0 h → h0.size ≤ h.size → Arr Z h ia ci .long → ci.slots.size = n → (∀ j, j < n → ci.slots[j]? = some (.long (out j))) → (∀ i', i' < i → vs i' ≠ .null → out (own_cnt vs i') = ks i') → Go p.tables e below (Fin s below (own_QJ Z n0 h0.size G n) ({ frames := 0, cells := 1, slots := 8, locals := 0 } : Room).cells ({ frames := 0, cells := 1, slots := 8, locals := 0 } : Room).slots) (T.setTop (mkF m 11 #[.val (.ref b), .val (.ref ia), .val (.int (ix (own_cnt vs i))), .val (.int (ix i))] [])) := by
    intro f
    induction f with
    | zero =>
      intro i hi16 T L h ci out X N e' M' O' hsz Ai szi hati hout
      obtain rfl : i = 16 := by omega
      have MMa := M'
      obtain ⟨AAa, EXa, ⟨Fka, Fva, Fma, Fsa⟩, ⟨cka, K1a, K2a, K3a⟩, ⟨cva, V1a, V2a, V3a, V4a⟩, DDa⟩ := MMa
      show Go p.tables e below _ (T.setTop (mkF m 11 #[.val (.ref b), .val (.ref ia), .val (.int (ix (own_cnt vs 16))), .val (.int (ix 16))] []))
      refine own_go (fun tt_ kk_ => XS.iloadN X.here hx rfl (hb hby d9_11) rfl kk_) ?_
      show Go p.tables e below _ (T.setTop (mkF m 12 #[.val (.ref b), .val (.ref ia), .val (.int (ix (own_cnt vs 16))), .val (.int (ix 16))] [(.int (ix 16))]))
      refine own_go (fun tt_ kk_ => XS.aloadN X.here hx rfl (hb hby d9_12) rfl rfl kk_) ?_
      show Go p.tables e below _ (T.setTop (mkF m 13 #[.val (.ref b), .val (.ref ia), .val (.int (ix (own_cnt vs 16))), .val (.int (ix 16))] [(.ref b), (.int (ix 16))]))
      obtain ⟨T7, X7, e7, st7⟩ := getF X hx hZ hown (host := "") (Or.inl (hw _ (List.mem_of_getElem? (i := 15) rfl))) Via.refl e' Fva (g := (mkF m 13 #[.val (.ref b), .val (.ref ia), .val (.int (ix (own_cnt vs 16))), .val (.int (ix 16))] [(.ref b), (.int (ix 16))])) rfl rfl (hb hby d9_13)
      refine own_go (fun tt_ kk_ => st7 tt_ kk_) ?_
      show Go p.tables e below _ (T7.setTop (mkF m 16 #[.val (.ref b), .val (.ref ia), .val (.int (ix (own_cnt vs 16))), .val (.int (ix 16))] [(.ref va), (.int (ix 16))]))
      refine own_go (fun tt_ kk_ => X7.arraylength hx (by rw [e7]; exact V1a.1) (State.isArrayOf_alike hZ.alike V1a.2.1) (g := (mkF m 16 #[.val (.ref b), .val (.ref ia), .val (.int (ix (own_cnt vs 16))), .val (.int (ix 16))] [(.ref va), (.int (ix 16))])) rfl rfl (hb hby d9_16) tt_ (by rw [(show cva.slots.size.toInt32 = 16 by rw [V2a]; rfl)]; exact kk_)) ?_
      show Go p.tables e below _ (T7.setTop (mkF m 17 #[.val (.ref b), .val (.ref ia), .val (.int (ix (own_cnt vs 16))), .val (.int (ix 16))] [(.int (16 : Int32)), (.int (ix 16))]))
      refine own_go (fun tt_ kk_ => XS.icmpYes X7.here hx rfl (pc0 := 17) (pc' := 47) rfl (hb hby d9_17) rfl (XT.ii_ge_t (by decide)) (by decide) (by decide) kk_) ?_
      show Go p.tables e below _ (T7.setTop (mkF m 47 #[.val (.ref b), .val (.ref ia), .val (.int (ix (own_cnt vs 16))), .val (.int (ix 16))] []))
      refine own_go (fun tt_ kk_ => XS.aloadN X7.here hx rfl (hb hby d9_47) rfl rfl kk_) ?_
      show Go p.tables e below _ (T7.setTop (mkF m 48 #[.val (.ref b), .val (.ref ia), .val (.int (ix (own_cnt vs 16))), .val (.int (ix 16))] [(.ref ia)]))
      exact own_ret X7 hx hlk Bd.returns rfl (Or.inr (Or.inr (Or.inr (Or.inr ⟨rfl, rfl, rfl⟩)))) (hb hby d9_48) ⟨ia, ci, out, rfl, N, by rw [e7]; exact ⟨O', hsz⟩, by rw [e7]; exact Ai, szi, hati, own_ids RR (fun i' hi' hv => hout i' hi' hv)⟩ (by decide) (by decide)
    | succ f ih =>
      intro i hi16 T L h ci out X N e' M' O' hsz Ai szi hati hout
      have hi : i < 16 := by omega
      have MMa := M'
      obtain ⟨AAa, EXa, ⟨Fka, Fva, Fma, Fsa⟩, ⟨cka, K1a, K2a, K3a⟩, ⟨cva, V1a, V2a, V3a, V4a⟩, DDa⟩ := MMa
      show Go p.tables e below _ (T.setTop (mkF m 11 #[.val (.ref b), .val (.ref ia), .val (.int (ix (own_cnt vs i))), .val (.int (ix i))] []))
      refine own_go (fun tt_ kk_ => XS.iloadN X.here hx rfl (hb hby d9_11) rfl kk_) ?_
      show Go p.tables e below _ (T.setTop (mkF m 12 #[.val (.ref b), .val (.ref ia), .val (.int (ix (own_cnt vs i))), .val (.int (ix i))] [(.int (ix i))]))
      refine own_go (fun tt_ kk_ => XS.aloadN X.here hx rfl (hb hby d9_12) rfl rfl kk_) ?_
      show Go p.tables e below _ (T.setTop (mkF m 13 #[.val (.ref b), .val (.ref ia), .val (.int (ix (own_cnt vs i))), .val (.int (ix i))] [(.ref b), (.int (ix i))]))
      obtain ⟨T8, X8, e8, st8⟩ := getF X hx hZ hown (host := "") (Or.inl (hw _ (List.mem_of_getElem? (i := 15) rfl))) Via.refl e' Fva (g := (mkF m 13 #[.val (.ref b), .val (.ref ia), .val (.int (ix (own_cnt vs i))), .val (.int (ix i))] [(.ref b), (.int (ix i))])) rfl rfl (hb hby d9_13)
      refine own_go (fun tt_ kk_ => st8 tt_ kk_) ?_
      show Go p.tables e below _ (T8.setTop (mkF m 16 #[.val (.ref b), .val (.ref ia), .val (.int (ix (own_cnt vs i))), .val (.int (ix i))] [(.ref va), (.int (ix i))]))
      refine own_go (fun tt_ kk_ => X8.arraylength hx (by rw [e8]; exact V1a.1) (State.isArrayOf_alike hZ.alike V1a.2.1) (g := (mkF m 16 #[.val (.ref b), .val (.ref ia), .val (.int (ix (own_cnt vs i))), .val (.int (ix i))] [(.ref va), (.int (ix i))])) rfl rfl (hb hby d9_16) tt_ (by rw [(show cva.slots.size.toInt32 = 16 by rw [V2a]; rfl)]; exact kk_)) ?_
      show Go p.tables e below _ (T8.setTop (mkF m 17 #[.val (.ref b), .val (.ref ia), .val (.int (ix (own_cnt vs i))), .val (.int (ix i))] [(.int (16 : Int32)), (.int (ix i))]))
      refine own_go (fun tt_ kk_ => XS.icmpNo X8.here hx rfl (hb hby d9_17) rfl (XT.ii_ge_f (ix_lt16 i hi)) kk_) ?_
      show Go p.tables e below _ (T8.setTop (mkF m 20 #[.val (.ref b), .val (.ref ia), .val (.int (ix (own_cnt vs i))), .val (.int (ix i))] []))
      refine own_go (fun tt_ kk_ => XS.aloadN X8.here hx rfl (hb hby d9_20) rfl rfl kk_) ?_
      show Go p.tables e below _ (T8.setTop (mkF m 21 #[.val (.ref b), .val (.ref ia), .val (.int (ix (own_cnt vs i))), .val (.int (ix i))] [(.ref b)]))
      obtain ⟨T9, X9, e9, st9⟩ := getF X8 hx hZ hown (host := "") (Or.inl (hw _ (List.mem_of_getElem? (i := 15) rfl))) Via.refl e8 Fva (g := (mkF m 21 #[.val (.ref b), .val (.ref ia), .val (.int (ix (own_cnt vs i))), .val (.int (ix i))] [(.ref b)])) rfl rfl (hb hby d9_21)
      refine own_go (fun tt_ kk_ => st9 tt_ kk_) ?_
      show Go p.tables e below _ (T9.setTop (mkF m 24 #[.val (.ref b), .val (.ref ia), .val (.int (ix (own_cnt vs i))), .val (.int (ix i))] [(.ref va)]))
      refine own_go (fun tt_ kk_ => XS.iloadN X9.here hx rfl (hb hby d9_24) rfl kk_) ?_
      show Go p.tables e below _ (T9.setTop (mkF m 25 #[.val (.ref b), .val (.ref ia), .val (.int (ix (own_cnt vs i))), .val (.int (ix i))] [(.int (ix i)), (.ref va)]))
      refine own_go (fun tt_ kk_ => X9.aaload hx (j := (ix i)) (v := (vs i)) (by rw [e9]; exact V1a.1) (State.isArrayOf_alike hZ.alike V1a.2.1) rfl V1a.2.2 (ix_in hi V2a) (by rw [ix_clamp hi]; exact V4a _ hi) (g := (mkF m 25 #[.val (.ref b), .val (.ref ia), .val (.int (ix (own_cnt vs i))), .val (.int (ix i))] [(.int (ix i)), (.ref va)])) rfl rfl (hb hby d9_25) tt_ kk_) ?_
      show Go p.tables e below _ (T9.setTop (mkF m 26 #[.val (.ref b), .val (.ref ia), .val (.int (ix (own_cnt vs i))), .val (.int (ix i))] [(vs i)]))
      by_cases hc10 : (vs i) = .null
      · refine own_go (fun tt_ kk_ => XT.nullYes X9.here hx rfl (pc0 := 26) (pc' := 41) rfl (hb hby d9_26) rfl hc10 (by decide) (by decide) kk_) ?_
        show Go p.tables e below _ (T9.setTop (mkF m 41 #[.val (.ref b), .val (.ref ia), .val (.int (ix (own_cnt vs i))), .val (.int (ix i))] []))
        refine own_go (fun tt_ kk_ => XS.iinc X9.here hx rfl (hb hby d9_41) rfl (l' := #[.val (.ref b), .val (.ref ia), .val (.int (ix (own_cnt vs i))), .val (.int ((ix i) + (1 : Int32)))]) rfl kk_) ?_
        show Go p.tables e below _ (T9.setTop (mkF m 44 #[.val (.ref b), .val (.ref ia), .val (.int (ix (own_cnt vs i))), .val (.int ((ix i) + (1 : Int32)))] []))
        refine own_go (fun tt_ kk_ => XS.goto X9.here hx rfl (pc0 := 44) (pc' := 11) rfl (hb hby d9_44) (by decide) (by decide) kk_) ?_
        show Go p.tables e below _ (T9.setTop (mkF m 11 #[.val (.ref b), .val (.ref ia), .val (.int (ix (own_cnt vs i))), .val (.int ((ix i) + (1 : Int32)))] []))
        rw [ix_succ, ← own_cnt_skip hc10]
        have ho : ∀ i', i' < i + 1 → vs i' ≠ .null → out (own_cnt vs i') = ks i' := by
          intro i' hi' hv'
          by_cases q : i' = i
          · subst q; exact absurd hc10 hv'
          · exact hout i' (by omega) hv'
        exact ih (i + 1) (by omega) T9 _ _ ci out X9 N e9 M' O' hsz Ai szi hati ho
      · refine own_go (fun tt_ kk_ => XT.nullNo X9.here hx rfl (hb hby d9_26) rfl (M'.isRef hi) hc10 kk_) ?_
        show Go p.tables e below _ (T9.setTop (mkF m 29 #[.val (.ref b), .val (.ref ia), .val (.int (ix (own_cnt vs i))), .val (.int (ix i))] []))
        refine own_go (fun tt_ kk_ => XS.aloadN X9.here hx rfl (hb hby d9_29) rfl rfl kk_) ?_
        show Go p.tables e below _ (T9.setTop (mkF m 30 #[.val (.ref b), .val (.ref ia), .val (.int (ix (own_cnt vs i))), .val (.int (ix i))] [(.ref ia)]))
        refine own_go (fun tt_ kk_ => XS.iloadN X9.here hx rfl (hb hby d9_30) rfl kk_) ?_
        show Go p.tables e below _ (T9.setTop (mkF m 31 #[.val (.ref b), .val (.ref ia), .val (.int (ix (own_cnt vs i))), .val (.int (ix i))] [(.int (ix (own_cnt vs i))), (.ref ia)]))
        refine own_go (fun tt_ kk_ => XS.iinc X9.here hx rfl (hb hby d9_31) rfl (l' := #[.val (.ref b), .val (.ref ia), .val (.int ((ix (own_cnt vs i)) + (1 : Int32))), .val (.int (ix i))]) rfl kk_) ?_
        show Go p.tables e below _ (T9.setTop (mkF m 34 #[.val (.ref b), .val (.ref ia), .val (.int ((ix (own_cnt vs i)) + (1 : Int32))), .val (.int (ix i))] [(.int (ix (own_cnt vs i))), (.ref ia)]))
        refine own_go (fun tt_ kk_ => XS.aloadN X9.here hx rfl (hb hby d9_34) rfl rfl kk_) ?_
        show Go p.tables e below _ (T9.setTop (mkF m 35 #[.val (.ref b), .val (.ref ia), .val (.int ((ix (own_cnt vs i)) + (1 : Int32))), .val (.int (ix i))] [(.ref b), (.int (ix (own_cnt vs i))), (.ref ia)]))
        obtain ⟨T11, X11, e11, st11⟩ := getF X9 hx hZ hown (host := "") (Or.inl (hw _ (List.mem_of_getElem? (i := 13) rfl))) Via.refl e9 Fka (g := (mkF m 35 #[.val (.ref b), .val (.ref ia), .val (.int ((ix (own_cnt vs i)) + (1 : Int32))), .val (.int (ix i))] [(.ref b), (.int (ix (own_cnt vs i))), (.ref ia)])) rfl rfl (hb hby d9_35)
        refine own_go (fun tt_ kk_ => st11 tt_ kk_) ?_
        show Go p.tables e below _ (T11.setTop (mkF m 38 #[.val (.ref b), .val (.ref ia), .val (.int ((ix (own_cnt vs i)) + (1 : Int32))), .val (.int (ix i))] [(.ref ka), (.int (ix (own_cnt vs i))), (.ref ia)]))
        refine own_go (fun tt_ kk_ => XS.iloadN X11.here hx rfl (hb hby d9_38) rfl kk_) ?_
        show Go p.tables e below _ (T11.setTop (mkF m 39 #[.val (.ref b), .val (.ref ia), .val (.int ((ix (own_cnt vs i)) + (1 : Int32))), .val (.int (ix i))] [(.int (ix i)), (.ref ka), (.int (ix (own_cnt vs i))), (.ref ia)]))
        refine own_go (fun tt_ kk_ => X11.laload hx (j := (ix i)) (v := (.long (ks i))) (by rw [e11]; exact K1a.1) (State.isArrayOf_alike hZ.alike K1a.2.1) K1a.2.2 (ix_in hi K2a) (by rw [ix_clamp hi]; exact K3a _ hi) (g := (mkF m 39 #[.val (.ref b), .val (.ref ia), .val (.int ((ix (own_cnt vs i)) + (1 : Int32))), .val (.int (ix i))] [(.int (ix i)), (.ref ka), (.int (ix (own_cnt vs i))), (.ref ia)])) rfl rfl (hb hby d9_39) tt_ kk_) ?_
        show Go p.tables e below _ (T11.setTop (mkF m 40 #[.val (.ref b), .val (.ref ia), .val (.int ((ix (own_cnt vs i)) + (1 : Int32))), .val (.int (ix i))] [(.long (ks i)), (.int (ix (own_cnt vs i))), (.ref ia)]))
        have cl12 : own_cnt vs i < n := by rw [← RR.2.2.2]; exact own_cnt_lt hc10 hi
        obtain ⟨T12, h12, X12, e12, W12, st12⟩ := stJ X11 hx hZ e11 Ai (j := ix (own_cnt vs i)) (ix_in8 cl12 hn szi) (g := (mkF m 40 #[.val (.ref b), .val (.ref ia), .val (.int ((ix (own_cnt vs i)) + (1 : Int32))), .val (.int (ix i))] [(.long (ks i)), (.int (ix (own_cnt vs i))), (.ref ia)])) rfl rfl (hb hby d9_40)
        have cc12 : (ix (own_cnt vs i)).toNatClampNeg = own_cnt vs i := ix_clamp (by omega)
        have N12 := Fr.snoc X12 N gi0
        have Aj := Ai.same W12
        rw [cc12] at Aj
        have sj := own_slotsN (f := fun j => .long (out j)) (v := .long (ks i)) szi hati cl12
        have M12 := M'.off W12 nb nk nv
        have O12 := O'.wr W12 gi0
        have sz12 : h0.size ≤ h12.size := by rw [W12.size]; exact hsz
        refine own_go (fun tt_ kk_ => st12 tt_ kk_) ?_
        show Go p.tables e below _ (T12.setTop (mkF m 41 #[.val (.ref b), .val (.ref ia), .val (.int ((ix (own_cnt vs i)) + (1 : Int32))), .val (.int (ix i))] []))
        refine own_go (fun tt_ kk_ => XS.iinc X12.here hx rfl (hb hby d9_41) rfl (l' := #[.val (.ref b), .val (.ref ia), .val (.int ((ix (own_cnt vs i)) + (1 : Int32))), .val (.int ((ix i) + (1 : Int32)))]) rfl kk_) ?_
        show Go p.tables e below _ (T12.setTop (mkF m 44 #[.val (.ref b), .val (.ref ia), .val (.int ((ix (own_cnt vs i)) + (1 : Int32))), .val (.int ((ix i) + (1 : Int32)))] []))
        refine own_go (fun tt_ kk_ => XS.goto X12.here hx rfl (pc0 := 44) (pc' := 11) rfl (hb hby d9_44) (by decide) (by decide) kk_) ?_
        show Go p.tables e below _ (T12.setTop (mkF m 11 #[.val (.ref b), .val (.ref ia), .val (.int ((ix (own_cnt vs i)) + (1 : Int32))), .val (.int ((ix i) + (1 : Int32)))] []))
        rw [ix_succ, ix_succ, ← own_cnt_step hc10]
        have hj' : ∀ j, j < n → (ci.setSlot (own_cnt vs i) (.long (ks i))).slots[j]? = some (.long (own_upd out (own_cnt vs i) (ks i) j)) := by
          intro j hj
          rw [sj.2 j hj]
          by_cases q : j = own_cnt vs i
          · subst q; rw [own_upd_same, own_upd_same]
          · rw [own_upd_ne _ _ q, own_upd_ne _ _ q]
        have ho : ∀ i', i' < i + 1 → vs i' ≠ .null → own_upd out (own_cnt vs i) (ks i) (own_cnt vs i') = ks i' := by
          intro i' hi' hv'
          by_cases q : i' = i
          · subst q; rw [own_upd_same]
          · have lt := own_cnt_lt hv' (show i' < i by omega)
            rw [own_upd_ne _ _ (by omega)]; exact hout i' (by omega) hv'
        exact ih (i + 1) (by omega) T12 _ _ _ (own_upd out (own_cnt vs i) (ks i)) X12 N12 e12 M12 O12 sz12 Aj sj.1 hj' ho
  exact loop 16 0 (by omega) T1 _ _ _ _ X1 N0 e1 M1 O1 Ex1.1 A1 sz1 at1 (fun i' hi' => absurd hi' (Nat.not_lt_zero _))
theorem d10_0 : decode method_2_code 0 = .ok (.iload 8, 2) := by decide +kernel
theorem d10_2 : decode method_2_code 2 = .ok (.ifCond .eq 12, 3) := by decide +kernel
theorem d10_5 : decode method_2_code 5 = .ok (.lload_n 0, 1) := by decide +kernel
theorem d10_6 : decode method_2_code 6 = .ok (.lload 9, 2) := by decide +kernel
theorem d10_8 : decode method_2_code 8 = .ok (.lcmp, 1) := by decide +kernel
theorem d10_9 : decode method_2_code 9 = .ok (.ifCond .ne 5, 3) := by decide +kernel
theorem d10_12 : decode method_2_code 12 = .ok (.iconst 0, 1) := by decide +kernel
theorem d10_13 : decode method_2_code 13 = .ok (.ireturn, 1) := by decide +kernel
theorem d10_14 : decode method_2_code 14 = .ok (.lload_n 0, 1) := by decide +kernel
theorem d10_15 : decode method_2_code 15 = .ok (.lload_n 2, 1) := by decide +kernel
theorem d10_16 : decode method_2_code 16 = .ok (.lcmp, 1) := by decide +kernel
theorem d10_17 : decode method_2_code 17 = .ok (.ifCond .eq 17, 3) := by decide +kernel
theorem d10_20 : decode method_2_code 20 = .ok (.lload_n 0, 1) := by decide +kernel
theorem d10_21 : decode method_2_code 21 = .ok (.lload 4, 2) := by decide +kernel
theorem d10_23 : decode method_2_code 23 = .ok (.lcmp, 1) := by decide +kernel
theorem d10_24 : decode method_2_code 24 = .ok (.ifCond .eq 10, 3) := by decide +kernel
theorem d10_27 : decode method_2_code 27 = .ok (.lload_n 0, 1) := by decide +kernel
theorem d10_28 : decode method_2_code 28 = .ok (.lload 6, 2) := by decide +kernel
theorem d10_30 : decode method_2_code 30 = .ok (.lcmp, 1) := by decide +kernel
theorem d10_31 : decode method_2_code 31 = .ok (.ifCond .ne 7, 3) := by decide +kernel
theorem d10_34 : decode method_2_code 34 = .ok (.iconst 1, 1) := by decide +kernel
theorem d10_35 : decode method_2_code 35 = .ok (.goto 4, 3) := by decide +kernel
theorem d10_38 : decode method_2_code 38 = .ok (.iconst 0, 1) := by decide +kernel
theorem d10_39 : decode method_2_code 39 = .ok (.ireturn, 1) := by decide +kernel
theorem pn_3 : plainName "com/example/rootlet/rootlet/IdMapIdsPinLaw" = true := by first | (simp [plainName, overriddenIn]; done) | decide +kernel
theorem ef_rm_expected (m : MethodId) (x0 : Int64) (x1 : Int64) (x2 : Int64) (x3 : Int64) (x4 : Int32) (x5 : Int64) : entryFrame m #[(.long x0), (.long x1), (.long x2), (.long x3), (.int x4), (.long x5)] 11 = mkF m 0 #[.val (.long x0), .second, .val (.long x1), .second, .val (.long x2), .second, .val (.long x3), .second, .val (.int x4), .val (.long x5), .second] [] := by first | (simp [entryFrame, mkF, argsToLocals, Value.category]; done) | rfl
set_option maxRecDepth 65536 in
set_option maxHeartbeats 40000000 in
theorem rm_expected (l : Launch) (Z : State) (a0 : Array Value) (hw : ∀ d ∈ tables_1, d.before a0 Z = true) (ws : List Jvm.Cond) (y1 y2 y3 y4 : Int64) (y5 : Int32) (y6 : Int64) (h0 : Heap) (n0 : Nat)  :
    MetFree l (⟨"com/example/rootlet/rootlet/IdMapIdsPinLaw", "expected", "(JJJJZJ)Z"⟩ : MethodName) (head1 (Jvm.Cond.code (⟨"com/example/rootlet/rootlet/IdMapIdsPinLaw", "expected", "(JJJJZJ)Z"⟩ : MethodName) method_2_code 11 (some .boolean) :: ws) ({ frames := 0, cells := 0, slots := 0, locals := 0 } : Room)) (fun aa U => aa = #[(.long y1), (.long y2), (.long y3), (.long y4), (.int y5), (.long y6)] ∧ Z.Warmed39 U.vm ∧ U.heap = h0) (fun _ _ _ _ _ => True) (fun _ U o U' => ∃ v_ L_, o = .returned v_ ∧ PQ (.int (own_expd y1 y2 y3 y4 y5 y6)) h0 n0 v_ U'.heap L_ ∧ FrameEnd U o U' L_ ({ frames := 0, cells := 0, slots := 0, locals := 0 } : Room).cells ({ frames := 0, cells := 0, slots := 0, locals := 0 } : Room).slots) := by
  refine MetFree.of_bodySF (plainFor_of_name pn_3) hisR ?_
  intro p e s m args below meth c s₁ Bd hml0 hP hK
  obtain ⟨rfl, hZ, hh⟩ := hP
  have hx := Bd.exec
  have hby := Bd.bytes
  have hlk := Bd.notSynchronized
  have hml : c.maxLocals = 11 := hml0
  have hown : s.vm.findClass "com/example/rootlet/rootlet/IdMapIdsPinLaw" = some m.cls := by have q := findClass_of_methodNamed Bd.named; exact q
  have X0 : Stand p l e ({ frames := 0, cells := 0, slots := 0, locals := 0 } : Room) s m #[(.long y1), (.long y2), (.long y3), (.long y4), (.int y5), (.long y6)] below meth c s₁ [] 0 0 := Stand.of_body Bd
  have e0 : s₁.heap = h0 := by rw [← hh, Bd.state]; rfl
  have N0 := Fr.nil n0
  show Go p.tables e below (Fin s below (PQ (.int (own_expd y1 y2 y3 y4 y5 y6)) h0 n0) ({ frames := 0, cells := 0, slots := 0, locals := 0 } : Room).cells ({ frames := 0, cells := 0, slots := 0, locals := 0 } : Room).slots) (s₁.setTop (entryFrame m #[(.long y1), (.long y2), (.long y3), (.long y4), (.int y5), (.long y6)] 11))
  refine own_go (fun tt_ kk_ => castTop (ef_rm_expected m y1 y2 y3 y4 y5 y6) kk_) ?_
  show Go p.tables e below _ (s₁.setTop (mkF m 0 #[.val (.long y1), .second, .val (.long y2), .second, .val (.long y3), .second, .val (.long y4), .second, .val (.int y5), .val (.long y6), .second] []))
  refine own_go (fun tt_ kk_ => XS.iload X0.here hx rfl (hb hby d10_0) rfl kk_) ?_
  show Go p.tables e below _ (s₁.setTop (mkF m 2 #[.val (.long y1), .second, .val (.long y2), .second, .val (.long y3), .second, .val (.long y4), .second, .val (.int y5), .val (.long y6), .second] [(.int y5)]))
  by_cases hc1 : y5 = 0
  · refine own_go (fun tt_ kk_ => XS.ifYes X0.here hx rfl (pc0 := 2) (pc' := 14) rfl (hb hby d10_2) rfl (XT.i0_eq_t hc1) (by decide) (by decide) kk_) ?_
    show Go p.tables e below _ (s₁.setTop (mkF m 14 #[.val (.long y1), .second, .val (.long y2), .second, .val (.long y3), .second, .val (.long y4), .second, .val (.int y5), .val (.long y6), .second] []))
    refine own_go (fun tt_ kk_ => XT.lloadN X0.here hx rfl (hb hby d10_14) rfl kk_) ?_
    show Go p.tables e below _ (s₁.setTop (mkF m 15 #[.val (.long y1), .second, .val (.long y2), .second, .val (.long y3), .second, .val (.long y4), .second, .val (.int y5), .val (.long y6), .second] [(.long y1)]))
    refine own_go (fun tt_ kk_ => XT.lloadN X0.here hx rfl (hb hby d10_15) rfl kk_) ?_
    show Go p.tables e below _ (s₁.setTop (mkF m 16 #[.val (.long y1), .second, .val (.long y2), .second, .val (.long y3), .second, .val (.long y4), .second, .val (.int y5), .val (.long y6), .second] [(.long y2), (.long y1)]))
    refine own_go (fun tt_ kk_ => XT.lcmp X0.here hx rfl (hb hby d10_16) rfl kk_) ?_
    show Go p.tables e below _ (s₁.setTop (mkF m 17 #[.val (.long y1), .second, .val (.long y2), .second, .val (.long y3), .second, .val (.long y4), .second, .val (.int y5), .val (.long y6), .second] [(.int (XT.cmpL y1 y2))]))
    by_cases hc2 : y1 = y2
    · refine own_go (fun tt_ kk_ => XS.ifYes X0.here hx rfl (pc0 := 17) (pc' := 34) rfl (hb hby d10_17) rfl (XT.ll_eq_t hc2) (by decide) (by decide) kk_) ?_
      show Go p.tables e below _ (s₁.setTop (mkF m 34 #[.val (.long y1), .second, .val (.long y2), .second, .val (.long y3), .second, .val (.long y4), .second, .val (.int y5), .val (.long y6), .second] []))
      refine own_go (fun tt_ kk_ => XS.iconst X0.here hx rfl (hb hby d10_34) kk_) ?_
      show Go p.tables e below _ (s₁.setTop (mkF m 35 #[.val (.long y1), .second, .val (.long y2), .second, .val (.long y3), .second, .val (.long y4), .second, .val (.int y5), .val (.long y6), .second] [(.int (1 : Int32))]))
      refine own_go (fun tt_ kk_ => XS.goto X0.here hx rfl (pc0 := 35) (pc' := 39) rfl (hb hby d10_35) (by decide) (by decide) kk_) ?_
      show Go p.tables e below _ (s₁.setTop (mkF m 39 #[.val (.long y1), .second, .val (.long y2), .second, .val (.long y3), .second, .val (.long y4), .second, .val (.int y5), .val (.long y6), .second] [(.int (1 : Int32))]))
      exact own_ret X0 hx hlk Bd.returns rfl (Or.inl ⟨rfl, Or.inr (Or.inl rfl), _, rfl⟩) (hb hby d10_39) ⟨congrArg (fun z => some (Value.int z)) (by rw [own_expd, if_pos hc1, own_T, if_pos hc2]), N0, e0⟩ (by decide) (by decide)
    · refine own_go (fun tt_ kk_ => XS.ifNo X0.here hx rfl (hb hby d10_17) rfl (XT.ll_eq_f hc2) kk_) ?_
      show Go p.tables e below _ (s₁.setTop (mkF m 20 #[.val (.long y1), .second, .val (.long y2), .second, .val (.long y3), .second, .val (.long y4), .second, .val (.int y5), .val (.long y6), .second] []))
      refine own_go (fun tt_ kk_ => XT.lloadN X0.here hx rfl (hb hby d10_20) rfl kk_) ?_
      show Go p.tables e below _ (s₁.setTop (mkF m 21 #[.val (.long y1), .second, .val (.long y2), .second, .val (.long y3), .second, .val (.long y4), .second, .val (.int y5), .val (.long y6), .second] [(.long y1)]))
      refine own_go (fun tt_ kk_ => XT.lload X0.here hx rfl (hb hby d10_21) rfl kk_) ?_
      show Go p.tables e below _ (s₁.setTop (mkF m 23 #[.val (.long y1), .second, .val (.long y2), .second, .val (.long y3), .second, .val (.long y4), .second, .val (.int y5), .val (.long y6), .second] [(.long y3), (.long y1)]))
      refine own_go (fun tt_ kk_ => XT.lcmp X0.here hx rfl (hb hby d10_23) rfl kk_) ?_
      show Go p.tables e below _ (s₁.setTop (mkF m 24 #[.val (.long y1), .second, .val (.long y2), .second, .val (.long y3), .second, .val (.long y4), .second, .val (.int y5), .val (.long y6), .second] [(.int (XT.cmpL y1 y3))]))
      by_cases hc3 : y1 = y3
      · refine own_go (fun tt_ kk_ => XS.ifYes X0.here hx rfl (pc0 := 24) (pc' := 34) rfl (hb hby d10_24) rfl (XT.ll_eq_t hc3) (by decide) (by decide) kk_) ?_
        show Go p.tables e below _ (s₁.setTop (mkF m 34 #[.val (.long y1), .second, .val (.long y2), .second, .val (.long y3), .second, .val (.long y4), .second, .val (.int y5), .val (.long y6), .second] []))
        refine own_go (fun tt_ kk_ => XS.iconst X0.here hx rfl (hb hby d10_34) kk_) ?_
        show Go p.tables e below _ (s₁.setTop (mkF m 35 #[.val (.long y1), .second, .val (.long y2), .second, .val (.long y3), .second, .val (.long y4), .second, .val (.int y5), .val (.long y6), .second] [(.int (1 : Int32))]))
        refine own_go (fun tt_ kk_ => XS.goto X0.here hx rfl (pc0 := 35) (pc' := 39) rfl (hb hby d10_35) (by decide) (by decide) kk_) ?_
        show Go p.tables e below _ (s₁.setTop (mkF m 39 #[.val (.long y1), .second, .val (.long y2), .second, .val (.long y3), .second, .val (.long y4), .second, .val (.int y5), .val (.long y6), .second] [(.int (1 : Int32))]))
        exact own_ret X0 hx hlk Bd.returns rfl (Or.inl ⟨rfl, Or.inr (Or.inl rfl), _, rfl⟩) (hb hby d10_39) ⟨congrArg (fun z => some (Value.int z)) (by rw [own_expd, if_pos hc1, own_T, if_neg hc2, if_pos hc3]), N0, e0⟩ (by decide) (by decide)
      · refine own_go (fun tt_ kk_ => XS.ifNo X0.here hx rfl (hb hby d10_24) rfl (XT.ll_eq_f hc3) kk_) ?_
        show Go p.tables e below _ (s₁.setTop (mkF m 27 #[.val (.long y1), .second, .val (.long y2), .second, .val (.long y3), .second, .val (.long y4), .second, .val (.int y5), .val (.long y6), .second] []))
        refine own_go (fun tt_ kk_ => XT.lloadN X0.here hx rfl (hb hby d10_27) rfl kk_) ?_
        show Go p.tables e below _ (s₁.setTop (mkF m 28 #[.val (.long y1), .second, .val (.long y2), .second, .val (.long y3), .second, .val (.long y4), .second, .val (.int y5), .val (.long y6), .second] [(.long y1)]))
        refine own_go (fun tt_ kk_ => XT.lload X0.here hx rfl (hb hby d10_28) rfl kk_) ?_
        show Go p.tables e below _ (s₁.setTop (mkF m 30 #[.val (.long y1), .second, .val (.long y2), .second, .val (.long y3), .second, .val (.long y4), .second, .val (.int y5), .val (.long y6), .second] [(.long y4), (.long y1)]))
        refine own_go (fun tt_ kk_ => XT.lcmp X0.here hx rfl (hb hby d10_30) rfl kk_) ?_
        show Go p.tables e below _ (s₁.setTop (mkF m 31 #[.val (.long y1), .second, .val (.long y2), .second, .val (.long y3), .second, .val (.long y4), .second, .val (.int y5), .val (.long y6), .second] [(.int (XT.cmpL y1 y4))]))
        by_cases hc4 : y1 = y4
        · refine own_go (fun tt_ kk_ => XS.ifNo X0.here hx rfl (hb hby d10_31) rfl (XT.ll_ne_f hc4) kk_) ?_
          show Go p.tables e below _ (s₁.setTop (mkF m 34 #[.val (.long y1), .second, .val (.long y2), .second, .val (.long y3), .second, .val (.long y4), .second, .val (.int y5), .val (.long y6), .second] []))
          refine own_go (fun tt_ kk_ => XS.iconst X0.here hx rfl (hb hby d10_34) kk_) ?_
          show Go p.tables e below _ (s₁.setTop (mkF m 35 #[.val (.long y1), .second, .val (.long y2), .second, .val (.long y3), .second, .val (.long y4), .second, .val (.int y5), .val (.long y6), .second] [(.int (1 : Int32))]))
          refine own_go (fun tt_ kk_ => XS.goto X0.here hx rfl (pc0 := 35) (pc' := 39) rfl (hb hby d10_35) (by decide) (by decide) kk_) ?_
          show Go p.tables e below _ (s₁.setTop (mkF m 39 #[.val (.long y1), .second, .val (.long y2), .second, .val (.long y3), .second, .val (.long y4), .second, .val (.int y5), .val (.long y6), .second] [(.int (1 : Int32))]))
          exact own_ret X0 hx hlk Bd.returns rfl (Or.inl ⟨rfl, Or.inr (Or.inl rfl), _, rfl⟩) (hb hby d10_39) ⟨congrArg (fun z => some (Value.int z)) (by rw [own_expd, if_pos hc1, own_T, if_neg hc2, if_neg hc3, if_pos hc4]), N0, e0⟩ (by decide) (by decide)
        · refine own_go (fun tt_ kk_ => XS.ifYes X0.here hx rfl (pc0 := 31) (pc' := 38) rfl (hb hby d10_31) rfl (XT.ll_ne_t hc4) (by decide) (by decide) kk_) ?_
          show Go p.tables e below _ (s₁.setTop (mkF m 38 #[.val (.long y1), .second, .val (.long y2), .second, .val (.long y3), .second, .val (.long y4), .second, .val (.int y5), .val (.long y6), .second] []))
          refine own_go (fun tt_ kk_ => XS.iconst X0.here hx rfl (hb hby d10_38) kk_) ?_
          show Go p.tables e below _ (s₁.setTop (mkF m 39 #[.val (.long y1), .second, .val (.long y2), .second, .val (.long y3), .second, .val (.long y4), .second, .val (.int y5), .val (.long y6), .second] [(.int (0 : Int32))]))
          exact own_ret X0 hx hlk Bd.returns rfl (Or.inl ⟨rfl, Or.inr (Or.inl rfl), _, rfl⟩) (hb hby d10_39) ⟨congrArg (fun z => some (Value.int z)) (by rw [own_expd, if_pos hc1, own_T, if_neg hc2, if_neg hc3, if_neg hc4]), N0, e0⟩ (by decide) (by decide)
  · refine own_go (fun tt_ kk_ => XS.ifNo X0.here hx rfl (hb hby d10_2) rfl (XT.i0_eq_f hc1) kk_) ?_
    show Go p.tables e below _ (s₁.setTop (mkF m 5 #[.val (.long y1), .second, .val (.long y2), .second, .val (.long y3), .second, .val (.long y4), .second, .val (.int y5), .val (.long y6), .second] []))
    refine own_go (fun tt_ kk_ => XT.lloadN X0.here hx rfl (hb hby d10_5) rfl kk_) ?_
    show Go p.tables e below _ (s₁.setTop (mkF m 6 #[.val (.long y1), .second, .val (.long y2), .second, .val (.long y3), .second, .val (.long y4), .second, .val (.int y5), .val (.long y6), .second] [(.long y1)]))
    refine own_go (fun tt_ kk_ => XT.lload X0.here hx rfl (hb hby d10_6) rfl kk_) ?_
    show Go p.tables e below _ (s₁.setTop (mkF m 8 #[.val (.long y1), .second, .val (.long y2), .second, .val (.long y3), .second, .val (.long y4), .second, .val (.int y5), .val (.long y6), .second] [(.long y6), (.long y1)]))
    refine own_go (fun tt_ kk_ => XT.lcmp X0.here hx rfl (hb hby d10_8) rfl kk_) ?_
    show Go p.tables e below _ (s₁.setTop (mkF m 9 #[.val (.long y1), .second, .val (.long y2), .second, .val (.long y3), .second, .val (.long y4), .second, .val (.int y5), .val (.long y6), .second] [(.int (XT.cmpL y1 y6))]))
    by_cases hc5 : y1 = y6
    · refine own_go (fun tt_ kk_ => XS.ifNo X0.here hx rfl (hb hby d10_9) rfl (XT.ll_ne_f hc5) kk_) ?_
      show Go p.tables e below _ (s₁.setTop (mkF m 12 #[.val (.long y1), .second, .val (.long y2), .second, .val (.long y3), .second, .val (.long y4), .second, .val (.int y5), .val (.long y6), .second] []))
      refine own_go (fun tt_ kk_ => XS.iconst X0.here hx rfl (hb hby d10_12) kk_) ?_
      show Go p.tables e below _ (s₁.setTop (mkF m 13 #[.val (.long y1), .second, .val (.long y2), .second, .val (.long y3), .second, .val (.long y4), .second, .val (.int y5), .val (.long y6), .second] [(.int (0 : Int32))]))
      exact own_ret X0 hx hlk Bd.returns rfl (Or.inl ⟨rfl, Or.inr (Or.inl rfl), _, rfl⟩) (hb hby d10_13) ⟨congrArg (fun z => some (Value.int z)) (by rw [own_expd, if_neg hc1, if_pos hc5]), N0, e0⟩ (by decide) (by decide)
    · refine own_go (fun tt_ kk_ => XS.ifYes X0.here hx rfl (pc0 := 9) (pc' := 14) rfl (hb hby d10_9) rfl (XT.ll_ne_t hc5) (by decide) (by decide) kk_) ?_
      show Go p.tables e below _ (s₁.setTop (mkF m 14 #[.val (.long y1), .second, .val (.long y2), .second, .val (.long y3), .second, .val (.long y4), .second, .val (.int y5), .val (.long y6), .second] []))
      refine own_go (fun tt_ kk_ => XT.lloadN X0.here hx rfl (hb hby d10_14) rfl kk_) ?_
      show Go p.tables e below _ (s₁.setTop (mkF m 15 #[.val (.long y1), .second, .val (.long y2), .second, .val (.long y3), .second, .val (.long y4), .second, .val (.int y5), .val (.long y6), .second] [(.long y1)]))
      refine own_go (fun tt_ kk_ => XT.lloadN X0.here hx rfl (hb hby d10_15) rfl kk_) ?_
      show Go p.tables e below _ (s₁.setTop (mkF m 16 #[.val (.long y1), .second, .val (.long y2), .second, .val (.long y3), .second, .val (.long y4), .second, .val (.int y5), .val (.long y6), .second] [(.long y2), (.long y1)]))
      refine own_go (fun tt_ kk_ => XT.lcmp X0.here hx rfl (hb hby d10_16) rfl kk_) ?_
      show Go p.tables e below _ (s₁.setTop (mkF m 17 #[.val (.long y1), .second, .val (.long y2), .second, .val (.long y3), .second, .val (.long y4), .second, .val (.int y5), .val (.long y6), .second] [(.int (XT.cmpL y1 y2))]))
      by_cases hc6 : y1 = y2
      · refine own_go (fun tt_ kk_ => XS.ifYes X0.here hx rfl (pc0 := 17) (pc' := 34) rfl (hb hby d10_17) rfl (XT.ll_eq_t hc6) (by decide) (by decide) kk_) ?_
        show Go p.tables e below _ (s₁.setTop (mkF m 34 #[.val (.long y1), .second, .val (.long y2), .second, .val (.long y3), .second, .val (.long y4), .second, .val (.int y5), .val (.long y6), .second] []))
        refine own_go (fun tt_ kk_ => XS.iconst X0.here hx rfl (hb hby d10_34) kk_) ?_
        show Go p.tables e below _ (s₁.setTop (mkF m 35 #[.val (.long y1), .second, .val (.long y2), .second, .val (.long y3), .second, .val (.long y4), .second, .val (.int y5), .val (.long y6), .second] [(.int (1 : Int32))]))
        refine own_go (fun tt_ kk_ => XS.goto X0.here hx rfl (pc0 := 35) (pc' := 39) rfl (hb hby d10_35) (by decide) (by decide) kk_) ?_
        show Go p.tables e below _ (s₁.setTop (mkF m 39 #[.val (.long y1), .second, .val (.long y2), .second, .val (.long y3), .second, .val (.long y4), .second, .val (.int y5), .val (.long y6), .second] [(.int (1 : Int32))]))
        exact own_ret X0 hx hlk Bd.returns rfl (Or.inl ⟨rfl, Or.inr (Or.inl rfl), _, rfl⟩) (hb hby d10_39) ⟨congrArg (fun z => some (Value.int z)) (by rw [own_expd, if_neg hc1, if_neg hc5, own_T, if_pos hc6]), N0, e0⟩ (by decide) (by decide)
      · refine own_go (fun tt_ kk_ => XS.ifNo X0.here hx rfl (hb hby d10_17) rfl (XT.ll_eq_f hc6) kk_) ?_
        show Go p.tables e below _ (s₁.setTop (mkF m 20 #[.val (.long y1), .second, .val (.long y2), .second, .val (.long y3), .second, .val (.long y4), .second, .val (.int y5), .val (.long y6), .second] []))
        refine own_go (fun tt_ kk_ => XT.lloadN X0.here hx rfl (hb hby d10_20) rfl kk_) ?_
        show Go p.tables e below _ (s₁.setTop (mkF m 21 #[.val (.long y1), .second, .val (.long y2), .second, .val (.long y3), .second, .val (.long y4), .second, .val (.int y5), .val (.long y6), .second] [(.long y1)]))
        refine own_go (fun tt_ kk_ => XT.lload X0.here hx rfl (hb hby d10_21) rfl kk_) ?_
        show Go p.tables e below _ (s₁.setTop (mkF m 23 #[.val (.long y1), .second, .val (.long y2), .second, .val (.long y3), .second, .val (.long y4), .second, .val (.int y5), .val (.long y6), .second] [(.long y3), (.long y1)]))
        refine own_go (fun tt_ kk_ => XT.lcmp X0.here hx rfl (hb hby d10_23) rfl kk_) ?_
        show Go p.tables e below _ (s₁.setTop (mkF m 24 #[.val (.long y1), .second, .val (.long y2), .second, .val (.long y3), .second, .val (.long y4), .second, .val (.int y5), .val (.long y6), .second] [(.int (XT.cmpL y1 y3))]))
        by_cases hc7 : y1 = y3
        · refine own_go (fun tt_ kk_ => XS.ifYes X0.here hx rfl (pc0 := 24) (pc' := 34) rfl (hb hby d10_24) rfl (XT.ll_eq_t hc7) (by decide) (by decide) kk_) ?_
          show Go p.tables e below _ (s₁.setTop (mkF m 34 #[.val (.long y1), .second, .val (.long y2), .second, .val (.long y3), .second, .val (.long y4), .second, .val (.int y5), .val (.long y6), .second] []))
          refine own_go (fun tt_ kk_ => XS.iconst X0.here hx rfl (hb hby d10_34) kk_) ?_
          show Go p.tables e below _ (s₁.setTop (mkF m 35 #[.val (.long y1), .second, .val (.long y2), .second, .val (.long y3), .second, .val (.long y4), .second, .val (.int y5), .val (.long y6), .second] [(.int (1 : Int32))]))
          refine own_go (fun tt_ kk_ => XS.goto X0.here hx rfl (pc0 := 35) (pc' := 39) rfl (hb hby d10_35) (by decide) (by decide) kk_) ?_
          show Go p.tables e below _ (s₁.setTop (mkF m 39 #[.val (.long y1), .second, .val (.long y2), .second, .val (.long y3), .second, .val (.long y4), .second, .val (.int y5), .val (.long y6), .second] [(.int (1 : Int32))]))
          exact own_ret X0 hx hlk Bd.returns rfl (Or.inl ⟨rfl, Or.inr (Or.inl rfl), _, rfl⟩) (hb hby d10_39) ⟨congrArg (fun z => some (Value.int z)) (by rw [own_expd, if_neg hc1, if_neg hc5, own_T, if_neg hc6, if_pos hc7]), N0, e0⟩ (by decide) (by decide)
        · refine own_go (fun tt_ kk_ => XS.ifNo X0.here hx rfl (hb hby d10_24) rfl (XT.ll_eq_f hc7) kk_) ?_
          show Go p.tables e below _ (s₁.setTop (mkF m 27 #[.val (.long y1), .second, .val (.long y2), .second, .val (.long y3), .second, .val (.long y4), .second, .val (.int y5), .val (.long y6), .second] []))
          refine own_go (fun tt_ kk_ => XT.lloadN X0.here hx rfl (hb hby d10_27) rfl kk_) ?_
          show Go p.tables e below _ (s₁.setTop (mkF m 28 #[.val (.long y1), .second, .val (.long y2), .second, .val (.long y3), .second, .val (.long y4), .second, .val (.int y5), .val (.long y6), .second] [(.long y1)]))
          refine own_go (fun tt_ kk_ => XT.lload X0.here hx rfl (hb hby d10_28) rfl kk_) ?_
          show Go p.tables e below _ (s₁.setTop (mkF m 30 #[.val (.long y1), .second, .val (.long y2), .second, .val (.long y3), .second, .val (.long y4), .second, .val (.int y5), .val (.long y6), .second] [(.long y4), (.long y1)]))
          refine own_go (fun tt_ kk_ => XT.lcmp X0.here hx rfl (hb hby d10_30) rfl kk_) ?_
          show Go p.tables e below _ (s₁.setTop (mkF m 31 #[.val (.long y1), .second, .val (.long y2), .second, .val (.long y3), .second, .val (.long y4), .second, .val (.int y5), .val (.long y6), .second] [(.int (XT.cmpL y1 y4))]))
          by_cases hc8 : y1 = y4
          · refine own_go (fun tt_ kk_ => XS.ifNo X0.here hx rfl (hb hby d10_31) rfl (XT.ll_ne_f hc8) kk_) ?_
            show Go p.tables e below _ (s₁.setTop (mkF m 34 #[.val (.long y1), .second, .val (.long y2), .second, .val (.long y3), .second, .val (.long y4), .second, .val (.int y5), .val (.long y6), .second] []))
            refine own_go (fun tt_ kk_ => XS.iconst X0.here hx rfl (hb hby d10_34) kk_) ?_
            show Go p.tables e below _ (s₁.setTop (mkF m 35 #[.val (.long y1), .second, .val (.long y2), .second, .val (.long y3), .second, .val (.long y4), .second, .val (.int y5), .val (.long y6), .second] [(.int (1 : Int32))]))
            refine own_go (fun tt_ kk_ => XS.goto X0.here hx rfl (pc0 := 35) (pc' := 39) rfl (hb hby d10_35) (by decide) (by decide) kk_) ?_
            show Go p.tables e below _ (s₁.setTop (mkF m 39 #[.val (.long y1), .second, .val (.long y2), .second, .val (.long y3), .second, .val (.long y4), .second, .val (.int y5), .val (.long y6), .second] [(.int (1 : Int32))]))
            exact own_ret X0 hx hlk Bd.returns rfl (Or.inl ⟨rfl, Or.inr (Or.inl rfl), _, rfl⟩) (hb hby d10_39) ⟨congrArg (fun z => some (Value.int z)) (by rw [own_expd, if_neg hc1, if_neg hc5, own_T, if_neg hc6, if_neg hc7, if_pos hc8]), N0, e0⟩ (by decide) (by decide)
          · refine own_go (fun tt_ kk_ => XS.ifYes X0.here hx rfl (pc0 := 31) (pc' := 38) rfl (hb hby d10_31) rfl (XT.ll_ne_t hc8) (by decide) (by decide) kk_) ?_
            show Go p.tables e below _ (s₁.setTop (mkF m 38 #[.val (.long y1), .second, .val (.long y2), .second, .val (.long y3), .second, .val (.long y4), .second, .val (.int y5), .val (.long y6), .second] []))
            refine own_go (fun tt_ kk_ => XS.iconst X0.here hx rfl (hb hby d10_38) kk_) ?_
            show Go p.tables e below _ (s₁.setTop (mkF m 39 #[.val (.long y1), .second, .val (.long y2), .second, .val (.long y3), .second, .val (.long y4), .second, .val (.int y5), .val (.long y6), .second] [(.int (0 : Int32))]))
            exact own_ret X0 hx hlk Bd.returns rfl (Or.inl ⟨rfl, Or.inr (Or.inl rfl), _, rfl⟩) (hb hby d10_39) ⟨congrArg (fun z => some (Value.int z)) (by rw [own_expd, if_neg hc1, if_neg hc5, own_T, if_neg hc6, if_neg hc7, if_neg hc8]), N0, e0⟩ (by decide) (by decide)
theorem own_old_le {Z : State} {n0 : Nat} {h : Heap} (O : Old Z n0 h) : n0 ≤ h.size := by rw [← O.1]; exact O.2.1
theorem pd_5 : parseMethodDescriptor "(I)Ljava/lang/Integer;" = some ⟨[.int], some (.object "java/lang/Integer")⟩ := by decide +kernel
theorem pd_6 : parseMethodDescriptor "(JLjava/lang/Object;)Ljava/lang/Object;" = some ⟨[.long, (.object "java/lang/Object")], some (.object "java/lang/Object")⟩ := by decide +kernel
theorem pd_7 : parseMethodDescriptor "(J)Ljava/lang/Object;" = some ⟨[.long], some (.object "java/lang/Object")⟩ := by decide +kernel
theorem pd_8 : parseMethodDescriptor "()[J" = some ⟨[], some (.array .long)⟩ := by decide +kernel
theorem pd_9 : parseMethodDescriptor "(JJJJZJ)Z" = some ⟨[.long, .long, .long, .long, .boolean, .long], some .boolean⟩ := by decide +kernel
theorem ef_rm_law (m : MethodId) (x0 : Int64) (x1 : Int64) (x2 : Int64) (x3 : Int32) : entryFrame m #[(.long x0), (.long x1), (.long x2), (.int x3)] maxLocals = mkF m 0 #[.val (.long x0), .second, .val (.long x1), .second, .val (.long x2), .second, .val (.int x3), .unset, .unset, .unset, .unset, .unset, .unset, .unset, .unset, .unset, .unset, .unset, .unset] [] := by first | (simp [entryFrame, mkF, argsToLocals, Value.category, maxLocals]; done) | rfl
set_option maxRecDepth 65536 in
set_option maxHeartbeats 40000000 in
theorem rm_law (l : Launch) (Z : State) (a0 : Array Value) (hw : ∀ d ∈ tables_1, d.before a0 Z = true) (ws : List Jvm.Cond) (x1 x2 x3 : Int64) (x4 : Int32) (ca : Addr) (ccl : Cell) (w_1 w_2 w_3 : Addr) (h0 : Heap) (n0 : Nat) (Z0 : n0 ≤ h0.size) (OO : Old Z n0 h0) (S_high : Sta Z Z.heap ICC "high" "I" (.int 127)) (S_cache : Sta Z Z.heap ICC "cache" "[Ljava/lang/Integer;" (.ref ca)) (Arc : Arr Z Z.heap ca ccl (.object "java/lang/Integer")) (hcl : ccl.slots.size = 256) (Bx_1 : ccl.slots[((1 : Int32) + 128).toNatClampNeg]? = some (.ref w_1)) (Ew_1 : Exa Z Z.heap w_1 "java/lang/Integer") (Bx_2 : ccl.slots[((2 : Int32) + 128).toNatClampNeg]? = some (.ref w_2)) (Ew_2 : Exa Z Z.heap w_2 "java/lang/Integer") (Bx_3 : ccl.slots[((3 : Int32) + 128).toNatClampNeg]? = some (.ref w_3)) (Ew_3 : Exa Z Z.heap w_3 "java/lang/Integer") :
    MetFree l x (head1 (Jvm.Cond.code x code maxLocals ret :: ws) room_1) (fun aa U => aa = #[(.long x1), (.long x2), (.long x3), (.int x4)] ∧ Z.Warmed39 U.vm ∧ U.heap = h0) (fun _ _ _ _ _ => True) (fun _ U o U' => ∃ v_ L_, o = .returned v_ ∧ LQ n0 v_ U'.heap L_ ∧ ReturnedEndW U o U' L_ room_1.cells room_1.slots) := by
  refine MetFree.of_bodySF (plainFor_of_name pn_3) hisR ?_
  intro p e s m args below meth c s₁ Bd hml0 hP hK
  obtain ⟨rfl, hZ, hh⟩ := hP
  have hx := Bd.exec
  have hby := Bd.bytes
  have hlk := Bd.notSynchronized
  have hml : c.maxLocals = 19 := hml0
  have hown : s.vm.findClass "com/example/rootlet/rootlet/IdMapIdsPinLaw" = some m.cls := by have q := findClass_of_methodNamed Bd.named; exact q
  have X0 : Stand p l e room_1 s m #[(.long x1), (.long x2), (.long x3), (.int x4)] below meth c s₁ [] 0 0 := Stand.of_body Bd
  have e0 : s₁.heap = h0 := by rw [← hh, Bd.state]; rfl
  have N0 := Fr.nil n0
  show Go p.tables e below (FinW s below (LQ n0) room_1.cells room_1.slots) (s₁.setTop (entryFrame m #[(.long x1), (.long x2), (.long x3), (.int x4)] maxLocals))
  refine own_go (fun tt_ kk_ => castTop (ef_rm_law m x1 x2 x3 x4) kk_) ?_
  show Go p.tables e below _ (s₁.setTop (mkF m 0 #[.val (.long x1), .second, .val (.long x2), .second, .val (.long x3), .second, .val (.int x4), .unset, .unset, .unset, .unset, .unset, .unset, .unset, .unset, .unset, .unset, .unset, .unset] []))
  refine own_go (fun tt_ kk_ => XT.lloadN X0.here hx rfl (hb hby at_0) rfl kk_) ?_
  show Go p.tables e below _ (s₁.setTop (mkF m 1 #[.val (.long x1), .second, .val (.long x2), .second, .val (.long x3), .second, .val (.int x4), .unset, .unset, .unset, .unset, .unset, .unset, .unset, .unset, .unset, .unset, .unset, .unset] [(.long x2)]))
  refine own_go (fun tt_ kk_ => XT.lstore X0.here hx rfl (hb hby at_1) rfl (l' := #[.val (.long x1), .second, .val (.long x2), .second, .val (.long x3), .second, .val (.int x4), .val (.long x2), .second, .unset, .unset, .unset, .unset, .unset, .unset, .unset, .unset, .unset, .unset]) rfl kk_) ?_
  show Go p.tables e below _ (s₁.setTop (mkF m 3 #[.val (.long x1), .second, .val (.long x2), .second, .val (.long x3), .second, .val (.int x4), .val (.long x2), .second, .unset, .unset, .unset, .unset, .unset, .unset, .unset, .unset, .unset, .unset] []))
  refine own_go (fun tt_ kk_ => XT.lload X0.here hx rfl (hb hby at_3) rfl kk_) ?_
  show Go p.tables e below _ (s₁.setTop (mkF m 5 #[.val (.long x1), .second, .val (.long x2), .second, .val (.long x3), .second, .val (.int x4), .val (.long x2), .second, .unset, .unset, .unset, .unset, .unset, .unset, .unset, .unset, .unset, .unset] [(.long x3)]))
  refine own_go (fun tt_ kk_ => XT.lstore X0.here hx rfl (hb hby at_5) rfl (l' := #[.val (.long x1), .second, .val (.long x2), .second, .val (.long x3), .second, .val (.int x4), .val (.long x2), .second, .val (.long x3), .second, .unset, .unset, .unset, .unset, .unset, .unset, .unset, .unset]) rfl kk_) ?_
  show Go p.tables e below _ (s₁.setTop (mkF m 7 #[.val (.long x1), .second, .val (.long x2), .second, .val (.long x3), .second, .val (.int x4), .val (.long x2), .second, .val (.long x3), .second, .unset, .unset, .unset, .unset, .unset, .unset, .unset, .unset] []))
  have J29 : ∀ y7a : Int64, Go p.tables e below (FinW s below (LQ n0) room_1.cells room_1.slots) (s₁.setTop (mkF m 29 #[.val (.long x1), .second, .val (.long x2), .second, .val (.long x3), .second, .val (.int x4), .val (.long y7a), .second, .val (.long x3), .second, .unset, .unset, .unset, .unset, .unset, .unset, .unset, .unset] [])) := by
    intro y7a
    show Go p.tables e below _ (s₁.setTop (mkF m 29 #[.val (.long x1), .second, .val (.long x2), .second, .val (.long x3), .second, .val (.int x4), .val (.long y7a), .second, .val (.long x3), .second, .unset, .unset, .unset, .unset, .unset, .unset, .unset, .unset] []))
    have J51 : ∀ y9a : Int64, Go p.tables e below (FinW s below (LQ n0) room_1.cells room_1.slots) (s₁.setTop (mkF m 51 #[.val (.long x1), .second, .val (.long x2), .second, .val (.long x3), .second, .val (.int x4), .val (.long y7a), .second, .val (.long y9a), .second, .unset, .unset, .unset, .unset, .unset, .unset, .unset, .unset] [])) := by
      intro y9a
      show Go p.tables e below _ (s₁.setTop (mkF m 51 #[.val (.long x1), .second, .val (.long x2), .second, .val (.long x3), .second, .val (.int x4), .val (.long y7a), .second, .val (.long y9a), .second, .unset, .unset, .unset, .unset, .unset, .unset, .unset, .unset] []))
      have J61 : ∀ y7 : Int64, Go p.tables e below (FinW s below (LQ n0) room_1.cells room_1.slots) (s₁.setTop (mkF m 61 #[.val (.long x1), .second, .val (.long x2), .second, .val (.long x3), .second, .val (.int x4), .val (.long y7), .second, .val (.long y9a), .second, .unset, .unset, .unset, .unset, .unset, .unset, .unset, .unset] [])) := by
        intro y7
        show Go p.tables e below _ (s₁.setTop (mkF m 61 #[.val (.long x1), .second, .val (.long x2), .second, .val (.long x3), .second, .val (.int x4), .val (.long y7), .second, .val (.long y9a), .second, .unset, .unset, .unset, .unset, .unset, .unset, .unset, .unset] []))
        have J84 : ∀ y9 : Int64, Go p.tables e below (FinW s below (LQ n0) room_1.cells room_1.slots) (s₁.setTop (mkF m 84 #[.val (.long x1), .second, .val (.long x2), .second, .val (.long x3), .second, .val (.int x4), .val (.long y7), .second, .val (.long y9), .second, .unset, .unset, .unset, .unset, .unset, .unset, .unset, .unset] [])) := by
          intro y9
          show Go p.tables e below _ (s₁.setTop (mkF m 84 #[.val (.long x1), .second, .val (.long x2), .second, .val (.long x3), .second, .val (.int x4), .val (.long y7), .second, .val (.long y9), .second, .unset, .unset, .unset, .unset, .unset, .unset, .unset, .unset] []))
          refine own_go (fun tt_ kk_ => XS.iload X0.here hx rfl (hb hby at_84) rfl kk_) ?_
          show Go p.tables e below _ (s₁.setTop (mkF m 86 #[.val (.long x1), .second, .val (.long x2), .second, .val (.long x3), .second, .val (.int x4), .val (.long y7), .second, .val (.long y9), .second, .unset, .unset, .unset, .unset, .unset, .unset, .unset, .unset] [(.int x4)]))
          refine own_go (fun tt_ kk_ => XS.iconst X0.here hx rfl (hb hby at_86) kk_) ?_
          show Go p.tables e below _ (s₁.setTop (mkF m 87 #[.val (.long x1), .second, .val (.long x2), .second, .val (.long x3), .second, .val (.int x4), .val (.long y7), .second, .val (.long y9), .second, .unset, .unset, .unset, .unset, .unset, .unset, .unset, .unset] [(.int (2 : Int32)), (.int x4)]))
          refine own_go (fun tt_ kk_ => XT.iushr X0.here hx rfl (hb hby at_87) rfl kk_) ?_
          show Go p.tables e below _ (s₁.setTop (mkF m 88 #[.val (.long x1), .second, .val (.long x2), .second, .val (.long x3), .second, .val (.int x4), .val (.long y7), .second, .val (.long y9), .second, .unset, .unset, .unset, .unset, .unset, .unset, .unset, .unset] [(.int (XT.ushr x4 (2 : Int32)))]))
          refine own_go (fun tt_ kk_ => XS.iconst X0.here hx rfl (hb hby at_88) kk_) ?_
          show Go p.tables e below _ (s₁.setTop (mkF m 89 #[.val (.long x1), .second, .val (.long x2), .second, .val (.long x3), .second, .val (.int x4), .val (.long y7), .second, .val (.long y9), .second, .unset, .unset, .unset, .unset, .unset, .unset, .unset, .unset] [(.int (3 : Int32)), (.int (XT.ushr x4 (2 : Int32)))]))
          refine own_go (fun tt_ kk_ => XS.iand X0.here hx rfl (hb hby at_89) rfl kk_) ?_
          show Go p.tables e below _ (s₁.setTop (mkF m 90 #[.val (.long x1), .second, .val (.long x2), .second, .val (.long x3), .second, .val (.int x4), .val (.long y7), .second, .val (.long y9), .second, .unset, .unset, .unset, .unset, .unset, .unset, .unset, .unset] [(.int ((XT.ushr x4 (2 : Int32)) &&& (3 : Int32)))]))
          refine own_go (fun tt_ kk_ => XS.istore X0.here hx rfl (hb hby at_90) rfl (l' := #[.val (.long x1), .second, .val (.long x2), .second, .val (.long x3), .second, .val (.int x4), .val (.long y7), .second, .val (.long y9), .second, .val (.int ((XT.ushr x4 (2 : Int32)) &&& (3 : Int32))), .unset, .unset, .unset, .unset, .unset, .unset, .unset]) rfl kk_) ?_
          show Go p.tables e below _ (s₁.setTop (mkF m 92 #[.val (.long x1), .second, .val (.long x2), .second, .val (.long x3), .second, .val (.int x4), .val (.long y7), .second, .val (.long y9), .second, .val (.int ((XT.ushr x4 (2 : Int32)) &&& (3 : Int32))), .unset, .unset, .unset, .unset, .unset, .unset, .unset] []))
          refine own_go (fun tt_ kk_ => XS.iload X0.here hx rfl (hb hby at_92) rfl kk_) ?_
          show Go p.tables e below _ (s₁.setTop (mkF m 94 #[.val (.long x1), .second, .val (.long x2), .second, .val (.long x3), .second, .val (.int x4), .val (.long y7), .second, .val (.long y9), .second, .val (.int ((XT.ushr x4 (2 : Int32)) &&& (3 : Int32))), .unset, .unset, .unset, .unset, .unset, .unset, .unset] [(.int ((XT.ushr x4 (2 : Int32)) &&& (3 : Int32)))]))
          by_cases hc1 : ((XT.ushr x4 (2 : Int32)) &&& (3 : Int32)) = 0
          · refine own_go (fun tt_ kk_ => XS.ifYes X0.here hx rfl (pc0 := 94) (pc' := 101) rfl (hb hby at_94) rfl (XT.i0_eq_t hc1) (by decide) (by decide) kk_) ?_
            show Go p.tables e below _ (s₁.setTop (mkF m 101 #[.val (.long x1), .second, .val (.long x2), .second, .val (.long x3), .second, .val (.int x4), .val (.long y7), .second, .val (.long y9), .second, .val (.int ((XT.ushr x4 (2 : Int32)) &&& (3 : Int32))), .unset, .unset, .unset, .unset, .unset, .unset, .unset] []))
            refine own_go (fun tt_ kk_ => XS.iconst X0.here hx rfl (hb hby at_101) kk_) ?_
            show Go p.tables e below _ (s₁.setTop (mkF m 102 #[.val (.long x1), .second, .val (.long x2), .second, .val (.long x3), .second, .val (.int x4), .val (.long y7), .second, .val (.long y9), .second, .val (.int ((XT.ushr x4 (2 : Int32)) &&& (3 : Int32))), .unset, .unset, .unset, .unset, .unset, .unset, .unset] [(.int (0 : Int32))]))
            refine own_go (fun tt_ kk_ => XS.istore X0.here hx rfl (hb hby at_102) rfl (l' := #[.val (.long x1), .second, .val (.long x2), .second, .val (.long x3), .second, .val (.int x4), .val (.long y7), .second, .val (.long y9), .second, .val (.int ((XT.ushr x4 (2 : Int32)) &&& (3 : Int32))), .val (.int (0 : Int32)), .unset, .unset, .unset, .unset, .unset, .unset]) rfl kk_) ?_
            show Go p.tables e below _ (s₁.setTop (mkF m 104 #[.val (.long x1), .second, .val (.long x2), .second, .val (.long x3), .second, .val (.int x4), .val (.long y7), .second, .val (.long y9), .second, .val (.int ((XT.ushr x4 (2 : Int32)) &&& (3 : Int32))), .val (.int (0 : Int32)), .unset, .unset, .unset, .unset, .unset, .unset] []))
            have J129 : ∀ y13 : Int64, Go p.tables e below (FinW s below (LQ n0) room_1.cells room_1.slots) (s₁.setTop (mkF m 129 #[.val (.long x1), .second, .val (.long x2), .second, .val (.long x3), .second, .val (.int x4), .val (.long y7), .second, .val (.long y9), .second, .val (.int ((XT.ushr x4 (2 : Int32)) &&& (3 : Int32))), .val (.int (0 : Int32)), .val (.long y13), .second, .unset, .unset, .unset, .unset] [])) := by
              intro y13
              show Go p.tables e below _ (s₁.setTop (mkF m 129 #[.val (.long x1), .second, .val (.long x2), .second, .val (.long x3), .second, .val (.int x4), .val (.long y7), .second, .val (.long y9), .second, .val (.int ((XT.ushr x4 (2 : Int32)) &&& (3 : Int32))), .val (.int (0 : Int32)), .val (.long y13), .second, .unset, .unset, .unset, .unset] []))
              obtain ⟨T2, h2, X2, e2, Ex2, A2, D2, -, st2⟩ := newO X0 hx hZ hown (hw _ (List.mem_of_getElem? (i := 0) rfl)) (hw _ (List.mem_of_getElem? (i := 1) rfl)) (hw _ (List.mem_of_getElem? (i := 2) rfl)) e0 (g := (mkF m 129 #[.val (.long x1), .second, .val (.long x2), .second, .val (.long x3), .second, .val (.int x4), .val (.long y7), .second, .val (.long y9), .second, .val (.int ((XT.ushr x4 (2 : Int32)) &&& (3 : Int32))), .val (.int (0 : Int32)), .val (.long y13), .second, .unset, .unset, .unset, .unset] [])) rfl (hb hby at_129) (by decide) (by decide)
              obtain ⟨b, gb⟩ : ∃ z, z = h0.size := ⟨_, rfl⟩
              rw [← gb] at A2 D2 st2
              have gb0 : n0 ≤ b := Nat.le_trans Z0 (Nat.le_of_eq gb.symm)
              have Z1 : n0 ≤ h2.size := Nat.le_trans Z0 Ex2.1
              have O2 := OO.ext Ex2
              refine own_go (fun tt_ kk_ => st2 tt_ kk_) ?_
              show Go p.tables e below _ (T2.setTop (mkF m 132 #[.val (.long x1), .second, .val (.long x2), .second, .val (.long x3), .second, .val (.int x4), .val (.long y7), .second, .val (.long y9), .second, .val (.int ((XT.ushr x4 (2 : Int32)) &&& (3 : Int32))), .val (.int (0 : Int32)), .val (.long y13), .second, .unset, .unset, .unset, .unset] [(.ref b)]))
              refine own_go (fun tt_ kk_ => XS.dup X2.here hx rfl (hb hby at_132) rfl rfl kk_) ?_
              show Go p.tables e below _ (T2.setTop (mkF m 133 #[.val (.long x1), .second, .val (.long x2), .second, .val (.long x3), .second, .val (.int x4), .val (.long y7), .second, .val (.long y9), .second, .val (.int ((XT.ushr x4 (2 : Int32)) &&& (3 : Int32))), .val (.int (0 : Int32)), .val (.long y13), .second, .unset, .unset, .unset, .unset] [(.ref b), (.ref b)]))
              obtain ⟨v3, _, ⟨T3, L3, k3, n3⟩, -, X3, ⟨Lc3, hQ3, l3, y3, z3⟩, st3⟩ := X2.specialBack hx (y := (⟨"com/example/rootlet/rootlet/IdMap", "<init>", "()V"⟩ : MethodName)) rfl hown (mvT hZ (hw _ (List.mem_of_getElem? (i := 3) rfl))) (mvT hZ (hw _ (List.mem_of_getElem? (i := 4) rfl))) (mvT hZ (hw _ (List.mem_of_getElem? (i := 5) rfl))) (by decide) (backOf (W := 1) (rm_init l Z a0 hw [] b h2 n0 A2 (D2 (Or.inl (hw _ (List.mem_of_getElem? (i := 14) rfl))) (ty := .array .long) (by decide)) (D2 (Or.inl (hw _ (List.mem_of_getElem? (i := 16) rfl))) (ty := .array OBJ) (by decide)) (D2 (Or.inl (hw _ (List.mem_of_getElem? (i := 21) rfl))) (ty := .int) (by decide)) (D2 (Or.inl (hw _ (List.mem_of_getElem? (i := 53) rfl))) (ty := .int) (by decide)) gb0 Z1 O2) hZ (hw _ (List.mem_of_getElem? (i := 5) rfl)) (hw _ (List.mem_of_getElem? (i := 2) rfl)) (by decide) (by decide)) (g := (mkF m 133 #[.val (.long x1), .second, .val (.long x2), .second, .val (.long x3), .second, .val (.int x4), .val (.long y7), .second, .val (.long y9), .second, .val (.int ((XT.ushr x4 (2 : Int32)) &&& (3 : Int32))), .val (.int (0 : Int32)), .val (.long y13), .second, .unset, .unset, .unset, .unset] [(.ref b), (.ref b)])) rfl (by rw [hml]; rfl) (Steps.refl _) (a := b) (argsL := []) (rest := [(.ref b)]) (lenOf pd_4 rfl) rfl (by show 2 * 0 + _ ≤ _; exact Nat.le_of_eq rfl) (hb hby at_133) (fun _ _ => ⟨rfl, e2, (by decide : (0 + 1) + 2 ≤ _), (by decide : (0 + 4) + 32 ≤ _)⟩)
              dsimp only [Pt.U, Pt.locs, Pt.cells, Pt.slots] at X3 l3 y3 z3 st3 hQ3
              subst y3 z3
              have XN3 : Stand p l e room_1 s m #[(.long x1), (.long x2), (.long x3), (.int x4)] below meth c T3 _ 3 36 := X3
              obtain ⟨hv3, N3q, O3, ka, va, MI3⟩ := hQ3
              subst hv3
              have N3 : Fr n0 L3 := by rw [l3]; exact Fr.app N0 N3q
              obtain ⟨G0, hG0⟩ : ∃ z : Int64 → Value, z = fun _ => .null := ⟨_, rfl⟩
              obtain ⟨ks0, vs0, M0, RR0⟩ : ∃ ks vs, own_Map Z T3.heap n0 b ka va ks vs 0 ∧ own_Rep own_hm ks vs G0 0 := ⟨_, _, MI3, by rw [hG0]; exact own_Rep_empty _⟩
              refine own_go (fun tt_ kk_ => st3.trans kk_) ?_
              show Go p.tables e below _ (T3.setTop (mkF m 136 #[.val (.long x1), .second, .val (.long x2), .second, .val (.long x3), .second, .val (.int x4), .val (.long y7), .second, .val (.long y9), .second, .val (.int ((XT.ushr x4 (2 : Int32)) &&& (3 : Int32))), .val (.int (0 : Int32)), .val (.long y13), .second, .unset, .unset, .unset, .unset] [(.ref b)]))
              refine own_go (fun tt_ kk_ => XS.astore XN3.here hx rfl (hb hby at_136) rfl rfl (l' := #[.val (.long x1), .second, .val (.long x2), .second, .val (.long x3), .second, .val (.int x4), .val (.long y7), .second, .val (.long y9), .second, .val (.int ((XT.ushr x4 (2 : Int32)) &&& (3 : Int32))), .val (.int (0 : Int32)), .val (.long y13), .second, .val (.ref b), .unset, .unset, .unset]) rfl kk_) ?_
              show Go p.tables e below _ (T3.setTop (mkF m 138 #[.val (.long x1), .second, .val (.long x2), .second, .val (.long x3), .second, .val (.int x4), .val (.long y7), .second, .val (.long y9), .second, .val (.int ((XT.ushr x4 (2 : Int32)) &&& (3 : Int32))), .val (.int (0 : Int32)), .val (.long y13), .second, .val (.ref b), .unset, .unset, .unset] []))
              refine own_go (fun tt_ kk_ => XS.aload XN3.here hx rfl (hb hby at_138) rfl rfl kk_) ?_
              show Go p.tables e below _ (T3.setTop (mkF m 140 #[.val (.long x1), .second, .val (.long x2), .second, .val (.long x3), .second, .val (.int x4), .val (.long y7), .second, .val (.long y9), .second, .val (.int ((XT.ushr x4 (2 : Int32)) &&& (3 : Int32))), .val (.int (0 : Int32)), .val (.long y13), .second, .val (.ref b), .unset, .unset, .unset] [(.ref b)]))
              refine own_go (fun tt_ kk_ => XT.lloadN XN3.here hx rfl (hb hby at_140) rfl kk_) ?_
              show Go p.tables e below _ (T3.setTop (mkF m 141 #[.val (.long x1), .second, .val (.long x2), .second, .val (.long x3), .second, .val (.int x4), .val (.long y7), .second, .val (.long y9), .second, .val (.int ((XT.ushr x4 (2 : Int32)) &&& (3 : Int32))), .val (.int (0 : Int32)), .val (.long y13), .second, .val (.ref b), .unset, .unset, .unset] [(.long x1), (.ref b)]))
              refine own_go (fun tt_ kk_ => XS.iconst XN3.here hx rfl (hb hby at_141) kk_) ?_
              show Go p.tables e below _ (T3.setTop (mkF m 142 #[.val (.long x1), .second, .val (.long x2), .second, .val (.long x3), .second, .val (.int x4), .val (.long y7), .second, .val (.long y9), .second, .val (.int ((XT.ushr x4 (2 : Int32)) &&& (3 : Int32))), .val (.int (0 : Int32)), .val (.long y13), .second, .val (.ref b), .unset, .unset, .unset] [(.int (1 : Int32)), (.long x1), (.ref b)]))
              obtain ⟨v4, _, ⟨T4, L4, k4, n4⟩, -, X4, ⟨Lc4, hQ4, l4, y4, z4⟩, st4⟩ := Jvm.LawKit.callS XN3 hx (y := (⟨"java/lang/Integer", "valueOf", "(I)Ljava/lang/Integer;"⟩ : MethodName)) hown (mvT hZ (hw _ (List.mem_of_getElem? (i := 22) rfl))) (mvT hZ (hw _ (List.mem_of_getElem? (i := 23) rfl))) (mvT hZ (hw _ (List.mem_of_getElem? (i := 24) rfl))) (mvT hZ (hw _ (List.mem_of_getElem? (i := 25) rfl))) (by decide) (backOf (W := 3) (rm_valueOf l Z a0 hw [] (1 : Int32) ca w_1 ccl T3.heap n0 (S_high.ext O3.2) (S_cache.ext O3.2) (Arc.ext O3.2) (by decide) (by decide) (by rw [hcl]; decide) Bx_1) hZ (hw _ (List.mem_of_getElem? (i := 25) rfl)) (hw _ (List.mem_of_getElem? (i := 24) rfl)) (by decide) (by decide)) (g := (mkF m 142 #[.val (.long x1), .second, .val (.long x2), .second, .val (.long x3), .second, .val (.int x4), .val (.long y7), .second, .val (.long y9), .second, .val (.int ((XT.ushr x4 (2 : Int32)) &&& (3 : Int32))), .val (.int (0 : Int32)), .val (.long y13), .second, .val (.ref b), .unset, .unset, .unset] [(.int (1 : Int32)), (.long x1), (.ref b)])) rfl (by rw [hml]; rfl) (argsL := [(.int (1 : Int32))]) (rest := [(.long x1), (.ref b)]) (lenOf pd_5 rfl) rfl (by show 2 * 0 + _ ≤ _; exact Nat.le_of_eq rfl) (hb hby at_142) (fun _ _ => ⟨rfl, rfl, (by decide : 3 + 0 ≤ _), (by decide : 36 + 0 ≤ _)⟩)
              dsimp only [Pt.U, Pt.locs, Pt.cells, Pt.slots] at X4 l4 y4 z4 st4 hQ4
              subst y4 z4
              have XN4 : Stand p l e room_1 s m #[(.long x1), (.long x2), (.long x3), (.int x4)] below meth c T4 _ 3 36 := X4
              obtain ⟨hv4, N4q, e4⟩ := hQ4
              subst hv4
              have N4 : Fr n0 L4 := by rw [l4]; exact Fr.app N3 N4q
              refine own_go (fun tt_ kk_ => st4 tt_ kk_) ?_
              show Go p.tables e below _ (T4.setTop (mkF m 145 #[.val (.long x1), .second, .val (.long x2), .second, .val (.long x3), .second, .val (.int x4), .val (.long y7), .second, .val (.long y9), .second, .val (.int ((XT.ushr x4 (2 : Int32)) &&& (3 : Int32))), .val (.int (0 : Int32)), .val (.long y13), .second, .val (.ref b), .unset, .unset, .unset] [(.ref w_1), (.long x1), (.ref b)]))
              obtain ⟨cq5, kq5, q5a, q5b, q5c⟩ := isOf hZ e4 M0.2.1
              obtain ⟨v5, _, ⟨T5, L5, k5, n5⟩, -, X5, sn5, sg5, ⟨Lc5, hQ5, l5, y5, z5⟩, st5⟩ := XN4.virtualBackS hx (y := (⟨"com/example/rootlet/rootlet/IdMap", "put", "(JLjava/lang/Object;)Ljava/lang/Object;"⟩ : MethodName)) (z := (⟨"com/example/rootlet/rootlet/IdMap", "put", "(JLjava/lang/Object;)Ljava/lang/Object;"⟩ : MethodName)) hown (mvT hZ (hw _ (List.mem_of_getElem? (i := 29) rfl))) (mvT hZ (hw _ (List.mem_of_getElem? (i := 30) rfl))) (notFace_of_selects (args := #[]) (mvT hZ (hw _ (List.mem_of_getElem? (i := 32) rfl)))) (mvT hZ (hw _ (List.mem_of_getElem? (i := 32) rfl))) (mvT hZ (hw _ (List.mem_of_getElem? (i := 31) rfl))) (by decide) (backOfS (W := 0) (rm_put l Z a0 hw [] b ka va ks0 vs0 G0 0 x1 w_1 T3.heap n0 M0 RR0 (by omega) O3 (Ew_1.ext O3.2)) hZ (hw _ (List.mem_of_getElem? (i := 33) rfl)) (hw _ (List.mem_of_getElem? (i := 2) rfl)) (by decide) (by decide)) q5a q5c (g := (mkF m 145 #[.val (.long x1), .second, .val (.long x2), .second, .val (.long x3), .second, .val (.int x4), .val (.long y7), .second, .val (.long y9), .second, .val (.int ((XT.ushr x4 (2 : Int32)) &&& (3 : Int32))), .val (.int (0 : Int32)), .val (.long y13), .second, .val (.ref b), .unset, .unset, .unset] [(.ref w_1), (.long x1), (.ref b)])) rfl (by rw [hml]; rfl) (Steps.refl _) (argsL := [(.long x1), (.ref w_1)]) (rest := []) (lenOf pd_6 rfl) rfl (by show 2 * 0 + _ ≤ _; exact Nat.le_of_eq rfl) (hb hby at_145) (fun _ _ => ⟨rfl, e4, (by decide : 3 + 2 ≤ _), (by decide : 36 + 24 ≤ _)⟩)
              dsimp only [Pt.U, Pt.locs, Pt.cells, Pt.slots] at X5 l5 y5 z5 st5 hQ5 sn5 sg5
              subst y5 z5
              obtain ⟨hv5, N5q, ⟨O5, sz5⟩, ks5, vs5, M5, RR5⟩ := hQ5
              subst hv5
              have N5 : Fr n0 L5 := by rw [l5]; exact Fr.app N4 N5q
              obtain ⟨G5, hG5⟩ : ∃ z, z = own_upd G0 x1 (.ref w_1) := ⟨_, rfl⟩
              obtain ⟨nn5, hn5⟩ : ∃ z, z = (if G0 x1 = .null then 0 + 1 else 0) := ⟨_, rfl⟩
              rw [← hn5] at M5 RR5
              rw [← hG5] at RR5
              have bd5 : nn5 ≤ 1 := by rw [hn5]; split <;> omega
              have hZ5 : Z.Warmed39 (s.setVm T5.vm).vm := State.Warmed39.trans hZ sn5.1
              have sq5 : s.Since T5.vm T5.heap.size := sn5
              have hown5 : (s.setVm T5.vm).vm.findClass "com/example/rootlet/rootlet/IdMapIdsPinLaw" = some m.cls := by rw [show (s.setVm T5.vm).vm = T5.vm from rfl, sn5.1.alike.findClass]; exact hown
              have Y5 : Stand p l e room_1 (s.setVm T5.vm) m #[(.long x1), (.long x2), (.long x3), (.int x4)] below meth c T5 _ 5 60 := X5
              refine own_go (fun tt_ kk_ => st5.trans kk_) ?_
              show Go p.tables e below _ (T5.setTop (mkF m 148 #[.val (.long x1), .second, .val (.long x2), .second, .val (.long x3), .second, .val (.int x4), .val (.long y7), .second, .val (.long y9), .second, .val (.int ((XT.ushr x4 (2 : Int32)) &&& (3 : Int32))), .val (.int (0 : Int32)), .val (.long y13), .second, .val (.ref b), .unset, .unset, .unset] [(G0 x1)]))
              refine own_go (fun tt_ kk_ => XT.pop Y5.here hx rfl (hb hby at_148) rfl (XT.cat1 (own_gref M0 RR0 _)) kk_) ?_
              show Go p.tables e below _ (T5.setTop (mkF m 149 #[.val (.long x1), .second, .val (.long x2), .second, .val (.long x3), .second, .val (.int x4), .val (.long y7), .second, .val (.long y9), .second, .val (.int ((XT.ushr x4 (2 : Int32)) &&& (3 : Int32))), .val (.int (0 : Int32)), .val (.long y13), .second, .val (.ref b), .unset, .unset, .unset] []))
              refine own_go (fun tt_ kk_ => XS.aload Y5.here hx rfl (hb hby at_149) rfl rfl kk_) ?_
              show Go p.tables e below _ (T5.setTop (mkF m 151 #[.val (.long x1), .second, .val (.long x2), .second, .val (.long x3), .second, .val (.int x4), .val (.long y7), .second, .val (.long y9), .second, .val (.int ((XT.ushr x4 (2 : Int32)) &&& (3 : Int32))), .val (.int (0 : Int32)), .val (.long y13), .second, .val (.ref b), .unset, .unset, .unset] [(.ref b)]))
              refine own_go (fun tt_ kk_ => XT.lload Y5.here hx rfl (hb hby at_151) rfl kk_) ?_
              show Go p.tables e below _ (T5.setTop (mkF m 153 #[.val (.long x1), .second, .val (.long x2), .second, .val (.long x3), .second, .val (.int x4), .val (.long y7), .second, .val (.long y9), .second, .val (.int ((XT.ushr x4 (2 : Int32)) &&& (3 : Int32))), .val (.int (0 : Int32)), .val (.long y13), .second, .val (.ref b), .unset, .unset, .unset] [(.long y7), (.ref b)]))
              refine own_go (fun tt_ kk_ => XS.iconst Y5.here hx rfl (hb hby at_153) kk_) ?_
              show Go p.tables e below _ (T5.setTop (mkF m 154 #[.val (.long x1), .second, .val (.long x2), .second, .val (.long x3), .second, .val (.int x4), .val (.long y7), .second, .val (.long y9), .second, .val (.int ((XT.ushr x4 (2 : Int32)) &&& (3 : Int32))), .val (.int (0 : Int32)), .val (.long y13), .second, .val (.ref b), .unset, .unset, .unset] [(.int (2 : Int32)), (.long y7), (.ref b)]))
              obtain ⟨v6, _, ⟨T6, L6, k6, n6⟩, -, X6, ⟨Lc6, hQ6, l6, y6, z6⟩, st6⟩ := Jvm.LawKit.callS Y5 hx (y := (⟨"java/lang/Integer", "valueOf", "(I)Ljava/lang/Integer;"⟩ : MethodName)) hown5 (mvT hZ5 (hw _ (List.mem_of_getElem? (i := 22) rfl))) (mvT hZ5 (hw _ (List.mem_of_getElem? (i := 23) rfl))) (mvT hZ5 (hw _ (List.mem_of_getElem? (i := 24) rfl))) (mvT hZ5 (hw _ (List.mem_of_getElem? (i := 25) rfl))) (by decide) (backOf (W := 3) (rm_valueOf l Z a0 hw [] (2 : Int32) ca w_2 ccl T5.heap n0 (S_high.ext O5.2) (S_cache.ext O5.2) (Arc.ext O5.2) (by decide) (by decide) (by rw [hcl]; decide) Bx_2) hZ5 (hw _ (List.mem_of_getElem? (i := 25) rfl)) (hw _ (List.mem_of_getElem? (i := 24) rfl)) (by decide) (by decide)) (g := (mkF m 154 #[.val (.long x1), .second, .val (.long x2), .second, .val (.long x3), .second, .val (.int x4), .val (.long y7), .second, .val (.long y9), .second, .val (.int ((XT.ushr x4 (2 : Int32)) &&& (3 : Int32))), .val (.int (0 : Int32)), .val (.long y13), .second, .val (.ref b), .unset, .unset, .unset] [(.int (2 : Int32)), (.long y7), (.ref b)])) rfl (by rw [hml]; rfl) (argsL := [(.int (2 : Int32))]) (rest := [(.long y7), (.ref b)]) (lenOf pd_5 rfl) rfl (by show 2 * 0 + _ ≤ _; exact Nat.le_of_eq rfl) (hb hby at_154) (fun _ _ => ⟨rfl, rfl, (by decide : 5 + 0 ≤ _), (by decide : 60 + 0 ≤ _)⟩)
              dsimp only [Pt.U, Pt.locs, Pt.cells, Pt.slots] at X6 l6 y6 z6 st6 hQ6
              subst y6 z6
              have XN6 : Stand p l e room_1 (s.setVm T5.vm) m #[(.long x1), (.long x2), (.long x3), (.int x4)] below meth c T6 _ 5 60 := X6
              obtain ⟨hv6, N6q, e6⟩ := hQ6
              subst hv6
              have N6 : Fr n0 L6 := by rw [l6]; exact Fr.app N5 N6q
              refine own_go (fun tt_ kk_ => st6 tt_ kk_) ?_
              show Go p.tables e below _ (T6.setTop (mkF m 157 #[.val (.long x1), .second, .val (.long x2), .second, .val (.long x3), .second, .val (.int x4), .val (.long y7), .second, .val (.long y9), .second, .val (.int ((XT.ushr x4 (2 : Int32)) &&& (3 : Int32))), .val (.int (0 : Int32)), .val (.long y13), .second, .val (.ref b), .unset, .unset, .unset] [(.ref w_2), (.long y7), (.ref b)]))
              obtain ⟨cq7, kq7, q7a, q7b, q7c⟩ := isOf hZ5 e6 M5.2.1
              obtain ⟨v7, _, ⟨T7, L7, k7, n7⟩, -, X7, sn7, sg7, ⟨Lc7, hQ7, l7, y7, z7⟩, st7⟩ := XN6.virtualBackS hx (y := (⟨"com/example/rootlet/rootlet/IdMap", "put", "(JLjava/lang/Object;)Ljava/lang/Object;"⟩ : MethodName)) (z := (⟨"com/example/rootlet/rootlet/IdMap", "put", "(JLjava/lang/Object;)Ljava/lang/Object;"⟩ : MethodName)) hown5 (mvT hZ5 (hw _ (List.mem_of_getElem? (i := 29) rfl))) (mvT hZ5 (hw _ (List.mem_of_getElem? (i := 30) rfl))) (notFace_of_selects (args := #[]) (mvT hZ5 (hw _ (List.mem_of_getElem? (i := 32) rfl)))) (mvT hZ5 (hw _ (List.mem_of_getElem? (i := 32) rfl))) (mvT hZ5 (hw _ (List.mem_of_getElem? (i := 31) rfl))) (by decide) (backOfS (W := 0) (rm_put l Z a0 hw [] b ka va ks5 vs5 G5 nn5 y7 w_2 T5.heap n0 M5 RR5 (by omega) O5 (Ew_2.ext O5.2)) hZ5 (hw _ (List.mem_of_getElem? (i := 33) rfl)) (hw _ (List.mem_of_getElem? (i := 2) rfl)) (by decide) (by decide)) q7a q7c (g := (mkF m 157 #[.val (.long x1), .second, .val (.long x2), .second, .val (.long x3), .second, .val (.int x4), .val (.long y7), .second, .val (.long y9), .second, .val (.int ((XT.ushr x4 (2 : Int32)) &&& (3 : Int32))), .val (.int (0 : Int32)), .val (.long y13), .second, .val (.ref b), .unset, .unset, .unset] [(.ref w_2), (.long y7), (.ref b)])) rfl (by rw [hml]; rfl) (Steps.refl _) (argsL := [(.long y7), (.ref w_2)]) (rest := []) (lenOf pd_6 rfl) rfl (by show 2 * 0 + _ ≤ _; exact Nat.le_of_eq rfl) (hb hby at_157) (fun _ _ => ⟨rfl, e6, (by decide : 5 + 2 ≤ _), (by decide : 60 + 24 ≤ _)⟩)
              dsimp only [Pt.U, Pt.locs, Pt.cells, Pt.slots] at X7 l7 y7 z7 st7 hQ7 sn7 sg7
              subst y7 z7
              obtain ⟨hv7, N7q, ⟨O7, sz7⟩, ks7, vs7, M7, RR7⟩ := hQ7
              subst hv7
              have N7 : Fr n0 L7 := by rw [l7]; exact Fr.app N6 N7q
              obtain ⟨G7, hG7⟩ : ∃ z, z = own_upd G5 y7 (.ref w_2) := ⟨_, rfl⟩
              obtain ⟨nn7, hn7⟩ : ∃ z, z = (if G5 y7 = .null then nn5 + 1 else nn5) := ⟨_, rfl⟩
              rw [← hn7] at M7 RR7
              rw [← hG7] at RR7
              have bd7 : nn7 ≤ 2 := by rw [hn7]; split <;> omega
              have hZ7 : Z.Warmed39 (s.setVm T7.vm).vm := State.Warmed39.trans (t := s.setVm T5.vm) hZ5 sn7.1
              have sq7 : s.Since T7.vm T7.heap.size := State.Since.trans sq5 sn7 (Nat.le_trans (by rw [e6]; exact (Nat.le_refl _)) sg7)
              have hown7 : (s.setVm T7.vm).vm.findClass "com/example/rootlet/rootlet/IdMapIdsPinLaw" = some m.cls := by rw [show (s.setVm T7.vm).vm = T7.vm from rfl, sn7.1.alike.findClass]; exact hown5
              have Y7 : Stand p l e room_1 (s.setVm T7.vm) m #[(.long x1), (.long x2), (.long x3), (.int x4)] below meth c T7 _ 7 84 := X7
              refine own_go (fun tt_ kk_ => st7.trans kk_) ?_
              show Go p.tables e below _ (T7.setTop (mkF m 160 #[.val (.long x1), .second, .val (.long x2), .second, .val (.long x3), .second, .val (.int x4), .val (.long y7), .second, .val (.long y9), .second, .val (.int ((XT.ushr x4 (2 : Int32)) &&& (3 : Int32))), .val (.int (0 : Int32)), .val (.long y13), .second, .val (.ref b), .unset, .unset, .unset] [(G5 y7)]))
              refine own_go (fun tt_ kk_ => XT.pop Y7.here hx rfl (hb hby at_160) rfl (XT.cat1 (own_gref M5 RR5 _)) kk_) ?_
              show Go p.tables e below _ (T7.setTop (mkF m 161 #[.val (.long x1), .second, .val (.long x2), .second, .val (.long x3), .second, .val (.int x4), .val (.long y7), .second, .val (.long y9), .second, .val (.int ((XT.ushr x4 (2 : Int32)) &&& (3 : Int32))), .val (.int (0 : Int32)), .val (.long y13), .second, .val (.ref b), .unset, .unset, .unset] []))
              refine own_go (fun tt_ kk_ => XS.aload Y7.here hx rfl (hb hby at_161) rfl rfl kk_) ?_
              show Go p.tables e below _ (T7.setTop (mkF m 163 #[.val (.long x1), .second, .val (.long x2), .second, .val (.long x3), .second, .val (.int x4), .val (.long y7), .second, .val (.long y9), .second, .val (.int ((XT.ushr x4 (2 : Int32)) &&& (3 : Int32))), .val (.int (0 : Int32)), .val (.long y13), .second, .val (.ref b), .unset, .unset, .unset] [(.ref b)]))
              refine own_go (fun tt_ kk_ => XT.lload Y7.here hx rfl (hb hby at_163) rfl kk_) ?_
              show Go p.tables e below _ (T7.setTop (mkF m 165 #[.val (.long x1), .second, .val (.long x2), .second, .val (.long x3), .second, .val (.int x4), .val (.long y7), .second, .val (.long y9), .second, .val (.int ((XT.ushr x4 (2 : Int32)) &&& (3 : Int32))), .val (.int (0 : Int32)), .val (.long y13), .second, .val (.ref b), .unset, .unset, .unset] [(.long y9), (.ref b)]))
              refine own_go (fun tt_ kk_ => XS.iconst Y7.here hx rfl (hb hby at_165) kk_) ?_
              show Go p.tables e below _ (T7.setTop (mkF m 166 #[.val (.long x1), .second, .val (.long x2), .second, .val (.long x3), .second, .val (.int x4), .val (.long y7), .second, .val (.long y9), .second, .val (.int ((XT.ushr x4 (2 : Int32)) &&& (3 : Int32))), .val (.int (0 : Int32)), .val (.long y13), .second, .val (.ref b), .unset, .unset, .unset] [(.int (3 : Int32)), (.long y9), (.ref b)]))
              obtain ⟨v8, _, ⟨T8, L8, k8, n8⟩, -, X8, ⟨Lc8, hQ8, l8, y8, z8⟩, st8⟩ := Jvm.LawKit.callS Y7 hx (y := (⟨"java/lang/Integer", "valueOf", "(I)Ljava/lang/Integer;"⟩ : MethodName)) hown7 (mvT hZ7 (hw _ (List.mem_of_getElem? (i := 22) rfl))) (mvT hZ7 (hw _ (List.mem_of_getElem? (i := 23) rfl))) (mvT hZ7 (hw _ (List.mem_of_getElem? (i := 24) rfl))) (mvT hZ7 (hw _ (List.mem_of_getElem? (i := 25) rfl))) (by decide) (backOf (W := 3) (rm_valueOf l Z a0 hw [] (3 : Int32) ca w_3 ccl T7.heap n0 (S_high.ext O7.2) (S_cache.ext O7.2) (Arc.ext O7.2) (by decide) (by decide) (by rw [hcl]; decide) Bx_3) hZ7 (hw _ (List.mem_of_getElem? (i := 25) rfl)) (hw _ (List.mem_of_getElem? (i := 24) rfl)) (by decide) (by decide)) (g := (mkF m 166 #[.val (.long x1), .second, .val (.long x2), .second, .val (.long x3), .second, .val (.int x4), .val (.long y7), .second, .val (.long y9), .second, .val (.int ((XT.ushr x4 (2 : Int32)) &&& (3 : Int32))), .val (.int (0 : Int32)), .val (.long y13), .second, .val (.ref b), .unset, .unset, .unset] [(.int (3 : Int32)), (.long y9), (.ref b)])) rfl (by rw [hml]; rfl) (argsL := [(.int (3 : Int32))]) (rest := [(.long y9), (.ref b)]) (lenOf pd_5 rfl) rfl (by show 2 * 0 + _ ≤ _; exact Nat.le_of_eq rfl) (hb hby at_166) (fun _ _ => ⟨rfl, rfl, (by decide : 7 + 0 ≤ _), (by decide : 84 + 0 ≤ _)⟩)
              dsimp only [Pt.U, Pt.locs, Pt.cells, Pt.slots] at X8 l8 y8 z8 st8 hQ8
              subst y8 z8
              have XN8 : Stand p l e room_1 (s.setVm T7.vm) m #[(.long x1), (.long x2), (.long x3), (.int x4)] below meth c T8 _ 7 84 := X8
              obtain ⟨hv8, N8q, e8⟩ := hQ8
              subst hv8
              have N8 : Fr n0 L8 := by rw [l8]; exact Fr.app N7 N8q
              refine own_go (fun tt_ kk_ => st8 tt_ kk_) ?_
              show Go p.tables e below _ (T8.setTop (mkF m 169 #[.val (.long x1), .second, .val (.long x2), .second, .val (.long x3), .second, .val (.int x4), .val (.long y7), .second, .val (.long y9), .second, .val (.int ((XT.ushr x4 (2 : Int32)) &&& (3 : Int32))), .val (.int (0 : Int32)), .val (.long y13), .second, .val (.ref b), .unset, .unset, .unset] [(.ref w_3), (.long y9), (.ref b)]))
              obtain ⟨cq9, kq9, q9a, q9b, q9c⟩ := isOf hZ7 e8 M7.2.1
              obtain ⟨v9, _, ⟨T9, L9, k9, n9⟩, -, X9, sn9, sg9, ⟨Lc9, hQ9, l9, y9, z9⟩, st9⟩ := XN8.virtualBackS hx (y := (⟨"com/example/rootlet/rootlet/IdMap", "put", "(JLjava/lang/Object;)Ljava/lang/Object;"⟩ : MethodName)) (z := (⟨"com/example/rootlet/rootlet/IdMap", "put", "(JLjava/lang/Object;)Ljava/lang/Object;"⟩ : MethodName)) hown7 (mvT hZ7 (hw _ (List.mem_of_getElem? (i := 29) rfl))) (mvT hZ7 (hw _ (List.mem_of_getElem? (i := 30) rfl))) (notFace_of_selects (args := #[]) (mvT hZ7 (hw _ (List.mem_of_getElem? (i := 32) rfl)))) (mvT hZ7 (hw _ (List.mem_of_getElem? (i := 32) rfl))) (mvT hZ7 (hw _ (List.mem_of_getElem? (i := 31) rfl))) (by decide) (backOfS (W := 0) (rm_put l Z a0 hw [] b ka va ks7 vs7 G7 nn7 y9 w_3 T7.heap n0 M7 RR7 (by omega) O7 (Ew_3.ext O7.2)) hZ7 (hw _ (List.mem_of_getElem? (i := 33) rfl)) (hw _ (List.mem_of_getElem? (i := 2) rfl)) (by decide) (by decide)) q9a q9c (g := (mkF m 169 #[.val (.long x1), .second, .val (.long x2), .second, .val (.long x3), .second, .val (.int x4), .val (.long y7), .second, .val (.long y9), .second, .val (.int ((XT.ushr x4 (2 : Int32)) &&& (3 : Int32))), .val (.int (0 : Int32)), .val (.long y13), .second, .val (.ref b), .unset, .unset, .unset] [(.ref w_3), (.long y9), (.ref b)])) rfl (by rw [hml]; rfl) (Steps.refl _) (argsL := [(.long y9), (.ref w_3)]) (rest := []) (lenOf pd_6 rfl) rfl (by show 2 * 0 + _ ≤ _; exact Nat.le_of_eq rfl) (hb hby at_169) (fun _ _ => ⟨rfl, e8, (by decide : 7 + 2 ≤ _), (by decide : 84 + 24 ≤ _)⟩)
              dsimp only [Pt.U, Pt.locs, Pt.cells, Pt.slots] at X9 l9 y9 z9 st9 hQ9 sn9 sg9
              subst y9 z9
              obtain ⟨hv9, N9q, ⟨O9, sz9⟩, ks9, vs9, M9, RR9⟩ := hQ9
              subst hv9
              have N9 : Fr n0 L9 := by rw [l9]; exact Fr.app N8 N9q
              obtain ⟨G9, hG9⟩ : ∃ z, z = own_upd G7 y9 (.ref w_3) := ⟨_, rfl⟩
              obtain ⟨nn9, hn9⟩ : ∃ z, z = (if G7 y9 = .null then nn7 + 1 else nn7) := ⟨_, rfl⟩
              rw [← hn9] at M9 RR9
              rw [← hG9] at RR9
              have bd9 : nn9 ≤ 3 := by rw [hn9]; split <;> omega
              have hZ9 : Z.Warmed39 (s.setVm T9.vm).vm := State.Warmed39.trans (t := s.setVm T7.vm) hZ7 sn9.1
              have sq9 : s.Since T9.vm T9.heap.size := State.Since.trans sq7 sn9 (Nat.le_trans (by rw [e8]; exact (Nat.le_refl _)) sg9)
              have hown9 : (s.setVm T9.vm).vm.findClass "com/example/rootlet/rootlet/IdMapIdsPinLaw" = some m.cls := by rw [show (s.setVm T9.vm).vm = T9.vm from rfl, sn9.1.alike.findClass]; exact hown7
              have Y9 : Stand p l e room_1 (s.setVm T9.vm) m #[(.long x1), (.long x2), (.long x3), (.int x4)] below meth c T9 _ 9 108 := X9
              refine own_go (fun tt_ kk_ => st9.trans kk_) ?_
              show Go p.tables e below _ (T9.setTop (mkF m 172 #[.val (.long x1), .second, .val (.long x2), .second, .val (.long x3), .second, .val (.int x4), .val (.long y7), .second, .val (.long y9), .second, .val (.int ((XT.ushr x4 (2 : Int32)) &&& (3 : Int32))), .val (.int (0 : Int32)), .val (.long y13), .second, .val (.ref b), .unset, .unset, .unset] [(G7 y9)]))
              refine own_go (fun tt_ kk_ => XT.pop Y9.here hx rfl (hb hby at_172) rfl (XT.cat1 (own_gref M7 RR7 _)) kk_) ?_
              show Go p.tables e below _ (T9.setTop (mkF m 173 #[.val (.long x1), .second, .val (.long x2), .second, .val (.long x3), .second, .val (.int x4), .val (.long y7), .second, .val (.long y9), .second, .val (.int ((XT.ushr x4 (2 : Int32)) &&& (3 : Int32))), .val (.int (0 : Int32)), .val (.long y13), .second, .val (.ref b), .unset, .unset, .unset] []))
              refine own_go (fun tt_ kk_ => XS.iload Y9.here hx rfl (hb hby at_173) rfl kk_) ?_
              show Go p.tables e below _ (T9.setTop (mkF m 175 #[.val (.long x1), .second, .val (.long x2), .second, .val (.long x3), .second, .val (.int x4), .val (.long y7), .second, .val (.long y9), .second, .val (.int ((XT.ushr x4 (2 : Int32)) &&& (3 : Int32))), .val (.int (0 : Int32)), .val (.long y13), .second, .val (.ref b), .unset, .unset, .unset] [(.int (0 : Int32))]))
              refine own_go (fun tt_ kk_ => XS.ifYes Y9.here hx rfl (pc0 := 175) (pc' := 186) rfl (hb hby at_175) rfl (XT.i0_eq_t (by decide)) (by decide) (by decide) kk_) ?_
              show Go p.tables e below _ (T9.setTop (mkF m 186 #[.val (.long x1), .second, .val (.long x2), .second, .val (.long x3), .second, .val (.int x4), .val (.long y7), .second, .val (.long y9), .second, .val (.int ((XT.ushr x4 (2 : Int32)) &&& (3 : Int32))), .val (.int (0 : Int32)), .val (.long y13), .second, .val (.ref b), .unset, .unset, .unset] []))
              refine own_go (fun tt_ kk_ => XS.aload Y9.here hx rfl (hb hby at_186) rfl rfl kk_) ?_
              show Go p.tables e below _ (T9.setTop (mkF m 188 #[.val (.long x1), .second, .val (.long x2), .second, .val (.long x3), .second, .val (.int x4), .val (.long y7), .second, .val (.long y9), .second, .val (.int ((XT.ushr x4 (2 : Int32)) &&& (3 : Int32))), .val (.int (0 : Int32)), .val (.long y13), .second, .val (.ref b), .unset, .unset, .unset] [(.ref b)]))
              obtain ⟨cq10, kq10, q10a, q10b, q10c⟩ := isOf hZ9 rfl M9.2.1
              obtain ⟨v10, _, ⟨T10, L10, k10, n10⟩, -, X10, ⟨Lc10, hQ10, l10, y10, z10⟩, st10⟩ := Y9.virtualBack hx (y := (⟨"com/example/rootlet/rootlet/IdMap", "ids", "()[J"⟩ : MethodName)) (z := (⟨"com/example/rootlet/rootlet/IdMap", "ids", "()[J"⟩ : MethodName)) hown9 (mvT hZ9 (hw _ (List.mem_of_getElem? (i := 59) rfl))) (mvT hZ9 (hw _ (List.mem_of_getElem? (i := 60) rfl))) (notFace_of_selects (args := #[]) (mvT hZ9 (hw _ (List.mem_of_getElem? (i := 62) rfl)))) (mvT hZ9 (hw _ (List.mem_of_getElem? (i := 62) rfl))) (mvT hZ9 (hw _ (List.mem_of_getElem? (i := 61) rfl))) (by decide) (backOf (W := 0) (rm_ids l Z a0 hw [] b ka va ks9 vs9 G9 nn9 T9.heap n0 M9 RR9 (by omega) O9 (own_old_le O9)) hZ9 (hw _ (List.mem_of_getElem? (i := 63) rfl)) (hw _ (List.mem_of_getElem? (i := 2) rfl)) (by decide) (by decide)) q10a q10c (g := (mkF m 188 #[.val (.long x1), .second, .val (.long x2), .second, .val (.long x3), .second, .val (.int x4), .val (.long y7), .second, .val (.long y9), .second, .val (.int ((XT.ushr x4 (2 : Int32)) &&& (3 : Int32))), .val (.int (0 : Int32)), .val (.long y13), .second, .val (.ref b), .unset, .unset, .unset] [(.ref b)])) rfl (by rw [hml]; rfl) (Steps.refl _) (argsL := []) (rest := []) (lenOf pd_8 rfl) rfl (by show 2 * 0 + _ ≤ _; exact Nat.le_of_eq rfl) (hb hby at_188) (fun _ _ => ⟨rfl, rfl, (by decide : 9 + 1 ≤ _), (by decide : 108 + 8 ≤ _)⟩)
              dsimp only [Pt.U, Pt.locs, Pt.cells, Pt.slots] at X10 l10 y10 z10 st10 hQ10
              subst y10 z10
              have XN10 : Stand p l e room_1 (s.setVm T9.vm) m #[(.long x1), (.long x2), (.long x3), (.int x4)] below meth c T10 _ 10 116 := X10
              obtain ⟨ia, ci, out, hv10, N10q, ⟨O10, sz10⟩, Ai, szi, hati, hout, hinj⟩ := hQ10
              subst hv10
              have N10 : Fr n0 L10 := by rw [l10]; exact Fr.app N9 N10q
              have kz10 : T9.heap.size ≤ T10.heap.size := Nat.le_trans (Nat.le_refl _) sz10
              refine own_go (fun tt_ kk_ => st10.trans kk_) ?_
              show Go p.tables e below _ (T10.setTop (mkF m 191 #[.val (.long x1), .second, .val (.long x2), .second, .val (.long x3), .second, .val (.int x4), .val (.long y7), .second, .val (.long y9), .second, .val (.int ((XT.ushr x4 (2 : Int32)) &&& (3 : Int32))), .val (.int (0 : Int32)), .val (.long y13), .second, .val (.ref b), .unset, .unset, .unset] [(.ref ia)]))
              refine own_go (fun tt_ kk_ => XS.astore XN10.here hx rfl (hb hby at_191) rfl rfl (l' := #[.val (.long x1), .second, .val (.long x2), .second, .val (.long x3), .second, .val (.int x4), .val (.long y7), .second, .val (.long y9), .second, .val (.int ((XT.ushr x4 (2 : Int32)) &&& (3 : Int32))), .val (.int (0 : Int32)), .val (.long y13), .second, .val (.ref b), .val (.ref ia), .unset, .unset]) rfl kk_) ?_
              show Go p.tables e below _ (T10.setTop (mkF m 193 #[.val (.long x1), .second, .val (.long x2), .second, .val (.long x3), .second, .val (.int x4), .val (.long y7), .second, .val (.long y9), .second, .val (.int ((XT.ushr x4 (2 : Int32)) &&& (3 : Int32))), .val (.int (0 : Int32)), .val (.long y13), .second, .val (.ref b), .val (.ref ia), .unset, .unset] []))
              refine own_go (fun tt_ kk_ => XS.iconst XN10.here hx rfl (hb hby at_193) kk_) ?_
              show Go p.tables e below _ (T10.setTop (mkF m 194 #[.val (.long x1), .second, .val (.long x2), .second, .val (.long x3), .second, .val (.int x4), .val (.long y7), .second, .val (.long y9), .second, .val (.int ((XT.ushr x4 (2 : Int32)) &&& (3 : Int32))), .val (.int (0 : Int32)), .val (.long y13), .second, .val (.ref b), .val (.ref ia), .unset, .unset] [(.int (1 : Int32))]))
              refine own_go (fun tt_ kk_ => XT.lload XN10.here hx rfl (hb hby at_194) rfl kk_) ?_
              show Go p.tables e below _ (T10.setTop (mkF m 196 #[.val (.long x1), .second, .val (.long x2), .second, .val (.long x3), .second, .val (.int x4), .val (.long y7), .second, .val (.long y9), .second, .val (.int ((XT.ushr x4 (2 : Int32)) &&& (3 : Int32))), .val (.int (0 : Int32)), .val (.long y13), .second, .val (.ref b), .val (.ref ia), .unset, .unset] [(.long y7), (.int (1 : Int32))]))
              refine own_go (fun tt_ kk_ => XT.lloadN XN10.here hx rfl (hb hby at_196) rfl kk_) ?_
              show Go p.tables e below _ (T10.setTop (mkF m 197 #[.val (.long x1), .second, .val (.long x2), .second, .val (.long x3), .second, .val (.int x4), .val (.long y7), .second, .val (.long y9), .second, .val (.int ((XT.ushr x4 (2 : Int32)) &&& (3 : Int32))), .val (.int (0 : Int32)), .val (.long y13), .second, .val (.ref b), .val (.ref ia), .unset, .unset] [(.long x1), (.long y7), (.int (1 : Int32))]))
              refine own_go (fun tt_ kk_ => XT.lcmp XN10.here hx rfl (hb hby at_197) rfl kk_) ?_
              show Go p.tables e below _ (T10.setTop (mkF m 198 #[.val (.long x1), .second, .val (.long x2), .second, .val (.long x3), .second, .val (.int x4), .val (.long y7), .second, .val (.long y9), .second, .val (.int ((XT.ushr x4 (2 : Int32)) &&& (3 : Int32))), .val (.int (0 : Int32)), .val (.long y13), .second, .val (.ref b), .val (.ref ia), .unset, .unset] [(.int (XT.cmpL y7 x1)), (.int (1 : Int32))]))
              by_cases hc11 : y7 = x1
              · refine own_go (fun tt_ kk_ => XS.ifYes XN10.here hx rfl (pc0 := 198) (pc' := 205) rfl (hb hby at_198) rfl (XT.ll_eq_t hc11) (by decide) (by decide) kk_) ?_
                show Go p.tables e below _ (T10.setTop (mkF m 205 #[.val (.long x1), .second, .val (.long x2), .second, .val (.long x3), .second, .val (.int x4), .val (.long y7), .second, .val (.long y9), .second, .val (.int ((XT.ushr x4 (2 : Int32)) &&& (3 : Int32))), .val (.int (0 : Int32)), .val (.long y13), .second, .val (.ref b), .val (.ref ia), .unset, .unset] [(.int (1 : Int32))]))
                refine own_go (fun tt_ kk_ => XS.iconst XN10.here hx rfl (hb hby at_205) kk_) ?_
                show Go p.tables e below _ (T10.setTop (mkF m 206 #[.val (.long x1), .second, .val (.long x2), .second, .val (.long x3), .second, .val (.int x4), .val (.long y7), .second, .val (.long y9), .second, .val (.int ((XT.ushr x4 (2 : Int32)) &&& (3 : Int32))), .val (.int (0 : Int32)), .val (.long y13), .second, .val (.ref b), .val (.ref ia), .unset, .unset] [(.int (0 : Int32)), (.int (1 : Int32))]))
                refine own_go (fun tt_ kk_ => XS.iadd XN10.here hx rfl (hb hby at_206) rfl kk_) ?_
                show Go p.tables e below _ (T10.setTop (mkF m 207 #[.val (.long x1), .second, .val (.long x2), .second, .val (.long x3), .second, .val (.int x4), .val (.long y7), .second, .val (.long y9), .second, .val (.int ((XT.ushr x4 (2 : Int32)) &&& (3 : Int32))), .val (.int (0 : Int32)), .val (.long y13), .second, .val (.ref b), .val (.ref ia), .unset, .unset] [(.int (1 : Int32))]))
                refine own_go (fun tt_ kk_ => XT.lload XN10.here hx rfl (hb hby at_207) rfl kk_) ?_
                show Go p.tables e below _ (T10.setTop (mkF m 209 #[.val (.long x1), .second, .val (.long x2), .second, .val (.long x3), .second, .val (.int x4), .val (.long y7), .second, .val (.long y9), .second, .val (.int ((XT.ushr x4 (2 : Int32)) &&& (3 : Int32))), .val (.int (0 : Int32)), .val (.long y13), .second, .val (.ref b), .val (.ref ia), .unset, .unset] [(.long y9), (.int (1 : Int32))]))
                refine own_go (fun tt_ kk_ => XT.lloadN XN10.here hx rfl (hb hby at_209) rfl kk_) ?_
                show Go p.tables e below _ (T10.setTop (mkF m 210 #[.val (.long x1), .second, .val (.long x2), .second, .val (.long x3), .second, .val (.int x4), .val (.long y7), .second, .val (.long y9), .second, .val (.int ((XT.ushr x4 (2 : Int32)) &&& (3 : Int32))), .val (.int (0 : Int32)), .val (.long y13), .second, .val (.ref b), .val (.ref ia), .unset, .unset] [(.long x1), (.long y9), (.int (1 : Int32))]))
                refine own_go (fun tt_ kk_ => XT.lcmp XN10.here hx rfl (hb hby at_210) rfl kk_) ?_
                show Go p.tables e below _ (T10.setTop (mkF m 211 #[.val (.long x1), .second, .val (.long x2), .second, .val (.long x3), .second, .val (.int x4), .val (.long y7), .second, .val (.long y9), .second, .val (.int ((XT.ushr x4 (2 : Int32)) &&& (3 : Int32))), .val (.int (0 : Int32)), .val (.long y13), .second, .val (.ref b), .val (.ref ia), .unset, .unset] [(.int (XT.cmpL y9 x1)), (.int (1 : Int32))]))
                by_cases hc12 : y9 = x1
                · refine own_go (fun tt_ kk_ => XS.ifYes XN10.here hx rfl (pc0 := 211) (pc' := 226) rfl (hb hby at_211) rfl (XT.ll_eq_t hc12) (by decide) (by decide) kk_) ?_
                  show Go p.tables e below _ (T10.setTop (mkF m 226 #[.val (.long x1), .second, .val (.long x2), .second, .val (.long x3), .second, .val (.int x4), .val (.long y7), .second, .val (.long y9), .second, .val (.int ((XT.ushr x4 (2 : Int32)) &&& (3 : Int32))), .val (.int (0 : Int32)), .val (.long y13), .second, .val (.ref b), .val (.ref ia), .unset, .unset] [(.int (1 : Int32))]))
                  refine own_go (fun tt_ kk_ => XS.iconst XN10.here hx rfl (hb hby at_226) kk_) ?_
                  show Go p.tables e below _ (T10.setTop (mkF m 227 #[.val (.long x1), .second, .val (.long x2), .second, .val (.long x3), .second, .val (.int x4), .val (.long y7), .second, .val (.long y9), .second, .val (.int ((XT.ushr x4 (2 : Int32)) &&& (3 : Int32))), .val (.int (0 : Int32)), .val (.long y13), .second, .val (.ref b), .val (.ref ia), .unset, .unset] [(.int (0 : Int32)), (.int (1 : Int32))]))
                  refine own_go (fun tt_ kk_ => XS.iadd XN10.here hx rfl (hb hby at_227) rfl kk_) ?_
                  show Go p.tables e below _ (T10.setTop (mkF m 228 #[.val (.long x1), .second, .val (.long x2), .second, .val (.long x3), .second, .val (.int x4), .val (.long y7), .second, .val (.long y9), .second, .val (.int ((XT.ushr x4 (2 : Int32)) &&& (3 : Int32))), .val (.int (0 : Int32)), .val (.long y13), .second, .val (.ref b), .val (.ref ia), .unset, .unset] [(.int (1 : Int32))]))
                  refine own_go (fun tt_ kk_ => XS.istore XN10.here hx rfl (hb hby at_228) rfl (l' := #[.val (.long x1), .second, .val (.long x2), .second, .val (.long x3), .second, .val (.int x4), .val (.long y7), .second, .val (.long y9), .second, .val (.int ((XT.ushr x4 (2 : Int32)) &&& (3 : Int32))), .val (.int (0 : Int32)), .val (.long y13), .second, .val (.ref b), .val (.ref ia), .val (.int (1 : Int32)), .unset]) rfl kk_) ?_
                  show Go p.tables e below _ (T10.setTop (mkF m 230 #[.val (.long x1), .second, .val (.long x2), .second, .val (.long x3), .second, .val (.int x4), .val (.long y7), .second, .val (.long y9), .second, .val (.int ((XT.ushr x4 (2 : Int32)) &&& (3 : Int32))), .val (.int (0 : Int32)), .val (.long y13), .second, .val (.ref b), .val (.ref ia), .val (.int (1 : Int32)), .unset] []))
                  refine own_go (fun tt_ kk_ => XS.iload XN10.here hx rfl (hb hby at_230) rfl kk_) ?_
                  show Go p.tables e below _ (T10.setTop (mkF m 232 #[.val (.long x1), .second, .val (.long x2), .second, .val (.long x3), .second, .val (.int x4), .val (.long y7), .second, .val (.long y9), .second, .val (.int ((XT.ushr x4 (2 : Int32)) &&& (3 : Int32))), .val (.int (0 : Int32)), .val (.long y13), .second, .val (.ref b), .val (.ref ia), .val (.int (1 : Int32)), .unset] [(.int (1 : Int32))]))
                  refine own_go (fun tt_ kk_ => XS.iload XN10.here hx rfl (hb hby at_232) rfl kk_) ?_
                  show Go p.tables e below _ (T10.setTop (mkF m 234 #[.val (.long x1), .second, .val (.long x2), .second, .val (.long x3), .second, .val (.int x4), .val (.long y7), .second, .val (.long y9), .second, .val (.int ((XT.ushr x4 (2 : Int32)) &&& (3 : Int32))), .val (.int (0 : Int32)), .val (.long y13), .second, .val (.ref b), .val (.ref ia), .val (.int (1 : Int32)), .unset] [(.int (0 : Int32)), (.int (1 : Int32))]))
                  refine own_go (fun tt_ kk_ => XS.ifYes XN10.here hx rfl (pc0 := 234) (pc' := 241) rfl (hb hby at_234) rfl (XT.i0_eq_t (by decide)) (by decide) (by decide) kk_) ?_
                  show Go p.tables e below _ (T10.setTop (mkF m 241 #[.val (.long x1), .second, .val (.long x2), .second, .val (.long x3), .second, .val (.int x4), .val (.long y7), .second, .val (.long y9), .second, .val (.int ((XT.ushr x4 (2 : Int32)) &&& (3 : Int32))), .val (.int (0 : Int32)), .val (.long y13), .second, .val (.ref b), .val (.ref ia), .val (.int (1 : Int32)), .unset] [(.int (1 : Int32))]))
                  refine own_go (fun tt_ kk_ => XS.iconst XN10.here hx rfl (hb hby at_241) kk_) ?_
                  show Go p.tables e below _ (T10.setTop (mkF m 242 #[.val (.long x1), .second, .val (.long x2), .second, .val (.long x3), .second, .val (.int x4), .val (.long y7), .second, .val (.long y9), .second, .val (.int ((XT.ushr x4 (2 : Int32)) &&& (3 : Int32))), .val (.int (0 : Int32)), .val (.long y13), .second, .val (.ref b), .val (.ref ia), .val (.int (1 : Int32)), .unset] [(.int (0 : Int32)), (.int (1 : Int32))]))
                  refine own_go (fun tt_ kk_ => XS.isub XN10.here hx rfl (hb hby at_242) rfl kk_) ?_
                  show Go p.tables e below _ (T10.setTop (mkF m 243 #[.val (.long x1), .second, .val (.long x2), .second, .val (.long x3), .second, .val (.int x4), .val (.long y7), .second, .val (.long y9), .second, .val (.int ((XT.ushr x4 (2 : Int32)) &&& (3 : Int32))), .val (.int (0 : Int32)), .val (.long y13), .second, .val (.ref b), .val (.ref ia), .val (.int (1 : Int32)), .unset] [(.int (1 : Int32))]))
                  refine own_go (fun tt_ kk_ => XS.istore XN10.here hx rfl (hb hby at_243) rfl (l' := #[.val (.long x1), .second, .val (.long x2), .second, .val (.long x3), .second, .val (.int x4), .val (.long y7), .second, .val (.long y9), .second, .val (.int ((XT.ushr x4 (2 : Int32)) &&& (3 : Int32))), .val (.int (0 : Int32)), .val (.long y13), .second, .val (.ref b), .val (.ref ia), .val (.int (1 : Int32)), .val (.int (1 : Int32))]) rfl kk_) ?_
                  show Go p.tables e below _ (T10.setTop (mkF m 245 #[.val (.long x1), .second, .val (.long x2), .second, .val (.long x3), .second, .val (.int x4), .val (.long y7), .second, .val (.long y9), .second, .val (.int ((XT.ushr x4 (2 : Int32)) &&& (3 : Int32))), .val (.int (0 : Int32)), .val (.long y13), .second, .val (.ref b), .val (.ref ia), .val (.int (1 : Int32)), .val (.int (1 : Int32))] []))
                  have d3 : own_dn3 x1 y7 y9 = 1 := by rw [own_dn3, if_pos hc11, if_pos hc12]
                  have hnk : nn9 = 1 := by rw [own_count3 hG0 hG5 hG7 hn5 hn7 hn9, d3]
                  refine own_go (fun tt_ kk_ => XS.aload XN10.here hx rfl (hb hby at_245) rfl rfl kk_) ?_
                  show Go p.tables e below _ (T10.setTop (mkF m 247 #[.val (.long x1), .second, .val (.long x2), .second, .val (.long x3), .second, .val (.int x4), .val (.long y7), .second, .val (.long y9), .second, .val (.int ((XT.ushr x4 (2 : Int32)) &&& (3 : Int32))), .val (.int (0 : Int32)), .val (.long y13), .second, .val (.ref b), .val (.ref ia), .val (.int (1 : Int32)), .val (.int (1 : Int32))] [(.ref ia)]))
                  refine own_go (fun tt_ kk_ => XN10.arraylength hx Ai.1 (State.isArrayOf_alike hZ9.alike Ai.2.1) (g := (mkF m 247 #[.val (.long x1), .second, .val (.long x2), .second, .val (.long x3), .second, .val (.int x4), .val (.long y7), .second, .val (.long y9), .second, .val (.int ((XT.ushr x4 (2 : Int32)) &&& (3 : Int32))), .val (.int (0 : Int32)), .val (.long y13), .second, .val (.ref b), .val (.ref ia), .val (.int (1 : Int32)), .val (.int (1 : Int32))] [(.ref ia)])) rfl rfl (hb hby at_247) tt_ (by rw [(show ci.slots.size.toInt32 = ix nn9 by rw [szi]; rfl)]; exact kk_)) ?_
                  show Go p.tables e below _ (T10.setTop (mkF m 248 #[.val (.long x1), .second, .val (.long x2), .second, .val (.long x3), .second, .val (.int x4), .val (.long y7), .second, .val (.long y9), .second, .val (.int ((XT.ushr x4 (2 : Int32)) &&& (3 : Int32))), .val (.int (0 : Int32)), .val (.long y13), .second, .val (.ref b), .val (.ref ia), .val (.int (1 : Int32)), .val (.int (1 : Int32))] [(.int (ix nn9))]))
                  refine own_go (fun tt_ kk_ => XS.iload XN10.here hx rfl (hb hby at_248) rfl kk_) ?_
                  show Go p.tables e below _ (T10.setTop (mkF m 250 #[.val (.long x1), .second, .val (.long x2), .second, .val (.long x3), .second, .val (.int x4), .val (.long y7), .second, .val (.long y9), .second, .val (.int ((XT.ushr x4 (2 : Int32)) &&& (3 : Int32))), .val (.int (0 : Int32)), .val (.long y13), .second, .val (.ref b), .val (.ref ia), .val (.int (1 : Int32)), .val (.int (1 : Int32))] [(.int (1 : Int32)), (.int (ix nn9))]))
                  refine own_go (fun tt_ kk_ => XS.icmpYes XN10.here hx rfl (pc0 := 250) (pc' := 255) rfl (hb hby at_250) rfl (XT.ii_eq_t (show ix nn9 = (1 : Int32) by rw [hnk]; rfl)) (by decide) (by decide) kk_) ?_
                  show Go p.tables e below _ (T10.setTop (mkF m 255 #[.val (.long x1), .second, .val (.long x2), .second, .val (.long x3), .second, .val (.int x4), .val (.long y7), .second, .val (.long y9), .second, .val (.int ((XT.ushr x4 (2 : Int32)) &&& (3 : Int32))), .val (.int (0 : Int32)), .val (.long y13), .second, .val (.ref b), .val (.ref ia), .val (.int (1 : Int32)), .val (.int (1 : Int32))] []))
                  refine own_go (fun tt_ kk_ => XS.iload XN10.here hx rfl (hb hby at_255) rfl kk_) ?_
                  show Go p.tables e below _ (T10.setTop (mkF m 257 #[.val (.long x1), .second, .val (.long x2), .second, .val (.long x3), .second, .val (.int x4), .val (.long y7), .second, .val (.long y9), .second, .val (.int ((XT.ushr x4 (2 : Int32)) &&& (3 : Int32))), .val (.int (0 : Int32)), .val (.long y13), .second, .val (.ref b), .val (.ref ia), .val (.int (1 : Int32)), .val (.int (1 : Int32))] [(.int (1 : Int32))]))
                  refine own_go (fun tt_ kk_ => XS.ifNo XN10.here hx rfl (hb hby at_257) rfl (XT.i0_le_f (by decide)) kk_) ?_
                  show Go p.tables e below _ (T10.setTop (mkF m 260 #[.val (.long x1), .second, .val (.long x2), .second, .val (.long x3), .second, .val (.int x4), .val (.long y7), .second, .val (.long y9), .second, .val (.int ((XT.ushr x4 (2 : Int32)) &&& (3 : Int32))), .val (.int (0 : Int32)), .val (.long y13), .second, .val (.ref b), .val (.ref ia), .val (.int (1 : Int32)), .val (.int (1 : Int32))] []))
                  refine own_go (fun tt_ kk_ => XS.aload XN10.here hx rfl (hb hby at_260) rfl rfl kk_) ?_
                  show Go p.tables e below _ (T10.setTop (mkF m 262 #[.val (.long x1), .second, .val (.long x2), .second, .val (.long x3), .second, .val (.int x4), .val (.long y7), .second, .val (.long y9), .second, .val (.int ((XT.ushr x4 (2 : Int32)) &&& (3 : Int32))), .val (.int (0 : Int32)), .val (.long y13), .second, .val (.ref b), .val (.ref ia), .val (.int (1 : Int32)), .val (.int (1 : Int32))] [(.ref ia)]))
                  refine own_go (fun tt_ kk_ => XS.iconst XN10.here hx rfl (hb hby at_262) kk_) ?_
                  show Go p.tables e below _ (T10.setTop (mkF m 263 #[.val (.long x1), .second, .val (.long x2), .second, .val (.long x3), .second, .val (.int x4), .val (.long y7), .second, .val (.long y9), .second, .val (.int ((XT.ushr x4 (2 : Int32)) &&& (3 : Int32))), .val (.int (0 : Int32)), .val (.long y13), .second, .val (.ref b), .val (.ref ia), .val (.int (1 : Int32)), .val (.int (1 : Int32))] [(.int (0 : Int32)), (.ref ia)]))
                  refine own_go (fun tt_ kk_ => XN10.laload hx (j := (0 : Int32)) (v := (.long (out 0))) Ai.1 (State.isArrayOf_alike hZ9.alike Ai.2.1) Ai.2.2 (by rw [szi, hnk]; decide) (hati 0 (by omega)) (g := (mkF m 263 #[.val (.long x1), .second, .val (.long x2), .second, .val (.long x3), .second, .val (.int x4), .val (.long y7), .second, .val (.long y9), .second, .val (.int ((XT.ushr x4 (2 : Int32)) &&& (3 : Int32))), .val (.int (0 : Int32)), .val (.long y13), .second, .val (.ref b), .val (.ref ia), .val (.int (1 : Int32)), .val (.int (1 : Int32))] [(.int (0 : Int32)), (.ref ia)])) rfl rfl (hb hby at_263) tt_ kk_) ?_
                  show Go p.tables e below _ (T10.setTop (mkF m 264 #[.val (.long x1), .second, .val (.long x2), .second, .val (.long x3), .second, .val (.int x4), .val (.long y7), .second, .val (.long y9), .second, .val (.int ((XT.ushr x4 (2 : Int32)) &&& (3 : Int32))), .val (.int (0 : Int32)), .val (.long y13), .second, .val (.ref b), .val (.ref ia), .val (.int (1 : Int32)), .val (.int (1 : Int32))] [(.long (out 0))]))
                  refine own_go (fun tt_ kk_ => XT.lloadN XN10.here hx rfl (hb hby at_264) rfl kk_) ?_
                  show Go p.tables e below _ (T10.setTop (mkF m 265 #[.val (.long x1), .second, .val (.long x2), .second, .val (.long x3), .second, .val (.int x4), .val (.long y7), .second, .val (.long y9), .second, .val (.int ((XT.ushr x4 (2 : Int32)) &&& (3 : Int32))), .val (.int (0 : Int32)), .val (.long y13), .second, .val (.ref b), .val (.ref ia), .val (.int (1 : Int32)), .val (.int (1 : Int32))] [(.long x1), (.long (out 0))]))
                  refine own_go (fun tt_ kk_ => XT.lload XN10.here hx rfl (hb hby at_265) rfl kk_) ?_
                  show Go p.tables e below _ (T10.setTop (mkF m 267 #[.val (.long x1), .second, .val (.long x2), .second, .val (.long x3), .second, .val (.int x4), .val (.long y7), .second, .val (.long y9), .second, .val (.int ((XT.ushr x4 (2 : Int32)) &&& (3 : Int32))), .val (.int (0 : Int32)), .val (.long y13), .second, .val (.ref b), .val (.ref ia), .val (.int (1 : Int32)), .val (.int (1 : Int32))] [(.long y7), (.long x1), (.long (out 0))]))
                  refine own_go (fun tt_ kk_ => XT.lload XN10.here hx rfl (hb hby at_267) rfl kk_) ?_
                  show Go p.tables e below _ (T10.setTop (mkF m 269 #[.val (.long x1), .second, .val (.long x2), .second, .val (.long x3), .second, .val (.int x4), .val (.long y7), .second, .val (.long y9), .second, .val (.int ((XT.ushr x4 (2 : Int32)) &&& (3 : Int32))), .val (.int (0 : Int32)), .val (.long y13), .second, .val (.ref b), .val (.ref ia), .val (.int (1 : Int32)), .val (.int (1 : Int32))] [(.long y9), (.long y7), (.long x1), (.long (out 0))]))
                  refine own_go (fun tt_ kk_ => XS.iload XN10.here hx rfl (hb hby at_269) rfl kk_) ?_
                  show Go p.tables e below _ (T10.setTop (mkF m 271 #[.val (.long x1), .second, .val (.long x2), .second, .val (.long x3), .second, .val (.int x4), .val (.long y7), .second, .val (.long y9), .second, .val (.int ((XT.ushr x4 (2 : Int32)) &&& (3 : Int32))), .val (.int (0 : Int32)), .val (.long y13), .second, .val (.ref b), .val (.ref ia), .val (.int (1 : Int32)), .val (.int (1 : Int32))] [(.int (0 : Int32)), (.long y9), (.long y7), (.long x1), (.long (out 0))]))
                  refine own_go (fun tt_ kk_ => XT.lload XN10.here hx rfl (hb hby at_271) rfl kk_) ?_
                  show Go p.tables e below _ (T10.setTop (mkF m 273 #[.val (.long x1), .second, .val (.long x2), .second, .val (.long x3), .second, .val (.int x4), .val (.long y7), .second, .val (.long y9), .second, .val (.int ((XT.ushr x4 (2 : Int32)) &&& (3 : Int32))), .val (.int (0 : Int32)), .val (.long y13), .second, .val (.ref b), .val (.ref ia), .val (.int (1 : Int32)), .val (.int (1 : Int32))] [(.long y13), (.int (0 : Int32)), (.long y9), (.long y7), (.long x1), (.long (out 0))]))
                  have hj13 := hout 0 (by omega)
                  rw [hG9, hG7, hG5, hG0] at hj13
                  have hs13 : (out 0) = x1 ∨ (out 0) = y7 ∨ (out 0) = y9 := Classical.byContradiction fun z => hj13 (own_has3.mpr z)
                  obtain ⟨v14, _, ⟨T14, L14, k14, n14⟩, -, X14, ⟨Lc14, hQ14, l14, y14, z14⟩, st14⟩ := Jvm.LawKit.callS XN10 hx (y := (⟨"com/example/rootlet/rootlet/IdMapIdsPinLaw", "expected", "(JJJJZJ)Z"⟩ : MethodName)) hown9 (mvT hZ9 (hw _ (List.mem_of_getElem? (i := 64) rfl))) (mvT hZ9 (hw _ (List.mem_of_getElem? (i := 65) rfl))) (mvT hZ9 (hw _ (List.mem_of_getElem? (i := 66) rfl))) (mvT hZ9 (hw _ (List.mem_of_getElem? (i := 67) rfl))) (by decide) (backOf (W := 0) (rm_expected l Z a0 hw [] (out 0) x1 y7 y9 (0 : Int32) y13 T10.heap n0) hZ9 (hw _ (List.mem_of_getElem? (i := 67) rfl)) (hw _ (List.mem_of_getElem? (i := 66) rfl)) (by decide) (by decide)) (g := (mkF m 273 #[.val (.long x1), .second, .val (.long x2), .second, .val (.long x3), .second, .val (.int x4), .val (.long y7), .second, .val (.long y9), .second, .val (.int ((XT.ushr x4 (2 : Int32)) &&& (3 : Int32))), .val (.int (0 : Int32)), .val (.long y13), .second, .val (.ref b), .val (.ref ia), .val (.int (1 : Int32)), .val (.int (1 : Int32))] [(.long y13), (.int (0 : Int32)), (.long y9), (.long y7), (.long x1), (.long (out 0))])) rfl (by rw [hml]; rfl) (argsL := [(.long (out 0)), (.long x1), (.long y7), (.long y9), (.int (0 : Int32)), (.long y13)]) (rest := []) (lenOf pd_9 rfl) rfl (by show 2 * 0 + _ ≤ _; exact Nat.le_of_eq rfl) (hb hby at_273) (fun _ _ => ⟨rfl, rfl, (by decide : 10 + 0 ≤ _), (by decide : 116 + 0 ≤ _)⟩)
                  dsimp only [Pt.U, Pt.locs, Pt.cells, Pt.slots] at X14 l14 y14 z14 st14 hQ14
                  subst y14 z14
                  have XN14 : Stand p l e room_1 (s.setVm T9.vm) m #[(.long x1), (.long x2), (.long x3), (.int x4)] below meth c T14 _ 10 116 := X14
                  obtain ⟨hv14, N14q, e14⟩ := hQ14
                  rw [show ((.int (own_expd (out 0) x1 y7 y9 (0 : Int32) y13)) : Value) = (.int (1 : Int32)) from congrArg Value.int (own_expd_one hs13 (Or.inl rfl))] at hv14
                  subst hv14
                  have N14 : Fr n0 L14 := by rw [l14]; exact Fr.app N10 N14q
                  refine own_go (fun tt_ kk_ => st14 tt_ kk_) ?_
                  show Go p.tables e below _ (T14.setTop (mkF m 276 #[.val (.long x1), .second, .val (.long x2), .second, .val (.long x3), .second, .val (.int x4), .val (.long y7), .second, .val (.long y9), .second, .val (.int ((XT.ushr x4 (2 : Int32)) &&& (3 : Int32))), .val (.int (0 : Int32)), .val (.long y13), .second, .val (.ref b), .val (.ref ia), .val (.int (1 : Int32)), .val (.int (1 : Int32))] [(.int (1 : Int32))]))
                  refine own_go (fun tt_ kk_ => XS.ifYes XN14.here hx rfl (pc0 := 276) (pc' := 281) rfl (hb hby at_276) rfl (XT.i0_ne_t (by decide)) (by decide) (by decide) kk_) ?_
                  show Go p.tables e below _ (T14.setTop (mkF m 281 #[.val (.long x1), .second, .val (.long x2), .second, .val (.long x3), .second, .val (.int x4), .val (.long y7), .second, .val (.long y9), .second, .val (.int ((XT.ushr x4 (2 : Int32)) &&& (3 : Int32))), .val (.int (0 : Int32)), .val (.long y13), .second, .val (.ref b), .val (.ref ia), .val (.int (1 : Int32)), .val (.int (1 : Int32))] []))
                  refine own_go (fun tt_ kk_ => XS.iload XN14.here hx rfl (hb hby at_281) rfl kk_) ?_
                  show Go p.tables e below _ (T14.setTop (mkF m 283 #[.val (.long x1), .second, .val (.long x2), .second, .val (.long x3), .second, .val (.int x4), .val (.long y7), .second, .val (.long y9), .second, .val (.int ((XT.ushr x4 (2 : Int32)) &&& (3 : Int32))), .val (.int (0 : Int32)), .val (.long y13), .second, .val (.ref b), .val (.ref ia), .val (.int (1 : Int32)), .val (.int (1 : Int32))] [(.int (1 : Int32))]))
                  refine own_go (fun tt_ kk_ => XS.iconst XN14.here hx rfl (hb hby at_283) kk_) ?_
                  show Go p.tables e below _ (T14.setTop (mkF m 284 #[.val (.long x1), .second, .val (.long x2), .second, .val (.long x3), .second, .val (.int x4), .val (.long y7), .second, .val (.long y9), .second, .val (.int ((XT.ushr x4 (2 : Int32)) &&& (3 : Int32))), .val (.int (0 : Int32)), .val (.long y13), .second, .val (.ref b), .val (.ref ia), .val (.int (1 : Int32)), .val (.int (1 : Int32))] [(.int (1 : Int32)), (.int (1 : Int32))]))
                  refine own_go (fun tt_ kk_ => XS.icmpYes XN14.here hx rfl (pc0 := 284) (pc' := 308) rfl (hb hby at_284) rfl (XT.ii_le_t (by decide)) (by decide) (by decide) kk_) ?_
                  show Go p.tables e below _ (T14.setTop (mkF m 308 #[.val (.long x1), .second, .val (.long x2), .second, .val (.long x3), .second, .val (.int x4), .val (.long y7), .second, .val (.long y9), .second, .val (.int ((XT.ushr x4 (2 : Int32)) &&& (3 : Int32))), .val (.int (0 : Int32)), .val (.long y13), .second, .val (.ref b), .val (.ref ia), .val (.int (1 : Int32)), .val (.int (1 : Int32))] []))
                  refine own_go (fun tt_ kk_ => XS.iload XN14.here hx rfl (hb hby at_308) rfl kk_) ?_
                  show Go p.tables e below _ (T14.setTop (mkF m 310 #[.val (.long x1), .second, .val (.long x2), .second, .val (.long x3), .second, .val (.int x4), .val (.long y7), .second, .val (.long y9), .second, .val (.int ((XT.ushr x4 (2 : Int32)) &&& (3 : Int32))), .val (.int (0 : Int32)), .val (.long y13), .second, .val (.ref b), .val (.ref ia), .val (.int (1 : Int32)), .val (.int (1 : Int32))] [(.int (1 : Int32))]))
                  refine own_go (fun tt_ kk_ => XS.iconst XN14.here hx rfl (hb hby at_310) kk_) ?_
                  show Go p.tables e below _ (T14.setTop (mkF m 311 #[.val (.long x1), .second, .val (.long x2), .second, .val (.long x3), .second, .val (.int x4), .val (.long y7), .second, .val (.long y9), .second, .val (.int ((XT.ushr x4 (2 : Int32)) &&& (3 : Int32))), .val (.int (0 : Int32)), .val (.long y13), .second, .val (.ref b), .val (.ref ia), .val (.int (1 : Int32)), .val (.int (1 : Int32))] [(.int (2 : Int32)), (.int (1 : Int32))]))
                  refine own_go (fun tt_ kk_ => XS.icmpYes XN14.here hx rfl (pc0 := 311) (pc' := 335) rfl (hb hby at_311) rfl (XT.ii_le_t (by decide)) (by decide) (by decide) kk_) ?_
                  show Go p.tables e below _ (T14.setTop (mkF m 335 #[.val (.long x1), .second, .val (.long x2), .second, .val (.long x3), .second, .val (.int x4), .val (.long y7), .second, .val (.long y9), .second, .val (.int ((XT.ushr x4 (2 : Int32)) &&& (3 : Int32))), .val (.int (0 : Int32)), .val (.long y13), .second, .val (.ref b), .val (.ref ia), .val (.int (1 : Int32)), .val (.int (1 : Int32))] []))
                  refine own_go (fun tt_ kk_ => XS.iload XN14.here hx rfl (hb hby at_335) rfl kk_) ?_
                  show Go p.tables e below _ (T14.setTop (mkF m 337 #[.val (.long x1), .second, .val (.long x2), .second, .val (.long x3), .second, .val (.int x4), .val (.long y7), .second, .val (.long y9), .second, .val (.int ((XT.ushr x4 (2 : Int32)) &&& (3 : Int32))), .val (.int (0 : Int32)), .val (.long y13), .second, .val (.ref b), .val (.ref ia), .val (.int (1 : Int32)), .val (.int (1 : Int32))] [(.int (1 : Int32))]))
                  refine own_go (fun tt_ kk_ => XS.iconst XN14.here hx rfl (hb hby at_337) kk_) ?_
                  show Go p.tables e below _ (T14.setTop (mkF m 338 #[.val (.long x1), .second, .val (.long x2), .second, .val (.long x3), .second, .val (.int x4), .val (.long y7), .second, .val (.long y9), .second, .val (.int ((XT.ushr x4 (2 : Int32)) &&& (3 : Int32))), .val (.int (0 : Int32)), .val (.long y13), .second, .val (.ref b), .val (.ref ia), .val (.int (1 : Int32)), .val (.int (1 : Int32))] [(.int (1 : Int32)), (.int (1 : Int32))]))
                  refine own_go (fun tt_ kk_ => XS.icmpYes XN14.here hx rfl (pc0 := 338) (pc' := 355) rfl (hb hby at_338) rfl (XT.ii_le_t (by decide)) (by decide) (by decide) kk_) ?_
                  show Go p.tables e below _ (T14.setTop (mkF m 355 #[.val (.long x1), .second, .val (.long x2), .second, .val (.long x3), .second, .val (.int x4), .val (.long y7), .second, .val (.long y9), .second, .val (.int ((XT.ushr x4 (2 : Int32)) &&& (3 : Int32))), .val (.int (0 : Int32)), .val (.long y13), .second, .val (.ref b), .val (.ref ia), .val (.int (1 : Int32)), .val (.int (1 : Int32))] []))
                  refine own_go (fun tt_ kk_ => XS.iload XN14.here hx rfl (hb hby at_355) rfl kk_) ?_
                  show Go p.tables e below _ (T14.setTop (mkF m 357 #[.val (.long x1), .second, .val (.long x2), .second, .val (.long x3), .second, .val (.int x4), .val (.long y7), .second, .val (.long y9), .second, .val (.int ((XT.ushr x4 (2 : Int32)) &&& (3 : Int32))), .val (.int (0 : Int32)), .val (.long y13), .second, .val (.ref b), .val (.ref ia), .val (.int (1 : Int32)), .val (.int (1 : Int32))] [(.int (1 : Int32))]))
                  refine own_go (fun tt_ kk_ => XS.iconst XN14.here hx rfl (hb hby at_357) kk_) ?_
                  show Go p.tables e below _ (T14.setTop (mkF m 358 #[.val (.long x1), .second, .val (.long x2), .second, .val (.long x3), .second, .val (.int x4), .val (.long y7), .second, .val (.long y9), .second, .val (.int ((XT.ushr x4 (2 : Int32)) &&& (3 : Int32))), .val (.int (0 : Int32)), .val (.long y13), .second, .val (.ref b), .val (.ref ia), .val (.int (1 : Int32)), .val (.int (1 : Int32))] [(.int (2 : Int32)), (.int (1 : Int32))]))
                  refine own_go (fun tt_ kk_ => XS.icmpYes XN14.here hx rfl (pc0 := 358) (pc' := 387) rfl (hb hby at_358) rfl (XT.ii_le_t (by decide)) (by decide) (by decide) kk_) ?_
                  show Go p.tables e below _ (T14.setTop (mkF m 387 #[.val (.long x1), .second, .val (.long x2), .second, .val (.long x3), .second, .val (.int x4), .val (.long y7), .second, .val (.long y9), .second, .val (.int ((XT.ushr x4 (2 : Int32)) &&& (3 : Int32))), .val (.int (0 : Int32)), .val (.long y13), .second, .val (.ref b), .val (.ref ia), .val (.int (1 : Int32)), .val (.int (1 : Int32))] []))
                  refine own_go (fun tt_ kk_ => XS.iconst XN14.here hx rfl (hb hby at_387) kk_) ?_
                  show Go p.tables e below _ (T14.setTop (mkF m 388 #[.val (.long x1), .second, .val (.long x2), .second, .val (.long x3), .second, .val (.int x4), .val (.long y7), .second, .val (.long y9), .second, .val (.int ((XT.ushr x4 (2 : Int32)) &&& (3 : Int32))), .val (.int (0 : Int32)), .val (.long y13), .second, .val (.ref b), .val (.ref ia), .val (.int (1 : Int32)), .val (.int (1 : Int32))] [(.int (1 : Int32))]))
                  exact own_retW XN14 sq9 (by rw [e14]; exact kz10) hx hlk Bd.returns rfl (Or.inl ⟨rfl, Or.inr (Or.inl rfl), _, rfl⟩) (hb hby at_388) ⟨rfl, N14⟩ (by decide) (by decide)
                · refine own_go (fun tt_ kk_ => XS.ifNo XN10.here hx rfl (hb hby at_211) rfl (XT.ll_eq_f hc12) kk_) ?_
                  show Go p.tables e below _ (T10.setTop (mkF m 214 #[.val (.long x1), .second, .val (.long x2), .second, .val (.long x3), .second, .val (.int x4), .val (.long y7), .second, .val (.long y9), .second, .val (.int ((XT.ushr x4 (2 : Int32)) &&& (3 : Int32))), .val (.int (0 : Int32)), .val (.long y13), .second, .val (.ref b), .val (.ref ia), .unset, .unset] [(.int (1 : Int32))]))
                  refine own_go (fun tt_ kk_ => XT.lload XN10.here hx rfl (hb hby at_214) rfl kk_) ?_
                  show Go p.tables e below _ (T10.setTop (mkF m 216 #[.val (.long x1), .second, .val (.long x2), .second, .val (.long x3), .second, .val (.int x4), .val (.long y7), .second, .val (.long y9), .second, .val (.int ((XT.ushr x4 (2 : Int32)) &&& (3 : Int32))), .val (.int (0 : Int32)), .val (.long y13), .second, .val (.ref b), .val (.ref ia), .unset, .unset] [(.long y9), (.int (1 : Int32))]))
                  refine own_go (fun tt_ kk_ => XT.lload XN10.here hx rfl (hb hby at_216) rfl kk_) ?_
                  show Go p.tables e below _ (T10.setTop (mkF m 218 #[.val (.long x1), .second, .val (.long x2), .second, .val (.long x3), .second, .val (.int x4), .val (.long y7), .second, .val (.long y9), .second, .val (.int ((XT.ushr x4 (2 : Int32)) &&& (3 : Int32))), .val (.int (0 : Int32)), .val (.long y13), .second, .val (.ref b), .val (.ref ia), .unset, .unset] [(.long y7), (.long y9), (.int (1 : Int32))]))
                  refine own_go (fun tt_ kk_ => XT.lcmp XN10.here hx rfl (hb hby at_218) rfl kk_) ?_
                  show Go p.tables e below _ (T10.setTop (mkF m 219 #[.val (.long x1), .second, .val (.long x2), .second, .val (.long x3), .second, .val (.int x4), .val (.long y7), .second, .val (.long y9), .second, .val (.int ((XT.ushr x4 (2 : Int32)) &&& (3 : Int32))), .val (.int (0 : Int32)), .val (.long y13), .second, .val (.ref b), .val (.ref ia), .unset, .unset] [(.int (XT.cmpL y9 y7)), (.int (1 : Int32))]))
                  by_cases hc15 : y9 = y7
                  · refine own_go (fun tt_ kk_ => XS.ifYes XN10.here hx rfl (pc0 := 219) (pc' := 226) rfl (hb hby at_219) rfl (XT.ll_eq_t hc15) (by decide) (by decide) kk_) ?_
                    show Go p.tables e below _ (T10.setTop (mkF m 226 #[.val (.long x1), .second, .val (.long x2), .second, .val (.long x3), .second, .val (.int x4), .val (.long y7), .second, .val (.long y9), .second, .val (.int ((XT.ushr x4 (2 : Int32)) &&& (3 : Int32))), .val (.int (0 : Int32)), .val (.long y13), .second, .val (.ref b), .val (.ref ia), .unset, .unset] [(.int (1 : Int32))]))
                    refine own_go (fun tt_ kk_ => XS.iconst XN10.here hx rfl (hb hby at_226) kk_) ?_
                    show Go p.tables e below _ (T10.setTop (mkF m 227 #[.val (.long x1), .second, .val (.long x2), .second, .val (.long x3), .second, .val (.int x4), .val (.long y7), .second, .val (.long y9), .second, .val (.int ((XT.ushr x4 (2 : Int32)) &&& (3 : Int32))), .val (.int (0 : Int32)), .val (.long y13), .second, .val (.ref b), .val (.ref ia), .unset, .unset] [(.int (0 : Int32)), (.int (1 : Int32))]))
                    refine own_go (fun tt_ kk_ => XS.iadd XN10.here hx rfl (hb hby at_227) rfl kk_) ?_
                    show Go p.tables e below _ (T10.setTop (mkF m 228 #[.val (.long x1), .second, .val (.long x2), .second, .val (.long x3), .second, .val (.int x4), .val (.long y7), .second, .val (.long y9), .second, .val (.int ((XT.ushr x4 (2 : Int32)) &&& (3 : Int32))), .val (.int (0 : Int32)), .val (.long y13), .second, .val (.ref b), .val (.ref ia), .unset, .unset] [(.int (1 : Int32))]))
                    refine own_go (fun tt_ kk_ => XS.istore XN10.here hx rfl (hb hby at_228) rfl (l' := #[.val (.long x1), .second, .val (.long x2), .second, .val (.long x3), .second, .val (.int x4), .val (.long y7), .second, .val (.long y9), .second, .val (.int ((XT.ushr x4 (2 : Int32)) &&& (3 : Int32))), .val (.int (0 : Int32)), .val (.long y13), .second, .val (.ref b), .val (.ref ia), .val (.int (1 : Int32)), .unset]) rfl kk_) ?_
                    show Go p.tables e below _ (T10.setTop (mkF m 230 #[.val (.long x1), .second, .val (.long x2), .second, .val (.long x3), .second, .val (.int x4), .val (.long y7), .second, .val (.long y9), .second, .val (.int ((XT.ushr x4 (2 : Int32)) &&& (3 : Int32))), .val (.int (0 : Int32)), .val (.long y13), .second, .val (.ref b), .val (.ref ia), .val (.int (1 : Int32)), .unset] []))
                    refine own_go (fun tt_ kk_ => XS.iload XN10.here hx rfl (hb hby at_230) rfl kk_) ?_
                    show Go p.tables e below _ (T10.setTop (mkF m 232 #[.val (.long x1), .second, .val (.long x2), .second, .val (.long x3), .second, .val (.int x4), .val (.long y7), .second, .val (.long y9), .second, .val (.int ((XT.ushr x4 (2 : Int32)) &&& (3 : Int32))), .val (.int (0 : Int32)), .val (.long y13), .second, .val (.ref b), .val (.ref ia), .val (.int (1 : Int32)), .unset] [(.int (1 : Int32))]))
                    refine own_go (fun tt_ kk_ => XS.iload XN10.here hx rfl (hb hby at_232) rfl kk_) ?_
                    show Go p.tables e below _ (T10.setTop (mkF m 234 #[.val (.long x1), .second, .val (.long x2), .second, .val (.long x3), .second, .val (.int x4), .val (.long y7), .second, .val (.long y9), .second, .val (.int ((XT.ushr x4 (2 : Int32)) &&& (3 : Int32))), .val (.int (0 : Int32)), .val (.long y13), .second, .val (.ref b), .val (.ref ia), .val (.int (1 : Int32)), .unset] [(.int (0 : Int32)), (.int (1 : Int32))]))
                    refine own_go (fun tt_ kk_ => XS.ifYes XN10.here hx rfl (pc0 := 234) (pc' := 241) rfl (hb hby at_234) rfl (XT.i0_eq_t (by decide)) (by decide) (by decide) kk_) ?_
                    show Go p.tables e below _ (T10.setTop (mkF m 241 #[.val (.long x1), .second, .val (.long x2), .second, .val (.long x3), .second, .val (.int x4), .val (.long y7), .second, .val (.long y9), .second, .val (.int ((XT.ushr x4 (2 : Int32)) &&& (3 : Int32))), .val (.int (0 : Int32)), .val (.long y13), .second, .val (.ref b), .val (.ref ia), .val (.int (1 : Int32)), .unset] [(.int (1 : Int32))]))
                    refine own_go (fun tt_ kk_ => XS.iconst XN10.here hx rfl (hb hby at_241) kk_) ?_
                    show Go p.tables e below _ (T10.setTop (mkF m 242 #[.val (.long x1), .second, .val (.long x2), .second, .val (.long x3), .second, .val (.int x4), .val (.long y7), .second, .val (.long y9), .second, .val (.int ((XT.ushr x4 (2 : Int32)) &&& (3 : Int32))), .val (.int (0 : Int32)), .val (.long y13), .second, .val (.ref b), .val (.ref ia), .val (.int (1 : Int32)), .unset] [(.int (0 : Int32)), (.int (1 : Int32))]))
                    refine own_go (fun tt_ kk_ => XS.isub XN10.here hx rfl (hb hby at_242) rfl kk_) ?_
                    show Go p.tables e below _ (T10.setTop (mkF m 243 #[.val (.long x1), .second, .val (.long x2), .second, .val (.long x3), .second, .val (.int x4), .val (.long y7), .second, .val (.long y9), .second, .val (.int ((XT.ushr x4 (2 : Int32)) &&& (3 : Int32))), .val (.int (0 : Int32)), .val (.long y13), .second, .val (.ref b), .val (.ref ia), .val (.int (1 : Int32)), .unset] [(.int (1 : Int32))]))
                    refine own_go (fun tt_ kk_ => XS.istore XN10.here hx rfl (hb hby at_243) rfl (l' := #[.val (.long x1), .second, .val (.long x2), .second, .val (.long x3), .second, .val (.int x4), .val (.long y7), .second, .val (.long y9), .second, .val (.int ((XT.ushr x4 (2 : Int32)) &&& (3 : Int32))), .val (.int (0 : Int32)), .val (.long y13), .second, .val (.ref b), .val (.ref ia), .val (.int (1 : Int32)), .val (.int (1 : Int32))]) rfl kk_) ?_
                    show Go p.tables e below _ (T10.setTop (mkF m 245 #[.val (.long x1), .second, .val (.long x2), .second, .val (.long x3), .second, .val (.int x4), .val (.long y7), .second, .val (.long y9), .second, .val (.int ((XT.ushr x4 (2 : Int32)) &&& (3 : Int32))), .val (.int (0 : Int32)), .val (.long y13), .second, .val (.ref b), .val (.ref ia), .val (.int (1 : Int32)), .val (.int (1 : Int32))] []))
                    have d3 : own_dn3 x1 y7 y9 = 1 := by rw [own_dn3, if_pos hc11, if_neg hc12, if_pos hc15]
                    have hnk : nn9 = 1 := by rw [own_count3 hG0 hG5 hG7 hn5 hn7 hn9, d3]
                    refine own_go (fun tt_ kk_ => XS.aload XN10.here hx rfl (hb hby at_245) rfl rfl kk_) ?_
                    show Go p.tables e below _ (T10.setTop (mkF m 247 #[.val (.long x1), .second, .val (.long x2), .second, .val (.long x3), .second, .val (.int x4), .val (.long y7), .second, .val (.long y9), .second, .val (.int ((XT.ushr x4 (2 : Int32)) &&& (3 : Int32))), .val (.int (0 : Int32)), .val (.long y13), .second, .val (.ref b), .val (.ref ia), .val (.int (1 : Int32)), .val (.int (1 : Int32))] [(.ref ia)]))
                    refine own_go (fun tt_ kk_ => XN10.arraylength hx Ai.1 (State.isArrayOf_alike hZ9.alike Ai.2.1) (g := (mkF m 247 #[.val (.long x1), .second, .val (.long x2), .second, .val (.long x3), .second, .val (.int x4), .val (.long y7), .second, .val (.long y9), .second, .val (.int ((XT.ushr x4 (2 : Int32)) &&& (3 : Int32))), .val (.int (0 : Int32)), .val (.long y13), .second, .val (.ref b), .val (.ref ia), .val (.int (1 : Int32)), .val (.int (1 : Int32))] [(.ref ia)])) rfl rfl (hb hby at_247) tt_ (by rw [(show ci.slots.size.toInt32 = ix nn9 by rw [szi]; rfl)]; exact kk_)) ?_
                    show Go p.tables e below _ (T10.setTop (mkF m 248 #[.val (.long x1), .second, .val (.long x2), .second, .val (.long x3), .second, .val (.int x4), .val (.long y7), .second, .val (.long y9), .second, .val (.int ((XT.ushr x4 (2 : Int32)) &&& (3 : Int32))), .val (.int (0 : Int32)), .val (.long y13), .second, .val (.ref b), .val (.ref ia), .val (.int (1 : Int32)), .val (.int (1 : Int32))] [(.int (ix nn9))]))
                    refine own_go (fun tt_ kk_ => XS.iload XN10.here hx rfl (hb hby at_248) rfl kk_) ?_
                    show Go p.tables e below _ (T10.setTop (mkF m 250 #[.val (.long x1), .second, .val (.long x2), .second, .val (.long x3), .second, .val (.int x4), .val (.long y7), .second, .val (.long y9), .second, .val (.int ((XT.ushr x4 (2 : Int32)) &&& (3 : Int32))), .val (.int (0 : Int32)), .val (.long y13), .second, .val (.ref b), .val (.ref ia), .val (.int (1 : Int32)), .val (.int (1 : Int32))] [(.int (1 : Int32)), (.int (ix nn9))]))
                    refine own_go (fun tt_ kk_ => XS.icmpYes XN10.here hx rfl (pc0 := 250) (pc' := 255) rfl (hb hby at_250) rfl (XT.ii_eq_t (show ix nn9 = (1 : Int32) by rw [hnk]; rfl)) (by decide) (by decide) kk_) ?_
                    show Go p.tables e below _ (T10.setTop (mkF m 255 #[.val (.long x1), .second, .val (.long x2), .second, .val (.long x3), .second, .val (.int x4), .val (.long y7), .second, .val (.long y9), .second, .val (.int ((XT.ushr x4 (2 : Int32)) &&& (3 : Int32))), .val (.int (0 : Int32)), .val (.long y13), .second, .val (.ref b), .val (.ref ia), .val (.int (1 : Int32)), .val (.int (1 : Int32))] []))
                    refine own_go (fun tt_ kk_ => XS.iload XN10.here hx rfl (hb hby at_255) rfl kk_) ?_
                    show Go p.tables e below _ (T10.setTop (mkF m 257 #[.val (.long x1), .second, .val (.long x2), .second, .val (.long x3), .second, .val (.int x4), .val (.long y7), .second, .val (.long y9), .second, .val (.int ((XT.ushr x4 (2 : Int32)) &&& (3 : Int32))), .val (.int (0 : Int32)), .val (.long y13), .second, .val (.ref b), .val (.ref ia), .val (.int (1 : Int32)), .val (.int (1 : Int32))] [(.int (1 : Int32))]))
                    refine own_go (fun tt_ kk_ => XS.ifNo XN10.here hx rfl (hb hby at_257) rfl (XT.i0_le_f (by decide)) kk_) ?_
                    show Go p.tables e below _ (T10.setTop (mkF m 260 #[.val (.long x1), .second, .val (.long x2), .second, .val (.long x3), .second, .val (.int x4), .val (.long y7), .second, .val (.long y9), .second, .val (.int ((XT.ushr x4 (2 : Int32)) &&& (3 : Int32))), .val (.int (0 : Int32)), .val (.long y13), .second, .val (.ref b), .val (.ref ia), .val (.int (1 : Int32)), .val (.int (1 : Int32))] []))
                    refine own_go (fun tt_ kk_ => XS.aload XN10.here hx rfl (hb hby at_260) rfl rfl kk_) ?_
                    show Go p.tables e below _ (T10.setTop (mkF m 262 #[.val (.long x1), .second, .val (.long x2), .second, .val (.long x3), .second, .val (.int x4), .val (.long y7), .second, .val (.long y9), .second, .val (.int ((XT.ushr x4 (2 : Int32)) &&& (3 : Int32))), .val (.int (0 : Int32)), .val (.long y13), .second, .val (.ref b), .val (.ref ia), .val (.int (1 : Int32)), .val (.int (1 : Int32))] [(.ref ia)]))
                    refine own_go (fun tt_ kk_ => XS.iconst XN10.here hx rfl (hb hby at_262) kk_) ?_
                    show Go p.tables e below _ (T10.setTop (mkF m 263 #[.val (.long x1), .second, .val (.long x2), .second, .val (.long x3), .second, .val (.int x4), .val (.long y7), .second, .val (.long y9), .second, .val (.int ((XT.ushr x4 (2 : Int32)) &&& (3 : Int32))), .val (.int (0 : Int32)), .val (.long y13), .second, .val (.ref b), .val (.ref ia), .val (.int (1 : Int32)), .val (.int (1 : Int32))] [(.int (0 : Int32)), (.ref ia)]))
                    refine own_go (fun tt_ kk_ => XN10.laload hx (j := (0 : Int32)) (v := (.long (out 0))) Ai.1 (State.isArrayOf_alike hZ9.alike Ai.2.1) Ai.2.2 (by rw [szi, hnk]; decide) (hati 0 (by omega)) (g := (mkF m 263 #[.val (.long x1), .second, .val (.long x2), .second, .val (.long x3), .second, .val (.int x4), .val (.long y7), .second, .val (.long y9), .second, .val (.int ((XT.ushr x4 (2 : Int32)) &&& (3 : Int32))), .val (.int (0 : Int32)), .val (.long y13), .second, .val (.ref b), .val (.ref ia), .val (.int (1 : Int32)), .val (.int (1 : Int32))] [(.int (0 : Int32)), (.ref ia)])) rfl rfl (hb hby at_263) tt_ kk_) ?_
                    show Go p.tables e below _ (T10.setTop (mkF m 264 #[.val (.long x1), .second, .val (.long x2), .second, .val (.long x3), .second, .val (.int x4), .val (.long y7), .second, .val (.long y9), .second, .val (.int ((XT.ushr x4 (2 : Int32)) &&& (3 : Int32))), .val (.int (0 : Int32)), .val (.long y13), .second, .val (.ref b), .val (.ref ia), .val (.int (1 : Int32)), .val (.int (1 : Int32))] [(.long (out 0))]))
                    refine own_go (fun tt_ kk_ => XT.lloadN XN10.here hx rfl (hb hby at_264) rfl kk_) ?_
                    show Go p.tables e below _ (T10.setTop (mkF m 265 #[.val (.long x1), .second, .val (.long x2), .second, .val (.long x3), .second, .val (.int x4), .val (.long y7), .second, .val (.long y9), .second, .val (.int ((XT.ushr x4 (2 : Int32)) &&& (3 : Int32))), .val (.int (0 : Int32)), .val (.long y13), .second, .val (.ref b), .val (.ref ia), .val (.int (1 : Int32)), .val (.int (1 : Int32))] [(.long x1), (.long (out 0))]))
                    refine own_go (fun tt_ kk_ => XT.lload XN10.here hx rfl (hb hby at_265) rfl kk_) ?_
                    show Go p.tables e below _ (T10.setTop (mkF m 267 #[.val (.long x1), .second, .val (.long x2), .second, .val (.long x3), .second, .val (.int x4), .val (.long y7), .second, .val (.long y9), .second, .val (.int ((XT.ushr x4 (2 : Int32)) &&& (3 : Int32))), .val (.int (0 : Int32)), .val (.long y13), .second, .val (.ref b), .val (.ref ia), .val (.int (1 : Int32)), .val (.int (1 : Int32))] [(.long y7), (.long x1), (.long (out 0))]))
                    refine own_go (fun tt_ kk_ => XT.lload XN10.here hx rfl (hb hby at_267) rfl kk_) ?_
                    show Go p.tables e below _ (T10.setTop (mkF m 269 #[.val (.long x1), .second, .val (.long x2), .second, .val (.long x3), .second, .val (.int x4), .val (.long y7), .second, .val (.long y9), .second, .val (.int ((XT.ushr x4 (2 : Int32)) &&& (3 : Int32))), .val (.int (0 : Int32)), .val (.long y13), .second, .val (.ref b), .val (.ref ia), .val (.int (1 : Int32)), .val (.int (1 : Int32))] [(.long y9), (.long y7), (.long x1), (.long (out 0))]))
                    refine own_go (fun tt_ kk_ => XS.iload XN10.here hx rfl (hb hby at_269) rfl kk_) ?_
                    show Go p.tables e below _ (T10.setTop (mkF m 271 #[.val (.long x1), .second, .val (.long x2), .second, .val (.long x3), .second, .val (.int x4), .val (.long y7), .second, .val (.long y9), .second, .val (.int ((XT.ushr x4 (2 : Int32)) &&& (3 : Int32))), .val (.int (0 : Int32)), .val (.long y13), .second, .val (.ref b), .val (.ref ia), .val (.int (1 : Int32)), .val (.int (1 : Int32))] [(.int (0 : Int32)), (.long y9), (.long y7), (.long x1), (.long (out 0))]))
                    refine own_go (fun tt_ kk_ => XT.lload XN10.here hx rfl (hb hby at_271) rfl kk_) ?_
                    show Go p.tables e below _ (T10.setTop (mkF m 273 #[.val (.long x1), .second, .val (.long x2), .second, .val (.long x3), .second, .val (.int x4), .val (.long y7), .second, .val (.long y9), .second, .val (.int ((XT.ushr x4 (2 : Int32)) &&& (3 : Int32))), .val (.int (0 : Int32)), .val (.long y13), .second, .val (.ref b), .val (.ref ia), .val (.int (1 : Int32)), .val (.int (1 : Int32))] [(.long y13), (.int (0 : Int32)), (.long y9), (.long y7), (.long x1), (.long (out 0))]))
                    have hj16 := hout 0 (by omega)
                    rw [hG9, hG7, hG5, hG0] at hj16
                    have hs16 : (out 0) = x1 ∨ (out 0) = y7 ∨ (out 0) = y9 := Classical.byContradiction fun z => hj16 (own_has3.mpr z)
                    obtain ⟨v17, _, ⟨T17, L17, k17, n17⟩, -, X17, ⟨Lc17, hQ17, l17, y17, z17⟩, st17⟩ := Jvm.LawKit.callS XN10 hx (y := (⟨"com/example/rootlet/rootlet/IdMapIdsPinLaw", "expected", "(JJJJZJ)Z"⟩ : MethodName)) hown9 (mvT hZ9 (hw _ (List.mem_of_getElem? (i := 64) rfl))) (mvT hZ9 (hw _ (List.mem_of_getElem? (i := 65) rfl))) (mvT hZ9 (hw _ (List.mem_of_getElem? (i := 66) rfl))) (mvT hZ9 (hw _ (List.mem_of_getElem? (i := 67) rfl))) (by decide) (backOf (W := 0) (rm_expected l Z a0 hw [] (out 0) x1 y7 y9 (0 : Int32) y13 T10.heap n0) hZ9 (hw _ (List.mem_of_getElem? (i := 67) rfl)) (hw _ (List.mem_of_getElem? (i := 66) rfl)) (by decide) (by decide)) (g := (mkF m 273 #[.val (.long x1), .second, .val (.long x2), .second, .val (.long x3), .second, .val (.int x4), .val (.long y7), .second, .val (.long y9), .second, .val (.int ((XT.ushr x4 (2 : Int32)) &&& (3 : Int32))), .val (.int (0 : Int32)), .val (.long y13), .second, .val (.ref b), .val (.ref ia), .val (.int (1 : Int32)), .val (.int (1 : Int32))] [(.long y13), (.int (0 : Int32)), (.long y9), (.long y7), (.long x1), (.long (out 0))])) rfl (by rw [hml]; rfl) (argsL := [(.long (out 0)), (.long x1), (.long y7), (.long y9), (.int (0 : Int32)), (.long y13)]) (rest := []) (lenOf pd_9 rfl) rfl (by show 2 * 0 + _ ≤ _; exact Nat.le_of_eq rfl) (hb hby at_273) (fun _ _ => ⟨rfl, rfl, (by decide : 10 + 0 ≤ _), (by decide : 116 + 0 ≤ _)⟩)
                    dsimp only [Pt.U, Pt.locs, Pt.cells, Pt.slots] at X17 l17 y17 z17 st17 hQ17
                    subst y17 z17
                    have XN17 : Stand p l e room_1 (s.setVm T9.vm) m #[(.long x1), (.long x2), (.long x3), (.int x4)] below meth c T17 _ 10 116 := X17
                    obtain ⟨hv17, N17q, e17⟩ := hQ17
                    rw [show ((.int (own_expd (out 0) x1 y7 y9 (0 : Int32) y13)) : Value) = (.int (1 : Int32)) from congrArg Value.int (own_expd_one hs16 (Or.inl rfl))] at hv17
                    subst hv17
                    have N17 : Fr n0 L17 := by rw [l17]; exact Fr.app N10 N17q
                    refine own_go (fun tt_ kk_ => st17 tt_ kk_) ?_
                    show Go p.tables e below _ (T17.setTop (mkF m 276 #[.val (.long x1), .second, .val (.long x2), .second, .val (.long x3), .second, .val (.int x4), .val (.long y7), .second, .val (.long y9), .second, .val (.int ((XT.ushr x4 (2 : Int32)) &&& (3 : Int32))), .val (.int (0 : Int32)), .val (.long y13), .second, .val (.ref b), .val (.ref ia), .val (.int (1 : Int32)), .val (.int (1 : Int32))] [(.int (1 : Int32))]))
                    refine own_go (fun tt_ kk_ => XS.ifYes XN17.here hx rfl (pc0 := 276) (pc' := 281) rfl (hb hby at_276) rfl (XT.i0_ne_t (by decide)) (by decide) (by decide) kk_) ?_
                    show Go p.tables e below _ (T17.setTop (mkF m 281 #[.val (.long x1), .second, .val (.long x2), .second, .val (.long x3), .second, .val (.int x4), .val (.long y7), .second, .val (.long y9), .second, .val (.int ((XT.ushr x4 (2 : Int32)) &&& (3 : Int32))), .val (.int (0 : Int32)), .val (.long y13), .second, .val (.ref b), .val (.ref ia), .val (.int (1 : Int32)), .val (.int (1 : Int32))] []))
                    refine own_go (fun tt_ kk_ => XS.iload XN17.here hx rfl (hb hby at_281) rfl kk_) ?_
                    show Go p.tables e below _ (T17.setTop (mkF m 283 #[.val (.long x1), .second, .val (.long x2), .second, .val (.long x3), .second, .val (.int x4), .val (.long y7), .second, .val (.long y9), .second, .val (.int ((XT.ushr x4 (2 : Int32)) &&& (3 : Int32))), .val (.int (0 : Int32)), .val (.long y13), .second, .val (.ref b), .val (.ref ia), .val (.int (1 : Int32)), .val (.int (1 : Int32))] [(.int (1 : Int32))]))
                    refine own_go (fun tt_ kk_ => XS.iconst XN17.here hx rfl (hb hby at_283) kk_) ?_
                    show Go p.tables e below _ (T17.setTop (mkF m 284 #[.val (.long x1), .second, .val (.long x2), .second, .val (.long x3), .second, .val (.int x4), .val (.long y7), .second, .val (.long y9), .second, .val (.int ((XT.ushr x4 (2 : Int32)) &&& (3 : Int32))), .val (.int (0 : Int32)), .val (.long y13), .second, .val (.ref b), .val (.ref ia), .val (.int (1 : Int32)), .val (.int (1 : Int32))] [(.int (1 : Int32)), (.int (1 : Int32))]))
                    refine own_go (fun tt_ kk_ => XS.icmpYes XN17.here hx rfl (pc0 := 284) (pc' := 308) rfl (hb hby at_284) rfl (XT.ii_le_t (by decide)) (by decide) (by decide) kk_) ?_
                    show Go p.tables e below _ (T17.setTop (mkF m 308 #[.val (.long x1), .second, .val (.long x2), .second, .val (.long x3), .second, .val (.int x4), .val (.long y7), .second, .val (.long y9), .second, .val (.int ((XT.ushr x4 (2 : Int32)) &&& (3 : Int32))), .val (.int (0 : Int32)), .val (.long y13), .second, .val (.ref b), .val (.ref ia), .val (.int (1 : Int32)), .val (.int (1 : Int32))] []))
                    refine own_go (fun tt_ kk_ => XS.iload XN17.here hx rfl (hb hby at_308) rfl kk_) ?_
                    show Go p.tables e below _ (T17.setTop (mkF m 310 #[.val (.long x1), .second, .val (.long x2), .second, .val (.long x3), .second, .val (.int x4), .val (.long y7), .second, .val (.long y9), .second, .val (.int ((XT.ushr x4 (2 : Int32)) &&& (3 : Int32))), .val (.int (0 : Int32)), .val (.long y13), .second, .val (.ref b), .val (.ref ia), .val (.int (1 : Int32)), .val (.int (1 : Int32))] [(.int (1 : Int32))]))
                    refine own_go (fun tt_ kk_ => XS.iconst XN17.here hx rfl (hb hby at_310) kk_) ?_
                    show Go p.tables e below _ (T17.setTop (mkF m 311 #[.val (.long x1), .second, .val (.long x2), .second, .val (.long x3), .second, .val (.int x4), .val (.long y7), .second, .val (.long y9), .second, .val (.int ((XT.ushr x4 (2 : Int32)) &&& (3 : Int32))), .val (.int (0 : Int32)), .val (.long y13), .second, .val (.ref b), .val (.ref ia), .val (.int (1 : Int32)), .val (.int (1 : Int32))] [(.int (2 : Int32)), (.int (1 : Int32))]))
                    refine own_go (fun tt_ kk_ => XS.icmpYes XN17.here hx rfl (pc0 := 311) (pc' := 335) rfl (hb hby at_311) rfl (XT.ii_le_t (by decide)) (by decide) (by decide) kk_) ?_
                    show Go p.tables e below _ (T17.setTop (mkF m 335 #[.val (.long x1), .second, .val (.long x2), .second, .val (.long x3), .second, .val (.int x4), .val (.long y7), .second, .val (.long y9), .second, .val (.int ((XT.ushr x4 (2 : Int32)) &&& (3 : Int32))), .val (.int (0 : Int32)), .val (.long y13), .second, .val (.ref b), .val (.ref ia), .val (.int (1 : Int32)), .val (.int (1 : Int32))] []))
                    refine own_go (fun tt_ kk_ => XS.iload XN17.here hx rfl (hb hby at_335) rfl kk_) ?_
                    show Go p.tables e below _ (T17.setTop (mkF m 337 #[.val (.long x1), .second, .val (.long x2), .second, .val (.long x3), .second, .val (.int x4), .val (.long y7), .second, .val (.long y9), .second, .val (.int ((XT.ushr x4 (2 : Int32)) &&& (3 : Int32))), .val (.int (0 : Int32)), .val (.long y13), .second, .val (.ref b), .val (.ref ia), .val (.int (1 : Int32)), .val (.int (1 : Int32))] [(.int (1 : Int32))]))
                    refine own_go (fun tt_ kk_ => XS.iconst XN17.here hx rfl (hb hby at_337) kk_) ?_
                    show Go p.tables e below _ (T17.setTop (mkF m 338 #[.val (.long x1), .second, .val (.long x2), .second, .val (.long x3), .second, .val (.int x4), .val (.long y7), .second, .val (.long y9), .second, .val (.int ((XT.ushr x4 (2 : Int32)) &&& (3 : Int32))), .val (.int (0 : Int32)), .val (.long y13), .second, .val (.ref b), .val (.ref ia), .val (.int (1 : Int32)), .val (.int (1 : Int32))] [(.int (1 : Int32)), (.int (1 : Int32))]))
                    refine own_go (fun tt_ kk_ => XS.icmpYes XN17.here hx rfl (pc0 := 338) (pc' := 355) rfl (hb hby at_338) rfl (XT.ii_le_t (by decide)) (by decide) (by decide) kk_) ?_
                    show Go p.tables e below _ (T17.setTop (mkF m 355 #[.val (.long x1), .second, .val (.long x2), .second, .val (.long x3), .second, .val (.int x4), .val (.long y7), .second, .val (.long y9), .second, .val (.int ((XT.ushr x4 (2 : Int32)) &&& (3 : Int32))), .val (.int (0 : Int32)), .val (.long y13), .second, .val (.ref b), .val (.ref ia), .val (.int (1 : Int32)), .val (.int (1 : Int32))] []))
                    refine own_go (fun tt_ kk_ => XS.iload XN17.here hx rfl (hb hby at_355) rfl kk_) ?_
                    show Go p.tables e below _ (T17.setTop (mkF m 357 #[.val (.long x1), .second, .val (.long x2), .second, .val (.long x3), .second, .val (.int x4), .val (.long y7), .second, .val (.long y9), .second, .val (.int ((XT.ushr x4 (2 : Int32)) &&& (3 : Int32))), .val (.int (0 : Int32)), .val (.long y13), .second, .val (.ref b), .val (.ref ia), .val (.int (1 : Int32)), .val (.int (1 : Int32))] [(.int (1 : Int32))]))
                    refine own_go (fun tt_ kk_ => XS.iconst XN17.here hx rfl (hb hby at_357) kk_) ?_
                    show Go p.tables e below _ (T17.setTop (mkF m 358 #[.val (.long x1), .second, .val (.long x2), .second, .val (.long x3), .second, .val (.int x4), .val (.long y7), .second, .val (.long y9), .second, .val (.int ((XT.ushr x4 (2 : Int32)) &&& (3 : Int32))), .val (.int (0 : Int32)), .val (.long y13), .second, .val (.ref b), .val (.ref ia), .val (.int (1 : Int32)), .val (.int (1 : Int32))] [(.int (2 : Int32)), (.int (1 : Int32))]))
                    refine own_go (fun tt_ kk_ => XS.icmpYes XN17.here hx rfl (pc0 := 358) (pc' := 387) rfl (hb hby at_358) rfl (XT.ii_le_t (by decide)) (by decide) (by decide) kk_) ?_
                    show Go p.tables e below _ (T17.setTop (mkF m 387 #[.val (.long x1), .second, .val (.long x2), .second, .val (.long x3), .second, .val (.int x4), .val (.long y7), .second, .val (.long y9), .second, .val (.int ((XT.ushr x4 (2 : Int32)) &&& (3 : Int32))), .val (.int (0 : Int32)), .val (.long y13), .second, .val (.ref b), .val (.ref ia), .val (.int (1 : Int32)), .val (.int (1 : Int32))] []))
                    refine own_go (fun tt_ kk_ => XS.iconst XN17.here hx rfl (hb hby at_387) kk_) ?_
                    show Go p.tables e below _ (T17.setTop (mkF m 388 #[.val (.long x1), .second, .val (.long x2), .second, .val (.long x3), .second, .val (.int x4), .val (.long y7), .second, .val (.long y9), .second, .val (.int ((XT.ushr x4 (2 : Int32)) &&& (3 : Int32))), .val (.int (0 : Int32)), .val (.long y13), .second, .val (.ref b), .val (.ref ia), .val (.int (1 : Int32)), .val (.int (1 : Int32))] [(.int (1 : Int32))]))
                    exact own_retW XN17 sq9 (by rw [e17]; exact kz10) hx hlk Bd.returns rfl (Or.inl ⟨rfl, Or.inr (Or.inl rfl), _, rfl⟩) (hb hby at_388) ⟨rfl, N17⟩ (by decide) (by decide)
                  · refine own_go (fun tt_ kk_ => XS.ifNo XN10.here hx rfl (hb hby at_219) rfl (XT.ll_eq_f hc15) kk_) ?_
                    show Go p.tables e below _ (T10.setTop (mkF m 222 #[.val (.long x1), .second, .val (.long x2), .second, .val (.long x3), .second, .val (.int x4), .val (.long y7), .second, .val (.long y9), .second, .val (.int ((XT.ushr x4 (2 : Int32)) &&& (3 : Int32))), .val (.int (0 : Int32)), .val (.long y13), .second, .val (.ref b), .val (.ref ia), .unset, .unset] [(.int (1 : Int32))]))
                    refine own_go (fun tt_ kk_ => XS.iconst XN10.here hx rfl (hb hby at_222) kk_) ?_
                    show Go p.tables e below _ (T10.setTop (mkF m 223 #[.val (.long x1), .second, .val (.long x2), .second, .val (.long x3), .second, .val (.int x4), .val (.long y7), .second, .val (.long y9), .second, .val (.int ((XT.ushr x4 (2 : Int32)) &&& (3 : Int32))), .val (.int (0 : Int32)), .val (.long y13), .second, .val (.ref b), .val (.ref ia), .unset, .unset] [(.int (1 : Int32)), (.int (1 : Int32))]))
                    refine own_go (fun tt_ kk_ => XS.goto XN10.here hx rfl (pc0 := 223) (pc' := 227) rfl (hb hby at_223) (by decide) (by decide) kk_) ?_
                    show Go p.tables e below _ (T10.setTop (mkF m 227 #[.val (.long x1), .second, .val (.long x2), .second, .val (.long x3), .second, .val (.int x4), .val (.long y7), .second, .val (.long y9), .second, .val (.int ((XT.ushr x4 (2 : Int32)) &&& (3 : Int32))), .val (.int (0 : Int32)), .val (.long y13), .second, .val (.ref b), .val (.ref ia), .unset, .unset] [(.int (1 : Int32)), (.int (1 : Int32))]))
                    refine own_go (fun tt_ kk_ => XS.iadd XN10.here hx rfl (hb hby at_227) rfl kk_) ?_
                    show Go p.tables e below _ (T10.setTop (mkF m 228 #[.val (.long x1), .second, .val (.long x2), .second, .val (.long x3), .second, .val (.int x4), .val (.long y7), .second, .val (.long y9), .second, .val (.int ((XT.ushr x4 (2 : Int32)) &&& (3 : Int32))), .val (.int (0 : Int32)), .val (.long y13), .second, .val (.ref b), .val (.ref ia), .unset, .unset] [(.int (2 : Int32))]))
                    refine own_go (fun tt_ kk_ => XS.istore XN10.here hx rfl (hb hby at_228) rfl (l' := #[.val (.long x1), .second, .val (.long x2), .second, .val (.long x3), .second, .val (.int x4), .val (.long y7), .second, .val (.long y9), .second, .val (.int ((XT.ushr x4 (2 : Int32)) &&& (3 : Int32))), .val (.int (0 : Int32)), .val (.long y13), .second, .val (.ref b), .val (.ref ia), .val (.int (2 : Int32)), .unset]) rfl kk_) ?_
                    show Go p.tables e below _ (T10.setTop (mkF m 230 #[.val (.long x1), .second, .val (.long x2), .second, .val (.long x3), .second, .val (.int x4), .val (.long y7), .second, .val (.long y9), .second, .val (.int ((XT.ushr x4 (2 : Int32)) &&& (3 : Int32))), .val (.int (0 : Int32)), .val (.long y13), .second, .val (.ref b), .val (.ref ia), .val (.int (2 : Int32)), .unset] []))
                    refine own_go (fun tt_ kk_ => XS.iload XN10.here hx rfl (hb hby at_230) rfl kk_) ?_
                    show Go p.tables e below _ (T10.setTop (mkF m 232 #[.val (.long x1), .second, .val (.long x2), .second, .val (.long x3), .second, .val (.int x4), .val (.long y7), .second, .val (.long y9), .second, .val (.int ((XT.ushr x4 (2 : Int32)) &&& (3 : Int32))), .val (.int (0 : Int32)), .val (.long y13), .second, .val (.ref b), .val (.ref ia), .val (.int (2 : Int32)), .unset] [(.int (2 : Int32))]))
                    refine own_go (fun tt_ kk_ => XS.iload XN10.here hx rfl (hb hby at_232) rfl kk_) ?_
                    show Go p.tables e below _ (T10.setTop (mkF m 234 #[.val (.long x1), .second, .val (.long x2), .second, .val (.long x3), .second, .val (.int x4), .val (.long y7), .second, .val (.long y9), .second, .val (.int ((XT.ushr x4 (2 : Int32)) &&& (3 : Int32))), .val (.int (0 : Int32)), .val (.long y13), .second, .val (.ref b), .val (.ref ia), .val (.int (2 : Int32)), .unset] [(.int (0 : Int32)), (.int (2 : Int32))]))
                    refine own_go (fun tt_ kk_ => XS.ifYes XN10.here hx rfl (pc0 := 234) (pc' := 241) rfl (hb hby at_234) rfl (XT.i0_eq_t (by decide)) (by decide) (by decide) kk_) ?_
                    show Go p.tables e below _ (T10.setTop (mkF m 241 #[.val (.long x1), .second, .val (.long x2), .second, .val (.long x3), .second, .val (.int x4), .val (.long y7), .second, .val (.long y9), .second, .val (.int ((XT.ushr x4 (2 : Int32)) &&& (3 : Int32))), .val (.int (0 : Int32)), .val (.long y13), .second, .val (.ref b), .val (.ref ia), .val (.int (2 : Int32)), .unset] [(.int (2 : Int32))]))
                    refine own_go (fun tt_ kk_ => XS.iconst XN10.here hx rfl (hb hby at_241) kk_) ?_
                    show Go p.tables e below _ (T10.setTop (mkF m 242 #[.val (.long x1), .second, .val (.long x2), .second, .val (.long x3), .second, .val (.int x4), .val (.long y7), .second, .val (.long y9), .second, .val (.int ((XT.ushr x4 (2 : Int32)) &&& (3 : Int32))), .val (.int (0 : Int32)), .val (.long y13), .second, .val (.ref b), .val (.ref ia), .val (.int (2 : Int32)), .unset] [(.int (0 : Int32)), (.int (2 : Int32))]))
                    refine own_go (fun tt_ kk_ => XS.isub XN10.here hx rfl (hb hby at_242) rfl kk_) ?_
                    show Go p.tables e below _ (T10.setTop (mkF m 243 #[.val (.long x1), .second, .val (.long x2), .second, .val (.long x3), .second, .val (.int x4), .val (.long y7), .second, .val (.long y9), .second, .val (.int ((XT.ushr x4 (2 : Int32)) &&& (3 : Int32))), .val (.int (0 : Int32)), .val (.long y13), .second, .val (.ref b), .val (.ref ia), .val (.int (2 : Int32)), .unset] [(.int (2 : Int32))]))
                    refine own_go (fun tt_ kk_ => XS.istore XN10.here hx rfl (hb hby at_243) rfl (l' := #[.val (.long x1), .second, .val (.long x2), .second, .val (.long x3), .second, .val (.int x4), .val (.long y7), .second, .val (.long y9), .second, .val (.int ((XT.ushr x4 (2 : Int32)) &&& (3 : Int32))), .val (.int (0 : Int32)), .val (.long y13), .second, .val (.ref b), .val (.ref ia), .val (.int (2 : Int32)), .val (.int (2 : Int32))]) rfl kk_) ?_
                    show Go p.tables e below _ (T10.setTop (mkF m 245 #[.val (.long x1), .second, .val (.long x2), .second, .val (.long x3), .second, .val (.int x4), .val (.long y7), .second, .val (.long y9), .second, .val (.int ((XT.ushr x4 (2 : Int32)) &&& (3 : Int32))), .val (.int (0 : Int32)), .val (.long y13), .second, .val (.ref b), .val (.ref ia), .val (.int (2 : Int32)), .val (.int (2 : Int32))] []))
                    have d3 : own_dn3 x1 y7 y9 = 2 := by rw [own_dn3, if_pos hc11, if_neg hc12, if_neg hc15]
                    have hnk : nn9 = 2 := by rw [own_count3 hG0 hG5 hG7 hn5 hn7 hn9, d3]
                    refine own_go (fun tt_ kk_ => XS.aload XN10.here hx rfl (hb hby at_245) rfl rfl kk_) ?_
                    show Go p.tables e below _ (T10.setTop (mkF m 247 #[.val (.long x1), .second, .val (.long x2), .second, .val (.long x3), .second, .val (.int x4), .val (.long y7), .second, .val (.long y9), .second, .val (.int ((XT.ushr x4 (2 : Int32)) &&& (3 : Int32))), .val (.int (0 : Int32)), .val (.long y13), .second, .val (.ref b), .val (.ref ia), .val (.int (2 : Int32)), .val (.int (2 : Int32))] [(.ref ia)]))
                    refine own_go (fun tt_ kk_ => XN10.arraylength hx Ai.1 (State.isArrayOf_alike hZ9.alike Ai.2.1) (g := (mkF m 247 #[.val (.long x1), .second, .val (.long x2), .second, .val (.long x3), .second, .val (.int x4), .val (.long y7), .second, .val (.long y9), .second, .val (.int ((XT.ushr x4 (2 : Int32)) &&& (3 : Int32))), .val (.int (0 : Int32)), .val (.long y13), .second, .val (.ref b), .val (.ref ia), .val (.int (2 : Int32)), .val (.int (2 : Int32))] [(.ref ia)])) rfl rfl (hb hby at_247) tt_ (by rw [(show ci.slots.size.toInt32 = ix nn9 by rw [szi]; rfl)]; exact kk_)) ?_
                    show Go p.tables e below _ (T10.setTop (mkF m 248 #[.val (.long x1), .second, .val (.long x2), .second, .val (.long x3), .second, .val (.int x4), .val (.long y7), .second, .val (.long y9), .second, .val (.int ((XT.ushr x4 (2 : Int32)) &&& (3 : Int32))), .val (.int (0 : Int32)), .val (.long y13), .second, .val (.ref b), .val (.ref ia), .val (.int (2 : Int32)), .val (.int (2 : Int32))] [(.int (ix nn9))]))
                    refine own_go (fun tt_ kk_ => XS.iload XN10.here hx rfl (hb hby at_248) rfl kk_) ?_
                    show Go p.tables e below _ (T10.setTop (mkF m 250 #[.val (.long x1), .second, .val (.long x2), .second, .val (.long x3), .second, .val (.int x4), .val (.long y7), .second, .val (.long y9), .second, .val (.int ((XT.ushr x4 (2 : Int32)) &&& (3 : Int32))), .val (.int (0 : Int32)), .val (.long y13), .second, .val (.ref b), .val (.ref ia), .val (.int (2 : Int32)), .val (.int (2 : Int32))] [(.int (2 : Int32)), (.int (ix nn9))]))
                    refine own_go (fun tt_ kk_ => XS.icmpYes XN10.here hx rfl (pc0 := 250) (pc' := 255) rfl (hb hby at_250) rfl (XT.ii_eq_t (show ix nn9 = (2 : Int32) by rw [hnk]; rfl)) (by decide) (by decide) kk_) ?_
                    show Go p.tables e below _ (T10.setTop (mkF m 255 #[.val (.long x1), .second, .val (.long x2), .second, .val (.long x3), .second, .val (.int x4), .val (.long y7), .second, .val (.long y9), .second, .val (.int ((XT.ushr x4 (2 : Int32)) &&& (3 : Int32))), .val (.int (0 : Int32)), .val (.long y13), .second, .val (.ref b), .val (.ref ia), .val (.int (2 : Int32)), .val (.int (2 : Int32))] []))
                    refine own_go (fun tt_ kk_ => XS.iload XN10.here hx rfl (hb hby at_255) rfl kk_) ?_
                    show Go p.tables e below _ (T10.setTop (mkF m 257 #[.val (.long x1), .second, .val (.long x2), .second, .val (.long x3), .second, .val (.int x4), .val (.long y7), .second, .val (.long y9), .second, .val (.int ((XT.ushr x4 (2 : Int32)) &&& (3 : Int32))), .val (.int (0 : Int32)), .val (.long y13), .second, .val (.ref b), .val (.ref ia), .val (.int (2 : Int32)), .val (.int (2 : Int32))] [(.int (2 : Int32))]))
                    refine own_go (fun tt_ kk_ => XS.ifNo XN10.here hx rfl (hb hby at_257) rfl (XT.i0_le_f (by decide)) kk_) ?_
                    show Go p.tables e below _ (T10.setTop (mkF m 260 #[.val (.long x1), .second, .val (.long x2), .second, .val (.long x3), .second, .val (.int x4), .val (.long y7), .second, .val (.long y9), .second, .val (.int ((XT.ushr x4 (2 : Int32)) &&& (3 : Int32))), .val (.int (0 : Int32)), .val (.long y13), .second, .val (.ref b), .val (.ref ia), .val (.int (2 : Int32)), .val (.int (2 : Int32))] []))
                    refine own_go (fun tt_ kk_ => XS.aload XN10.here hx rfl (hb hby at_260) rfl rfl kk_) ?_
                    show Go p.tables e below _ (T10.setTop (mkF m 262 #[.val (.long x1), .second, .val (.long x2), .second, .val (.long x3), .second, .val (.int x4), .val (.long y7), .second, .val (.long y9), .second, .val (.int ((XT.ushr x4 (2 : Int32)) &&& (3 : Int32))), .val (.int (0 : Int32)), .val (.long y13), .second, .val (.ref b), .val (.ref ia), .val (.int (2 : Int32)), .val (.int (2 : Int32))] [(.ref ia)]))
                    refine own_go (fun tt_ kk_ => XS.iconst XN10.here hx rfl (hb hby at_262) kk_) ?_
                    show Go p.tables e below _ (T10.setTop (mkF m 263 #[.val (.long x1), .second, .val (.long x2), .second, .val (.long x3), .second, .val (.int x4), .val (.long y7), .second, .val (.long y9), .second, .val (.int ((XT.ushr x4 (2 : Int32)) &&& (3 : Int32))), .val (.int (0 : Int32)), .val (.long y13), .second, .val (.ref b), .val (.ref ia), .val (.int (2 : Int32)), .val (.int (2 : Int32))] [(.int (0 : Int32)), (.ref ia)]))
                    refine own_go (fun tt_ kk_ => XN10.laload hx (j := (0 : Int32)) (v := (.long (out 0))) Ai.1 (State.isArrayOf_alike hZ9.alike Ai.2.1) Ai.2.2 (by rw [szi, hnk]; decide) (hati 0 (by omega)) (g := (mkF m 263 #[.val (.long x1), .second, .val (.long x2), .second, .val (.long x3), .second, .val (.int x4), .val (.long y7), .second, .val (.long y9), .second, .val (.int ((XT.ushr x4 (2 : Int32)) &&& (3 : Int32))), .val (.int (0 : Int32)), .val (.long y13), .second, .val (.ref b), .val (.ref ia), .val (.int (2 : Int32)), .val (.int (2 : Int32))] [(.int (0 : Int32)), (.ref ia)])) rfl rfl (hb hby at_263) tt_ kk_) ?_
                    show Go p.tables e below _ (T10.setTop (mkF m 264 #[.val (.long x1), .second, .val (.long x2), .second, .val (.long x3), .second, .val (.int x4), .val (.long y7), .second, .val (.long y9), .second, .val (.int ((XT.ushr x4 (2 : Int32)) &&& (3 : Int32))), .val (.int (0 : Int32)), .val (.long y13), .second, .val (.ref b), .val (.ref ia), .val (.int (2 : Int32)), .val (.int (2 : Int32))] [(.long (out 0))]))
                    refine own_go (fun tt_ kk_ => XT.lloadN XN10.here hx rfl (hb hby at_264) rfl kk_) ?_
                    show Go p.tables e below _ (T10.setTop (mkF m 265 #[.val (.long x1), .second, .val (.long x2), .second, .val (.long x3), .second, .val (.int x4), .val (.long y7), .second, .val (.long y9), .second, .val (.int ((XT.ushr x4 (2 : Int32)) &&& (3 : Int32))), .val (.int (0 : Int32)), .val (.long y13), .second, .val (.ref b), .val (.ref ia), .val (.int (2 : Int32)), .val (.int (2 : Int32))] [(.long x1), (.long (out 0))]))
                    refine own_go (fun tt_ kk_ => XT.lload XN10.here hx rfl (hb hby at_265) rfl kk_) ?_
                    show Go p.tables e below _ (T10.setTop (mkF m 267 #[.val (.long x1), .second, .val (.long x2), .second, .val (.long x3), .second, .val (.int x4), .val (.long y7), .second, .val (.long y9), .second, .val (.int ((XT.ushr x4 (2 : Int32)) &&& (3 : Int32))), .val (.int (0 : Int32)), .val (.long y13), .second, .val (.ref b), .val (.ref ia), .val (.int (2 : Int32)), .val (.int (2 : Int32))] [(.long y7), (.long x1), (.long (out 0))]))
                    refine own_go (fun tt_ kk_ => XT.lload XN10.here hx rfl (hb hby at_267) rfl kk_) ?_
                    show Go p.tables e below _ (T10.setTop (mkF m 269 #[.val (.long x1), .second, .val (.long x2), .second, .val (.long x3), .second, .val (.int x4), .val (.long y7), .second, .val (.long y9), .second, .val (.int ((XT.ushr x4 (2 : Int32)) &&& (3 : Int32))), .val (.int (0 : Int32)), .val (.long y13), .second, .val (.ref b), .val (.ref ia), .val (.int (2 : Int32)), .val (.int (2 : Int32))] [(.long y9), (.long y7), (.long x1), (.long (out 0))]))
                    refine own_go (fun tt_ kk_ => XS.iload XN10.here hx rfl (hb hby at_269) rfl kk_) ?_
                    show Go p.tables e below _ (T10.setTop (mkF m 271 #[.val (.long x1), .second, .val (.long x2), .second, .val (.long x3), .second, .val (.int x4), .val (.long y7), .second, .val (.long y9), .second, .val (.int ((XT.ushr x4 (2 : Int32)) &&& (3 : Int32))), .val (.int (0 : Int32)), .val (.long y13), .second, .val (.ref b), .val (.ref ia), .val (.int (2 : Int32)), .val (.int (2 : Int32))] [(.int (0 : Int32)), (.long y9), (.long y7), (.long x1), (.long (out 0))]))
                    refine own_go (fun tt_ kk_ => XT.lload XN10.here hx rfl (hb hby at_271) rfl kk_) ?_
                    show Go p.tables e below _ (T10.setTop (mkF m 273 #[.val (.long x1), .second, .val (.long x2), .second, .val (.long x3), .second, .val (.int x4), .val (.long y7), .second, .val (.long y9), .second, .val (.int ((XT.ushr x4 (2 : Int32)) &&& (3 : Int32))), .val (.int (0 : Int32)), .val (.long y13), .second, .val (.ref b), .val (.ref ia), .val (.int (2 : Int32)), .val (.int (2 : Int32))] [(.long y13), (.int (0 : Int32)), (.long y9), (.long y7), (.long x1), (.long (out 0))]))
                    have hj18 := hout 0 (by omega)
                    rw [hG9, hG7, hG5, hG0] at hj18
                    have hs18 : (out 0) = x1 ∨ (out 0) = y7 ∨ (out 0) = y9 := Classical.byContradiction fun z => hj18 (own_has3.mpr z)
                    obtain ⟨v19, _, ⟨T19, L19, k19, n19⟩, -, X19, ⟨Lc19, hQ19, l19, y19, z19⟩, st19⟩ := Jvm.LawKit.callS XN10 hx (y := (⟨"com/example/rootlet/rootlet/IdMapIdsPinLaw", "expected", "(JJJJZJ)Z"⟩ : MethodName)) hown9 (mvT hZ9 (hw _ (List.mem_of_getElem? (i := 64) rfl))) (mvT hZ9 (hw _ (List.mem_of_getElem? (i := 65) rfl))) (mvT hZ9 (hw _ (List.mem_of_getElem? (i := 66) rfl))) (mvT hZ9 (hw _ (List.mem_of_getElem? (i := 67) rfl))) (by decide) (backOf (W := 0) (rm_expected l Z a0 hw [] (out 0) x1 y7 y9 (0 : Int32) y13 T10.heap n0) hZ9 (hw _ (List.mem_of_getElem? (i := 67) rfl)) (hw _ (List.mem_of_getElem? (i := 66) rfl)) (by decide) (by decide)) (g := (mkF m 273 #[.val (.long x1), .second, .val (.long x2), .second, .val (.long x3), .second, .val (.int x4), .val (.long y7), .second, .val (.long y9), .second, .val (.int ((XT.ushr x4 (2 : Int32)) &&& (3 : Int32))), .val (.int (0 : Int32)), .val (.long y13), .second, .val (.ref b), .val (.ref ia), .val (.int (2 : Int32)), .val (.int (2 : Int32))] [(.long y13), (.int (0 : Int32)), (.long y9), (.long y7), (.long x1), (.long (out 0))])) rfl (by rw [hml]; rfl) (argsL := [(.long (out 0)), (.long x1), (.long y7), (.long y9), (.int (0 : Int32)), (.long y13)]) (rest := []) (lenOf pd_9 rfl) rfl (by show 2 * 0 + _ ≤ _; exact Nat.le_of_eq rfl) (hb hby at_273) (fun _ _ => ⟨rfl, rfl, (by decide : 10 + 0 ≤ _), (by decide : 116 + 0 ≤ _)⟩)
                    dsimp only [Pt.U, Pt.locs, Pt.cells, Pt.slots] at X19 l19 y19 z19 st19 hQ19
                    subst y19 z19
                    have XN19 : Stand p l e room_1 (s.setVm T9.vm) m #[(.long x1), (.long x2), (.long x3), (.int x4)] below meth c T19 _ 10 116 := X19
                    obtain ⟨hv19, N19q, e19⟩ := hQ19
                    rw [show ((.int (own_expd (out 0) x1 y7 y9 (0 : Int32) y13)) : Value) = (.int (1 : Int32)) from congrArg Value.int (own_expd_one hs18 (Or.inl rfl))] at hv19
                    subst hv19
                    have N19 : Fr n0 L19 := by rw [l19]; exact Fr.app N10 N19q
                    refine own_go (fun tt_ kk_ => st19 tt_ kk_) ?_
                    show Go p.tables e below _ (T19.setTop (mkF m 276 #[.val (.long x1), .second, .val (.long x2), .second, .val (.long x3), .second, .val (.int x4), .val (.long y7), .second, .val (.long y9), .second, .val (.int ((XT.ushr x4 (2 : Int32)) &&& (3 : Int32))), .val (.int (0 : Int32)), .val (.long y13), .second, .val (.ref b), .val (.ref ia), .val (.int (2 : Int32)), .val (.int (2 : Int32))] [(.int (1 : Int32))]))
                    refine own_go (fun tt_ kk_ => XS.ifYes XN19.here hx rfl (pc0 := 276) (pc' := 281) rfl (hb hby at_276) rfl (XT.i0_ne_t (by decide)) (by decide) (by decide) kk_) ?_
                    show Go p.tables e below _ (T19.setTop (mkF m 281 #[.val (.long x1), .second, .val (.long x2), .second, .val (.long x3), .second, .val (.int x4), .val (.long y7), .second, .val (.long y9), .second, .val (.int ((XT.ushr x4 (2 : Int32)) &&& (3 : Int32))), .val (.int (0 : Int32)), .val (.long y13), .second, .val (.ref b), .val (.ref ia), .val (.int (2 : Int32)), .val (.int (2 : Int32))] []))
                    refine own_go (fun tt_ kk_ => XS.iload XN19.here hx rfl (hb hby at_281) rfl kk_) ?_
                    show Go p.tables e below _ (T19.setTop (mkF m 283 #[.val (.long x1), .second, .val (.long x2), .second, .val (.long x3), .second, .val (.int x4), .val (.long y7), .second, .val (.long y9), .second, .val (.int ((XT.ushr x4 (2 : Int32)) &&& (3 : Int32))), .val (.int (0 : Int32)), .val (.long y13), .second, .val (.ref b), .val (.ref ia), .val (.int (2 : Int32)), .val (.int (2 : Int32))] [(.int (2 : Int32))]))
                    refine own_go (fun tt_ kk_ => XS.iconst XN19.here hx rfl (hb hby at_283) kk_) ?_
                    show Go p.tables e below _ (T19.setTop (mkF m 284 #[.val (.long x1), .second, .val (.long x2), .second, .val (.long x3), .second, .val (.int x4), .val (.long y7), .second, .val (.long y9), .second, .val (.int ((XT.ushr x4 (2 : Int32)) &&& (3 : Int32))), .val (.int (0 : Int32)), .val (.long y13), .second, .val (.ref b), .val (.ref ia), .val (.int (2 : Int32)), .val (.int (2 : Int32))] [(.int (1 : Int32)), (.int (2 : Int32))]))
                    refine own_go (fun tt_ kk_ => XS.icmpNo XN19.here hx rfl (hb hby at_284) rfl (XT.ii_le_f (by decide)) kk_) ?_
                    show Go p.tables e below _ (T19.setTop (mkF m 287 #[.val (.long x1), .second, .val (.long x2), .second, .val (.long x3), .second, .val (.int x4), .val (.long y7), .second, .val (.long y9), .second, .val (.int ((XT.ushr x4 (2 : Int32)) &&& (3 : Int32))), .val (.int (0 : Int32)), .val (.long y13), .second, .val (.ref b), .val (.ref ia), .val (.int (2 : Int32)), .val (.int (2 : Int32))] []))
                    refine own_go (fun tt_ kk_ => XS.aload XN19.here hx rfl (hb hby at_287) rfl rfl kk_) ?_
                    show Go p.tables e below _ (T19.setTop (mkF m 289 #[.val (.long x1), .second, .val (.long x2), .second, .val (.long x3), .second, .val (.int x4), .val (.long y7), .second, .val (.long y9), .second, .val (.int ((XT.ushr x4 (2 : Int32)) &&& (3 : Int32))), .val (.int (0 : Int32)), .val (.long y13), .second, .val (.ref b), .val (.ref ia), .val (.int (2 : Int32)), .val (.int (2 : Int32))] [(.ref ia)]))
                    refine own_go (fun tt_ kk_ => XS.iconst XN19.here hx rfl (hb hby at_289) kk_) ?_
                    show Go p.tables e below _ (T19.setTop (mkF m 290 #[.val (.long x1), .second, .val (.long x2), .second, .val (.long x3), .second, .val (.int x4), .val (.long y7), .second, .val (.long y9), .second, .val (.int ((XT.ushr x4 (2 : Int32)) &&& (3 : Int32))), .val (.int (0 : Int32)), .val (.long y13), .second, .val (.ref b), .val (.ref ia), .val (.int (2 : Int32)), .val (.int (2 : Int32))] [(.int (1 : Int32)), (.ref ia)]))
                    refine own_go (fun tt_ kk_ => XN19.laload hx (j := (1 : Int32)) (v := (.long (out 1))) (by rw [e19]; exact Ai.1) (State.isArrayOf_alike hZ9.alike Ai.2.1) Ai.2.2 (by rw [szi, hnk]; decide) (hati 1 (by omega)) (g := (mkF m 290 #[.val (.long x1), .second, .val (.long x2), .second, .val (.long x3), .second, .val (.int x4), .val (.long y7), .second, .val (.long y9), .second, .val (.int ((XT.ushr x4 (2 : Int32)) &&& (3 : Int32))), .val (.int (0 : Int32)), .val (.long y13), .second, .val (.ref b), .val (.ref ia), .val (.int (2 : Int32)), .val (.int (2 : Int32))] [(.int (1 : Int32)), (.ref ia)])) rfl rfl (hb hby at_290) tt_ kk_) ?_
                    show Go p.tables e below _ (T19.setTop (mkF m 291 #[.val (.long x1), .second, .val (.long x2), .second, .val (.long x3), .second, .val (.int x4), .val (.long y7), .second, .val (.long y9), .second, .val (.int ((XT.ushr x4 (2 : Int32)) &&& (3 : Int32))), .val (.int (0 : Int32)), .val (.long y13), .second, .val (.ref b), .val (.ref ia), .val (.int (2 : Int32)), .val (.int (2 : Int32))] [(.long (out 1))]))
                    refine own_go (fun tt_ kk_ => XT.lloadN XN19.here hx rfl (hb hby at_291) rfl kk_) ?_
                    show Go p.tables e below _ (T19.setTop (mkF m 292 #[.val (.long x1), .second, .val (.long x2), .second, .val (.long x3), .second, .val (.int x4), .val (.long y7), .second, .val (.long y9), .second, .val (.int ((XT.ushr x4 (2 : Int32)) &&& (3 : Int32))), .val (.int (0 : Int32)), .val (.long y13), .second, .val (.ref b), .val (.ref ia), .val (.int (2 : Int32)), .val (.int (2 : Int32))] [(.long x1), (.long (out 1))]))
                    refine own_go (fun tt_ kk_ => XT.lload XN19.here hx rfl (hb hby at_292) rfl kk_) ?_
                    show Go p.tables e below _ (T19.setTop (mkF m 294 #[.val (.long x1), .second, .val (.long x2), .second, .val (.long x3), .second, .val (.int x4), .val (.long y7), .second, .val (.long y9), .second, .val (.int ((XT.ushr x4 (2 : Int32)) &&& (3 : Int32))), .val (.int (0 : Int32)), .val (.long y13), .second, .val (.ref b), .val (.ref ia), .val (.int (2 : Int32)), .val (.int (2 : Int32))] [(.long y7), (.long x1), (.long (out 1))]))
                    refine own_go (fun tt_ kk_ => XT.lload XN19.here hx rfl (hb hby at_294) rfl kk_) ?_
                    show Go p.tables e below _ (T19.setTop (mkF m 296 #[.val (.long x1), .second, .val (.long x2), .second, .val (.long x3), .second, .val (.int x4), .val (.long y7), .second, .val (.long y9), .second, .val (.int ((XT.ushr x4 (2 : Int32)) &&& (3 : Int32))), .val (.int (0 : Int32)), .val (.long y13), .second, .val (.ref b), .val (.ref ia), .val (.int (2 : Int32)), .val (.int (2 : Int32))] [(.long y9), (.long y7), (.long x1), (.long (out 1))]))
                    refine own_go (fun tt_ kk_ => XS.iload XN19.here hx rfl (hb hby at_296) rfl kk_) ?_
                    show Go p.tables e below _ (T19.setTop (mkF m 298 #[.val (.long x1), .second, .val (.long x2), .second, .val (.long x3), .second, .val (.int x4), .val (.long y7), .second, .val (.long y9), .second, .val (.int ((XT.ushr x4 (2 : Int32)) &&& (3 : Int32))), .val (.int (0 : Int32)), .val (.long y13), .second, .val (.ref b), .val (.ref ia), .val (.int (2 : Int32)), .val (.int (2 : Int32))] [(.int (0 : Int32)), (.long y9), (.long y7), (.long x1), (.long (out 1))]))
                    refine own_go (fun tt_ kk_ => XT.lload XN19.here hx rfl (hb hby at_298) rfl kk_) ?_
                    show Go p.tables e below _ (T19.setTop (mkF m 300 #[.val (.long x1), .second, .val (.long x2), .second, .val (.long x3), .second, .val (.int x4), .val (.long y7), .second, .val (.long y9), .second, .val (.int ((XT.ushr x4 (2 : Int32)) &&& (3 : Int32))), .val (.int (0 : Int32)), .val (.long y13), .second, .val (.ref b), .val (.ref ia), .val (.int (2 : Int32)), .val (.int (2 : Int32))] [(.long y13), (.int (0 : Int32)), (.long y9), (.long y7), (.long x1), (.long (out 1))]))
                    have hj20 := hout 1 (by omega)
                    rw [hG9, hG7, hG5, hG0] at hj20
                    have hs20 : (out 1) = x1 ∨ (out 1) = y7 ∨ (out 1) = y9 := Classical.byContradiction fun z => hj20 (own_has3.mpr z)
                    obtain ⟨v21, _, ⟨T21, L21, k21, n21⟩, -, X21, ⟨Lc21, hQ21, l21, y21, z21⟩, st21⟩ := Jvm.LawKit.callS XN19 hx (y := (⟨"com/example/rootlet/rootlet/IdMapIdsPinLaw", "expected", "(JJJJZJ)Z"⟩ : MethodName)) hown9 (mvT hZ9 (hw _ (List.mem_of_getElem? (i := 64) rfl))) (mvT hZ9 (hw _ (List.mem_of_getElem? (i := 65) rfl))) (mvT hZ9 (hw _ (List.mem_of_getElem? (i := 66) rfl))) (mvT hZ9 (hw _ (List.mem_of_getElem? (i := 67) rfl))) (by decide) (backOf (W := 0) (rm_expected l Z a0 hw [] (out 1) x1 y7 y9 (0 : Int32) y13 T10.heap n0) hZ9 (hw _ (List.mem_of_getElem? (i := 67) rfl)) (hw _ (List.mem_of_getElem? (i := 66) rfl)) (by decide) (by decide)) (g := (mkF m 300 #[.val (.long x1), .second, .val (.long x2), .second, .val (.long x3), .second, .val (.int x4), .val (.long y7), .second, .val (.long y9), .second, .val (.int ((XT.ushr x4 (2 : Int32)) &&& (3 : Int32))), .val (.int (0 : Int32)), .val (.long y13), .second, .val (.ref b), .val (.ref ia), .val (.int (2 : Int32)), .val (.int (2 : Int32))] [(.long y13), (.int (0 : Int32)), (.long y9), (.long y7), (.long x1), (.long (out 1))])) rfl (by rw [hml]; rfl) (argsL := [(.long (out 1)), (.long x1), (.long y7), (.long y9), (.int (0 : Int32)), (.long y13)]) (rest := []) (lenOf pd_9 rfl) rfl (by show 2 * 0 + _ ≤ _; exact Nat.le_of_eq rfl) (hb hby at_300) (fun _ _ => ⟨rfl, e19, (by decide : 10 + 0 ≤ _), (by decide : 116 + 0 ≤ _)⟩)
                    dsimp only [Pt.U, Pt.locs, Pt.cells, Pt.slots] at X21 l21 y21 z21 st21 hQ21
                    subst y21 z21
                    have XN21 : Stand p l e room_1 (s.setVm T9.vm) m #[(.long x1), (.long x2), (.long x3), (.int x4)] below meth c T21 _ 10 116 := X21
                    obtain ⟨hv21, N21q, e21⟩ := hQ21
                    rw [show ((.int (own_expd (out 1) x1 y7 y9 (0 : Int32) y13)) : Value) = (.int (1 : Int32)) from congrArg Value.int (own_expd_one hs20 (Or.inl rfl))] at hv21
                    subst hv21
                    have N21 : Fr n0 L21 := by rw [l21]; exact Fr.app N19 N21q
                    refine own_go (fun tt_ kk_ => st21 tt_ kk_) ?_
                    show Go p.tables e below _ (T21.setTop (mkF m 303 #[.val (.long x1), .second, .val (.long x2), .second, .val (.long x3), .second, .val (.int x4), .val (.long y7), .second, .val (.long y9), .second, .val (.int ((XT.ushr x4 (2 : Int32)) &&& (3 : Int32))), .val (.int (0 : Int32)), .val (.long y13), .second, .val (.ref b), .val (.ref ia), .val (.int (2 : Int32)), .val (.int (2 : Int32))] [(.int (1 : Int32))]))
                    refine own_go (fun tt_ kk_ => XS.ifYes XN21.here hx rfl (pc0 := 303) (pc' := 308) rfl (hb hby at_303) rfl (XT.i0_ne_t (by decide)) (by decide) (by decide) kk_) ?_
                    show Go p.tables e below _ (T21.setTop (mkF m 308 #[.val (.long x1), .second, .val (.long x2), .second, .val (.long x3), .second, .val (.int x4), .val (.long y7), .second, .val (.long y9), .second, .val (.int ((XT.ushr x4 (2 : Int32)) &&& (3 : Int32))), .val (.int (0 : Int32)), .val (.long y13), .second, .val (.ref b), .val (.ref ia), .val (.int (2 : Int32)), .val (.int (2 : Int32))] []))
                    refine own_go (fun tt_ kk_ => XS.iload XN21.here hx rfl (hb hby at_308) rfl kk_) ?_
                    show Go p.tables e below _ (T21.setTop (mkF m 310 #[.val (.long x1), .second, .val (.long x2), .second, .val (.long x3), .second, .val (.int x4), .val (.long y7), .second, .val (.long y9), .second, .val (.int ((XT.ushr x4 (2 : Int32)) &&& (3 : Int32))), .val (.int (0 : Int32)), .val (.long y13), .second, .val (.ref b), .val (.ref ia), .val (.int (2 : Int32)), .val (.int (2 : Int32))] [(.int (2 : Int32))]))
                    refine own_go (fun tt_ kk_ => XS.iconst XN21.here hx rfl (hb hby at_310) kk_) ?_
                    show Go p.tables e below _ (T21.setTop (mkF m 311 #[.val (.long x1), .second, .val (.long x2), .second, .val (.long x3), .second, .val (.int x4), .val (.long y7), .second, .val (.long y9), .second, .val (.int ((XT.ushr x4 (2 : Int32)) &&& (3 : Int32))), .val (.int (0 : Int32)), .val (.long y13), .second, .val (.ref b), .val (.ref ia), .val (.int (2 : Int32)), .val (.int (2 : Int32))] [(.int (2 : Int32)), (.int (2 : Int32))]))
                    refine own_go (fun tt_ kk_ => XS.icmpYes XN21.here hx rfl (pc0 := 311) (pc' := 335) rfl (hb hby at_311) rfl (XT.ii_le_t (by decide)) (by decide) (by decide) kk_) ?_
                    show Go p.tables e below _ (T21.setTop (mkF m 335 #[.val (.long x1), .second, .val (.long x2), .second, .val (.long x3), .second, .val (.int x4), .val (.long y7), .second, .val (.long y9), .second, .val (.int ((XT.ushr x4 (2 : Int32)) &&& (3 : Int32))), .val (.int (0 : Int32)), .val (.long y13), .second, .val (.ref b), .val (.ref ia), .val (.int (2 : Int32)), .val (.int (2 : Int32))] []))
                    refine own_go (fun tt_ kk_ => XS.iload XN21.here hx rfl (hb hby at_335) rfl kk_) ?_
                    show Go p.tables e below _ (T21.setTop (mkF m 337 #[.val (.long x1), .second, .val (.long x2), .second, .val (.long x3), .second, .val (.int x4), .val (.long y7), .second, .val (.long y9), .second, .val (.int ((XT.ushr x4 (2 : Int32)) &&& (3 : Int32))), .val (.int (0 : Int32)), .val (.long y13), .second, .val (.ref b), .val (.ref ia), .val (.int (2 : Int32)), .val (.int (2 : Int32))] [(.int (2 : Int32))]))
                    refine own_go (fun tt_ kk_ => XS.iconst XN21.here hx rfl (hb hby at_337) kk_) ?_
                    show Go p.tables e below _ (T21.setTop (mkF m 338 #[.val (.long x1), .second, .val (.long x2), .second, .val (.long x3), .second, .val (.int x4), .val (.long y7), .second, .val (.long y9), .second, .val (.int ((XT.ushr x4 (2 : Int32)) &&& (3 : Int32))), .val (.int (0 : Int32)), .val (.long y13), .second, .val (.ref b), .val (.ref ia), .val (.int (2 : Int32)), .val (.int (2 : Int32))] [(.int (1 : Int32)), (.int (2 : Int32))]))
                    refine own_go (fun tt_ kk_ => XS.icmpNo XN21.here hx rfl (hb hby at_338) rfl (XT.ii_le_f (by decide)) kk_) ?_
                    show Go p.tables e below _ (T21.setTop (mkF m 341 #[.val (.long x1), .second, .val (.long x2), .second, .val (.long x3), .second, .val (.int x4), .val (.long y7), .second, .val (.long y9), .second, .val (.int ((XT.ushr x4 (2 : Int32)) &&& (3 : Int32))), .val (.int (0 : Int32)), .val (.long y13), .second, .val (.ref b), .val (.ref ia), .val (.int (2 : Int32)), .val (.int (2 : Int32))] []))
                    refine own_go (fun tt_ kk_ => XS.aload XN21.here hx rfl (hb hby at_341) rfl rfl kk_) ?_
                    show Go p.tables e below _ (T21.setTop (mkF m 343 #[.val (.long x1), .second, .val (.long x2), .second, .val (.long x3), .second, .val (.int x4), .val (.long y7), .second, .val (.long y9), .second, .val (.int ((XT.ushr x4 (2 : Int32)) &&& (3 : Int32))), .val (.int (0 : Int32)), .val (.long y13), .second, .val (.ref b), .val (.ref ia), .val (.int (2 : Int32)), .val (.int (2 : Int32))] [(.ref ia)]))
                    refine own_go (fun tt_ kk_ => XS.iconst XN21.here hx rfl (hb hby at_343) kk_) ?_
                    show Go p.tables e below _ (T21.setTop (mkF m 344 #[.val (.long x1), .second, .val (.long x2), .second, .val (.long x3), .second, .val (.int x4), .val (.long y7), .second, .val (.long y9), .second, .val (.int ((XT.ushr x4 (2 : Int32)) &&& (3 : Int32))), .val (.int (0 : Int32)), .val (.long y13), .second, .val (.ref b), .val (.ref ia), .val (.int (2 : Int32)), .val (.int (2 : Int32))] [(.int (0 : Int32)), (.ref ia)]))
                    refine own_go (fun tt_ kk_ => XN21.laload hx (j := (0 : Int32)) (v := (.long (out 0))) (by rw [e21]; exact Ai.1) (State.isArrayOf_alike hZ9.alike Ai.2.1) Ai.2.2 (by rw [szi, hnk]; decide) (hati 0 (by omega)) (g := (mkF m 344 #[.val (.long x1), .second, .val (.long x2), .second, .val (.long x3), .second, .val (.int x4), .val (.long y7), .second, .val (.long y9), .second, .val (.int ((XT.ushr x4 (2 : Int32)) &&& (3 : Int32))), .val (.int (0 : Int32)), .val (.long y13), .second, .val (.ref b), .val (.ref ia), .val (.int (2 : Int32)), .val (.int (2 : Int32))] [(.int (0 : Int32)), (.ref ia)])) rfl rfl (hb hby at_344) tt_ kk_) ?_
                    show Go p.tables e below _ (T21.setTop (mkF m 345 #[.val (.long x1), .second, .val (.long x2), .second, .val (.long x3), .second, .val (.int x4), .val (.long y7), .second, .val (.long y9), .second, .val (.int ((XT.ushr x4 (2 : Int32)) &&& (3 : Int32))), .val (.int (0 : Int32)), .val (.long y13), .second, .val (.ref b), .val (.ref ia), .val (.int (2 : Int32)), .val (.int (2 : Int32))] [(.long (out 0))]))
                    refine own_go (fun tt_ kk_ => XS.aload XN21.here hx rfl (hb hby at_345) rfl rfl kk_) ?_
                    show Go p.tables e below _ (T21.setTop (mkF m 347 #[.val (.long x1), .second, .val (.long x2), .second, .val (.long x3), .second, .val (.int x4), .val (.long y7), .second, .val (.long y9), .second, .val (.int ((XT.ushr x4 (2 : Int32)) &&& (3 : Int32))), .val (.int (0 : Int32)), .val (.long y13), .second, .val (.ref b), .val (.ref ia), .val (.int (2 : Int32)), .val (.int (2 : Int32))] [(.ref ia), (.long (out 0))]))
                    refine own_go (fun tt_ kk_ => XS.iconst XN21.here hx rfl (hb hby at_347) kk_) ?_
                    show Go p.tables e below _ (T21.setTop (mkF m 348 #[.val (.long x1), .second, .val (.long x2), .second, .val (.long x3), .second, .val (.int x4), .val (.long y7), .second, .val (.long y9), .second, .val (.int ((XT.ushr x4 (2 : Int32)) &&& (3 : Int32))), .val (.int (0 : Int32)), .val (.long y13), .second, .val (.ref b), .val (.ref ia), .val (.int (2 : Int32)), .val (.int (2 : Int32))] [(.int (1 : Int32)), (.ref ia), (.long (out 0))]))
                    refine own_go (fun tt_ kk_ => XN21.laload hx (j := (1 : Int32)) (v := (.long (out 1))) (by rw [e21]; exact Ai.1) (State.isArrayOf_alike hZ9.alike Ai.2.1) Ai.2.2 (by rw [szi, hnk]; decide) (hati 1 (by omega)) (g := (mkF m 348 #[.val (.long x1), .second, .val (.long x2), .second, .val (.long x3), .second, .val (.int x4), .val (.long y7), .second, .val (.long y9), .second, .val (.int ((XT.ushr x4 (2 : Int32)) &&& (3 : Int32))), .val (.int (0 : Int32)), .val (.long y13), .second, .val (.ref b), .val (.ref ia), .val (.int (2 : Int32)), .val (.int (2 : Int32))] [(.int (1 : Int32)), (.ref ia), (.long (out 0))])) rfl rfl (hb hby at_348) tt_ kk_) ?_
                    show Go p.tables e below _ (T21.setTop (mkF m 349 #[.val (.long x1), .second, .val (.long x2), .second, .val (.long x3), .second, .val (.int x4), .val (.long y7), .second, .val (.long y9), .second, .val (.int ((XT.ushr x4 (2 : Int32)) &&& (3 : Int32))), .val (.int (0 : Int32)), .val (.long y13), .second, .val (.ref b), .val (.ref ia), .val (.int (2 : Int32)), .val (.int (2 : Int32))] [(.long (out 1)), (.long (out 0))]))
                    refine own_go (fun tt_ kk_ => XT.lcmp XN21.here hx rfl (hb hby at_349) rfl kk_) ?_
                    show Go p.tables e below _ (T21.setTop (mkF m 350 #[.val (.long x1), .second, .val (.long x2), .second, .val (.long x3), .second, .val (.int x4), .val (.long y7), .second, .val (.long y9), .second, .val (.int ((XT.ushr x4 (2 : Int32)) &&& (3 : Int32))), .val (.int (0 : Int32)), .val (.long y13), .second, .val (.ref b), .val (.ref ia), .val (.int (2 : Int32)), .val (.int (2 : Int32))] [(.int (XT.cmpL (out 0) (out 1)))]))
                    refine own_go (fun tt_ kk_ => XS.ifYes XN21.here hx rfl (pc0 := 350) (pc' := 355) rfl (hb hby at_350) rfl (XT.ll_ne_t (fun q => absurd (hinj 0 (by omega) 1 (by omega) q) (by decide))) (by decide) (by decide) kk_) ?_
                    show Go p.tables e below _ (T21.setTop (mkF m 355 #[.val (.long x1), .second, .val (.long x2), .second, .val (.long x3), .second, .val (.int x4), .val (.long y7), .second, .val (.long y9), .second, .val (.int ((XT.ushr x4 (2 : Int32)) &&& (3 : Int32))), .val (.int (0 : Int32)), .val (.long y13), .second, .val (.ref b), .val (.ref ia), .val (.int (2 : Int32)), .val (.int (2 : Int32))] []))
                    refine own_go (fun tt_ kk_ => XS.iload XN21.here hx rfl (hb hby at_355) rfl kk_) ?_
                    show Go p.tables e below _ (T21.setTop (mkF m 357 #[.val (.long x1), .second, .val (.long x2), .second, .val (.long x3), .second, .val (.int x4), .val (.long y7), .second, .val (.long y9), .second, .val (.int ((XT.ushr x4 (2 : Int32)) &&& (3 : Int32))), .val (.int (0 : Int32)), .val (.long y13), .second, .val (.ref b), .val (.ref ia), .val (.int (2 : Int32)), .val (.int (2 : Int32))] [(.int (2 : Int32))]))
                    refine own_go (fun tt_ kk_ => XS.iconst XN21.here hx rfl (hb hby at_357) kk_) ?_
                    show Go p.tables e below _ (T21.setTop (mkF m 358 #[.val (.long x1), .second, .val (.long x2), .second, .val (.long x3), .second, .val (.int x4), .val (.long y7), .second, .val (.long y9), .second, .val (.int ((XT.ushr x4 (2 : Int32)) &&& (3 : Int32))), .val (.int (0 : Int32)), .val (.long y13), .second, .val (.ref b), .val (.ref ia), .val (.int (2 : Int32)), .val (.int (2 : Int32))] [(.int (2 : Int32)), (.int (2 : Int32))]))
                    refine own_go (fun tt_ kk_ => XS.icmpYes XN21.here hx rfl (pc0 := 358) (pc' := 387) rfl (hb hby at_358) rfl (XT.ii_le_t (by decide)) (by decide) (by decide) kk_) ?_
                    show Go p.tables e below _ (T21.setTop (mkF m 387 #[.val (.long x1), .second, .val (.long x2), .second, .val (.long x3), .second, .val (.int x4), .val (.long y7), .second, .val (.long y9), .second, .val (.int ((XT.ushr x4 (2 : Int32)) &&& (3 : Int32))), .val (.int (0 : Int32)), .val (.long y13), .second, .val (.ref b), .val (.ref ia), .val (.int (2 : Int32)), .val (.int (2 : Int32))] []))
                    refine own_go (fun tt_ kk_ => XS.iconst XN21.here hx rfl (hb hby at_387) kk_) ?_
                    show Go p.tables e below _ (T21.setTop (mkF m 388 #[.val (.long x1), .second, .val (.long x2), .second, .val (.long x3), .second, .val (.int x4), .val (.long y7), .second, .val (.long y9), .second, .val (.int ((XT.ushr x4 (2 : Int32)) &&& (3 : Int32))), .val (.int (0 : Int32)), .val (.long y13), .second, .val (.ref b), .val (.ref ia), .val (.int (2 : Int32)), .val (.int (2 : Int32))] [(.int (1 : Int32))]))
                    exact own_retW XN21 sq9 (by rw [e21]; exact kz10) hx hlk Bd.returns rfl (Or.inl ⟨rfl, Or.inr (Or.inl rfl), _, rfl⟩) (hb hby at_388) ⟨rfl, N21⟩ (by decide) (by decide)
              · refine own_go (fun tt_ kk_ => XS.ifNo XN10.here hx rfl (hb hby at_198) rfl (XT.ll_eq_f hc11) kk_) ?_
                show Go p.tables e below _ (T10.setTop (mkF m 201 #[.val (.long x1), .second, .val (.long x2), .second, .val (.long x3), .second, .val (.int x4), .val (.long y7), .second, .val (.long y9), .second, .val (.int ((XT.ushr x4 (2 : Int32)) &&& (3 : Int32))), .val (.int (0 : Int32)), .val (.long y13), .second, .val (.ref b), .val (.ref ia), .unset, .unset] [(.int (1 : Int32))]))
                refine own_go (fun tt_ kk_ => XS.iconst XN10.here hx rfl (hb hby at_201) kk_) ?_
                show Go p.tables e below _ (T10.setTop (mkF m 202 #[.val (.long x1), .second, .val (.long x2), .second, .val (.long x3), .second, .val (.int x4), .val (.long y7), .second, .val (.long y9), .second, .val (.int ((XT.ushr x4 (2 : Int32)) &&& (3 : Int32))), .val (.int (0 : Int32)), .val (.long y13), .second, .val (.ref b), .val (.ref ia), .unset, .unset] [(.int (1 : Int32)), (.int (1 : Int32))]))
                refine own_go (fun tt_ kk_ => XS.goto XN10.here hx rfl (pc0 := 202) (pc' := 206) rfl (hb hby at_202) (by decide) (by decide) kk_) ?_
                show Go p.tables e below _ (T10.setTop (mkF m 206 #[.val (.long x1), .second, .val (.long x2), .second, .val (.long x3), .second, .val (.int x4), .val (.long y7), .second, .val (.long y9), .second, .val (.int ((XT.ushr x4 (2 : Int32)) &&& (3 : Int32))), .val (.int (0 : Int32)), .val (.long y13), .second, .val (.ref b), .val (.ref ia), .unset, .unset] [(.int (1 : Int32)), (.int (1 : Int32))]))
                refine own_go (fun tt_ kk_ => XS.iadd XN10.here hx rfl (hb hby at_206) rfl kk_) ?_
                show Go p.tables e below _ (T10.setTop (mkF m 207 #[.val (.long x1), .second, .val (.long x2), .second, .val (.long x3), .second, .val (.int x4), .val (.long y7), .second, .val (.long y9), .second, .val (.int ((XT.ushr x4 (2 : Int32)) &&& (3 : Int32))), .val (.int (0 : Int32)), .val (.long y13), .second, .val (.ref b), .val (.ref ia), .unset, .unset] [(.int (2 : Int32))]))
                refine own_go (fun tt_ kk_ => XT.lload XN10.here hx rfl (hb hby at_207) rfl kk_) ?_
                show Go p.tables e below _ (T10.setTop (mkF m 209 #[.val (.long x1), .second, .val (.long x2), .second, .val (.long x3), .second, .val (.int x4), .val (.long y7), .second, .val (.long y9), .second, .val (.int ((XT.ushr x4 (2 : Int32)) &&& (3 : Int32))), .val (.int (0 : Int32)), .val (.long y13), .second, .val (.ref b), .val (.ref ia), .unset, .unset] [(.long y9), (.int (2 : Int32))]))
                refine own_go (fun tt_ kk_ => XT.lloadN XN10.here hx rfl (hb hby at_209) rfl kk_) ?_
                show Go p.tables e below _ (T10.setTop (mkF m 210 #[.val (.long x1), .second, .val (.long x2), .second, .val (.long x3), .second, .val (.int x4), .val (.long y7), .second, .val (.long y9), .second, .val (.int ((XT.ushr x4 (2 : Int32)) &&& (3 : Int32))), .val (.int (0 : Int32)), .val (.long y13), .second, .val (.ref b), .val (.ref ia), .unset, .unset] [(.long x1), (.long y9), (.int (2 : Int32))]))
                refine own_go (fun tt_ kk_ => XT.lcmp XN10.here hx rfl (hb hby at_210) rfl kk_) ?_
                show Go p.tables e below _ (T10.setTop (mkF m 211 #[.val (.long x1), .second, .val (.long x2), .second, .val (.long x3), .second, .val (.int x4), .val (.long y7), .second, .val (.long y9), .second, .val (.int ((XT.ushr x4 (2 : Int32)) &&& (3 : Int32))), .val (.int (0 : Int32)), .val (.long y13), .second, .val (.ref b), .val (.ref ia), .unset, .unset] [(.int (XT.cmpL y9 x1)), (.int (2 : Int32))]))
                by_cases hc22 : y9 = x1
                · refine own_go (fun tt_ kk_ => XS.ifYes XN10.here hx rfl (pc0 := 211) (pc' := 226) rfl (hb hby at_211) rfl (XT.ll_eq_t hc22) (by decide) (by decide) kk_) ?_
                  show Go p.tables e below _ (T10.setTop (mkF m 226 #[.val (.long x1), .second, .val (.long x2), .second, .val (.long x3), .second, .val (.int x4), .val (.long y7), .second, .val (.long y9), .second, .val (.int ((XT.ushr x4 (2 : Int32)) &&& (3 : Int32))), .val (.int (0 : Int32)), .val (.long y13), .second, .val (.ref b), .val (.ref ia), .unset, .unset] [(.int (2 : Int32))]))
                  refine own_go (fun tt_ kk_ => XS.iconst XN10.here hx rfl (hb hby at_226) kk_) ?_
                  show Go p.tables e below _ (T10.setTop (mkF m 227 #[.val (.long x1), .second, .val (.long x2), .second, .val (.long x3), .second, .val (.int x4), .val (.long y7), .second, .val (.long y9), .second, .val (.int ((XT.ushr x4 (2 : Int32)) &&& (3 : Int32))), .val (.int (0 : Int32)), .val (.long y13), .second, .val (.ref b), .val (.ref ia), .unset, .unset] [(.int (0 : Int32)), (.int (2 : Int32))]))
                  refine own_go (fun tt_ kk_ => XS.iadd XN10.here hx rfl (hb hby at_227) rfl kk_) ?_
                  show Go p.tables e below _ (T10.setTop (mkF m 228 #[.val (.long x1), .second, .val (.long x2), .second, .val (.long x3), .second, .val (.int x4), .val (.long y7), .second, .val (.long y9), .second, .val (.int ((XT.ushr x4 (2 : Int32)) &&& (3 : Int32))), .val (.int (0 : Int32)), .val (.long y13), .second, .val (.ref b), .val (.ref ia), .unset, .unset] [(.int (2 : Int32))]))
                  refine own_go (fun tt_ kk_ => XS.istore XN10.here hx rfl (hb hby at_228) rfl (l' := #[.val (.long x1), .second, .val (.long x2), .second, .val (.long x3), .second, .val (.int x4), .val (.long y7), .second, .val (.long y9), .second, .val (.int ((XT.ushr x4 (2 : Int32)) &&& (3 : Int32))), .val (.int (0 : Int32)), .val (.long y13), .second, .val (.ref b), .val (.ref ia), .val (.int (2 : Int32)), .unset]) rfl kk_) ?_
                  show Go p.tables e below _ (T10.setTop (mkF m 230 #[.val (.long x1), .second, .val (.long x2), .second, .val (.long x3), .second, .val (.int x4), .val (.long y7), .second, .val (.long y9), .second, .val (.int ((XT.ushr x4 (2 : Int32)) &&& (3 : Int32))), .val (.int (0 : Int32)), .val (.long y13), .second, .val (.ref b), .val (.ref ia), .val (.int (2 : Int32)), .unset] []))
                  refine own_go (fun tt_ kk_ => XS.iload XN10.here hx rfl (hb hby at_230) rfl kk_) ?_
                  show Go p.tables e below _ (T10.setTop (mkF m 232 #[.val (.long x1), .second, .val (.long x2), .second, .val (.long x3), .second, .val (.int x4), .val (.long y7), .second, .val (.long y9), .second, .val (.int ((XT.ushr x4 (2 : Int32)) &&& (3 : Int32))), .val (.int (0 : Int32)), .val (.long y13), .second, .val (.ref b), .val (.ref ia), .val (.int (2 : Int32)), .unset] [(.int (2 : Int32))]))
                  refine own_go (fun tt_ kk_ => XS.iload XN10.here hx rfl (hb hby at_232) rfl kk_) ?_
                  show Go p.tables e below _ (T10.setTop (mkF m 234 #[.val (.long x1), .second, .val (.long x2), .second, .val (.long x3), .second, .val (.int x4), .val (.long y7), .second, .val (.long y9), .second, .val (.int ((XT.ushr x4 (2 : Int32)) &&& (3 : Int32))), .val (.int (0 : Int32)), .val (.long y13), .second, .val (.ref b), .val (.ref ia), .val (.int (2 : Int32)), .unset] [(.int (0 : Int32)), (.int (2 : Int32))]))
                  refine own_go (fun tt_ kk_ => XS.ifYes XN10.here hx rfl (pc0 := 234) (pc' := 241) rfl (hb hby at_234) rfl (XT.i0_eq_t (by decide)) (by decide) (by decide) kk_) ?_
                  show Go p.tables e below _ (T10.setTop (mkF m 241 #[.val (.long x1), .second, .val (.long x2), .second, .val (.long x3), .second, .val (.int x4), .val (.long y7), .second, .val (.long y9), .second, .val (.int ((XT.ushr x4 (2 : Int32)) &&& (3 : Int32))), .val (.int (0 : Int32)), .val (.long y13), .second, .val (.ref b), .val (.ref ia), .val (.int (2 : Int32)), .unset] [(.int (2 : Int32))]))
                  refine own_go (fun tt_ kk_ => XS.iconst XN10.here hx rfl (hb hby at_241) kk_) ?_
                  show Go p.tables e below _ (T10.setTop (mkF m 242 #[.val (.long x1), .second, .val (.long x2), .second, .val (.long x3), .second, .val (.int x4), .val (.long y7), .second, .val (.long y9), .second, .val (.int ((XT.ushr x4 (2 : Int32)) &&& (3 : Int32))), .val (.int (0 : Int32)), .val (.long y13), .second, .val (.ref b), .val (.ref ia), .val (.int (2 : Int32)), .unset] [(.int (0 : Int32)), (.int (2 : Int32))]))
                  refine own_go (fun tt_ kk_ => XS.isub XN10.here hx rfl (hb hby at_242) rfl kk_) ?_
                  show Go p.tables e below _ (T10.setTop (mkF m 243 #[.val (.long x1), .second, .val (.long x2), .second, .val (.long x3), .second, .val (.int x4), .val (.long y7), .second, .val (.long y9), .second, .val (.int ((XT.ushr x4 (2 : Int32)) &&& (3 : Int32))), .val (.int (0 : Int32)), .val (.long y13), .second, .val (.ref b), .val (.ref ia), .val (.int (2 : Int32)), .unset] [(.int (2 : Int32))]))
                  refine own_go (fun tt_ kk_ => XS.istore XN10.here hx rfl (hb hby at_243) rfl (l' := #[.val (.long x1), .second, .val (.long x2), .second, .val (.long x3), .second, .val (.int x4), .val (.long y7), .second, .val (.long y9), .second, .val (.int ((XT.ushr x4 (2 : Int32)) &&& (3 : Int32))), .val (.int (0 : Int32)), .val (.long y13), .second, .val (.ref b), .val (.ref ia), .val (.int (2 : Int32)), .val (.int (2 : Int32))]) rfl kk_) ?_
                  show Go p.tables e below _ (T10.setTop (mkF m 245 #[.val (.long x1), .second, .val (.long x2), .second, .val (.long x3), .second, .val (.int x4), .val (.long y7), .second, .val (.long y9), .second, .val (.int ((XT.ushr x4 (2 : Int32)) &&& (3 : Int32))), .val (.int (0 : Int32)), .val (.long y13), .second, .val (.ref b), .val (.ref ia), .val (.int (2 : Int32)), .val (.int (2 : Int32))] []))
                  have d3 : own_dn3 x1 y7 y9 = 2 := by rw [own_dn3, if_neg hc11, if_pos hc22]
                  have hnk : nn9 = 2 := by rw [own_count3 hG0 hG5 hG7 hn5 hn7 hn9, d3]
                  refine own_go (fun tt_ kk_ => XS.aload XN10.here hx rfl (hb hby at_245) rfl rfl kk_) ?_
                  show Go p.tables e below _ (T10.setTop (mkF m 247 #[.val (.long x1), .second, .val (.long x2), .second, .val (.long x3), .second, .val (.int x4), .val (.long y7), .second, .val (.long y9), .second, .val (.int ((XT.ushr x4 (2 : Int32)) &&& (3 : Int32))), .val (.int (0 : Int32)), .val (.long y13), .second, .val (.ref b), .val (.ref ia), .val (.int (2 : Int32)), .val (.int (2 : Int32))] [(.ref ia)]))
                  refine own_go (fun tt_ kk_ => XN10.arraylength hx Ai.1 (State.isArrayOf_alike hZ9.alike Ai.2.1) (g := (mkF m 247 #[.val (.long x1), .second, .val (.long x2), .second, .val (.long x3), .second, .val (.int x4), .val (.long y7), .second, .val (.long y9), .second, .val (.int ((XT.ushr x4 (2 : Int32)) &&& (3 : Int32))), .val (.int (0 : Int32)), .val (.long y13), .second, .val (.ref b), .val (.ref ia), .val (.int (2 : Int32)), .val (.int (2 : Int32))] [(.ref ia)])) rfl rfl (hb hby at_247) tt_ (by rw [(show ci.slots.size.toInt32 = ix nn9 by rw [szi]; rfl)]; exact kk_)) ?_
                  show Go p.tables e below _ (T10.setTop (mkF m 248 #[.val (.long x1), .second, .val (.long x2), .second, .val (.long x3), .second, .val (.int x4), .val (.long y7), .second, .val (.long y9), .second, .val (.int ((XT.ushr x4 (2 : Int32)) &&& (3 : Int32))), .val (.int (0 : Int32)), .val (.long y13), .second, .val (.ref b), .val (.ref ia), .val (.int (2 : Int32)), .val (.int (2 : Int32))] [(.int (ix nn9))]))
                  refine own_go (fun tt_ kk_ => XS.iload XN10.here hx rfl (hb hby at_248) rfl kk_) ?_
                  show Go p.tables e below _ (T10.setTop (mkF m 250 #[.val (.long x1), .second, .val (.long x2), .second, .val (.long x3), .second, .val (.int x4), .val (.long y7), .second, .val (.long y9), .second, .val (.int ((XT.ushr x4 (2 : Int32)) &&& (3 : Int32))), .val (.int (0 : Int32)), .val (.long y13), .second, .val (.ref b), .val (.ref ia), .val (.int (2 : Int32)), .val (.int (2 : Int32))] [(.int (2 : Int32)), (.int (ix nn9))]))
                  refine own_go (fun tt_ kk_ => XS.icmpYes XN10.here hx rfl (pc0 := 250) (pc' := 255) rfl (hb hby at_250) rfl (XT.ii_eq_t (show ix nn9 = (2 : Int32) by rw [hnk]; rfl)) (by decide) (by decide) kk_) ?_
                  show Go p.tables e below _ (T10.setTop (mkF m 255 #[.val (.long x1), .second, .val (.long x2), .second, .val (.long x3), .second, .val (.int x4), .val (.long y7), .second, .val (.long y9), .second, .val (.int ((XT.ushr x4 (2 : Int32)) &&& (3 : Int32))), .val (.int (0 : Int32)), .val (.long y13), .second, .val (.ref b), .val (.ref ia), .val (.int (2 : Int32)), .val (.int (2 : Int32))] []))
                  refine own_go (fun tt_ kk_ => XS.iload XN10.here hx rfl (hb hby at_255) rfl kk_) ?_
                  show Go p.tables e below _ (T10.setTop (mkF m 257 #[.val (.long x1), .second, .val (.long x2), .second, .val (.long x3), .second, .val (.int x4), .val (.long y7), .second, .val (.long y9), .second, .val (.int ((XT.ushr x4 (2 : Int32)) &&& (3 : Int32))), .val (.int (0 : Int32)), .val (.long y13), .second, .val (.ref b), .val (.ref ia), .val (.int (2 : Int32)), .val (.int (2 : Int32))] [(.int (2 : Int32))]))
                  refine own_go (fun tt_ kk_ => XS.ifNo XN10.here hx rfl (hb hby at_257) rfl (XT.i0_le_f (by decide)) kk_) ?_
                  show Go p.tables e below _ (T10.setTop (mkF m 260 #[.val (.long x1), .second, .val (.long x2), .second, .val (.long x3), .second, .val (.int x4), .val (.long y7), .second, .val (.long y9), .second, .val (.int ((XT.ushr x4 (2 : Int32)) &&& (3 : Int32))), .val (.int (0 : Int32)), .val (.long y13), .second, .val (.ref b), .val (.ref ia), .val (.int (2 : Int32)), .val (.int (2 : Int32))] []))
                  refine own_go (fun tt_ kk_ => XS.aload XN10.here hx rfl (hb hby at_260) rfl rfl kk_) ?_
                  show Go p.tables e below _ (T10.setTop (mkF m 262 #[.val (.long x1), .second, .val (.long x2), .second, .val (.long x3), .second, .val (.int x4), .val (.long y7), .second, .val (.long y9), .second, .val (.int ((XT.ushr x4 (2 : Int32)) &&& (3 : Int32))), .val (.int (0 : Int32)), .val (.long y13), .second, .val (.ref b), .val (.ref ia), .val (.int (2 : Int32)), .val (.int (2 : Int32))] [(.ref ia)]))
                  refine own_go (fun tt_ kk_ => XS.iconst XN10.here hx rfl (hb hby at_262) kk_) ?_
                  show Go p.tables e below _ (T10.setTop (mkF m 263 #[.val (.long x1), .second, .val (.long x2), .second, .val (.long x3), .second, .val (.int x4), .val (.long y7), .second, .val (.long y9), .second, .val (.int ((XT.ushr x4 (2 : Int32)) &&& (3 : Int32))), .val (.int (0 : Int32)), .val (.long y13), .second, .val (.ref b), .val (.ref ia), .val (.int (2 : Int32)), .val (.int (2 : Int32))] [(.int (0 : Int32)), (.ref ia)]))
                  refine own_go (fun tt_ kk_ => XN10.laload hx (j := (0 : Int32)) (v := (.long (out 0))) Ai.1 (State.isArrayOf_alike hZ9.alike Ai.2.1) Ai.2.2 (by rw [szi, hnk]; decide) (hati 0 (by omega)) (g := (mkF m 263 #[.val (.long x1), .second, .val (.long x2), .second, .val (.long x3), .second, .val (.int x4), .val (.long y7), .second, .val (.long y9), .second, .val (.int ((XT.ushr x4 (2 : Int32)) &&& (3 : Int32))), .val (.int (0 : Int32)), .val (.long y13), .second, .val (.ref b), .val (.ref ia), .val (.int (2 : Int32)), .val (.int (2 : Int32))] [(.int (0 : Int32)), (.ref ia)])) rfl rfl (hb hby at_263) tt_ kk_) ?_
                  show Go p.tables e below _ (T10.setTop (mkF m 264 #[.val (.long x1), .second, .val (.long x2), .second, .val (.long x3), .second, .val (.int x4), .val (.long y7), .second, .val (.long y9), .second, .val (.int ((XT.ushr x4 (2 : Int32)) &&& (3 : Int32))), .val (.int (0 : Int32)), .val (.long y13), .second, .val (.ref b), .val (.ref ia), .val (.int (2 : Int32)), .val (.int (2 : Int32))] [(.long (out 0))]))
                  refine own_go (fun tt_ kk_ => XT.lloadN XN10.here hx rfl (hb hby at_264) rfl kk_) ?_
                  show Go p.tables e below _ (T10.setTop (mkF m 265 #[.val (.long x1), .second, .val (.long x2), .second, .val (.long x3), .second, .val (.int x4), .val (.long y7), .second, .val (.long y9), .second, .val (.int ((XT.ushr x4 (2 : Int32)) &&& (3 : Int32))), .val (.int (0 : Int32)), .val (.long y13), .second, .val (.ref b), .val (.ref ia), .val (.int (2 : Int32)), .val (.int (2 : Int32))] [(.long x1), (.long (out 0))]))
                  refine own_go (fun tt_ kk_ => XT.lload XN10.here hx rfl (hb hby at_265) rfl kk_) ?_
                  show Go p.tables e below _ (T10.setTop (mkF m 267 #[.val (.long x1), .second, .val (.long x2), .second, .val (.long x3), .second, .val (.int x4), .val (.long y7), .second, .val (.long y9), .second, .val (.int ((XT.ushr x4 (2 : Int32)) &&& (3 : Int32))), .val (.int (0 : Int32)), .val (.long y13), .second, .val (.ref b), .val (.ref ia), .val (.int (2 : Int32)), .val (.int (2 : Int32))] [(.long y7), (.long x1), (.long (out 0))]))
                  refine own_go (fun tt_ kk_ => XT.lload XN10.here hx rfl (hb hby at_267) rfl kk_) ?_
                  show Go p.tables e below _ (T10.setTop (mkF m 269 #[.val (.long x1), .second, .val (.long x2), .second, .val (.long x3), .second, .val (.int x4), .val (.long y7), .second, .val (.long y9), .second, .val (.int ((XT.ushr x4 (2 : Int32)) &&& (3 : Int32))), .val (.int (0 : Int32)), .val (.long y13), .second, .val (.ref b), .val (.ref ia), .val (.int (2 : Int32)), .val (.int (2 : Int32))] [(.long y9), (.long y7), (.long x1), (.long (out 0))]))
                  refine own_go (fun tt_ kk_ => XS.iload XN10.here hx rfl (hb hby at_269) rfl kk_) ?_
                  show Go p.tables e below _ (T10.setTop (mkF m 271 #[.val (.long x1), .second, .val (.long x2), .second, .val (.long x3), .second, .val (.int x4), .val (.long y7), .second, .val (.long y9), .second, .val (.int ((XT.ushr x4 (2 : Int32)) &&& (3 : Int32))), .val (.int (0 : Int32)), .val (.long y13), .second, .val (.ref b), .val (.ref ia), .val (.int (2 : Int32)), .val (.int (2 : Int32))] [(.int (0 : Int32)), (.long y9), (.long y7), (.long x1), (.long (out 0))]))
                  refine own_go (fun tt_ kk_ => XT.lload XN10.here hx rfl (hb hby at_271) rfl kk_) ?_
                  show Go p.tables e below _ (T10.setTop (mkF m 273 #[.val (.long x1), .second, .val (.long x2), .second, .val (.long x3), .second, .val (.int x4), .val (.long y7), .second, .val (.long y9), .second, .val (.int ((XT.ushr x4 (2 : Int32)) &&& (3 : Int32))), .val (.int (0 : Int32)), .val (.long y13), .second, .val (.ref b), .val (.ref ia), .val (.int (2 : Int32)), .val (.int (2 : Int32))] [(.long y13), (.int (0 : Int32)), (.long y9), (.long y7), (.long x1), (.long (out 0))]))
                  have hj23 := hout 0 (by omega)
                  rw [hG9, hG7, hG5, hG0] at hj23
                  have hs23 : (out 0) = x1 ∨ (out 0) = y7 ∨ (out 0) = y9 := Classical.byContradiction fun z => hj23 (own_has3.mpr z)
                  obtain ⟨v24, _, ⟨T24, L24, k24, n24⟩, -, X24, ⟨Lc24, hQ24, l24, y24, z24⟩, st24⟩ := Jvm.LawKit.callS XN10 hx (y := (⟨"com/example/rootlet/rootlet/IdMapIdsPinLaw", "expected", "(JJJJZJ)Z"⟩ : MethodName)) hown9 (mvT hZ9 (hw _ (List.mem_of_getElem? (i := 64) rfl))) (mvT hZ9 (hw _ (List.mem_of_getElem? (i := 65) rfl))) (mvT hZ9 (hw _ (List.mem_of_getElem? (i := 66) rfl))) (mvT hZ9 (hw _ (List.mem_of_getElem? (i := 67) rfl))) (by decide) (backOf (W := 0) (rm_expected l Z a0 hw [] (out 0) x1 y7 y9 (0 : Int32) y13 T10.heap n0) hZ9 (hw _ (List.mem_of_getElem? (i := 67) rfl)) (hw _ (List.mem_of_getElem? (i := 66) rfl)) (by decide) (by decide)) (g := (mkF m 273 #[.val (.long x1), .second, .val (.long x2), .second, .val (.long x3), .second, .val (.int x4), .val (.long y7), .second, .val (.long y9), .second, .val (.int ((XT.ushr x4 (2 : Int32)) &&& (3 : Int32))), .val (.int (0 : Int32)), .val (.long y13), .second, .val (.ref b), .val (.ref ia), .val (.int (2 : Int32)), .val (.int (2 : Int32))] [(.long y13), (.int (0 : Int32)), (.long y9), (.long y7), (.long x1), (.long (out 0))])) rfl (by rw [hml]; rfl) (argsL := [(.long (out 0)), (.long x1), (.long y7), (.long y9), (.int (0 : Int32)), (.long y13)]) (rest := []) (lenOf pd_9 rfl) rfl (by show 2 * 0 + _ ≤ _; exact Nat.le_of_eq rfl) (hb hby at_273) (fun _ _ => ⟨rfl, rfl, (by decide : 10 + 0 ≤ _), (by decide : 116 + 0 ≤ _)⟩)
                  dsimp only [Pt.U, Pt.locs, Pt.cells, Pt.slots] at X24 l24 y24 z24 st24 hQ24
                  subst y24 z24
                  have XN24 : Stand p l e room_1 (s.setVm T9.vm) m #[(.long x1), (.long x2), (.long x3), (.int x4)] below meth c T24 _ 10 116 := X24
                  obtain ⟨hv24, N24q, e24⟩ := hQ24
                  rw [show ((.int (own_expd (out 0) x1 y7 y9 (0 : Int32) y13)) : Value) = (.int (1 : Int32)) from congrArg Value.int (own_expd_one hs23 (Or.inl rfl))] at hv24
                  subst hv24
                  have N24 : Fr n0 L24 := by rw [l24]; exact Fr.app N10 N24q
                  refine own_go (fun tt_ kk_ => st24 tt_ kk_) ?_
                  show Go p.tables e below _ (T24.setTop (mkF m 276 #[.val (.long x1), .second, .val (.long x2), .second, .val (.long x3), .second, .val (.int x4), .val (.long y7), .second, .val (.long y9), .second, .val (.int ((XT.ushr x4 (2 : Int32)) &&& (3 : Int32))), .val (.int (0 : Int32)), .val (.long y13), .second, .val (.ref b), .val (.ref ia), .val (.int (2 : Int32)), .val (.int (2 : Int32))] [(.int (1 : Int32))]))
                  refine own_go (fun tt_ kk_ => XS.ifYes XN24.here hx rfl (pc0 := 276) (pc' := 281) rfl (hb hby at_276) rfl (XT.i0_ne_t (by decide)) (by decide) (by decide) kk_) ?_
                  show Go p.tables e below _ (T24.setTop (mkF m 281 #[.val (.long x1), .second, .val (.long x2), .second, .val (.long x3), .second, .val (.int x4), .val (.long y7), .second, .val (.long y9), .second, .val (.int ((XT.ushr x4 (2 : Int32)) &&& (3 : Int32))), .val (.int (0 : Int32)), .val (.long y13), .second, .val (.ref b), .val (.ref ia), .val (.int (2 : Int32)), .val (.int (2 : Int32))] []))
                  refine own_go (fun tt_ kk_ => XS.iload XN24.here hx rfl (hb hby at_281) rfl kk_) ?_
                  show Go p.tables e below _ (T24.setTop (mkF m 283 #[.val (.long x1), .second, .val (.long x2), .second, .val (.long x3), .second, .val (.int x4), .val (.long y7), .second, .val (.long y9), .second, .val (.int ((XT.ushr x4 (2 : Int32)) &&& (3 : Int32))), .val (.int (0 : Int32)), .val (.long y13), .second, .val (.ref b), .val (.ref ia), .val (.int (2 : Int32)), .val (.int (2 : Int32))] [(.int (2 : Int32))]))
                  refine own_go (fun tt_ kk_ => XS.iconst XN24.here hx rfl (hb hby at_283) kk_) ?_
                  show Go p.tables e below _ (T24.setTop (mkF m 284 #[.val (.long x1), .second, .val (.long x2), .second, .val (.long x3), .second, .val (.int x4), .val (.long y7), .second, .val (.long y9), .second, .val (.int ((XT.ushr x4 (2 : Int32)) &&& (3 : Int32))), .val (.int (0 : Int32)), .val (.long y13), .second, .val (.ref b), .val (.ref ia), .val (.int (2 : Int32)), .val (.int (2 : Int32))] [(.int (1 : Int32)), (.int (2 : Int32))]))
                  refine own_go (fun tt_ kk_ => XS.icmpNo XN24.here hx rfl (hb hby at_284) rfl (XT.ii_le_f (by decide)) kk_) ?_
                  show Go p.tables e below _ (T24.setTop (mkF m 287 #[.val (.long x1), .second, .val (.long x2), .second, .val (.long x3), .second, .val (.int x4), .val (.long y7), .second, .val (.long y9), .second, .val (.int ((XT.ushr x4 (2 : Int32)) &&& (3 : Int32))), .val (.int (0 : Int32)), .val (.long y13), .second, .val (.ref b), .val (.ref ia), .val (.int (2 : Int32)), .val (.int (2 : Int32))] []))
                  refine own_go (fun tt_ kk_ => XS.aload XN24.here hx rfl (hb hby at_287) rfl rfl kk_) ?_
                  show Go p.tables e below _ (T24.setTop (mkF m 289 #[.val (.long x1), .second, .val (.long x2), .second, .val (.long x3), .second, .val (.int x4), .val (.long y7), .second, .val (.long y9), .second, .val (.int ((XT.ushr x4 (2 : Int32)) &&& (3 : Int32))), .val (.int (0 : Int32)), .val (.long y13), .second, .val (.ref b), .val (.ref ia), .val (.int (2 : Int32)), .val (.int (2 : Int32))] [(.ref ia)]))
                  refine own_go (fun tt_ kk_ => XS.iconst XN24.here hx rfl (hb hby at_289) kk_) ?_
                  show Go p.tables e below _ (T24.setTop (mkF m 290 #[.val (.long x1), .second, .val (.long x2), .second, .val (.long x3), .second, .val (.int x4), .val (.long y7), .second, .val (.long y9), .second, .val (.int ((XT.ushr x4 (2 : Int32)) &&& (3 : Int32))), .val (.int (0 : Int32)), .val (.long y13), .second, .val (.ref b), .val (.ref ia), .val (.int (2 : Int32)), .val (.int (2 : Int32))] [(.int (1 : Int32)), (.ref ia)]))
                  refine own_go (fun tt_ kk_ => XN24.laload hx (j := (1 : Int32)) (v := (.long (out 1))) (by rw [e24]; exact Ai.1) (State.isArrayOf_alike hZ9.alike Ai.2.1) Ai.2.2 (by rw [szi, hnk]; decide) (hati 1 (by omega)) (g := (mkF m 290 #[.val (.long x1), .second, .val (.long x2), .second, .val (.long x3), .second, .val (.int x4), .val (.long y7), .second, .val (.long y9), .second, .val (.int ((XT.ushr x4 (2 : Int32)) &&& (3 : Int32))), .val (.int (0 : Int32)), .val (.long y13), .second, .val (.ref b), .val (.ref ia), .val (.int (2 : Int32)), .val (.int (2 : Int32))] [(.int (1 : Int32)), (.ref ia)])) rfl rfl (hb hby at_290) tt_ kk_) ?_
                  show Go p.tables e below _ (T24.setTop (mkF m 291 #[.val (.long x1), .second, .val (.long x2), .second, .val (.long x3), .second, .val (.int x4), .val (.long y7), .second, .val (.long y9), .second, .val (.int ((XT.ushr x4 (2 : Int32)) &&& (3 : Int32))), .val (.int (0 : Int32)), .val (.long y13), .second, .val (.ref b), .val (.ref ia), .val (.int (2 : Int32)), .val (.int (2 : Int32))] [(.long (out 1))]))
                  refine own_go (fun tt_ kk_ => XT.lloadN XN24.here hx rfl (hb hby at_291) rfl kk_) ?_
                  show Go p.tables e below _ (T24.setTop (mkF m 292 #[.val (.long x1), .second, .val (.long x2), .second, .val (.long x3), .second, .val (.int x4), .val (.long y7), .second, .val (.long y9), .second, .val (.int ((XT.ushr x4 (2 : Int32)) &&& (3 : Int32))), .val (.int (0 : Int32)), .val (.long y13), .second, .val (.ref b), .val (.ref ia), .val (.int (2 : Int32)), .val (.int (2 : Int32))] [(.long x1), (.long (out 1))]))
                  refine own_go (fun tt_ kk_ => XT.lload XN24.here hx rfl (hb hby at_292) rfl kk_) ?_
                  show Go p.tables e below _ (T24.setTop (mkF m 294 #[.val (.long x1), .second, .val (.long x2), .second, .val (.long x3), .second, .val (.int x4), .val (.long y7), .second, .val (.long y9), .second, .val (.int ((XT.ushr x4 (2 : Int32)) &&& (3 : Int32))), .val (.int (0 : Int32)), .val (.long y13), .second, .val (.ref b), .val (.ref ia), .val (.int (2 : Int32)), .val (.int (2 : Int32))] [(.long y7), (.long x1), (.long (out 1))]))
                  refine own_go (fun tt_ kk_ => XT.lload XN24.here hx rfl (hb hby at_294) rfl kk_) ?_
                  show Go p.tables e below _ (T24.setTop (mkF m 296 #[.val (.long x1), .second, .val (.long x2), .second, .val (.long x3), .second, .val (.int x4), .val (.long y7), .second, .val (.long y9), .second, .val (.int ((XT.ushr x4 (2 : Int32)) &&& (3 : Int32))), .val (.int (0 : Int32)), .val (.long y13), .second, .val (.ref b), .val (.ref ia), .val (.int (2 : Int32)), .val (.int (2 : Int32))] [(.long y9), (.long y7), (.long x1), (.long (out 1))]))
                  refine own_go (fun tt_ kk_ => XS.iload XN24.here hx rfl (hb hby at_296) rfl kk_) ?_
                  show Go p.tables e below _ (T24.setTop (mkF m 298 #[.val (.long x1), .second, .val (.long x2), .second, .val (.long x3), .second, .val (.int x4), .val (.long y7), .second, .val (.long y9), .second, .val (.int ((XT.ushr x4 (2 : Int32)) &&& (3 : Int32))), .val (.int (0 : Int32)), .val (.long y13), .second, .val (.ref b), .val (.ref ia), .val (.int (2 : Int32)), .val (.int (2 : Int32))] [(.int (0 : Int32)), (.long y9), (.long y7), (.long x1), (.long (out 1))]))
                  refine own_go (fun tt_ kk_ => XT.lload XN24.here hx rfl (hb hby at_298) rfl kk_) ?_
                  show Go p.tables e below _ (T24.setTop (mkF m 300 #[.val (.long x1), .second, .val (.long x2), .second, .val (.long x3), .second, .val (.int x4), .val (.long y7), .second, .val (.long y9), .second, .val (.int ((XT.ushr x4 (2 : Int32)) &&& (3 : Int32))), .val (.int (0 : Int32)), .val (.long y13), .second, .val (.ref b), .val (.ref ia), .val (.int (2 : Int32)), .val (.int (2 : Int32))] [(.long y13), (.int (0 : Int32)), (.long y9), (.long y7), (.long x1), (.long (out 1))]))
                  have hj25 := hout 1 (by omega)
                  rw [hG9, hG7, hG5, hG0] at hj25
                  have hs25 : (out 1) = x1 ∨ (out 1) = y7 ∨ (out 1) = y9 := Classical.byContradiction fun z => hj25 (own_has3.mpr z)
                  obtain ⟨v26, _, ⟨T26, L26, k26, n26⟩, -, X26, ⟨Lc26, hQ26, l26, y26, z26⟩, st26⟩ := Jvm.LawKit.callS XN24 hx (y := (⟨"com/example/rootlet/rootlet/IdMapIdsPinLaw", "expected", "(JJJJZJ)Z"⟩ : MethodName)) hown9 (mvT hZ9 (hw _ (List.mem_of_getElem? (i := 64) rfl))) (mvT hZ9 (hw _ (List.mem_of_getElem? (i := 65) rfl))) (mvT hZ9 (hw _ (List.mem_of_getElem? (i := 66) rfl))) (mvT hZ9 (hw _ (List.mem_of_getElem? (i := 67) rfl))) (by decide) (backOf (W := 0) (rm_expected l Z a0 hw [] (out 1) x1 y7 y9 (0 : Int32) y13 T10.heap n0) hZ9 (hw _ (List.mem_of_getElem? (i := 67) rfl)) (hw _ (List.mem_of_getElem? (i := 66) rfl)) (by decide) (by decide)) (g := (mkF m 300 #[.val (.long x1), .second, .val (.long x2), .second, .val (.long x3), .second, .val (.int x4), .val (.long y7), .second, .val (.long y9), .second, .val (.int ((XT.ushr x4 (2 : Int32)) &&& (3 : Int32))), .val (.int (0 : Int32)), .val (.long y13), .second, .val (.ref b), .val (.ref ia), .val (.int (2 : Int32)), .val (.int (2 : Int32))] [(.long y13), (.int (0 : Int32)), (.long y9), (.long y7), (.long x1), (.long (out 1))])) rfl (by rw [hml]; rfl) (argsL := [(.long (out 1)), (.long x1), (.long y7), (.long y9), (.int (0 : Int32)), (.long y13)]) (rest := []) (lenOf pd_9 rfl) rfl (by show 2 * 0 + _ ≤ _; exact Nat.le_of_eq rfl) (hb hby at_300) (fun _ _ => ⟨rfl, e24, (by decide : 10 + 0 ≤ _), (by decide : 116 + 0 ≤ _)⟩)
                  dsimp only [Pt.U, Pt.locs, Pt.cells, Pt.slots] at X26 l26 y26 z26 st26 hQ26
                  subst y26 z26
                  have XN26 : Stand p l e room_1 (s.setVm T9.vm) m #[(.long x1), (.long x2), (.long x3), (.int x4)] below meth c T26 _ 10 116 := X26
                  obtain ⟨hv26, N26q, e26⟩ := hQ26
                  rw [show ((.int (own_expd (out 1) x1 y7 y9 (0 : Int32) y13)) : Value) = (.int (1 : Int32)) from congrArg Value.int (own_expd_one hs25 (Or.inl rfl))] at hv26
                  subst hv26
                  have N26 : Fr n0 L26 := by rw [l26]; exact Fr.app N24 N26q
                  refine own_go (fun tt_ kk_ => st26 tt_ kk_) ?_
                  show Go p.tables e below _ (T26.setTop (mkF m 303 #[.val (.long x1), .second, .val (.long x2), .second, .val (.long x3), .second, .val (.int x4), .val (.long y7), .second, .val (.long y9), .second, .val (.int ((XT.ushr x4 (2 : Int32)) &&& (3 : Int32))), .val (.int (0 : Int32)), .val (.long y13), .second, .val (.ref b), .val (.ref ia), .val (.int (2 : Int32)), .val (.int (2 : Int32))] [(.int (1 : Int32))]))
                  refine own_go (fun tt_ kk_ => XS.ifYes XN26.here hx rfl (pc0 := 303) (pc' := 308) rfl (hb hby at_303) rfl (XT.i0_ne_t (by decide)) (by decide) (by decide) kk_) ?_
                  show Go p.tables e below _ (T26.setTop (mkF m 308 #[.val (.long x1), .second, .val (.long x2), .second, .val (.long x3), .second, .val (.int x4), .val (.long y7), .second, .val (.long y9), .second, .val (.int ((XT.ushr x4 (2 : Int32)) &&& (3 : Int32))), .val (.int (0 : Int32)), .val (.long y13), .second, .val (.ref b), .val (.ref ia), .val (.int (2 : Int32)), .val (.int (2 : Int32))] []))
                  refine own_go (fun tt_ kk_ => XS.iload XN26.here hx rfl (hb hby at_308) rfl kk_) ?_
                  show Go p.tables e below _ (T26.setTop (mkF m 310 #[.val (.long x1), .second, .val (.long x2), .second, .val (.long x3), .second, .val (.int x4), .val (.long y7), .second, .val (.long y9), .second, .val (.int ((XT.ushr x4 (2 : Int32)) &&& (3 : Int32))), .val (.int (0 : Int32)), .val (.long y13), .second, .val (.ref b), .val (.ref ia), .val (.int (2 : Int32)), .val (.int (2 : Int32))] [(.int (2 : Int32))]))
                  refine own_go (fun tt_ kk_ => XS.iconst XN26.here hx rfl (hb hby at_310) kk_) ?_
                  show Go p.tables e below _ (T26.setTop (mkF m 311 #[.val (.long x1), .second, .val (.long x2), .second, .val (.long x3), .second, .val (.int x4), .val (.long y7), .second, .val (.long y9), .second, .val (.int ((XT.ushr x4 (2 : Int32)) &&& (3 : Int32))), .val (.int (0 : Int32)), .val (.long y13), .second, .val (.ref b), .val (.ref ia), .val (.int (2 : Int32)), .val (.int (2 : Int32))] [(.int (2 : Int32)), (.int (2 : Int32))]))
                  refine own_go (fun tt_ kk_ => XS.icmpYes XN26.here hx rfl (pc0 := 311) (pc' := 335) rfl (hb hby at_311) rfl (XT.ii_le_t (by decide)) (by decide) (by decide) kk_) ?_
                  show Go p.tables e below _ (T26.setTop (mkF m 335 #[.val (.long x1), .second, .val (.long x2), .second, .val (.long x3), .second, .val (.int x4), .val (.long y7), .second, .val (.long y9), .second, .val (.int ((XT.ushr x4 (2 : Int32)) &&& (3 : Int32))), .val (.int (0 : Int32)), .val (.long y13), .second, .val (.ref b), .val (.ref ia), .val (.int (2 : Int32)), .val (.int (2 : Int32))] []))
                  refine own_go (fun tt_ kk_ => XS.iload XN26.here hx rfl (hb hby at_335) rfl kk_) ?_
                  show Go p.tables e below _ (T26.setTop (mkF m 337 #[.val (.long x1), .second, .val (.long x2), .second, .val (.long x3), .second, .val (.int x4), .val (.long y7), .second, .val (.long y9), .second, .val (.int ((XT.ushr x4 (2 : Int32)) &&& (3 : Int32))), .val (.int (0 : Int32)), .val (.long y13), .second, .val (.ref b), .val (.ref ia), .val (.int (2 : Int32)), .val (.int (2 : Int32))] [(.int (2 : Int32))]))
                  refine own_go (fun tt_ kk_ => XS.iconst XN26.here hx rfl (hb hby at_337) kk_) ?_
                  show Go p.tables e below _ (T26.setTop (mkF m 338 #[.val (.long x1), .second, .val (.long x2), .second, .val (.long x3), .second, .val (.int x4), .val (.long y7), .second, .val (.long y9), .second, .val (.int ((XT.ushr x4 (2 : Int32)) &&& (3 : Int32))), .val (.int (0 : Int32)), .val (.long y13), .second, .val (.ref b), .val (.ref ia), .val (.int (2 : Int32)), .val (.int (2 : Int32))] [(.int (1 : Int32)), (.int (2 : Int32))]))
                  refine own_go (fun tt_ kk_ => XS.icmpNo XN26.here hx rfl (hb hby at_338) rfl (XT.ii_le_f (by decide)) kk_) ?_
                  show Go p.tables e below _ (T26.setTop (mkF m 341 #[.val (.long x1), .second, .val (.long x2), .second, .val (.long x3), .second, .val (.int x4), .val (.long y7), .second, .val (.long y9), .second, .val (.int ((XT.ushr x4 (2 : Int32)) &&& (3 : Int32))), .val (.int (0 : Int32)), .val (.long y13), .second, .val (.ref b), .val (.ref ia), .val (.int (2 : Int32)), .val (.int (2 : Int32))] []))
                  refine own_go (fun tt_ kk_ => XS.aload XN26.here hx rfl (hb hby at_341) rfl rfl kk_) ?_
                  show Go p.tables e below _ (T26.setTop (mkF m 343 #[.val (.long x1), .second, .val (.long x2), .second, .val (.long x3), .second, .val (.int x4), .val (.long y7), .second, .val (.long y9), .second, .val (.int ((XT.ushr x4 (2 : Int32)) &&& (3 : Int32))), .val (.int (0 : Int32)), .val (.long y13), .second, .val (.ref b), .val (.ref ia), .val (.int (2 : Int32)), .val (.int (2 : Int32))] [(.ref ia)]))
                  refine own_go (fun tt_ kk_ => XS.iconst XN26.here hx rfl (hb hby at_343) kk_) ?_
                  show Go p.tables e below _ (T26.setTop (mkF m 344 #[.val (.long x1), .second, .val (.long x2), .second, .val (.long x3), .second, .val (.int x4), .val (.long y7), .second, .val (.long y9), .second, .val (.int ((XT.ushr x4 (2 : Int32)) &&& (3 : Int32))), .val (.int (0 : Int32)), .val (.long y13), .second, .val (.ref b), .val (.ref ia), .val (.int (2 : Int32)), .val (.int (2 : Int32))] [(.int (0 : Int32)), (.ref ia)]))
                  refine own_go (fun tt_ kk_ => XN26.laload hx (j := (0 : Int32)) (v := (.long (out 0))) (by rw [e26]; exact Ai.1) (State.isArrayOf_alike hZ9.alike Ai.2.1) Ai.2.2 (by rw [szi, hnk]; decide) (hati 0 (by omega)) (g := (mkF m 344 #[.val (.long x1), .second, .val (.long x2), .second, .val (.long x3), .second, .val (.int x4), .val (.long y7), .second, .val (.long y9), .second, .val (.int ((XT.ushr x4 (2 : Int32)) &&& (3 : Int32))), .val (.int (0 : Int32)), .val (.long y13), .second, .val (.ref b), .val (.ref ia), .val (.int (2 : Int32)), .val (.int (2 : Int32))] [(.int (0 : Int32)), (.ref ia)])) rfl rfl (hb hby at_344) tt_ kk_) ?_
                  show Go p.tables e below _ (T26.setTop (mkF m 345 #[.val (.long x1), .second, .val (.long x2), .second, .val (.long x3), .second, .val (.int x4), .val (.long y7), .second, .val (.long y9), .second, .val (.int ((XT.ushr x4 (2 : Int32)) &&& (3 : Int32))), .val (.int (0 : Int32)), .val (.long y13), .second, .val (.ref b), .val (.ref ia), .val (.int (2 : Int32)), .val (.int (2 : Int32))] [(.long (out 0))]))
                  refine own_go (fun tt_ kk_ => XS.aload XN26.here hx rfl (hb hby at_345) rfl rfl kk_) ?_
                  show Go p.tables e below _ (T26.setTop (mkF m 347 #[.val (.long x1), .second, .val (.long x2), .second, .val (.long x3), .second, .val (.int x4), .val (.long y7), .second, .val (.long y9), .second, .val (.int ((XT.ushr x4 (2 : Int32)) &&& (3 : Int32))), .val (.int (0 : Int32)), .val (.long y13), .second, .val (.ref b), .val (.ref ia), .val (.int (2 : Int32)), .val (.int (2 : Int32))] [(.ref ia), (.long (out 0))]))
                  refine own_go (fun tt_ kk_ => XS.iconst XN26.here hx rfl (hb hby at_347) kk_) ?_
                  show Go p.tables e below _ (T26.setTop (mkF m 348 #[.val (.long x1), .second, .val (.long x2), .second, .val (.long x3), .second, .val (.int x4), .val (.long y7), .second, .val (.long y9), .second, .val (.int ((XT.ushr x4 (2 : Int32)) &&& (3 : Int32))), .val (.int (0 : Int32)), .val (.long y13), .second, .val (.ref b), .val (.ref ia), .val (.int (2 : Int32)), .val (.int (2 : Int32))] [(.int (1 : Int32)), (.ref ia), (.long (out 0))]))
                  refine own_go (fun tt_ kk_ => XN26.laload hx (j := (1 : Int32)) (v := (.long (out 1))) (by rw [e26]; exact Ai.1) (State.isArrayOf_alike hZ9.alike Ai.2.1) Ai.2.2 (by rw [szi, hnk]; decide) (hati 1 (by omega)) (g := (mkF m 348 #[.val (.long x1), .second, .val (.long x2), .second, .val (.long x3), .second, .val (.int x4), .val (.long y7), .second, .val (.long y9), .second, .val (.int ((XT.ushr x4 (2 : Int32)) &&& (3 : Int32))), .val (.int (0 : Int32)), .val (.long y13), .second, .val (.ref b), .val (.ref ia), .val (.int (2 : Int32)), .val (.int (2 : Int32))] [(.int (1 : Int32)), (.ref ia), (.long (out 0))])) rfl rfl (hb hby at_348) tt_ kk_) ?_
                  show Go p.tables e below _ (T26.setTop (mkF m 349 #[.val (.long x1), .second, .val (.long x2), .second, .val (.long x3), .second, .val (.int x4), .val (.long y7), .second, .val (.long y9), .second, .val (.int ((XT.ushr x4 (2 : Int32)) &&& (3 : Int32))), .val (.int (0 : Int32)), .val (.long y13), .second, .val (.ref b), .val (.ref ia), .val (.int (2 : Int32)), .val (.int (2 : Int32))] [(.long (out 1)), (.long (out 0))]))
                  refine own_go (fun tt_ kk_ => XT.lcmp XN26.here hx rfl (hb hby at_349) rfl kk_) ?_
                  show Go p.tables e below _ (T26.setTop (mkF m 350 #[.val (.long x1), .second, .val (.long x2), .second, .val (.long x3), .second, .val (.int x4), .val (.long y7), .second, .val (.long y9), .second, .val (.int ((XT.ushr x4 (2 : Int32)) &&& (3 : Int32))), .val (.int (0 : Int32)), .val (.long y13), .second, .val (.ref b), .val (.ref ia), .val (.int (2 : Int32)), .val (.int (2 : Int32))] [(.int (XT.cmpL (out 0) (out 1)))]))
                  refine own_go (fun tt_ kk_ => XS.ifYes XN26.here hx rfl (pc0 := 350) (pc' := 355) rfl (hb hby at_350) rfl (XT.ll_ne_t (fun q => absurd (hinj 0 (by omega) 1 (by omega) q) (by decide))) (by decide) (by decide) kk_) ?_
                  show Go p.tables e below _ (T26.setTop (mkF m 355 #[.val (.long x1), .second, .val (.long x2), .second, .val (.long x3), .second, .val (.int x4), .val (.long y7), .second, .val (.long y9), .second, .val (.int ((XT.ushr x4 (2 : Int32)) &&& (3 : Int32))), .val (.int (0 : Int32)), .val (.long y13), .second, .val (.ref b), .val (.ref ia), .val (.int (2 : Int32)), .val (.int (2 : Int32))] []))
                  refine own_go (fun tt_ kk_ => XS.iload XN26.here hx rfl (hb hby at_355) rfl kk_) ?_
                  show Go p.tables e below _ (T26.setTop (mkF m 357 #[.val (.long x1), .second, .val (.long x2), .second, .val (.long x3), .second, .val (.int x4), .val (.long y7), .second, .val (.long y9), .second, .val (.int ((XT.ushr x4 (2 : Int32)) &&& (3 : Int32))), .val (.int (0 : Int32)), .val (.long y13), .second, .val (.ref b), .val (.ref ia), .val (.int (2 : Int32)), .val (.int (2 : Int32))] [(.int (2 : Int32))]))
                  refine own_go (fun tt_ kk_ => XS.iconst XN26.here hx rfl (hb hby at_357) kk_) ?_
                  show Go p.tables e below _ (T26.setTop (mkF m 358 #[.val (.long x1), .second, .val (.long x2), .second, .val (.long x3), .second, .val (.int x4), .val (.long y7), .second, .val (.long y9), .second, .val (.int ((XT.ushr x4 (2 : Int32)) &&& (3 : Int32))), .val (.int (0 : Int32)), .val (.long y13), .second, .val (.ref b), .val (.ref ia), .val (.int (2 : Int32)), .val (.int (2 : Int32))] [(.int (2 : Int32)), (.int (2 : Int32))]))
                  refine own_go (fun tt_ kk_ => XS.icmpYes XN26.here hx rfl (pc0 := 358) (pc' := 387) rfl (hb hby at_358) rfl (XT.ii_le_t (by decide)) (by decide) (by decide) kk_) ?_
                  show Go p.tables e below _ (T26.setTop (mkF m 387 #[.val (.long x1), .second, .val (.long x2), .second, .val (.long x3), .second, .val (.int x4), .val (.long y7), .second, .val (.long y9), .second, .val (.int ((XT.ushr x4 (2 : Int32)) &&& (3 : Int32))), .val (.int (0 : Int32)), .val (.long y13), .second, .val (.ref b), .val (.ref ia), .val (.int (2 : Int32)), .val (.int (2 : Int32))] []))
                  refine own_go (fun tt_ kk_ => XS.iconst XN26.here hx rfl (hb hby at_387) kk_) ?_
                  show Go p.tables e below _ (T26.setTop (mkF m 388 #[.val (.long x1), .second, .val (.long x2), .second, .val (.long x3), .second, .val (.int x4), .val (.long y7), .second, .val (.long y9), .second, .val (.int ((XT.ushr x4 (2 : Int32)) &&& (3 : Int32))), .val (.int (0 : Int32)), .val (.long y13), .second, .val (.ref b), .val (.ref ia), .val (.int (2 : Int32)), .val (.int (2 : Int32))] [(.int (1 : Int32))]))
                  exact own_retW XN26 sq9 (by rw [e26]; exact kz10) hx hlk Bd.returns rfl (Or.inl ⟨rfl, Or.inr (Or.inl rfl), _, rfl⟩) (hb hby at_388) ⟨rfl, N26⟩ (by decide) (by decide)
                · refine own_go (fun tt_ kk_ => XS.ifNo XN10.here hx rfl (hb hby at_211) rfl (XT.ll_eq_f hc22) kk_) ?_
                  show Go p.tables e below _ (T10.setTop (mkF m 214 #[.val (.long x1), .second, .val (.long x2), .second, .val (.long x3), .second, .val (.int x4), .val (.long y7), .second, .val (.long y9), .second, .val (.int ((XT.ushr x4 (2 : Int32)) &&& (3 : Int32))), .val (.int (0 : Int32)), .val (.long y13), .second, .val (.ref b), .val (.ref ia), .unset, .unset] [(.int (2 : Int32))]))
                  refine own_go (fun tt_ kk_ => XT.lload XN10.here hx rfl (hb hby at_214) rfl kk_) ?_
                  show Go p.tables e below _ (T10.setTop (mkF m 216 #[.val (.long x1), .second, .val (.long x2), .second, .val (.long x3), .second, .val (.int x4), .val (.long y7), .second, .val (.long y9), .second, .val (.int ((XT.ushr x4 (2 : Int32)) &&& (3 : Int32))), .val (.int (0 : Int32)), .val (.long y13), .second, .val (.ref b), .val (.ref ia), .unset, .unset] [(.long y9), (.int (2 : Int32))]))
                  refine own_go (fun tt_ kk_ => XT.lload XN10.here hx rfl (hb hby at_216) rfl kk_) ?_
                  show Go p.tables e below _ (T10.setTop (mkF m 218 #[.val (.long x1), .second, .val (.long x2), .second, .val (.long x3), .second, .val (.int x4), .val (.long y7), .second, .val (.long y9), .second, .val (.int ((XT.ushr x4 (2 : Int32)) &&& (3 : Int32))), .val (.int (0 : Int32)), .val (.long y13), .second, .val (.ref b), .val (.ref ia), .unset, .unset] [(.long y7), (.long y9), (.int (2 : Int32))]))
                  refine own_go (fun tt_ kk_ => XT.lcmp XN10.here hx rfl (hb hby at_218) rfl kk_) ?_
                  show Go p.tables e below _ (T10.setTop (mkF m 219 #[.val (.long x1), .second, .val (.long x2), .second, .val (.long x3), .second, .val (.int x4), .val (.long y7), .second, .val (.long y9), .second, .val (.int ((XT.ushr x4 (2 : Int32)) &&& (3 : Int32))), .val (.int (0 : Int32)), .val (.long y13), .second, .val (.ref b), .val (.ref ia), .unset, .unset] [(.int (XT.cmpL y9 y7)), (.int (2 : Int32))]))
                  by_cases hc27 : y9 = y7
                  · refine own_go (fun tt_ kk_ => XS.ifYes XN10.here hx rfl (pc0 := 219) (pc' := 226) rfl (hb hby at_219) rfl (XT.ll_eq_t hc27) (by decide) (by decide) kk_) ?_
                    show Go p.tables e below _ (T10.setTop (mkF m 226 #[.val (.long x1), .second, .val (.long x2), .second, .val (.long x3), .second, .val (.int x4), .val (.long y7), .second, .val (.long y9), .second, .val (.int ((XT.ushr x4 (2 : Int32)) &&& (3 : Int32))), .val (.int (0 : Int32)), .val (.long y13), .second, .val (.ref b), .val (.ref ia), .unset, .unset] [(.int (2 : Int32))]))
                    refine own_go (fun tt_ kk_ => XS.iconst XN10.here hx rfl (hb hby at_226) kk_) ?_
                    show Go p.tables e below _ (T10.setTop (mkF m 227 #[.val (.long x1), .second, .val (.long x2), .second, .val (.long x3), .second, .val (.int x4), .val (.long y7), .second, .val (.long y9), .second, .val (.int ((XT.ushr x4 (2 : Int32)) &&& (3 : Int32))), .val (.int (0 : Int32)), .val (.long y13), .second, .val (.ref b), .val (.ref ia), .unset, .unset] [(.int (0 : Int32)), (.int (2 : Int32))]))
                    refine own_go (fun tt_ kk_ => XS.iadd XN10.here hx rfl (hb hby at_227) rfl kk_) ?_
                    show Go p.tables e below _ (T10.setTop (mkF m 228 #[.val (.long x1), .second, .val (.long x2), .second, .val (.long x3), .second, .val (.int x4), .val (.long y7), .second, .val (.long y9), .second, .val (.int ((XT.ushr x4 (2 : Int32)) &&& (3 : Int32))), .val (.int (0 : Int32)), .val (.long y13), .second, .val (.ref b), .val (.ref ia), .unset, .unset] [(.int (2 : Int32))]))
                    refine own_go (fun tt_ kk_ => XS.istore XN10.here hx rfl (hb hby at_228) rfl (l' := #[.val (.long x1), .second, .val (.long x2), .second, .val (.long x3), .second, .val (.int x4), .val (.long y7), .second, .val (.long y9), .second, .val (.int ((XT.ushr x4 (2 : Int32)) &&& (3 : Int32))), .val (.int (0 : Int32)), .val (.long y13), .second, .val (.ref b), .val (.ref ia), .val (.int (2 : Int32)), .unset]) rfl kk_) ?_
                    show Go p.tables e below _ (T10.setTop (mkF m 230 #[.val (.long x1), .second, .val (.long x2), .second, .val (.long x3), .second, .val (.int x4), .val (.long y7), .second, .val (.long y9), .second, .val (.int ((XT.ushr x4 (2 : Int32)) &&& (3 : Int32))), .val (.int (0 : Int32)), .val (.long y13), .second, .val (.ref b), .val (.ref ia), .val (.int (2 : Int32)), .unset] []))
                    refine own_go (fun tt_ kk_ => XS.iload XN10.here hx rfl (hb hby at_230) rfl kk_) ?_
                    show Go p.tables e below _ (T10.setTop (mkF m 232 #[.val (.long x1), .second, .val (.long x2), .second, .val (.long x3), .second, .val (.int x4), .val (.long y7), .second, .val (.long y9), .second, .val (.int ((XT.ushr x4 (2 : Int32)) &&& (3 : Int32))), .val (.int (0 : Int32)), .val (.long y13), .second, .val (.ref b), .val (.ref ia), .val (.int (2 : Int32)), .unset] [(.int (2 : Int32))]))
                    refine own_go (fun tt_ kk_ => XS.iload XN10.here hx rfl (hb hby at_232) rfl kk_) ?_
                    show Go p.tables e below _ (T10.setTop (mkF m 234 #[.val (.long x1), .second, .val (.long x2), .second, .val (.long x3), .second, .val (.int x4), .val (.long y7), .second, .val (.long y9), .second, .val (.int ((XT.ushr x4 (2 : Int32)) &&& (3 : Int32))), .val (.int (0 : Int32)), .val (.long y13), .second, .val (.ref b), .val (.ref ia), .val (.int (2 : Int32)), .unset] [(.int (0 : Int32)), (.int (2 : Int32))]))
                    refine own_go (fun tt_ kk_ => XS.ifYes XN10.here hx rfl (pc0 := 234) (pc' := 241) rfl (hb hby at_234) rfl (XT.i0_eq_t (by decide)) (by decide) (by decide) kk_) ?_
                    show Go p.tables e below _ (T10.setTop (mkF m 241 #[.val (.long x1), .second, .val (.long x2), .second, .val (.long x3), .second, .val (.int x4), .val (.long y7), .second, .val (.long y9), .second, .val (.int ((XT.ushr x4 (2 : Int32)) &&& (3 : Int32))), .val (.int (0 : Int32)), .val (.long y13), .second, .val (.ref b), .val (.ref ia), .val (.int (2 : Int32)), .unset] [(.int (2 : Int32))]))
                    refine own_go (fun tt_ kk_ => XS.iconst XN10.here hx rfl (hb hby at_241) kk_) ?_
                    show Go p.tables e below _ (T10.setTop (mkF m 242 #[.val (.long x1), .second, .val (.long x2), .second, .val (.long x3), .second, .val (.int x4), .val (.long y7), .second, .val (.long y9), .second, .val (.int ((XT.ushr x4 (2 : Int32)) &&& (3 : Int32))), .val (.int (0 : Int32)), .val (.long y13), .second, .val (.ref b), .val (.ref ia), .val (.int (2 : Int32)), .unset] [(.int (0 : Int32)), (.int (2 : Int32))]))
                    refine own_go (fun tt_ kk_ => XS.isub XN10.here hx rfl (hb hby at_242) rfl kk_) ?_
                    show Go p.tables e below _ (T10.setTop (mkF m 243 #[.val (.long x1), .second, .val (.long x2), .second, .val (.long x3), .second, .val (.int x4), .val (.long y7), .second, .val (.long y9), .second, .val (.int ((XT.ushr x4 (2 : Int32)) &&& (3 : Int32))), .val (.int (0 : Int32)), .val (.long y13), .second, .val (.ref b), .val (.ref ia), .val (.int (2 : Int32)), .unset] [(.int (2 : Int32))]))
                    refine own_go (fun tt_ kk_ => XS.istore XN10.here hx rfl (hb hby at_243) rfl (l' := #[.val (.long x1), .second, .val (.long x2), .second, .val (.long x3), .second, .val (.int x4), .val (.long y7), .second, .val (.long y9), .second, .val (.int ((XT.ushr x4 (2 : Int32)) &&& (3 : Int32))), .val (.int (0 : Int32)), .val (.long y13), .second, .val (.ref b), .val (.ref ia), .val (.int (2 : Int32)), .val (.int (2 : Int32))]) rfl kk_) ?_
                    show Go p.tables e below _ (T10.setTop (mkF m 245 #[.val (.long x1), .second, .val (.long x2), .second, .val (.long x3), .second, .val (.int x4), .val (.long y7), .second, .val (.long y9), .second, .val (.int ((XT.ushr x4 (2 : Int32)) &&& (3 : Int32))), .val (.int (0 : Int32)), .val (.long y13), .second, .val (.ref b), .val (.ref ia), .val (.int (2 : Int32)), .val (.int (2 : Int32))] []))
                    have d3 : own_dn3 x1 y7 y9 = 2 := by rw [own_dn3, if_neg hc11, if_neg hc22, if_pos hc27]
                    have hnk : nn9 = 2 := by rw [own_count3 hG0 hG5 hG7 hn5 hn7 hn9, d3]
                    refine own_go (fun tt_ kk_ => XS.aload XN10.here hx rfl (hb hby at_245) rfl rfl kk_) ?_
                    show Go p.tables e below _ (T10.setTop (mkF m 247 #[.val (.long x1), .second, .val (.long x2), .second, .val (.long x3), .second, .val (.int x4), .val (.long y7), .second, .val (.long y9), .second, .val (.int ((XT.ushr x4 (2 : Int32)) &&& (3 : Int32))), .val (.int (0 : Int32)), .val (.long y13), .second, .val (.ref b), .val (.ref ia), .val (.int (2 : Int32)), .val (.int (2 : Int32))] [(.ref ia)]))
                    refine own_go (fun tt_ kk_ => XN10.arraylength hx Ai.1 (State.isArrayOf_alike hZ9.alike Ai.2.1) (g := (mkF m 247 #[.val (.long x1), .second, .val (.long x2), .second, .val (.long x3), .second, .val (.int x4), .val (.long y7), .second, .val (.long y9), .second, .val (.int ((XT.ushr x4 (2 : Int32)) &&& (3 : Int32))), .val (.int (0 : Int32)), .val (.long y13), .second, .val (.ref b), .val (.ref ia), .val (.int (2 : Int32)), .val (.int (2 : Int32))] [(.ref ia)])) rfl rfl (hb hby at_247) tt_ (by rw [(show ci.slots.size.toInt32 = ix nn9 by rw [szi]; rfl)]; exact kk_)) ?_
                    show Go p.tables e below _ (T10.setTop (mkF m 248 #[.val (.long x1), .second, .val (.long x2), .second, .val (.long x3), .second, .val (.int x4), .val (.long y7), .second, .val (.long y9), .second, .val (.int ((XT.ushr x4 (2 : Int32)) &&& (3 : Int32))), .val (.int (0 : Int32)), .val (.long y13), .second, .val (.ref b), .val (.ref ia), .val (.int (2 : Int32)), .val (.int (2 : Int32))] [(.int (ix nn9))]))
                    refine own_go (fun tt_ kk_ => XS.iload XN10.here hx rfl (hb hby at_248) rfl kk_) ?_
                    show Go p.tables e below _ (T10.setTop (mkF m 250 #[.val (.long x1), .second, .val (.long x2), .second, .val (.long x3), .second, .val (.int x4), .val (.long y7), .second, .val (.long y9), .second, .val (.int ((XT.ushr x4 (2 : Int32)) &&& (3 : Int32))), .val (.int (0 : Int32)), .val (.long y13), .second, .val (.ref b), .val (.ref ia), .val (.int (2 : Int32)), .val (.int (2 : Int32))] [(.int (2 : Int32)), (.int (ix nn9))]))
                    refine own_go (fun tt_ kk_ => XS.icmpYes XN10.here hx rfl (pc0 := 250) (pc' := 255) rfl (hb hby at_250) rfl (XT.ii_eq_t (show ix nn9 = (2 : Int32) by rw [hnk]; rfl)) (by decide) (by decide) kk_) ?_
                    show Go p.tables e below _ (T10.setTop (mkF m 255 #[.val (.long x1), .second, .val (.long x2), .second, .val (.long x3), .second, .val (.int x4), .val (.long y7), .second, .val (.long y9), .second, .val (.int ((XT.ushr x4 (2 : Int32)) &&& (3 : Int32))), .val (.int (0 : Int32)), .val (.long y13), .second, .val (.ref b), .val (.ref ia), .val (.int (2 : Int32)), .val (.int (2 : Int32))] []))
                    refine own_go (fun tt_ kk_ => XS.iload XN10.here hx rfl (hb hby at_255) rfl kk_) ?_
                    show Go p.tables e below _ (T10.setTop (mkF m 257 #[.val (.long x1), .second, .val (.long x2), .second, .val (.long x3), .second, .val (.int x4), .val (.long y7), .second, .val (.long y9), .second, .val (.int ((XT.ushr x4 (2 : Int32)) &&& (3 : Int32))), .val (.int (0 : Int32)), .val (.long y13), .second, .val (.ref b), .val (.ref ia), .val (.int (2 : Int32)), .val (.int (2 : Int32))] [(.int (2 : Int32))]))
                    refine own_go (fun tt_ kk_ => XS.ifNo XN10.here hx rfl (hb hby at_257) rfl (XT.i0_le_f (by decide)) kk_) ?_
                    show Go p.tables e below _ (T10.setTop (mkF m 260 #[.val (.long x1), .second, .val (.long x2), .second, .val (.long x3), .second, .val (.int x4), .val (.long y7), .second, .val (.long y9), .second, .val (.int ((XT.ushr x4 (2 : Int32)) &&& (3 : Int32))), .val (.int (0 : Int32)), .val (.long y13), .second, .val (.ref b), .val (.ref ia), .val (.int (2 : Int32)), .val (.int (2 : Int32))] []))
                    refine own_go (fun tt_ kk_ => XS.aload XN10.here hx rfl (hb hby at_260) rfl rfl kk_) ?_
                    show Go p.tables e below _ (T10.setTop (mkF m 262 #[.val (.long x1), .second, .val (.long x2), .second, .val (.long x3), .second, .val (.int x4), .val (.long y7), .second, .val (.long y9), .second, .val (.int ((XT.ushr x4 (2 : Int32)) &&& (3 : Int32))), .val (.int (0 : Int32)), .val (.long y13), .second, .val (.ref b), .val (.ref ia), .val (.int (2 : Int32)), .val (.int (2 : Int32))] [(.ref ia)]))
                    refine own_go (fun tt_ kk_ => XS.iconst XN10.here hx rfl (hb hby at_262) kk_) ?_
                    show Go p.tables e below _ (T10.setTop (mkF m 263 #[.val (.long x1), .second, .val (.long x2), .second, .val (.long x3), .second, .val (.int x4), .val (.long y7), .second, .val (.long y9), .second, .val (.int ((XT.ushr x4 (2 : Int32)) &&& (3 : Int32))), .val (.int (0 : Int32)), .val (.long y13), .second, .val (.ref b), .val (.ref ia), .val (.int (2 : Int32)), .val (.int (2 : Int32))] [(.int (0 : Int32)), (.ref ia)]))
                    refine own_go (fun tt_ kk_ => XN10.laload hx (j := (0 : Int32)) (v := (.long (out 0))) Ai.1 (State.isArrayOf_alike hZ9.alike Ai.2.1) Ai.2.2 (by rw [szi, hnk]; decide) (hati 0 (by omega)) (g := (mkF m 263 #[.val (.long x1), .second, .val (.long x2), .second, .val (.long x3), .second, .val (.int x4), .val (.long y7), .second, .val (.long y9), .second, .val (.int ((XT.ushr x4 (2 : Int32)) &&& (3 : Int32))), .val (.int (0 : Int32)), .val (.long y13), .second, .val (.ref b), .val (.ref ia), .val (.int (2 : Int32)), .val (.int (2 : Int32))] [(.int (0 : Int32)), (.ref ia)])) rfl rfl (hb hby at_263) tt_ kk_) ?_
                    show Go p.tables e below _ (T10.setTop (mkF m 264 #[.val (.long x1), .second, .val (.long x2), .second, .val (.long x3), .second, .val (.int x4), .val (.long y7), .second, .val (.long y9), .second, .val (.int ((XT.ushr x4 (2 : Int32)) &&& (3 : Int32))), .val (.int (0 : Int32)), .val (.long y13), .second, .val (.ref b), .val (.ref ia), .val (.int (2 : Int32)), .val (.int (2 : Int32))] [(.long (out 0))]))
                    refine own_go (fun tt_ kk_ => XT.lloadN XN10.here hx rfl (hb hby at_264) rfl kk_) ?_
                    show Go p.tables e below _ (T10.setTop (mkF m 265 #[.val (.long x1), .second, .val (.long x2), .second, .val (.long x3), .second, .val (.int x4), .val (.long y7), .second, .val (.long y9), .second, .val (.int ((XT.ushr x4 (2 : Int32)) &&& (3 : Int32))), .val (.int (0 : Int32)), .val (.long y13), .second, .val (.ref b), .val (.ref ia), .val (.int (2 : Int32)), .val (.int (2 : Int32))] [(.long x1), (.long (out 0))]))
                    refine own_go (fun tt_ kk_ => XT.lload XN10.here hx rfl (hb hby at_265) rfl kk_) ?_
                    show Go p.tables e below _ (T10.setTop (mkF m 267 #[.val (.long x1), .second, .val (.long x2), .second, .val (.long x3), .second, .val (.int x4), .val (.long y7), .second, .val (.long y9), .second, .val (.int ((XT.ushr x4 (2 : Int32)) &&& (3 : Int32))), .val (.int (0 : Int32)), .val (.long y13), .second, .val (.ref b), .val (.ref ia), .val (.int (2 : Int32)), .val (.int (2 : Int32))] [(.long y7), (.long x1), (.long (out 0))]))
                    refine own_go (fun tt_ kk_ => XT.lload XN10.here hx rfl (hb hby at_267) rfl kk_) ?_
                    show Go p.tables e below _ (T10.setTop (mkF m 269 #[.val (.long x1), .second, .val (.long x2), .second, .val (.long x3), .second, .val (.int x4), .val (.long y7), .second, .val (.long y9), .second, .val (.int ((XT.ushr x4 (2 : Int32)) &&& (3 : Int32))), .val (.int (0 : Int32)), .val (.long y13), .second, .val (.ref b), .val (.ref ia), .val (.int (2 : Int32)), .val (.int (2 : Int32))] [(.long y9), (.long y7), (.long x1), (.long (out 0))]))
                    refine own_go (fun tt_ kk_ => XS.iload XN10.here hx rfl (hb hby at_269) rfl kk_) ?_
                    show Go p.tables e below _ (T10.setTop (mkF m 271 #[.val (.long x1), .second, .val (.long x2), .second, .val (.long x3), .second, .val (.int x4), .val (.long y7), .second, .val (.long y9), .second, .val (.int ((XT.ushr x4 (2 : Int32)) &&& (3 : Int32))), .val (.int (0 : Int32)), .val (.long y13), .second, .val (.ref b), .val (.ref ia), .val (.int (2 : Int32)), .val (.int (2 : Int32))] [(.int (0 : Int32)), (.long y9), (.long y7), (.long x1), (.long (out 0))]))
                    refine own_go (fun tt_ kk_ => XT.lload XN10.here hx rfl (hb hby at_271) rfl kk_) ?_
                    show Go p.tables e below _ (T10.setTop (mkF m 273 #[.val (.long x1), .second, .val (.long x2), .second, .val (.long x3), .second, .val (.int x4), .val (.long y7), .second, .val (.long y9), .second, .val (.int ((XT.ushr x4 (2 : Int32)) &&& (3 : Int32))), .val (.int (0 : Int32)), .val (.long y13), .second, .val (.ref b), .val (.ref ia), .val (.int (2 : Int32)), .val (.int (2 : Int32))] [(.long y13), (.int (0 : Int32)), (.long y9), (.long y7), (.long x1), (.long (out 0))]))
                    have hj28 := hout 0 (by omega)
                    rw [hG9, hG7, hG5, hG0] at hj28
                    have hs28 : (out 0) = x1 ∨ (out 0) = y7 ∨ (out 0) = y9 := Classical.byContradiction fun z => hj28 (own_has3.mpr z)
                    obtain ⟨v29, _, ⟨T29, L29, k29, n29⟩, -, X29, ⟨Lc29, hQ29, l29, y29, z29⟩, st29⟩ := Jvm.LawKit.callS XN10 hx (y := (⟨"com/example/rootlet/rootlet/IdMapIdsPinLaw", "expected", "(JJJJZJ)Z"⟩ : MethodName)) hown9 (mvT hZ9 (hw _ (List.mem_of_getElem? (i := 64) rfl))) (mvT hZ9 (hw _ (List.mem_of_getElem? (i := 65) rfl))) (mvT hZ9 (hw _ (List.mem_of_getElem? (i := 66) rfl))) (mvT hZ9 (hw _ (List.mem_of_getElem? (i := 67) rfl))) (by decide) (backOf (W := 0) (rm_expected l Z a0 hw [] (out 0) x1 y7 y9 (0 : Int32) y13 T10.heap n0) hZ9 (hw _ (List.mem_of_getElem? (i := 67) rfl)) (hw _ (List.mem_of_getElem? (i := 66) rfl)) (by decide) (by decide)) (g := (mkF m 273 #[.val (.long x1), .second, .val (.long x2), .second, .val (.long x3), .second, .val (.int x4), .val (.long y7), .second, .val (.long y9), .second, .val (.int ((XT.ushr x4 (2 : Int32)) &&& (3 : Int32))), .val (.int (0 : Int32)), .val (.long y13), .second, .val (.ref b), .val (.ref ia), .val (.int (2 : Int32)), .val (.int (2 : Int32))] [(.long y13), (.int (0 : Int32)), (.long y9), (.long y7), (.long x1), (.long (out 0))])) rfl (by rw [hml]; rfl) (argsL := [(.long (out 0)), (.long x1), (.long y7), (.long y9), (.int (0 : Int32)), (.long y13)]) (rest := []) (lenOf pd_9 rfl) rfl (by show 2 * 0 + _ ≤ _; exact Nat.le_of_eq rfl) (hb hby at_273) (fun _ _ => ⟨rfl, rfl, (by decide : 10 + 0 ≤ _), (by decide : 116 + 0 ≤ _)⟩)
                    dsimp only [Pt.U, Pt.locs, Pt.cells, Pt.slots] at X29 l29 y29 z29 st29 hQ29
                    subst y29 z29
                    have XN29 : Stand p l e room_1 (s.setVm T9.vm) m #[(.long x1), (.long x2), (.long x3), (.int x4)] below meth c T29 _ 10 116 := X29
                    obtain ⟨hv29, N29q, e29⟩ := hQ29
                    rw [show ((.int (own_expd (out 0) x1 y7 y9 (0 : Int32) y13)) : Value) = (.int (1 : Int32)) from congrArg Value.int (own_expd_one hs28 (Or.inl rfl))] at hv29
                    subst hv29
                    have N29 : Fr n0 L29 := by rw [l29]; exact Fr.app N10 N29q
                    refine own_go (fun tt_ kk_ => st29 tt_ kk_) ?_
                    show Go p.tables e below _ (T29.setTop (mkF m 276 #[.val (.long x1), .second, .val (.long x2), .second, .val (.long x3), .second, .val (.int x4), .val (.long y7), .second, .val (.long y9), .second, .val (.int ((XT.ushr x4 (2 : Int32)) &&& (3 : Int32))), .val (.int (0 : Int32)), .val (.long y13), .second, .val (.ref b), .val (.ref ia), .val (.int (2 : Int32)), .val (.int (2 : Int32))] [(.int (1 : Int32))]))
                    refine own_go (fun tt_ kk_ => XS.ifYes XN29.here hx rfl (pc0 := 276) (pc' := 281) rfl (hb hby at_276) rfl (XT.i0_ne_t (by decide)) (by decide) (by decide) kk_) ?_
                    show Go p.tables e below _ (T29.setTop (mkF m 281 #[.val (.long x1), .second, .val (.long x2), .second, .val (.long x3), .second, .val (.int x4), .val (.long y7), .second, .val (.long y9), .second, .val (.int ((XT.ushr x4 (2 : Int32)) &&& (3 : Int32))), .val (.int (0 : Int32)), .val (.long y13), .second, .val (.ref b), .val (.ref ia), .val (.int (2 : Int32)), .val (.int (2 : Int32))] []))
                    refine own_go (fun tt_ kk_ => XS.iload XN29.here hx rfl (hb hby at_281) rfl kk_) ?_
                    show Go p.tables e below _ (T29.setTop (mkF m 283 #[.val (.long x1), .second, .val (.long x2), .second, .val (.long x3), .second, .val (.int x4), .val (.long y7), .second, .val (.long y9), .second, .val (.int ((XT.ushr x4 (2 : Int32)) &&& (3 : Int32))), .val (.int (0 : Int32)), .val (.long y13), .second, .val (.ref b), .val (.ref ia), .val (.int (2 : Int32)), .val (.int (2 : Int32))] [(.int (2 : Int32))]))
                    refine own_go (fun tt_ kk_ => XS.iconst XN29.here hx rfl (hb hby at_283) kk_) ?_
                    show Go p.tables e below _ (T29.setTop (mkF m 284 #[.val (.long x1), .second, .val (.long x2), .second, .val (.long x3), .second, .val (.int x4), .val (.long y7), .second, .val (.long y9), .second, .val (.int ((XT.ushr x4 (2 : Int32)) &&& (3 : Int32))), .val (.int (0 : Int32)), .val (.long y13), .second, .val (.ref b), .val (.ref ia), .val (.int (2 : Int32)), .val (.int (2 : Int32))] [(.int (1 : Int32)), (.int (2 : Int32))]))
                    refine own_go (fun tt_ kk_ => XS.icmpNo XN29.here hx rfl (hb hby at_284) rfl (XT.ii_le_f (by decide)) kk_) ?_
                    show Go p.tables e below _ (T29.setTop (mkF m 287 #[.val (.long x1), .second, .val (.long x2), .second, .val (.long x3), .second, .val (.int x4), .val (.long y7), .second, .val (.long y9), .second, .val (.int ((XT.ushr x4 (2 : Int32)) &&& (3 : Int32))), .val (.int (0 : Int32)), .val (.long y13), .second, .val (.ref b), .val (.ref ia), .val (.int (2 : Int32)), .val (.int (2 : Int32))] []))
                    refine own_go (fun tt_ kk_ => XS.aload XN29.here hx rfl (hb hby at_287) rfl rfl kk_) ?_
                    show Go p.tables e below _ (T29.setTop (mkF m 289 #[.val (.long x1), .second, .val (.long x2), .second, .val (.long x3), .second, .val (.int x4), .val (.long y7), .second, .val (.long y9), .second, .val (.int ((XT.ushr x4 (2 : Int32)) &&& (3 : Int32))), .val (.int (0 : Int32)), .val (.long y13), .second, .val (.ref b), .val (.ref ia), .val (.int (2 : Int32)), .val (.int (2 : Int32))] [(.ref ia)]))
                    refine own_go (fun tt_ kk_ => XS.iconst XN29.here hx rfl (hb hby at_289) kk_) ?_
                    show Go p.tables e below _ (T29.setTop (mkF m 290 #[.val (.long x1), .second, .val (.long x2), .second, .val (.long x3), .second, .val (.int x4), .val (.long y7), .second, .val (.long y9), .second, .val (.int ((XT.ushr x4 (2 : Int32)) &&& (3 : Int32))), .val (.int (0 : Int32)), .val (.long y13), .second, .val (.ref b), .val (.ref ia), .val (.int (2 : Int32)), .val (.int (2 : Int32))] [(.int (1 : Int32)), (.ref ia)]))
                    refine own_go (fun tt_ kk_ => XN29.laload hx (j := (1 : Int32)) (v := (.long (out 1))) (by rw [e29]; exact Ai.1) (State.isArrayOf_alike hZ9.alike Ai.2.1) Ai.2.2 (by rw [szi, hnk]; decide) (hati 1 (by omega)) (g := (mkF m 290 #[.val (.long x1), .second, .val (.long x2), .second, .val (.long x3), .second, .val (.int x4), .val (.long y7), .second, .val (.long y9), .second, .val (.int ((XT.ushr x4 (2 : Int32)) &&& (3 : Int32))), .val (.int (0 : Int32)), .val (.long y13), .second, .val (.ref b), .val (.ref ia), .val (.int (2 : Int32)), .val (.int (2 : Int32))] [(.int (1 : Int32)), (.ref ia)])) rfl rfl (hb hby at_290) tt_ kk_) ?_
                    show Go p.tables e below _ (T29.setTop (mkF m 291 #[.val (.long x1), .second, .val (.long x2), .second, .val (.long x3), .second, .val (.int x4), .val (.long y7), .second, .val (.long y9), .second, .val (.int ((XT.ushr x4 (2 : Int32)) &&& (3 : Int32))), .val (.int (0 : Int32)), .val (.long y13), .second, .val (.ref b), .val (.ref ia), .val (.int (2 : Int32)), .val (.int (2 : Int32))] [(.long (out 1))]))
                    refine own_go (fun tt_ kk_ => XT.lloadN XN29.here hx rfl (hb hby at_291) rfl kk_) ?_
                    show Go p.tables e below _ (T29.setTop (mkF m 292 #[.val (.long x1), .second, .val (.long x2), .second, .val (.long x3), .second, .val (.int x4), .val (.long y7), .second, .val (.long y9), .second, .val (.int ((XT.ushr x4 (2 : Int32)) &&& (3 : Int32))), .val (.int (0 : Int32)), .val (.long y13), .second, .val (.ref b), .val (.ref ia), .val (.int (2 : Int32)), .val (.int (2 : Int32))] [(.long x1), (.long (out 1))]))
                    refine own_go (fun tt_ kk_ => XT.lload XN29.here hx rfl (hb hby at_292) rfl kk_) ?_
                    show Go p.tables e below _ (T29.setTop (mkF m 294 #[.val (.long x1), .second, .val (.long x2), .second, .val (.long x3), .second, .val (.int x4), .val (.long y7), .second, .val (.long y9), .second, .val (.int ((XT.ushr x4 (2 : Int32)) &&& (3 : Int32))), .val (.int (0 : Int32)), .val (.long y13), .second, .val (.ref b), .val (.ref ia), .val (.int (2 : Int32)), .val (.int (2 : Int32))] [(.long y7), (.long x1), (.long (out 1))]))
                    refine own_go (fun tt_ kk_ => XT.lload XN29.here hx rfl (hb hby at_294) rfl kk_) ?_
                    show Go p.tables e below _ (T29.setTop (mkF m 296 #[.val (.long x1), .second, .val (.long x2), .second, .val (.long x3), .second, .val (.int x4), .val (.long y7), .second, .val (.long y9), .second, .val (.int ((XT.ushr x4 (2 : Int32)) &&& (3 : Int32))), .val (.int (0 : Int32)), .val (.long y13), .second, .val (.ref b), .val (.ref ia), .val (.int (2 : Int32)), .val (.int (2 : Int32))] [(.long y9), (.long y7), (.long x1), (.long (out 1))]))
                    refine own_go (fun tt_ kk_ => XS.iload XN29.here hx rfl (hb hby at_296) rfl kk_) ?_
                    show Go p.tables e below _ (T29.setTop (mkF m 298 #[.val (.long x1), .second, .val (.long x2), .second, .val (.long x3), .second, .val (.int x4), .val (.long y7), .second, .val (.long y9), .second, .val (.int ((XT.ushr x4 (2 : Int32)) &&& (3 : Int32))), .val (.int (0 : Int32)), .val (.long y13), .second, .val (.ref b), .val (.ref ia), .val (.int (2 : Int32)), .val (.int (2 : Int32))] [(.int (0 : Int32)), (.long y9), (.long y7), (.long x1), (.long (out 1))]))
                    refine own_go (fun tt_ kk_ => XT.lload XN29.here hx rfl (hb hby at_298) rfl kk_) ?_
                    show Go p.tables e below _ (T29.setTop (mkF m 300 #[.val (.long x1), .second, .val (.long x2), .second, .val (.long x3), .second, .val (.int x4), .val (.long y7), .second, .val (.long y9), .second, .val (.int ((XT.ushr x4 (2 : Int32)) &&& (3 : Int32))), .val (.int (0 : Int32)), .val (.long y13), .second, .val (.ref b), .val (.ref ia), .val (.int (2 : Int32)), .val (.int (2 : Int32))] [(.long y13), (.int (0 : Int32)), (.long y9), (.long y7), (.long x1), (.long (out 1))]))
                    have hj30 := hout 1 (by omega)
                    rw [hG9, hG7, hG5, hG0] at hj30
                    have hs30 : (out 1) = x1 ∨ (out 1) = y7 ∨ (out 1) = y9 := Classical.byContradiction fun z => hj30 (own_has3.mpr z)
                    obtain ⟨v31, _, ⟨T31, L31, k31, n31⟩, -, X31, ⟨Lc31, hQ31, l31, y31, z31⟩, st31⟩ := Jvm.LawKit.callS XN29 hx (y := (⟨"com/example/rootlet/rootlet/IdMapIdsPinLaw", "expected", "(JJJJZJ)Z"⟩ : MethodName)) hown9 (mvT hZ9 (hw _ (List.mem_of_getElem? (i := 64) rfl))) (mvT hZ9 (hw _ (List.mem_of_getElem? (i := 65) rfl))) (mvT hZ9 (hw _ (List.mem_of_getElem? (i := 66) rfl))) (mvT hZ9 (hw _ (List.mem_of_getElem? (i := 67) rfl))) (by decide) (backOf (W := 0) (rm_expected l Z a0 hw [] (out 1) x1 y7 y9 (0 : Int32) y13 T10.heap n0) hZ9 (hw _ (List.mem_of_getElem? (i := 67) rfl)) (hw _ (List.mem_of_getElem? (i := 66) rfl)) (by decide) (by decide)) (g := (mkF m 300 #[.val (.long x1), .second, .val (.long x2), .second, .val (.long x3), .second, .val (.int x4), .val (.long y7), .second, .val (.long y9), .second, .val (.int ((XT.ushr x4 (2 : Int32)) &&& (3 : Int32))), .val (.int (0 : Int32)), .val (.long y13), .second, .val (.ref b), .val (.ref ia), .val (.int (2 : Int32)), .val (.int (2 : Int32))] [(.long y13), (.int (0 : Int32)), (.long y9), (.long y7), (.long x1), (.long (out 1))])) rfl (by rw [hml]; rfl) (argsL := [(.long (out 1)), (.long x1), (.long y7), (.long y9), (.int (0 : Int32)), (.long y13)]) (rest := []) (lenOf pd_9 rfl) rfl (by show 2 * 0 + _ ≤ _; exact Nat.le_of_eq rfl) (hb hby at_300) (fun _ _ => ⟨rfl, e29, (by decide : 10 + 0 ≤ _), (by decide : 116 + 0 ≤ _)⟩)
                    dsimp only [Pt.U, Pt.locs, Pt.cells, Pt.slots] at X31 l31 y31 z31 st31 hQ31
                    subst y31 z31
                    have XN31 : Stand p l e room_1 (s.setVm T9.vm) m #[(.long x1), (.long x2), (.long x3), (.int x4)] below meth c T31 _ 10 116 := X31
                    obtain ⟨hv31, N31q, e31⟩ := hQ31
                    rw [show ((.int (own_expd (out 1) x1 y7 y9 (0 : Int32) y13)) : Value) = (.int (1 : Int32)) from congrArg Value.int (own_expd_one hs30 (Or.inl rfl))] at hv31
                    subst hv31
                    have N31 : Fr n0 L31 := by rw [l31]; exact Fr.app N29 N31q
                    refine own_go (fun tt_ kk_ => st31 tt_ kk_) ?_
                    show Go p.tables e below _ (T31.setTop (mkF m 303 #[.val (.long x1), .second, .val (.long x2), .second, .val (.long x3), .second, .val (.int x4), .val (.long y7), .second, .val (.long y9), .second, .val (.int ((XT.ushr x4 (2 : Int32)) &&& (3 : Int32))), .val (.int (0 : Int32)), .val (.long y13), .second, .val (.ref b), .val (.ref ia), .val (.int (2 : Int32)), .val (.int (2 : Int32))] [(.int (1 : Int32))]))
                    refine own_go (fun tt_ kk_ => XS.ifYes XN31.here hx rfl (pc0 := 303) (pc' := 308) rfl (hb hby at_303) rfl (XT.i0_ne_t (by decide)) (by decide) (by decide) kk_) ?_
                    show Go p.tables e below _ (T31.setTop (mkF m 308 #[.val (.long x1), .second, .val (.long x2), .second, .val (.long x3), .second, .val (.int x4), .val (.long y7), .second, .val (.long y9), .second, .val (.int ((XT.ushr x4 (2 : Int32)) &&& (3 : Int32))), .val (.int (0 : Int32)), .val (.long y13), .second, .val (.ref b), .val (.ref ia), .val (.int (2 : Int32)), .val (.int (2 : Int32))] []))
                    refine own_go (fun tt_ kk_ => XS.iload XN31.here hx rfl (hb hby at_308) rfl kk_) ?_
                    show Go p.tables e below _ (T31.setTop (mkF m 310 #[.val (.long x1), .second, .val (.long x2), .second, .val (.long x3), .second, .val (.int x4), .val (.long y7), .second, .val (.long y9), .second, .val (.int ((XT.ushr x4 (2 : Int32)) &&& (3 : Int32))), .val (.int (0 : Int32)), .val (.long y13), .second, .val (.ref b), .val (.ref ia), .val (.int (2 : Int32)), .val (.int (2 : Int32))] [(.int (2 : Int32))]))
                    refine own_go (fun tt_ kk_ => XS.iconst XN31.here hx rfl (hb hby at_310) kk_) ?_
                    show Go p.tables e below _ (T31.setTop (mkF m 311 #[.val (.long x1), .second, .val (.long x2), .second, .val (.long x3), .second, .val (.int x4), .val (.long y7), .second, .val (.long y9), .second, .val (.int ((XT.ushr x4 (2 : Int32)) &&& (3 : Int32))), .val (.int (0 : Int32)), .val (.long y13), .second, .val (.ref b), .val (.ref ia), .val (.int (2 : Int32)), .val (.int (2 : Int32))] [(.int (2 : Int32)), (.int (2 : Int32))]))
                    refine own_go (fun tt_ kk_ => XS.icmpYes XN31.here hx rfl (pc0 := 311) (pc' := 335) rfl (hb hby at_311) rfl (XT.ii_le_t (by decide)) (by decide) (by decide) kk_) ?_
                    show Go p.tables e below _ (T31.setTop (mkF m 335 #[.val (.long x1), .second, .val (.long x2), .second, .val (.long x3), .second, .val (.int x4), .val (.long y7), .second, .val (.long y9), .second, .val (.int ((XT.ushr x4 (2 : Int32)) &&& (3 : Int32))), .val (.int (0 : Int32)), .val (.long y13), .second, .val (.ref b), .val (.ref ia), .val (.int (2 : Int32)), .val (.int (2 : Int32))] []))
                    refine own_go (fun tt_ kk_ => XS.iload XN31.here hx rfl (hb hby at_335) rfl kk_) ?_
                    show Go p.tables e below _ (T31.setTop (mkF m 337 #[.val (.long x1), .second, .val (.long x2), .second, .val (.long x3), .second, .val (.int x4), .val (.long y7), .second, .val (.long y9), .second, .val (.int ((XT.ushr x4 (2 : Int32)) &&& (3 : Int32))), .val (.int (0 : Int32)), .val (.long y13), .second, .val (.ref b), .val (.ref ia), .val (.int (2 : Int32)), .val (.int (2 : Int32))] [(.int (2 : Int32))]))
                    refine own_go (fun tt_ kk_ => XS.iconst XN31.here hx rfl (hb hby at_337) kk_) ?_
                    show Go p.tables e below _ (T31.setTop (mkF m 338 #[.val (.long x1), .second, .val (.long x2), .second, .val (.long x3), .second, .val (.int x4), .val (.long y7), .second, .val (.long y9), .second, .val (.int ((XT.ushr x4 (2 : Int32)) &&& (3 : Int32))), .val (.int (0 : Int32)), .val (.long y13), .second, .val (.ref b), .val (.ref ia), .val (.int (2 : Int32)), .val (.int (2 : Int32))] [(.int (1 : Int32)), (.int (2 : Int32))]))
                    refine own_go (fun tt_ kk_ => XS.icmpNo XN31.here hx rfl (hb hby at_338) rfl (XT.ii_le_f (by decide)) kk_) ?_
                    show Go p.tables e below _ (T31.setTop (mkF m 341 #[.val (.long x1), .second, .val (.long x2), .second, .val (.long x3), .second, .val (.int x4), .val (.long y7), .second, .val (.long y9), .second, .val (.int ((XT.ushr x4 (2 : Int32)) &&& (3 : Int32))), .val (.int (0 : Int32)), .val (.long y13), .second, .val (.ref b), .val (.ref ia), .val (.int (2 : Int32)), .val (.int (2 : Int32))] []))
                    refine own_go (fun tt_ kk_ => XS.aload XN31.here hx rfl (hb hby at_341) rfl rfl kk_) ?_
                    show Go p.tables e below _ (T31.setTop (mkF m 343 #[.val (.long x1), .second, .val (.long x2), .second, .val (.long x3), .second, .val (.int x4), .val (.long y7), .second, .val (.long y9), .second, .val (.int ((XT.ushr x4 (2 : Int32)) &&& (3 : Int32))), .val (.int (0 : Int32)), .val (.long y13), .second, .val (.ref b), .val (.ref ia), .val (.int (2 : Int32)), .val (.int (2 : Int32))] [(.ref ia)]))
                    refine own_go (fun tt_ kk_ => XS.iconst XN31.here hx rfl (hb hby at_343) kk_) ?_
                    show Go p.tables e below _ (T31.setTop (mkF m 344 #[.val (.long x1), .second, .val (.long x2), .second, .val (.long x3), .second, .val (.int x4), .val (.long y7), .second, .val (.long y9), .second, .val (.int ((XT.ushr x4 (2 : Int32)) &&& (3 : Int32))), .val (.int (0 : Int32)), .val (.long y13), .second, .val (.ref b), .val (.ref ia), .val (.int (2 : Int32)), .val (.int (2 : Int32))] [(.int (0 : Int32)), (.ref ia)]))
                    refine own_go (fun tt_ kk_ => XN31.laload hx (j := (0 : Int32)) (v := (.long (out 0))) (by rw [e31]; exact Ai.1) (State.isArrayOf_alike hZ9.alike Ai.2.1) Ai.2.2 (by rw [szi, hnk]; decide) (hati 0 (by omega)) (g := (mkF m 344 #[.val (.long x1), .second, .val (.long x2), .second, .val (.long x3), .second, .val (.int x4), .val (.long y7), .second, .val (.long y9), .second, .val (.int ((XT.ushr x4 (2 : Int32)) &&& (3 : Int32))), .val (.int (0 : Int32)), .val (.long y13), .second, .val (.ref b), .val (.ref ia), .val (.int (2 : Int32)), .val (.int (2 : Int32))] [(.int (0 : Int32)), (.ref ia)])) rfl rfl (hb hby at_344) tt_ kk_) ?_
                    show Go p.tables e below _ (T31.setTop (mkF m 345 #[.val (.long x1), .second, .val (.long x2), .second, .val (.long x3), .second, .val (.int x4), .val (.long y7), .second, .val (.long y9), .second, .val (.int ((XT.ushr x4 (2 : Int32)) &&& (3 : Int32))), .val (.int (0 : Int32)), .val (.long y13), .second, .val (.ref b), .val (.ref ia), .val (.int (2 : Int32)), .val (.int (2 : Int32))] [(.long (out 0))]))
                    refine own_go (fun tt_ kk_ => XS.aload XN31.here hx rfl (hb hby at_345) rfl rfl kk_) ?_
                    show Go p.tables e below _ (T31.setTop (mkF m 347 #[.val (.long x1), .second, .val (.long x2), .second, .val (.long x3), .second, .val (.int x4), .val (.long y7), .second, .val (.long y9), .second, .val (.int ((XT.ushr x4 (2 : Int32)) &&& (3 : Int32))), .val (.int (0 : Int32)), .val (.long y13), .second, .val (.ref b), .val (.ref ia), .val (.int (2 : Int32)), .val (.int (2 : Int32))] [(.ref ia), (.long (out 0))]))
                    refine own_go (fun tt_ kk_ => XS.iconst XN31.here hx rfl (hb hby at_347) kk_) ?_
                    show Go p.tables e below _ (T31.setTop (mkF m 348 #[.val (.long x1), .second, .val (.long x2), .second, .val (.long x3), .second, .val (.int x4), .val (.long y7), .second, .val (.long y9), .second, .val (.int ((XT.ushr x4 (2 : Int32)) &&& (3 : Int32))), .val (.int (0 : Int32)), .val (.long y13), .second, .val (.ref b), .val (.ref ia), .val (.int (2 : Int32)), .val (.int (2 : Int32))] [(.int (1 : Int32)), (.ref ia), (.long (out 0))]))
                    refine own_go (fun tt_ kk_ => XN31.laload hx (j := (1 : Int32)) (v := (.long (out 1))) (by rw [e31]; exact Ai.1) (State.isArrayOf_alike hZ9.alike Ai.2.1) Ai.2.2 (by rw [szi, hnk]; decide) (hati 1 (by omega)) (g := (mkF m 348 #[.val (.long x1), .second, .val (.long x2), .second, .val (.long x3), .second, .val (.int x4), .val (.long y7), .second, .val (.long y9), .second, .val (.int ((XT.ushr x4 (2 : Int32)) &&& (3 : Int32))), .val (.int (0 : Int32)), .val (.long y13), .second, .val (.ref b), .val (.ref ia), .val (.int (2 : Int32)), .val (.int (2 : Int32))] [(.int (1 : Int32)), (.ref ia), (.long (out 0))])) rfl rfl (hb hby at_348) tt_ kk_) ?_
                    show Go p.tables e below _ (T31.setTop (mkF m 349 #[.val (.long x1), .second, .val (.long x2), .second, .val (.long x3), .second, .val (.int x4), .val (.long y7), .second, .val (.long y9), .second, .val (.int ((XT.ushr x4 (2 : Int32)) &&& (3 : Int32))), .val (.int (0 : Int32)), .val (.long y13), .second, .val (.ref b), .val (.ref ia), .val (.int (2 : Int32)), .val (.int (2 : Int32))] [(.long (out 1)), (.long (out 0))]))
                    refine own_go (fun tt_ kk_ => XT.lcmp XN31.here hx rfl (hb hby at_349) rfl kk_) ?_
                    show Go p.tables e below _ (T31.setTop (mkF m 350 #[.val (.long x1), .second, .val (.long x2), .second, .val (.long x3), .second, .val (.int x4), .val (.long y7), .second, .val (.long y9), .second, .val (.int ((XT.ushr x4 (2 : Int32)) &&& (3 : Int32))), .val (.int (0 : Int32)), .val (.long y13), .second, .val (.ref b), .val (.ref ia), .val (.int (2 : Int32)), .val (.int (2 : Int32))] [(.int (XT.cmpL (out 0) (out 1)))]))
                    refine own_go (fun tt_ kk_ => XS.ifYes XN31.here hx rfl (pc0 := 350) (pc' := 355) rfl (hb hby at_350) rfl (XT.ll_ne_t (fun q => absurd (hinj 0 (by omega) 1 (by omega) q) (by decide))) (by decide) (by decide) kk_) ?_
                    show Go p.tables e below _ (T31.setTop (mkF m 355 #[.val (.long x1), .second, .val (.long x2), .second, .val (.long x3), .second, .val (.int x4), .val (.long y7), .second, .val (.long y9), .second, .val (.int ((XT.ushr x4 (2 : Int32)) &&& (3 : Int32))), .val (.int (0 : Int32)), .val (.long y13), .second, .val (.ref b), .val (.ref ia), .val (.int (2 : Int32)), .val (.int (2 : Int32))] []))
                    refine own_go (fun tt_ kk_ => XS.iload XN31.here hx rfl (hb hby at_355) rfl kk_) ?_
                    show Go p.tables e below _ (T31.setTop (mkF m 357 #[.val (.long x1), .second, .val (.long x2), .second, .val (.long x3), .second, .val (.int x4), .val (.long y7), .second, .val (.long y9), .second, .val (.int ((XT.ushr x4 (2 : Int32)) &&& (3 : Int32))), .val (.int (0 : Int32)), .val (.long y13), .second, .val (.ref b), .val (.ref ia), .val (.int (2 : Int32)), .val (.int (2 : Int32))] [(.int (2 : Int32))]))
                    refine own_go (fun tt_ kk_ => XS.iconst XN31.here hx rfl (hb hby at_357) kk_) ?_
                    show Go p.tables e below _ (T31.setTop (mkF m 358 #[.val (.long x1), .second, .val (.long x2), .second, .val (.long x3), .second, .val (.int x4), .val (.long y7), .second, .val (.long y9), .second, .val (.int ((XT.ushr x4 (2 : Int32)) &&& (3 : Int32))), .val (.int (0 : Int32)), .val (.long y13), .second, .val (.ref b), .val (.ref ia), .val (.int (2 : Int32)), .val (.int (2 : Int32))] [(.int (2 : Int32)), (.int (2 : Int32))]))
                    refine own_go (fun tt_ kk_ => XS.icmpYes XN31.here hx rfl (pc0 := 358) (pc' := 387) rfl (hb hby at_358) rfl (XT.ii_le_t (by decide)) (by decide) (by decide) kk_) ?_
                    show Go p.tables e below _ (T31.setTop (mkF m 387 #[.val (.long x1), .second, .val (.long x2), .second, .val (.long x3), .second, .val (.int x4), .val (.long y7), .second, .val (.long y9), .second, .val (.int ((XT.ushr x4 (2 : Int32)) &&& (3 : Int32))), .val (.int (0 : Int32)), .val (.long y13), .second, .val (.ref b), .val (.ref ia), .val (.int (2 : Int32)), .val (.int (2 : Int32))] []))
                    refine own_go (fun tt_ kk_ => XS.iconst XN31.here hx rfl (hb hby at_387) kk_) ?_
                    show Go p.tables e below _ (T31.setTop (mkF m 388 #[.val (.long x1), .second, .val (.long x2), .second, .val (.long x3), .second, .val (.int x4), .val (.long y7), .second, .val (.long y9), .second, .val (.int ((XT.ushr x4 (2 : Int32)) &&& (3 : Int32))), .val (.int (0 : Int32)), .val (.long y13), .second, .val (.ref b), .val (.ref ia), .val (.int (2 : Int32)), .val (.int (2 : Int32))] [(.int (1 : Int32))]))
                    exact own_retW XN31 sq9 (by rw [e31]; exact kz10) hx hlk Bd.returns rfl (Or.inl ⟨rfl, Or.inr (Or.inl rfl), _, rfl⟩) (hb hby at_388) ⟨rfl, N31⟩ (by decide) (by decide)
                  · refine own_go (fun tt_ kk_ => XS.ifNo XN10.here hx rfl (hb hby at_219) rfl (XT.ll_eq_f hc27) kk_) ?_
                    show Go p.tables e below _ (T10.setTop (mkF m 222 #[.val (.long x1), .second, .val (.long x2), .second, .val (.long x3), .second, .val (.int x4), .val (.long y7), .second, .val (.long y9), .second, .val (.int ((XT.ushr x4 (2 : Int32)) &&& (3 : Int32))), .val (.int (0 : Int32)), .val (.long y13), .second, .val (.ref b), .val (.ref ia), .unset, .unset] [(.int (2 : Int32))]))
                    refine own_go (fun tt_ kk_ => XS.iconst XN10.here hx rfl (hb hby at_222) kk_) ?_
                    show Go p.tables e below _ (T10.setTop (mkF m 223 #[.val (.long x1), .second, .val (.long x2), .second, .val (.long x3), .second, .val (.int x4), .val (.long y7), .second, .val (.long y9), .second, .val (.int ((XT.ushr x4 (2 : Int32)) &&& (3 : Int32))), .val (.int (0 : Int32)), .val (.long y13), .second, .val (.ref b), .val (.ref ia), .unset, .unset] [(.int (1 : Int32)), (.int (2 : Int32))]))
                    refine own_go (fun tt_ kk_ => XS.goto XN10.here hx rfl (pc0 := 223) (pc' := 227) rfl (hb hby at_223) (by decide) (by decide) kk_) ?_
                    show Go p.tables e below _ (T10.setTop (mkF m 227 #[.val (.long x1), .second, .val (.long x2), .second, .val (.long x3), .second, .val (.int x4), .val (.long y7), .second, .val (.long y9), .second, .val (.int ((XT.ushr x4 (2 : Int32)) &&& (3 : Int32))), .val (.int (0 : Int32)), .val (.long y13), .second, .val (.ref b), .val (.ref ia), .unset, .unset] [(.int (1 : Int32)), (.int (2 : Int32))]))
                    refine own_go (fun tt_ kk_ => XS.iadd XN10.here hx rfl (hb hby at_227) rfl kk_) ?_
                    show Go p.tables e below _ (T10.setTop (mkF m 228 #[.val (.long x1), .second, .val (.long x2), .second, .val (.long x3), .second, .val (.int x4), .val (.long y7), .second, .val (.long y9), .second, .val (.int ((XT.ushr x4 (2 : Int32)) &&& (3 : Int32))), .val (.int (0 : Int32)), .val (.long y13), .second, .val (.ref b), .val (.ref ia), .unset, .unset] [(.int (3 : Int32))]))
                    refine own_go (fun tt_ kk_ => XS.istore XN10.here hx rfl (hb hby at_228) rfl (l' := #[.val (.long x1), .second, .val (.long x2), .second, .val (.long x3), .second, .val (.int x4), .val (.long y7), .second, .val (.long y9), .second, .val (.int ((XT.ushr x4 (2 : Int32)) &&& (3 : Int32))), .val (.int (0 : Int32)), .val (.long y13), .second, .val (.ref b), .val (.ref ia), .val (.int (3 : Int32)), .unset]) rfl kk_) ?_
                    show Go p.tables e below _ (T10.setTop (mkF m 230 #[.val (.long x1), .second, .val (.long x2), .second, .val (.long x3), .second, .val (.int x4), .val (.long y7), .second, .val (.long y9), .second, .val (.int ((XT.ushr x4 (2 : Int32)) &&& (3 : Int32))), .val (.int (0 : Int32)), .val (.long y13), .second, .val (.ref b), .val (.ref ia), .val (.int (3 : Int32)), .unset] []))
                    refine own_go (fun tt_ kk_ => XS.iload XN10.here hx rfl (hb hby at_230) rfl kk_) ?_
                    show Go p.tables e below _ (T10.setTop (mkF m 232 #[.val (.long x1), .second, .val (.long x2), .second, .val (.long x3), .second, .val (.int x4), .val (.long y7), .second, .val (.long y9), .second, .val (.int ((XT.ushr x4 (2 : Int32)) &&& (3 : Int32))), .val (.int (0 : Int32)), .val (.long y13), .second, .val (.ref b), .val (.ref ia), .val (.int (3 : Int32)), .unset] [(.int (3 : Int32))]))
                    refine own_go (fun tt_ kk_ => XS.iload XN10.here hx rfl (hb hby at_232) rfl kk_) ?_
                    show Go p.tables e below _ (T10.setTop (mkF m 234 #[.val (.long x1), .second, .val (.long x2), .second, .val (.long x3), .second, .val (.int x4), .val (.long y7), .second, .val (.long y9), .second, .val (.int ((XT.ushr x4 (2 : Int32)) &&& (3 : Int32))), .val (.int (0 : Int32)), .val (.long y13), .second, .val (.ref b), .val (.ref ia), .val (.int (3 : Int32)), .unset] [(.int (0 : Int32)), (.int (3 : Int32))]))
                    refine own_go (fun tt_ kk_ => XS.ifYes XN10.here hx rfl (pc0 := 234) (pc' := 241) rfl (hb hby at_234) rfl (XT.i0_eq_t (by decide)) (by decide) (by decide) kk_) ?_
                    show Go p.tables e below _ (T10.setTop (mkF m 241 #[.val (.long x1), .second, .val (.long x2), .second, .val (.long x3), .second, .val (.int x4), .val (.long y7), .second, .val (.long y9), .second, .val (.int ((XT.ushr x4 (2 : Int32)) &&& (3 : Int32))), .val (.int (0 : Int32)), .val (.long y13), .second, .val (.ref b), .val (.ref ia), .val (.int (3 : Int32)), .unset] [(.int (3 : Int32))]))
                    refine own_go (fun tt_ kk_ => XS.iconst XN10.here hx rfl (hb hby at_241) kk_) ?_
                    show Go p.tables e below _ (T10.setTop (mkF m 242 #[.val (.long x1), .second, .val (.long x2), .second, .val (.long x3), .second, .val (.int x4), .val (.long y7), .second, .val (.long y9), .second, .val (.int ((XT.ushr x4 (2 : Int32)) &&& (3 : Int32))), .val (.int (0 : Int32)), .val (.long y13), .second, .val (.ref b), .val (.ref ia), .val (.int (3 : Int32)), .unset] [(.int (0 : Int32)), (.int (3 : Int32))]))
                    refine own_go (fun tt_ kk_ => XS.isub XN10.here hx rfl (hb hby at_242) rfl kk_) ?_
                    show Go p.tables e below _ (T10.setTop (mkF m 243 #[.val (.long x1), .second, .val (.long x2), .second, .val (.long x3), .second, .val (.int x4), .val (.long y7), .second, .val (.long y9), .second, .val (.int ((XT.ushr x4 (2 : Int32)) &&& (3 : Int32))), .val (.int (0 : Int32)), .val (.long y13), .second, .val (.ref b), .val (.ref ia), .val (.int (3 : Int32)), .unset] [(.int (3 : Int32))]))
                    refine own_go (fun tt_ kk_ => XS.istore XN10.here hx rfl (hb hby at_243) rfl (l' := #[.val (.long x1), .second, .val (.long x2), .second, .val (.long x3), .second, .val (.int x4), .val (.long y7), .second, .val (.long y9), .second, .val (.int ((XT.ushr x4 (2 : Int32)) &&& (3 : Int32))), .val (.int (0 : Int32)), .val (.long y13), .second, .val (.ref b), .val (.ref ia), .val (.int (3 : Int32)), .val (.int (3 : Int32))]) rfl kk_) ?_
                    show Go p.tables e below _ (T10.setTop (mkF m 245 #[.val (.long x1), .second, .val (.long x2), .second, .val (.long x3), .second, .val (.int x4), .val (.long y7), .second, .val (.long y9), .second, .val (.int ((XT.ushr x4 (2 : Int32)) &&& (3 : Int32))), .val (.int (0 : Int32)), .val (.long y13), .second, .val (.ref b), .val (.ref ia), .val (.int (3 : Int32)), .val (.int (3 : Int32))] []))
                    have d3 : own_dn3 x1 y7 y9 = 3 := by rw [own_dn3, if_neg hc11, if_neg hc22, if_neg hc27]
                    have hnk : nn9 = 3 := by rw [own_count3 hG0 hG5 hG7 hn5 hn7 hn9, d3]
                    refine own_go (fun tt_ kk_ => XS.aload XN10.here hx rfl (hb hby at_245) rfl rfl kk_) ?_
                    show Go p.tables e below _ (T10.setTop (mkF m 247 #[.val (.long x1), .second, .val (.long x2), .second, .val (.long x3), .second, .val (.int x4), .val (.long y7), .second, .val (.long y9), .second, .val (.int ((XT.ushr x4 (2 : Int32)) &&& (3 : Int32))), .val (.int (0 : Int32)), .val (.long y13), .second, .val (.ref b), .val (.ref ia), .val (.int (3 : Int32)), .val (.int (3 : Int32))] [(.ref ia)]))
                    refine own_go (fun tt_ kk_ => XN10.arraylength hx Ai.1 (State.isArrayOf_alike hZ9.alike Ai.2.1) (g := (mkF m 247 #[.val (.long x1), .second, .val (.long x2), .second, .val (.long x3), .second, .val (.int x4), .val (.long y7), .second, .val (.long y9), .second, .val (.int ((XT.ushr x4 (2 : Int32)) &&& (3 : Int32))), .val (.int (0 : Int32)), .val (.long y13), .second, .val (.ref b), .val (.ref ia), .val (.int (3 : Int32)), .val (.int (3 : Int32))] [(.ref ia)])) rfl rfl (hb hby at_247) tt_ (by rw [(show ci.slots.size.toInt32 = ix nn9 by rw [szi]; rfl)]; exact kk_)) ?_
                    show Go p.tables e below _ (T10.setTop (mkF m 248 #[.val (.long x1), .second, .val (.long x2), .second, .val (.long x3), .second, .val (.int x4), .val (.long y7), .second, .val (.long y9), .second, .val (.int ((XT.ushr x4 (2 : Int32)) &&& (3 : Int32))), .val (.int (0 : Int32)), .val (.long y13), .second, .val (.ref b), .val (.ref ia), .val (.int (3 : Int32)), .val (.int (3 : Int32))] [(.int (ix nn9))]))
                    refine own_go (fun tt_ kk_ => XS.iload XN10.here hx rfl (hb hby at_248) rfl kk_) ?_
                    show Go p.tables e below _ (T10.setTop (mkF m 250 #[.val (.long x1), .second, .val (.long x2), .second, .val (.long x3), .second, .val (.int x4), .val (.long y7), .second, .val (.long y9), .second, .val (.int ((XT.ushr x4 (2 : Int32)) &&& (3 : Int32))), .val (.int (0 : Int32)), .val (.long y13), .second, .val (.ref b), .val (.ref ia), .val (.int (3 : Int32)), .val (.int (3 : Int32))] [(.int (3 : Int32)), (.int (ix nn9))]))
                    refine own_go (fun tt_ kk_ => XS.icmpYes XN10.here hx rfl (pc0 := 250) (pc' := 255) rfl (hb hby at_250) rfl (XT.ii_eq_t (show ix nn9 = (3 : Int32) by rw [hnk]; rfl)) (by decide) (by decide) kk_) ?_
                    show Go p.tables e below _ (T10.setTop (mkF m 255 #[.val (.long x1), .second, .val (.long x2), .second, .val (.long x3), .second, .val (.int x4), .val (.long y7), .second, .val (.long y9), .second, .val (.int ((XT.ushr x4 (2 : Int32)) &&& (3 : Int32))), .val (.int (0 : Int32)), .val (.long y13), .second, .val (.ref b), .val (.ref ia), .val (.int (3 : Int32)), .val (.int (3 : Int32))] []))
                    refine own_go (fun tt_ kk_ => XS.iload XN10.here hx rfl (hb hby at_255) rfl kk_) ?_
                    show Go p.tables e below _ (T10.setTop (mkF m 257 #[.val (.long x1), .second, .val (.long x2), .second, .val (.long x3), .second, .val (.int x4), .val (.long y7), .second, .val (.long y9), .second, .val (.int ((XT.ushr x4 (2 : Int32)) &&& (3 : Int32))), .val (.int (0 : Int32)), .val (.long y13), .second, .val (.ref b), .val (.ref ia), .val (.int (3 : Int32)), .val (.int (3 : Int32))] [(.int (3 : Int32))]))
                    refine own_go (fun tt_ kk_ => XS.ifNo XN10.here hx rfl (hb hby at_257) rfl (XT.i0_le_f (by decide)) kk_) ?_
                    show Go p.tables e below _ (T10.setTop (mkF m 260 #[.val (.long x1), .second, .val (.long x2), .second, .val (.long x3), .second, .val (.int x4), .val (.long y7), .second, .val (.long y9), .second, .val (.int ((XT.ushr x4 (2 : Int32)) &&& (3 : Int32))), .val (.int (0 : Int32)), .val (.long y13), .second, .val (.ref b), .val (.ref ia), .val (.int (3 : Int32)), .val (.int (3 : Int32))] []))
                    refine own_go (fun tt_ kk_ => XS.aload XN10.here hx rfl (hb hby at_260) rfl rfl kk_) ?_
                    show Go p.tables e below _ (T10.setTop (mkF m 262 #[.val (.long x1), .second, .val (.long x2), .second, .val (.long x3), .second, .val (.int x4), .val (.long y7), .second, .val (.long y9), .second, .val (.int ((XT.ushr x4 (2 : Int32)) &&& (3 : Int32))), .val (.int (0 : Int32)), .val (.long y13), .second, .val (.ref b), .val (.ref ia), .val (.int (3 : Int32)), .val (.int (3 : Int32))] [(.ref ia)]))
                    refine own_go (fun tt_ kk_ => XS.iconst XN10.here hx rfl (hb hby at_262) kk_) ?_
                    show Go p.tables e below _ (T10.setTop (mkF m 263 #[.val (.long x1), .second, .val (.long x2), .second, .val (.long x3), .second, .val (.int x4), .val (.long y7), .second, .val (.long y9), .second, .val (.int ((XT.ushr x4 (2 : Int32)) &&& (3 : Int32))), .val (.int (0 : Int32)), .val (.long y13), .second, .val (.ref b), .val (.ref ia), .val (.int (3 : Int32)), .val (.int (3 : Int32))] [(.int (0 : Int32)), (.ref ia)]))
                    refine own_go (fun tt_ kk_ => XN10.laload hx (j := (0 : Int32)) (v := (.long (out 0))) Ai.1 (State.isArrayOf_alike hZ9.alike Ai.2.1) Ai.2.2 (by rw [szi, hnk]; decide) (hati 0 (by omega)) (g := (mkF m 263 #[.val (.long x1), .second, .val (.long x2), .second, .val (.long x3), .second, .val (.int x4), .val (.long y7), .second, .val (.long y9), .second, .val (.int ((XT.ushr x4 (2 : Int32)) &&& (3 : Int32))), .val (.int (0 : Int32)), .val (.long y13), .second, .val (.ref b), .val (.ref ia), .val (.int (3 : Int32)), .val (.int (3 : Int32))] [(.int (0 : Int32)), (.ref ia)])) rfl rfl (hb hby at_263) tt_ kk_) ?_
                    show Go p.tables e below _ (T10.setTop (mkF m 264 #[.val (.long x1), .second, .val (.long x2), .second, .val (.long x3), .second, .val (.int x4), .val (.long y7), .second, .val (.long y9), .second, .val (.int ((XT.ushr x4 (2 : Int32)) &&& (3 : Int32))), .val (.int (0 : Int32)), .val (.long y13), .second, .val (.ref b), .val (.ref ia), .val (.int (3 : Int32)), .val (.int (3 : Int32))] [(.long (out 0))]))
                    refine own_go (fun tt_ kk_ => XT.lloadN XN10.here hx rfl (hb hby at_264) rfl kk_) ?_
                    show Go p.tables e below _ (T10.setTop (mkF m 265 #[.val (.long x1), .second, .val (.long x2), .second, .val (.long x3), .second, .val (.int x4), .val (.long y7), .second, .val (.long y9), .second, .val (.int ((XT.ushr x4 (2 : Int32)) &&& (3 : Int32))), .val (.int (0 : Int32)), .val (.long y13), .second, .val (.ref b), .val (.ref ia), .val (.int (3 : Int32)), .val (.int (3 : Int32))] [(.long x1), (.long (out 0))]))
                    refine own_go (fun tt_ kk_ => XT.lload XN10.here hx rfl (hb hby at_265) rfl kk_) ?_
                    show Go p.tables e below _ (T10.setTop (mkF m 267 #[.val (.long x1), .second, .val (.long x2), .second, .val (.long x3), .second, .val (.int x4), .val (.long y7), .second, .val (.long y9), .second, .val (.int ((XT.ushr x4 (2 : Int32)) &&& (3 : Int32))), .val (.int (0 : Int32)), .val (.long y13), .second, .val (.ref b), .val (.ref ia), .val (.int (3 : Int32)), .val (.int (3 : Int32))] [(.long y7), (.long x1), (.long (out 0))]))
                    refine own_go (fun tt_ kk_ => XT.lload XN10.here hx rfl (hb hby at_267) rfl kk_) ?_
                    show Go p.tables e below _ (T10.setTop (mkF m 269 #[.val (.long x1), .second, .val (.long x2), .second, .val (.long x3), .second, .val (.int x4), .val (.long y7), .second, .val (.long y9), .second, .val (.int ((XT.ushr x4 (2 : Int32)) &&& (3 : Int32))), .val (.int (0 : Int32)), .val (.long y13), .second, .val (.ref b), .val (.ref ia), .val (.int (3 : Int32)), .val (.int (3 : Int32))] [(.long y9), (.long y7), (.long x1), (.long (out 0))]))
                    refine own_go (fun tt_ kk_ => XS.iload XN10.here hx rfl (hb hby at_269) rfl kk_) ?_
                    show Go p.tables e below _ (T10.setTop (mkF m 271 #[.val (.long x1), .second, .val (.long x2), .second, .val (.long x3), .second, .val (.int x4), .val (.long y7), .second, .val (.long y9), .second, .val (.int ((XT.ushr x4 (2 : Int32)) &&& (3 : Int32))), .val (.int (0 : Int32)), .val (.long y13), .second, .val (.ref b), .val (.ref ia), .val (.int (3 : Int32)), .val (.int (3 : Int32))] [(.int (0 : Int32)), (.long y9), (.long y7), (.long x1), (.long (out 0))]))
                    refine own_go (fun tt_ kk_ => XT.lload XN10.here hx rfl (hb hby at_271) rfl kk_) ?_
                    show Go p.tables e below _ (T10.setTop (mkF m 273 #[.val (.long x1), .second, .val (.long x2), .second, .val (.long x3), .second, .val (.int x4), .val (.long y7), .second, .val (.long y9), .second, .val (.int ((XT.ushr x4 (2 : Int32)) &&& (3 : Int32))), .val (.int (0 : Int32)), .val (.long y13), .second, .val (.ref b), .val (.ref ia), .val (.int (3 : Int32)), .val (.int (3 : Int32))] [(.long y13), (.int (0 : Int32)), (.long y9), (.long y7), (.long x1), (.long (out 0))]))
                    have hj32 := hout 0 (by omega)
                    rw [hG9, hG7, hG5, hG0] at hj32
                    have hs32 : (out 0) = x1 ∨ (out 0) = y7 ∨ (out 0) = y9 := Classical.byContradiction fun z => hj32 (own_has3.mpr z)
                    obtain ⟨v33, _, ⟨T33, L33, k33, n33⟩, -, X33, ⟨Lc33, hQ33, l33, y33, z33⟩, st33⟩ := Jvm.LawKit.callS XN10 hx (y := (⟨"com/example/rootlet/rootlet/IdMapIdsPinLaw", "expected", "(JJJJZJ)Z"⟩ : MethodName)) hown9 (mvT hZ9 (hw _ (List.mem_of_getElem? (i := 64) rfl))) (mvT hZ9 (hw _ (List.mem_of_getElem? (i := 65) rfl))) (mvT hZ9 (hw _ (List.mem_of_getElem? (i := 66) rfl))) (mvT hZ9 (hw _ (List.mem_of_getElem? (i := 67) rfl))) (by decide) (backOf (W := 0) (rm_expected l Z a0 hw [] (out 0) x1 y7 y9 (0 : Int32) y13 T10.heap n0) hZ9 (hw _ (List.mem_of_getElem? (i := 67) rfl)) (hw _ (List.mem_of_getElem? (i := 66) rfl)) (by decide) (by decide)) (g := (mkF m 273 #[.val (.long x1), .second, .val (.long x2), .second, .val (.long x3), .second, .val (.int x4), .val (.long y7), .second, .val (.long y9), .second, .val (.int ((XT.ushr x4 (2 : Int32)) &&& (3 : Int32))), .val (.int (0 : Int32)), .val (.long y13), .second, .val (.ref b), .val (.ref ia), .val (.int (3 : Int32)), .val (.int (3 : Int32))] [(.long y13), (.int (0 : Int32)), (.long y9), (.long y7), (.long x1), (.long (out 0))])) rfl (by rw [hml]; rfl) (argsL := [(.long (out 0)), (.long x1), (.long y7), (.long y9), (.int (0 : Int32)), (.long y13)]) (rest := []) (lenOf pd_9 rfl) rfl (by show 2 * 0 + _ ≤ _; exact Nat.le_of_eq rfl) (hb hby at_273) (fun _ _ => ⟨rfl, rfl, (by decide : 10 + 0 ≤ _), (by decide : 116 + 0 ≤ _)⟩)
                    dsimp only [Pt.U, Pt.locs, Pt.cells, Pt.slots] at X33 l33 y33 z33 st33 hQ33
                    subst y33 z33
                    have XN33 : Stand p l e room_1 (s.setVm T9.vm) m #[(.long x1), (.long x2), (.long x3), (.int x4)] below meth c T33 _ 10 116 := X33
                    obtain ⟨hv33, N33q, e33⟩ := hQ33
                    rw [show ((.int (own_expd (out 0) x1 y7 y9 (0 : Int32) y13)) : Value) = (.int (1 : Int32)) from congrArg Value.int (own_expd_one hs32 (Or.inl rfl))] at hv33
                    subst hv33
                    have N33 : Fr n0 L33 := by rw [l33]; exact Fr.app N10 N33q
                    refine own_go (fun tt_ kk_ => st33 tt_ kk_) ?_
                    show Go p.tables e below _ (T33.setTop (mkF m 276 #[.val (.long x1), .second, .val (.long x2), .second, .val (.long x3), .second, .val (.int x4), .val (.long y7), .second, .val (.long y9), .second, .val (.int ((XT.ushr x4 (2 : Int32)) &&& (3 : Int32))), .val (.int (0 : Int32)), .val (.long y13), .second, .val (.ref b), .val (.ref ia), .val (.int (3 : Int32)), .val (.int (3 : Int32))] [(.int (1 : Int32))]))
                    refine own_go (fun tt_ kk_ => XS.ifYes XN33.here hx rfl (pc0 := 276) (pc' := 281) rfl (hb hby at_276) rfl (XT.i0_ne_t (by decide)) (by decide) (by decide) kk_) ?_
                    show Go p.tables e below _ (T33.setTop (mkF m 281 #[.val (.long x1), .second, .val (.long x2), .second, .val (.long x3), .second, .val (.int x4), .val (.long y7), .second, .val (.long y9), .second, .val (.int ((XT.ushr x4 (2 : Int32)) &&& (3 : Int32))), .val (.int (0 : Int32)), .val (.long y13), .second, .val (.ref b), .val (.ref ia), .val (.int (3 : Int32)), .val (.int (3 : Int32))] []))
                    refine own_go (fun tt_ kk_ => XS.iload XN33.here hx rfl (hb hby at_281) rfl kk_) ?_
                    show Go p.tables e below _ (T33.setTop (mkF m 283 #[.val (.long x1), .second, .val (.long x2), .second, .val (.long x3), .second, .val (.int x4), .val (.long y7), .second, .val (.long y9), .second, .val (.int ((XT.ushr x4 (2 : Int32)) &&& (3 : Int32))), .val (.int (0 : Int32)), .val (.long y13), .second, .val (.ref b), .val (.ref ia), .val (.int (3 : Int32)), .val (.int (3 : Int32))] [(.int (3 : Int32))]))
                    refine own_go (fun tt_ kk_ => XS.iconst XN33.here hx rfl (hb hby at_283) kk_) ?_
                    show Go p.tables e below _ (T33.setTop (mkF m 284 #[.val (.long x1), .second, .val (.long x2), .second, .val (.long x3), .second, .val (.int x4), .val (.long y7), .second, .val (.long y9), .second, .val (.int ((XT.ushr x4 (2 : Int32)) &&& (3 : Int32))), .val (.int (0 : Int32)), .val (.long y13), .second, .val (.ref b), .val (.ref ia), .val (.int (3 : Int32)), .val (.int (3 : Int32))] [(.int (1 : Int32)), (.int (3 : Int32))]))
                    refine own_go (fun tt_ kk_ => XS.icmpNo XN33.here hx rfl (hb hby at_284) rfl (XT.ii_le_f (by decide)) kk_) ?_
                    show Go p.tables e below _ (T33.setTop (mkF m 287 #[.val (.long x1), .second, .val (.long x2), .second, .val (.long x3), .second, .val (.int x4), .val (.long y7), .second, .val (.long y9), .second, .val (.int ((XT.ushr x4 (2 : Int32)) &&& (3 : Int32))), .val (.int (0 : Int32)), .val (.long y13), .second, .val (.ref b), .val (.ref ia), .val (.int (3 : Int32)), .val (.int (3 : Int32))] []))
                    refine own_go (fun tt_ kk_ => XS.aload XN33.here hx rfl (hb hby at_287) rfl rfl kk_) ?_
                    show Go p.tables e below _ (T33.setTop (mkF m 289 #[.val (.long x1), .second, .val (.long x2), .second, .val (.long x3), .second, .val (.int x4), .val (.long y7), .second, .val (.long y9), .second, .val (.int ((XT.ushr x4 (2 : Int32)) &&& (3 : Int32))), .val (.int (0 : Int32)), .val (.long y13), .second, .val (.ref b), .val (.ref ia), .val (.int (3 : Int32)), .val (.int (3 : Int32))] [(.ref ia)]))
                    refine own_go (fun tt_ kk_ => XS.iconst XN33.here hx rfl (hb hby at_289) kk_) ?_
                    show Go p.tables e below _ (T33.setTop (mkF m 290 #[.val (.long x1), .second, .val (.long x2), .second, .val (.long x3), .second, .val (.int x4), .val (.long y7), .second, .val (.long y9), .second, .val (.int ((XT.ushr x4 (2 : Int32)) &&& (3 : Int32))), .val (.int (0 : Int32)), .val (.long y13), .second, .val (.ref b), .val (.ref ia), .val (.int (3 : Int32)), .val (.int (3 : Int32))] [(.int (1 : Int32)), (.ref ia)]))
                    refine own_go (fun tt_ kk_ => XN33.laload hx (j := (1 : Int32)) (v := (.long (out 1))) (by rw [e33]; exact Ai.1) (State.isArrayOf_alike hZ9.alike Ai.2.1) Ai.2.2 (by rw [szi, hnk]; decide) (hati 1 (by omega)) (g := (mkF m 290 #[.val (.long x1), .second, .val (.long x2), .second, .val (.long x3), .second, .val (.int x4), .val (.long y7), .second, .val (.long y9), .second, .val (.int ((XT.ushr x4 (2 : Int32)) &&& (3 : Int32))), .val (.int (0 : Int32)), .val (.long y13), .second, .val (.ref b), .val (.ref ia), .val (.int (3 : Int32)), .val (.int (3 : Int32))] [(.int (1 : Int32)), (.ref ia)])) rfl rfl (hb hby at_290) tt_ kk_) ?_
                    show Go p.tables e below _ (T33.setTop (mkF m 291 #[.val (.long x1), .second, .val (.long x2), .second, .val (.long x3), .second, .val (.int x4), .val (.long y7), .second, .val (.long y9), .second, .val (.int ((XT.ushr x4 (2 : Int32)) &&& (3 : Int32))), .val (.int (0 : Int32)), .val (.long y13), .second, .val (.ref b), .val (.ref ia), .val (.int (3 : Int32)), .val (.int (3 : Int32))] [(.long (out 1))]))
                    refine own_go (fun tt_ kk_ => XT.lloadN XN33.here hx rfl (hb hby at_291) rfl kk_) ?_
                    show Go p.tables e below _ (T33.setTop (mkF m 292 #[.val (.long x1), .second, .val (.long x2), .second, .val (.long x3), .second, .val (.int x4), .val (.long y7), .second, .val (.long y9), .second, .val (.int ((XT.ushr x4 (2 : Int32)) &&& (3 : Int32))), .val (.int (0 : Int32)), .val (.long y13), .second, .val (.ref b), .val (.ref ia), .val (.int (3 : Int32)), .val (.int (3 : Int32))] [(.long x1), (.long (out 1))]))
                    refine own_go (fun tt_ kk_ => XT.lload XN33.here hx rfl (hb hby at_292) rfl kk_) ?_
                    show Go p.tables e below _ (T33.setTop (mkF m 294 #[.val (.long x1), .second, .val (.long x2), .second, .val (.long x3), .second, .val (.int x4), .val (.long y7), .second, .val (.long y9), .second, .val (.int ((XT.ushr x4 (2 : Int32)) &&& (3 : Int32))), .val (.int (0 : Int32)), .val (.long y13), .second, .val (.ref b), .val (.ref ia), .val (.int (3 : Int32)), .val (.int (3 : Int32))] [(.long y7), (.long x1), (.long (out 1))]))
                    refine own_go (fun tt_ kk_ => XT.lload XN33.here hx rfl (hb hby at_294) rfl kk_) ?_
                    show Go p.tables e below _ (T33.setTop (mkF m 296 #[.val (.long x1), .second, .val (.long x2), .second, .val (.long x3), .second, .val (.int x4), .val (.long y7), .second, .val (.long y9), .second, .val (.int ((XT.ushr x4 (2 : Int32)) &&& (3 : Int32))), .val (.int (0 : Int32)), .val (.long y13), .second, .val (.ref b), .val (.ref ia), .val (.int (3 : Int32)), .val (.int (3 : Int32))] [(.long y9), (.long y7), (.long x1), (.long (out 1))]))
                    refine own_go (fun tt_ kk_ => XS.iload XN33.here hx rfl (hb hby at_296) rfl kk_) ?_
                    show Go p.tables e below _ (T33.setTop (mkF m 298 #[.val (.long x1), .second, .val (.long x2), .second, .val (.long x3), .second, .val (.int x4), .val (.long y7), .second, .val (.long y9), .second, .val (.int ((XT.ushr x4 (2 : Int32)) &&& (3 : Int32))), .val (.int (0 : Int32)), .val (.long y13), .second, .val (.ref b), .val (.ref ia), .val (.int (3 : Int32)), .val (.int (3 : Int32))] [(.int (0 : Int32)), (.long y9), (.long y7), (.long x1), (.long (out 1))]))
                    refine own_go (fun tt_ kk_ => XT.lload XN33.here hx rfl (hb hby at_298) rfl kk_) ?_
                    show Go p.tables e below _ (T33.setTop (mkF m 300 #[.val (.long x1), .second, .val (.long x2), .second, .val (.long x3), .second, .val (.int x4), .val (.long y7), .second, .val (.long y9), .second, .val (.int ((XT.ushr x4 (2 : Int32)) &&& (3 : Int32))), .val (.int (0 : Int32)), .val (.long y13), .second, .val (.ref b), .val (.ref ia), .val (.int (3 : Int32)), .val (.int (3 : Int32))] [(.long y13), (.int (0 : Int32)), (.long y9), (.long y7), (.long x1), (.long (out 1))]))
                    have hj34 := hout 1 (by omega)
                    rw [hG9, hG7, hG5, hG0] at hj34
                    have hs34 : (out 1) = x1 ∨ (out 1) = y7 ∨ (out 1) = y9 := Classical.byContradiction fun z => hj34 (own_has3.mpr z)
                    obtain ⟨v35, _, ⟨T35, L35, k35, n35⟩, -, X35, ⟨Lc35, hQ35, l35, y35, z35⟩, st35⟩ := Jvm.LawKit.callS XN33 hx (y := (⟨"com/example/rootlet/rootlet/IdMapIdsPinLaw", "expected", "(JJJJZJ)Z"⟩ : MethodName)) hown9 (mvT hZ9 (hw _ (List.mem_of_getElem? (i := 64) rfl))) (mvT hZ9 (hw _ (List.mem_of_getElem? (i := 65) rfl))) (mvT hZ9 (hw _ (List.mem_of_getElem? (i := 66) rfl))) (mvT hZ9 (hw _ (List.mem_of_getElem? (i := 67) rfl))) (by decide) (backOf (W := 0) (rm_expected l Z a0 hw [] (out 1) x1 y7 y9 (0 : Int32) y13 T10.heap n0) hZ9 (hw _ (List.mem_of_getElem? (i := 67) rfl)) (hw _ (List.mem_of_getElem? (i := 66) rfl)) (by decide) (by decide)) (g := (mkF m 300 #[.val (.long x1), .second, .val (.long x2), .second, .val (.long x3), .second, .val (.int x4), .val (.long y7), .second, .val (.long y9), .second, .val (.int ((XT.ushr x4 (2 : Int32)) &&& (3 : Int32))), .val (.int (0 : Int32)), .val (.long y13), .second, .val (.ref b), .val (.ref ia), .val (.int (3 : Int32)), .val (.int (3 : Int32))] [(.long y13), (.int (0 : Int32)), (.long y9), (.long y7), (.long x1), (.long (out 1))])) rfl (by rw [hml]; rfl) (argsL := [(.long (out 1)), (.long x1), (.long y7), (.long y9), (.int (0 : Int32)), (.long y13)]) (rest := []) (lenOf pd_9 rfl) rfl (by show 2 * 0 + _ ≤ _; exact Nat.le_of_eq rfl) (hb hby at_300) (fun _ _ => ⟨rfl, e33, (by decide : 10 + 0 ≤ _), (by decide : 116 + 0 ≤ _)⟩)
                    dsimp only [Pt.U, Pt.locs, Pt.cells, Pt.slots] at X35 l35 y35 z35 st35 hQ35
                    subst y35 z35
                    have XN35 : Stand p l e room_1 (s.setVm T9.vm) m #[(.long x1), (.long x2), (.long x3), (.int x4)] below meth c T35 _ 10 116 := X35
                    obtain ⟨hv35, N35q, e35⟩ := hQ35
                    rw [show ((.int (own_expd (out 1) x1 y7 y9 (0 : Int32) y13)) : Value) = (.int (1 : Int32)) from congrArg Value.int (own_expd_one hs34 (Or.inl rfl))] at hv35
                    subst hv35
                    have N35 : Fr n0 L35 := by rw [l35]; exact Fr.app N33 N35q
                    refine own_go (fun tt_ kk_ => st35 tt_ kk_) ?_
                    show Go p.tables e below _ (T35.setTop (mkF m 303 #[.val (.long x1), .second, .val (.long x2), .second, .val (.long x3), .second, .val (.int x4), .val (.long y7), .second, .val (.long y9), .second, .val (.int ((XT.ushr x4 (2 : Int32)) &&& (3 : Int32))), .val (.int (0 : Int32)), .val (.long y13), .second, .val (.ref b), .val (.ref ia), .val (.int (3 : Int32)), .val (.int (3 : Int32))] [(.int (1 : Int32))]))
                    refine own_go (fun tt_ kk_ => XS.ifYes XN35.here hx rfl (pc0 := 303) (pc' := 308) rfl (hb hby at_303) rfl (XT.i0_ne_t (by decide)) (by decide) (by decide) kk_) ?_
                    show Go p.tables e below _ (T35.setTop (mkF m 308 #[.val (.long x1), .second, .val (.long x2), .second, .val (.long x3), .second, .val (.int x4), .val (.long y7), .second, .val (.long y9), .second, .val (.int ((XT.ushr x4 (2 : Int32)) &&& (3 : Int32))), .val (.int (0 : Int32)), .val (.long y13), .second, .val (.ref b), .val (.ref ia), .val (.int (3 : Int32)), .val (.int (3 : Int32))] []))
                    refine own_go (fun tt_ kk_ => XS.iload XN35.here hx rfl (hb hby at_308) rfl kk_) ?_
                    show Go p.tables e below _ (T35.setTop (mkF m 310 #[.val (.long x1), .second, .val (.long x2), .second, .val (.long x3), .second, .val (.int x4), .val (.long y7), .second, .val (.long y9), .second, .val (.int ((XT.ushr x4 (2 : Int32)) &&& (3 : Int32))), .val (.int (0 : Int32)), .val (.long y13), .second, .val (.ref b), .val (.ref ia), .val (.int (3 : Int32)), .val (.int (3 : Int32))] [(.int (3 : Int32))]))
                    refine own_go (fun tt_ kk_ => XS.iconst XN35.here hx rfl (hb hby at_310) kk_) ?_
                    show Go p.tables e below _ (T35.setTop (mkF m 311 #[.val (.long x1), .second, .val (.long x2), .second, .val (.long x3), .second, .val (.int x4), .val (.long y7), .second, .val (.long y9), .second, .val (.int ((XT.ushr x4 (2 : Int32)) &&& (3 : Int32))), .val (.int (0 : Int32)), .val (.long y13), .second, .val (.ref b), .val (.ref ia), .val (.int (3 : Int32)), .val (.int (3 : Int32))] [(.int (2 : Int32)), (.int (3 : Int32))]))
                    refine own_go (fun tt_ kk_ => XS.icmpNo XN35.here hx rfl (hb hby at_311) rfl (XT.ii_le_f (by decide)) kk_) ?_
                    show Go p.tables e below _ (T35.setTop (mkF m 314 #[.val (.long x1), .second, .val (.long x2), .second, .val (.long x3), .second, .val (.int x4), .val (.long y7), .second, .val (.long y9), .second, .val (.int ((XT.ushr x4 (2 : Int32)) &&& (3 : Int32))), .val (.int (0 : Int32)), .val (.long y13), .second, .val (.ref b), .val (.ref ia), .val (.int (3 : Int32)), .val (.int (3 : Int32))] []))
                    refine own_go (fun tt_ kk_ => XS.aload XN35.here hx rfl (hb hby at_314) rfl rfl kk_) ?_
                    show Go p.tables e below _ (T35.setTop (mkF m 316 #[.val (.long x1), .second, .val (.long x2), .second, .val (.long x3), .second, .val (.int x4), .val (.long y7), .second, .val (.long y9), .second, .val (.int ((XT.ushr x4 (2 : Int32)) &&& (3 : Int32))), .val (.int (0 : Int32)), .val (.long y13), .second, .val (.ref b), .val (.ref ia), .val (.int (3 : Int32)), .val (.int (3 : Int32))] [(.ref ia)]))
                    refine own_go (fun tt_ kk_ => XS.iconst XN35.here hx rfl (hb hby at_316) kk_) ?_
                    show Go p.tables e below _ (T35.setTop (mkF m 317 #[.val (.long x1), .second, .val (.long x2), .second, .val (.long x3), .second, .val (.int x4), .val (.long y7), .second, .val (.long y9), .second, .val (.int ((XT.ushr x4 (2 : Int32)) &&& (3 : Int32))), .val (.int (0 : Int32)), .val (.long y13), .second, .val (.ref b), .val (.ref ia), .val (.int (3 : Int32)), .val (.int (3 : Int32))] [(.int (2 : Int32)), (.ref ia)]))
                    refine own_go (fun tt_ kk_ => XN35.laload hx (j := (2 : Int32)) (v := (.long (out 2))) (by rw [e35]; exact Ai.1) (State.isArrayOf_alike hZ9.alike Ai.2.1) Ai.2.2 (by rw [szi, hnk]; decide) (hati 2 (by omega)) (g := (mkF m 317 #[.val (.long x1), .second, .val (.long x2), .second, .val (.long x3), .second, .val (.int x4), .val (.long y7), .second, .val (.long y9), .second, .val (.int ((XT.ushr x4 (2 : Int32)) &&& (3 : Int32))), .val (.int (0 : Int32)), .val (.long y13), .second, .val (.ref b), .val (.ref ia), .val (.int (3 : Int32)), .val (.int (3 : Int32))] [(.int (2 : Int32)), (.ref ia)])) rfl rfl (hb hby at_317) tt_ kk_) ?_
                    show Go p.tables e below _ (T35.setTop (mkF m 318 #[.val (.long x1), .second, .val (.long x2), .second, .val (.long x3), .second, .val (.int x4), .val (.long y7), .second, .val (.long y9), .second, .val (.int ((XT.ushr x4 (2 : Int32)) &&& (3 : Int32))), .val (.int (0 : Int32)), .val (.long y13), .second, .val (.ref b), .val (.ref ia), .val (.int (3 : Int32)), .val (.int (3 : Int32))] [(.long (out 2))]))
                    refine own_go (fun tt_ kk_ => XT.lloadN XN35.here hx rfl (hb hby at_318) rfl kk_) ?_
                    show Go p.tables e below _ (T35.setTop (mkF m 319 #[.val (.long x1), .second, .val (.long x2), .second, .val (.long x3), .second, .val (.int x4), .val (.long y7), .second, .val (.long y9), .second, .val (.int ((XT.ushr x4 (2 : Int32)) &&& (3 : Int32))), .val (.int (0 : Int32)), .val (.long y13), .second, .val (.ref b), .val (.ref ia), .val (.int (3 : Int32)), .val (.int (3 : Int32))] [(.long x1), (.long (out 2))]))
                    refine own_go (fun tt_ kk_ => XT.lload XN35.here hx rfl (hb hby at_319) rfl kk_) ?_
                    show Go p.tables e below _ (T35.setTop (mkF m 321 #[.val (.long x1), .second, .val (.long x2), .second, .val (.long x3), .second, .val (.int x4), .val (.long y7), .second, .val (.long y9), .second, .val (.int ((XT.ushr x4 (2 : Int32)) &&& (3 : Int32))), .val (.int (0 : Int32)), .val (.long y13), .second, .val (.ref b), .val (.ref ia), .val (.int (3 : Int32)), .val (.int (3 : Int32))] [(.long y7), (.long x1), (.long (out 2))]))
                    refine own_go (fun tt_ kk_ => XT.lload XN35.here hx rfl (hb hby at_321) rfl kk_) ?_
                    show Go p.tables e below _ (T35.setTop (mkF m 323 #[.val (.long x1), .second, .val (.long x2), .second, .val (.long x3), .second, .val (.int x4), .val (.long y7), .second, .val (.long y9), .second, .val (.int ((XT.ushr x4 (2 : Int32)) &&& (3 : Int32))), .val (.int (0 : Int32)), .val (.long y13), .second, .val (.ref b), .val (.ref ia), .val (.int (3 : Int32)), .val (.int (3 : Int32))] [(.long y9), (.long y7), (.long x1), (.long (out 2))]))
                    refine own_go (fun tt_ kk_ => XS.iload XN35.here hx rfl (hb hby at_323) rfl kk_) ?_
                    show Go p.tables e below _ (T35.setTop (mkF m 325 #[.val (.long x1), .second, .val (.long x2), .second, .val (.long x3), .second, .val (.int x4), .val (.long y7), .second, .val (.long y9), .second, .val (.int ((XT.ushr x4 (2 : Int32)) &&& (3 : Int32))), .val (.int (0 : Int32)), .val (.long y13), .second, .val (.ref b), .val (.ref ia), .val (.int (3 : Int32)), .val (.int (3 : Int32))] [(.int (0 : Int32)), (.long y9), (.long y7), (.long x1), (.long (out 2))]))
                    refine own_go (fun tt_ kk_ => XT.lload XN35.here hx rfl (hb hby at_325) rfl kk_) ?_
                    show Go p.tables e below _ (T35.setTop (mkF m 327 #[.val (.long x1), .second, .val (.long x2), .second, .val (.long x3), .second, .val (.int x4), .val (.long y7), .second, .val (.long y9), .second, .val (.int ((XT.ushr x4 (2 : Int32)) &&& (3 : Int32))), .val (.int (0 : Int32)), .val (.long y13), .second, .val (.ref b), .val (.ref ia), .val (.int (3 : Int32)), .val (.int (3 : Int32))] [(.long y13), (.int (0 : Int32)), (.long y9), (.long y7), (.long x1), (.long (out 2))]))
                    have hj36 := hout 2 (by omega)
                    rw [hG9, hG7, hG5, hG0] at hj36
                    have hs36 : (out 2) = x1 ∨ (out 2) = y7 ∨ (out 2) = y9 := Classical.byContradiction fun z => hj36 (own_has3.mpr z)
                    obtain ⟨v37, _, ⟨T37, L37, k37, n37⟩, -, X37, ⟨Lc37, hQ37, l37, y37, z37⟩, st37⟩ := Jvm.LawKit.callS XN35 hx (y := (⟨"com/example/rootlet/rootlet/IdMapIdsPinLaw", "expected", "(JJJJZJ)Z"⟩ : MethodName)) hown9 (mvT hZ9 (hw _ (List.mem_of_getElem? (i := 64) rfl))) (mvT hZ9 (hw _ (List.mem_of_getElem? (i := 65) rfl))) (mvT hZ9 (hw _ (List.mem_of_getElem? (i := 66) rfl))) (mvT hZ9 (hw _ (List.mem_of_getElem? (i := 67) rfl))) (by decide) (backOf (W := 0) (rm_expected l Z a0 hw [] (out 2) x1 y7 y9 (0 : Int32) y13 T10.heap n0) hZ9 (hw _ (List.mem_of_getElem? (i := 67) rfl)) (hw _ (List.mem_of_getElem? (i := 66) rfl)) (by decide) (by decide)) (g := (mkF m 327 #[.val (.long x1), .second, .val (.long x2), .second, .val (.long x3), .second, .val (.int x4), .val (.long y7), .second, .val (.long y9), .second, .val (.int ((XT.ushr x4 (2 : Int32)) &&& (3 : Int32))), .val (.int (0 : Int32)), .val (.long y13), .second, .val (.ref b), .val (.ref ia), .val (.int (3 : Int32)), .val (.int (3 : Int32))] [(.long y13), (.int (0 : Int32)), (.long y9), (.long y7), (.long x1), (.long (out 2))])) rfl (by rw [hml]; rfl) (argsL := [(.long (out 2)), (.long x1), (.long y7), (.long y9), (.int (0 : Int32)), (.long y13)]) (rest := []) (lenOf pd_9 rfl) rfl (by show 2 * 0 + _ ≤ _; exact Nat.le_of_eq rfl) (hb hby at_327) (fun _ _ => ⟨rfl, e35, (by decide : 10 + 0 ≤ _), (by decide : 116 + 0 ≤ _)⟩)
                    dsimp only [Pt.U, Pt.locs, Pt.cells, Pt.slots] at X37 l37 y37 z37 st37 hQ37
                    subst y37 z37
                    have XN37 : Stand p l e room_1 (s.setVm T9.vm) m #[(.long x1), (.long x2), (.long x3), (.int x4)] below meth c T37 _ 10 116 := X37
                    obtain ⟨hv37, N37q, e37⟩ := hQ37
                    rw [show ((.int (own_expd (out 2) x1 y7 y9 (0 : Int32) y13)) : Value) = (.int (1 : Int32)) from congrArg Value.int (own_expd_one hs36 (Or.inl rfl))] at hv37
                    subst hv37
                    have N37 : Fr n0 L37 := by rw [l37]; exact Fr.app N35 N37q
                    refine own_go (fun tt_ kk_ => st37 tt_ kk_) ?_
                    show Go p.tables e below _ (T37.setTop (mkF m 330 #[.val (.long x1), .second, .val (.long x2), .second, .val (.long x3), .second, .val (.int x4), .val (.long y7), .second, .val (.long y9), .second, .val (.int ((XT.ushr x4 (2 : Int32)) &&& (3 : Int32))), .val (.int (0 : Int32)), .val (.long y13), .second, .val (.ref b), .val (.ref ia), .val (.int (3 : Int32)), .val (.int (3 : Int32))] [(.int (1 : Int32))]))
                    refine own_go (fun tt_ kk_ => XS.ifYes XN37.here hx rfl (pc0 := 330) (pc' := 335) rfl (hb hby at_330) rfl (XT.i0_ne_t (by decide)) (by decide) (by decide) kk_) ?_
                    show Go p.tables e below _ (T37.setTop (mkF m 335 #[.val (.long x1), .second, .val (.long x2), .second, .val (.long x3), .second, .val (.int x4), .val (.long y7), .second, .val (.long y9), .second, .val (.int ((XT.ushr x4 (2 : Int32)) &&& (3 : Int32))), .val (.int (0 : Int32)), .val (.long y13), .second, .val (.ref b), .val (.ref ia), .val (.int (3 : Int32)), .val (.int (3 : Int32))] []))
                    refine own_go (fun tt_ kk_ => XS.iload XN37.here hx rfl (hb hby at_335) rfl kk_) ?_
                    show Go p.tables e below _ (T37.setTop (mkF m 337 #[.val (.long x1), .second, .val (.long x2), .second, .val (.long x3), .second, .val (.int x4), .val (.long y7), .second, .val (.long y9), .second, .val (.int ((XT.ushr x4 (2 : Int32)) &&& (3 : Int32))), .val (.int (0 : Int32)), .val (.long y13), .second, .val (.ref b), .val (.ref ia), .val (.int (3 : Int32)), .val (.int (3 : Int32))] [(.int (3 : Int32))]))
                    refine own_go (fun tt_ kk_ => XS.iconst XN37.here hx rfl (hb hby at_337) kk_) ?_
                    show Go p.tables e below _ (T37.setTop (mkF m 338 #[.val (.long x1), .second, .val (.long x2), .second, .val (.long x3), .second, .val (.int x4), .val (.long y7), .second, .val (.long y9), .second, .val (.int ((XT.ushr x4 (2 : Int32)) &&& (3 : Int32))), .val (.int (0 : Int32)), .val (.long y13), .second, .val (.ref b), .val (.ref ia), .val (.int (3 : Int32)), .val (.int (3 : Int32))] [(.int (1 : Int32)), (.int (3 : Int32))]))
                    refine own_go (fun tt_ kk_ => XS.icmpNo XN37.here hx rfl (hb hby at_338) rfl (XT.ii_le_f (by decide)) kk_) ?_
                    show Go p.tables e below _ (T37.setTop (mkF m 341 #[.val (.long x1), .second, .val (.long x2), .second, .val (.long x3), .second, .val (.int x4), .val (.long y7), .second, .val (.long y9), .second, .val (.int ((XT.ushr x4 (2 : Int32)) &&& (3 : Int32))), .val (.int (0 : Int32)), .val (.long y13), .second, .val (.ref b), .val (.ref ia), .val (.int (3 : Int32)), .val (.int (3 : Int32))] []))
                    refine own_go (fun tt_ kk_ => XS.aload XN37.here hx rfl (hb hby at_341) rfl rfl kk_) ?_
                    show Go p.tables e below _ (T37.setTop (mkF m 343 #[.val (.long x1), .second, .val (.long x2), .second, .val (.long x3), .second, .val (.int x4), .val (.long y7), .second, .val (.long y9), .second, .val (.int ((XT.ushr x4 (2 : Int32)) &&& (3 : Int32))), .val (.int (0 : Int32)), .val (.long y13), .second, .val (.ref b), .val (.ref ia), .val (.int (3 : Int32)), .val (.int (3 : Int32))] [(.ref ia)]))
                    refine own_go (fun tt_ kk_ => XS.iconst XN37.here hx rfl (hb hby at_343) kk_) ?_
                    show Go p.tables e below _ (T37.setTop (mkF m 344 #[.val (.long x1), .second, .val (.long x2), .second, .val (.long x3), .second, .val (.int x4), .val (.long y7), .second, .val (.long y9), .second, .val (.int ((XT.ushr x4 (2 : Int32)) &&& (3 : Int32))), .val (.int (0 : Int32)), .val (.long y13), .second, .val (.ref b), .val (.ref ia), .val (.int (3 : Int32)), .val (.int (3 : Int32))] [(.int (0 : Int32)), (.ref ia)]))
                    refine own_go (fun tt_ kk_ => XN37.laload hx (j := (0 : Int32)) (v := (.long (out 0))) (by rw [e37]; exact Ai.1) (State.isArrayOf_alike hZ9.alike Ai.2.1) Ai.2.2 (by rw [szi, hnk]; decide) (hati 0 (by omega)) (g := (mkF m 344 #[.val (.long x1), .second, .val (.long x2), .second, .val (.long x3), .second, .val (.int x4), .val (.long y7), .second, .val (.long y9), .second, .val (.int ((XT.ushr x4 (2 : Int32)) &&& (3 : Int32))), .val (.int (0 : Int32)), .val (.long y13), .second, .val (.ref b), .val (.ref ia), .val (.int (3 : Int32)), .val (.int (3 : Int32))] [(.int (0 : Int32)), (.ref ia)])) rfl rfl (hb hby at_344) tt_ kk_) ?_
                    show Go p.tables e below _ (T37.setTop (mkF m 345 #[.val (.long x1), .second, .val (.long x2), .second, .val (.long x3), .second, .val (.int x4), .val (.long y7), .second, .val (.long y9), .second, .val (.int ((XT.ushr x4 (2 : Int32)) &&& (3 : Int32))), .val (.int (0 : Int32)), .val (.long y13), .second, .val (.ref b), .val (.ref ia), .val (.int (3 : Int32)), .val (.int (3 : Int32))] [(.long (out 0))]))
                    refine own_go (fun tt_ kk_ => XS.aload XN37.here hx rfl (hb hby at_345) rfl rfl kk_) ?_
                    show Go p.tables e below _ (T37.setTop (mkF m 347 #[.val (.long x1), .second, .val (.long x2), .second, .val (.long x3), .second, .val (.int x4), .val (.long y7), .second, .val (.long y9), .second, .val (.int ((XT.ushr x4 (2 : Int32)) &&& (3 : Int32))), .val (.int (0 : Int32)), .val (.long y13), .second, .val (.ref b), .val (.ref ia), .val (.int (3 : Int32)), .val (.int (3 : Int32))] [(.ref ia), (.long (out 0))]))
                    refine own_go (fun tt_ kk_ => XS.iconst XN37.here hx rfl (hb hby at_347) kk_) ?_
                    show Go p.tables e below _ (T37.setTop (mkF m 348 #[.val (.long x1), .second, .val (.long x2), .second, .val (.long x3), .second, .val (.int x4), .val (.long y7), .second, .val (.long y9), .second, .val (.int ((XT.ushr x4 (2 : Int32)) &&& (3 : Int32))), .val (.int (0 : Int32)), .val (.long y13), .second, .val (.ref b), .val (.ref ia), .val (.int (3 : Int32)), .val (.int (3 : Int32))] [(.int (1 : Int32)), (.ref ia), (.long (out 0))]))
                    refine own_go (fun tt_ kk_ => XN37.laload hx (j := (1 : Int32)) (v := (.long (out 1))) (by rw [e37]; exact Ai.1) (State.isArrayOf_alike hZ9.alike Ai.2.1) Ai.2.2 (by rw [szi, hnk]; decide) (hati 1 (by omega)) (g := (mkF m 348 #[.val (.long x1), .second, .val (.long x2), .second, .val (.long x3), .second, .val (.int x4), .val (.long y7), .second, .val (.long y9), .second, .val (.int ((XT.ushr x4 (2 : Int32)) &&& (3 : Int32))), .val (.int (0 : Int32)), .val (.long y13), .second, .val (.ref b), .val (.ref ia), .val (.int (3 : Int32)), .val (.int (3 : Int32))] [(.int (1 : Int32)), (.ref ia), (.long (out 0))])) rfl rfl (hb hby at_348) tt_ kk_) ?_
                    show Go p.tables e below _ (T37.setTop (mkF m 349 #[.val (.long x1), .second, .val (.long x2), .second, .val (.long x3), .second, .val (.int x4), .val (.long y7), .second, .val (.long y9), .second, .val (.int ((XT.ushr x4 (2 : Int32)) &&& (3 : Int32))), .val (.int (0 : Int32)), .val (.long y13), .second, .val (.ref b), .val (.ref ia), .val (.int (3 : Int32)), .val (.int (3 : Int32))] [(.long (out 1)), (.long (out 0))]))
                    refine own_go (fun tt_ kk_ => XT.lcmp XN37.here hx rfl (hb hby at_349) rfl kk_) ?_
                    show Go p.tables e below _ (T37.setTop (mkF m 350 #[.val (.long x1), .second, .val (.long x2), .second, .val (.long x3), .second, .val (.int x4), .val (.long y7), .second, .val (.long y9), .second, .val (.int ((XT.ushr x4 (2 : Int32)) &&& (3 : Int32))), .val (.int (0 : Int32)), .val (.long y13), .second, .val (.ref b), .val (.ref ia), .val (.int (3 : Int32)), .val (.int (3 : Int32))] [(.int (XT.cmpL (out 0) (out 1)))]))
                    refine own_go (fun tt_ kk_ => XS.ifYes XN37.here hx rfl (pc0 := 350) (pc' := 355) rfl (hb hby at_350) rfl (XT.ll_ne_t (fun q => absurd (hinj 0 (by omega) 1 (by omega) q) (by decide))) (by decide) (by decide) kk_) ?_
                    show Go p.tables e below _ (T37.setTop (mkF m 355 #[.val (.long x1), .second, .val (.long x2), .second, .val (.long x3), .second, .val (.int x4), .val (.long y7), .second, .val (.long y9), .second, .val (.int ((XT.ushr x4 (2 : Int32)) &&& (3 : Int32))), .val (.int (0 : Int32)), .val (.long y13), .second, .val (.ref b), .val (.ref ia), .val (.int (3 : Int32)), .val (.int (3 : Int32))] []))
                    refine own_go (fun tt_ kk_ => XS.iload XN37.here hx rfl (hb hby at_355) rfl kk_) ?_
                    show Go p.tables e below _ (T37.setTop (mkF m 357 #[.val (.long x1), .second, .val (.long x2), .second, .val (.long x3), .second, .val (.int x4), .val (.long y7), .second, .val (.long y9), .second, .val (.int ((XT.ushr x4 (2 : Int32)) &&& (3 : Int32))), .val (.int (0 : Int32)), .val (.long y13), .second, .val (.ref b), .val (.ref ia), .val (.int (3 : Int32)), .val (.int (3 : Int32))] [(.int (3 : Int32))]))
                    refine own_go (fun tt_ kk_ => XS.iconst XN37.here hx rfl (hb hby at_357) kk_) ?_
                    show Go p.tables e below _ (T37.setTop (mkF m 358 #[.val (.long x1), .second, .val (.long x2), .second, .val (.long x3), .second, .val (.int x4), .val (.long y7), .second, .val (.long y9), .second, .val (.int ((XT.ushr x4 (2 : Int32)) &&& (3 : Int32))), .val (.int (0 : Int32)), .val (.long y13), .second, .val (.ref b), .val (.ref ia), .val (.int (3 : Int32)), .val (.int (3 : Int32))] [(.int (2 : Int32)), (.int (3 : Int32))]))
                    refine own_go (fun tt_ kk_ => XS.icmpNo XN37.here hx rfl (hb hby at_358) rfl (XT.ii_le_f (by decide)) kk_) ?_
                    show Go p.tables e below _ (T37.setTop (mkF m 361 #[.val (.long x1), .second, .val (.long x2), .second, .val (.long x3), .second, .val (.int x4), .val (.long y7), .second, .val (.long y9), .second, .val (.int ((XT.ushr x4 (2 : Int32)) &&& (3 : Int32))), .val (.int (0 : Int32)), .val (.long y13), .second, .val (.ref b), .val (.ref ia), .val (.int (3 : Int32)), .val (.int (3 : Int32))] []))
                    refine own_go (fun tt_ kk_ => XS.aload XN37.here hx rfl (hb hby at_361) rfl rfl kk_) ?_
                    show Go p.tables e below _ (T37.setTop (mkF m 363 #[.val (.long x1), .second, .val (.long x2), .second, .val (.long x3), .second, .val (.int x4), .val (.long y7), .second, .val (.long y9), .second, .val (.int ((XT.ushr x4 (2 : Int32)) &&& (3 : Int32))), .val (.int (0 : Int32)), .val (.long y13), .second, .val (.ref b), .val (.ref ia), .val (.int (3 : Int32)), .val (.int (3 : Int32))] [(.ref ia)]))
                    refine own_go (fun tt_ kk_ => XS.iconst XN37.here hx rfl (hb hby at_363) kk_) ?_
                    show Go p.tables e below _ (T37.setTop (mkF m 364 #[.val (.long x1), .second, .val (.long x2), .second, .val (.long x3), .second, .val (.int x4), .val (.long y7), .second, .val (.long y9), .second, .val (.int ((XT.ushr x4 (2 : Int32)) &&& (3 : Int32))), .val (.int (0 : Int32)), .val (.long y13), .second, .val (.ref b), .val (.ref ia), .val (.int (3 : Int32)), .val (.int (3 : Int32))] [(.int (0 : Int32)), (.ref ia)]))
                    refine own_go (fun tt_ kk_ => XN37.laload hx (j := (0 : Int32)) (v := (.long (out 0))) (by rw [e37]; exact Ai.1) (State.isArrayOf_alike hZ9.alike Ai.2.1) Ai.2.2 (by rw [szi, hnk]; decide) (hati 0 (by omega)) (g := (mkF m 364 #[.val (.long x1), .second, .val (.long x2), .second, .val (.long x3), .second, .val (.int x4), .val (.long y7), .second, .val (.long y9), .second, .val (.int ((XT.ushr x4 (2 : Int32)) &&& (3 : Int32))), .val (.int (0 : Int32)), .val (.long y13), .second, .val (.ref b), .val (.ref ia), .val (.int (3 : Int32)), .val (.int (3 : Int32))] [(.int (0 : Int32)), (.ref ia)])) rfl rfl (hb hby at_364) tt_ kk_) ?_
                    show Go p.tables e below _ (T37.setTop (mkF m 365 #[.val (.long x1), .second, .val (.long x2), .second, .val (.long x3), .second, .val (.int x4), .val (.long y7), .second, .val (.long y9), .second, .val (.int ((XT.ushr x4 (2 : Int32)) &&& (3 : Int32))), .val (.int (0 : Int32)), .val (.long y13), .second, .val (.ref b), .val (.ref ia), .val (.int (3 : Int32)), .val (.int (3 : Int32))] [(.long (out 0))]))
                    refine own_go (fun tt_ kk_ => XS.aload XN37.here hx rfl (hb hby at_365) rfl rfl kk_) ?_
                    show Go p.tables e below _ (T37.setTop (mkF m 367 #[.val (.long x1), .second, .val (.long x2), .second, .val (.long x3), .second, .val (.int x4), .val (.long y7), .second, .val (.long y9), .second, .val (.int ((XT.ushr x4 (2 : Int32)) &&& (3 : Int32))), .val (.int (0 : Int32)), .val (.long y13), .second, .val (.ref b), .val (.ref ia), .val (.int (3 : Int32)), .val (.int (3 : Int32))] [(.ref ia), (.long (out 0))]))
                    refine own_go (fun tt_ kk_ => XS.iconst XN37.here hx rfl (hb hby at_367) kk_) ?_
                    show Go p.tables e below _ (T37.setTop (mkF m 368 #[.val (.long x1), .second, .val (.long x2), .second, .val (.long x3), .second, .val (.int x4), .val (.long y7), .second, .val (.long y9), .second, .val (.int ((XT.ushr x4 (2 : Int32)) &&& (3 : Int32))), .val (.int (0 : Int32)), .val (.long y13), .second, .val (.ref b), .val (.ref ia), .val (.int (3 : Int32)), .val (.int (3 : Int32))] [(.int (2 : Int32)), (.ref ia), (.long (out 0))]))
                    refine own_go (fun tt_ kk_ => XN37.laload hx (j := (2 : Int32)) (v := (.long (out 2))) (by rw [e37]; exact Ai.1) (State.isArrayOf_alike hZ9.alike Ai.2.1) Ai.2.2 (by rw [szi, hnk]; decide) (hati 2 (by omega)) (g := (mkF m 368 #[.val (.long x1), .second, .val (.long x2), .second, .val (.long x3), .second, .val (.int x4), .val (.long y7), .second, .val (.long y9), .second, .val (.int ((XT.ushr x4 (2 : Int32)) &&& (3 : Int32))), .val (.int (0 : Int32)), .val (.long y13), .second, .val (.ref b), .val (.ref ia), .val (.int (3 : Int32)), .val (.int (3 : Int32))] [(.int (2 : Int32)), (.ref ia), (.long (out 0))])) rfl rfl (hb hby at_368) tt_ kk_) ?_
                    show Go p.tables e below _ (T37.setTop (mkF m 369 #[.val (.long x1), .second, .val (.long x2), .second, .val (.long x3), .second, .val (.int x4), .val (.long y7), .second, .val (.long y9), .second, .val (.int ((XT.ushr x4 (2 : Int32)) &&& (3 : Int32))), .val (.int (0 : Int32)), .val (.long y13), .second, .val (.ref b), .val (.ref ia), .val (.int (3 : Int32)), .val (.int (3 : Int32))] [(.long (out 2)), (.long (out 0))]))
                    refine own_go (fun tt_ kk_ => XT.lcmp XN37.here hx rfl (hb hby at_369) rfl kk_) ?_
                    show Go p.tables e below _ (T37.setTop (mkF m 370 #[.val (.long x1), .second, .val (.long x2), .second, .val (.long x3), .second, .val (.int x4), .val (.long y7), .second, .val (.long y9), .second, .val (.int ((XT.ushr x4 (2 : Int32)) &&& (3 : Int32))), .val (.int (0 : Int32)), .val (.long y13), .second, .val (.ref b), .val (.ref ia), .val (.int (3 : Int32)), .val (.int (3 : Int32))] [(.int (XT.cmpL (out 0) (out 2)))]))
                    refine own_go (fun tt_ kk_ => XS.ifNo XN37.here hx rfl (hb hby at_370) rfl (XT.ll_eq_f (fun q => absurd (hinj 0 (by omega) 2 (by omega) q) (by decide))) kk_) ?_
                    show Go p.tables e below _ (T37.setTop (mkF m 373 #[.val (.long x1), .second, .val (.long x2), .second, .val (.long x3), .second, .val (.int x4), .val (.long y7), .second, .val (.long y9), .second, .val (.int ((XT.ushr x4 (2 : Int32)) &&& (3 : Int32))), .val (.int (0 : Int32)), .val (.long y13), .second, .val (.ref b), .val (.ref ia), .val (.int (3 : Int32)), .val (.int (3 : Int32))] []))
                    refine own_go (fun tt_ kk_ => XS.aload XN37.here hx rfl (hb hby at_373) rfl rfl kk_) ?_
                    show Go p.tables e below _ (T37.setTop (mkF m 375 #[.val (.long x1), .second, .val (.long x2), .second, .val (.long x3), .second, .val (.int x4), .val (.long y7), .second, .val (.long y9), .second, .val (.int ((XT.ushr x4 (2 : Int32)) &&& (3 : Int32))), .val (.int (0 : Int32)), .val (.long y13), .second, .val (.ref b), .val (.ref ia), .val (.int (3 : Int32)), .val (.int (3 : Int32))] [(.ref ia)]))
                    refine own_go (fun tt_ kk_ => XS.iconst XN37.here hx rfl (hb hby at_375) kk_) ?_
                    show Go p.tables e below _ (T37.setTop (mkF m 376 #[.val (.long x1), .second, .val (.long x2), .second, .val (.long x3), .second, .val (.int x4), .val (.long y7), .second, .val (.long y9), .second, .val (.int ((XT.ushr x4 (2 : Int32)) &&& (3 : Int32))), .val (.int (0 : Int32)), .val (.long y13), .second, .val (.ref b), .val (.ref ia), .val (.int (3 : Int32)), .val (.int (3 : Int32))] [(.int (1 : Int32)), (.ref ia)]))
                    refine own_go (fun tt_ kk_ => XN37.laload hx (j := (1 : Int32)) (v := (.long (out 1))) (by rw [e37]; exact Ai.1) (State.isArrayOf_alike hZ9.alike Ai.2.1) Ai.2.2 (by rw [szi, hnk]; decide) (hati 1 (by omega)) (g := (mkF m 376 #[.val (.long x1), .second, .val (.long x2), .second, .val (.long x3), .second, .val (.int x4), .val (.long y7), .second, .val (.long y9), .second, .val (.int ((XT.ushr x4 (2 : Int32)) &&& (3 : Int32))), .val (.int (0 : Int32)), .val (.long y13), .second, .val (.ref b), .val (.ref ia), .val (.int (3 : Int32)), .val (.int (3 : Int32))] [(.int (1 : Int32)), (.ref ia)])) rfl rfl (hb hby at_376) tt_ kk_) ?_
                    show Go p.tables e below _ (T37.setTop (mkF m 377 #[.val (.long x1), .second, .val (.long x2), .second, .val (.long x3), .second, .val (.int x4), .val (.long y7), .second, .val (.long y9), .second, .val (.int ((XT.ushr x4 (2 : Int32)) &&& (3 : Int32))), .val (.int (0 : Int32)), .val (.long y13), .second, .val (.ref b), .val (.ref ia), .val (.int (3 : Int32)), .val (.int (3 : Int32))] [(.long (out 1))]))
                    refine own_go (fun tt_ kk_ => XS.aload XN37.here hx rfl (hb hby at_377) rfl rfl kk_) ?_
                    show Go p.tables e below _ (T37.setTop (mkF m 379 #[.val (.long x1), .second, .val (.long x2), .second, .val (.long x3), .second, .val (.int x4), .val (.long y7), .second, .val (.long y9), .second, .val (.int ((XT.ushr x4 (2 : Int32)) &&& (3 : Int32))), .val (.int (0 : Int32)), .val (.long y13), .second, .val (.ref b), .val (.ref ia), .val (.int (3 : Int32)), .val (.int (3 : Int32))] [(.ref ia), (.long (out 1))]))
                    refine own_go (fun tt_ kk_ => XS.iconst XN37.here hx rfl (hb hby at_379) kk_) ?_
                    show Go p.tables e below _ (T37.setTop (mkF m 380 #[.val (.long x1), .second, .val (.long x2), .second, .val (.long x3), .second, .val (.int x4), .val (.long y7), .second, .val (.long y9), .second, .val (.int ((XT.ushr x4 (2 : Int32)) &&& (3 : Int32))), .val (.int (0 : Int32)), .val (.long y13), .second, .val (.ref b), .val (.ref ia), .val (.int (3 : Int32)), .val (.int (3 : Int32))] [(.int (2 : Int32)), (.ref ia), (.long (out 1))]))
                    refine own_go (fun tt_ kk_ => XN37.laload hx (j := (2 : Int32)) (v := (.long (out 2))) (by rw [e37]; exact Ai.1) (State.isArrayOf_alike hZ9.alike Ai.2.1) Ai.2.2 (by rw [szi, hnk]; decide) (hati 2 (by omega)) (g := (mkF m 380 #[.val (.long x1), .second, .val (.long x2), .second, .val (.long x3), .second, .val (.int x4), .val (.long y7), .second, .val (.long y9), .second, .val (.int ((XT.ushr x4 (2 : Int32)) &&& (3 : Int32))), .val (.int (0 : Int32)), .val (.long y13), .second, .val (.ref b), .val (.ref ia), .val (.int (3 : Int32)), .val (.int (3 : Int32))] [(.int (2 : Int32)), (.ref ia), (.long (out 1))])) rfl rfl (hb hby at_380) tt_ kk_) ?_
                    show Go p.tables e below _ (T37.setTop (mkF m 381 #[.val (.long x1), .second, .val (.long x2), .second, .val (.long x3), .second, .val (.int x4), .val (.long y7), .second, .val (.long y9), .second, .val (.int ((XT.ushr x4 (2 : Int32)) &&& (3 : Int32))), .val (.int (0 : Int32)), .val (.long y13), .second, .val (.ref b), .val (.ref ia), .val (.int (3 : Int32)), .val (.int (3 : Int32))] [(.long (out 2)), (.long (out 1))]))
                    refine own_go (fun tt_ kk_ => XT.lcmp XN37.here hx rfl (hb hby at_381) rfl kk_) ?_
                    show Go p.tables e below _ (T37.setTop (mkF m 382 #[.val (.long x1), .second, .val (.long x2), .second, .val (.long x3), .second, .val (.int x4), .val (.long y7), .second, .val (.long y9), .second, .val (.int ((XT.ushr x4 (2 : Int32)) &&& (3 : Int32))), .val (.int (0 : Int32)), .val (.long y13), .second, .val (.ref b), .val (.ref ia), .val (.int (3 : Int32)), .val (.int (3 : Int32))] [(.int (XT.cmpL (out 1) (out 2)))]))
                    refine own_go (fun tt_ kk_ => XS.ifYes XN37.here hx rfl (pc0 := 382) (pc' := 387) rfl (hb hby at_382) rfl (XT.ll_ne_t (fun q => absurd (hinj 1 (by omega) 2 (by omega) q) (by decide))) (by decide) (by decide) kk_) ?_
                    show Go p.tables e below _ (T37.setTop (mkF m 387 #[.val (.long x1), .second, .val (.long x2), .second, .val (.long x3), .second, .val (.int x4), .val (.long y7), .second, .val (.long y9), .second, .val (.int ((XT.ushr x4 (2 : Int32)) &&& (3 : Int32))), .val (.int (0 : Int32)), .val (.long y13), .second, .val (.ref b), .val (.ref ia), .val (.int (3 : Int32)), .val (.int (3 : Int32))] []))
                    refine own_go (fun tt_ kk_ => XS.iconst XN37.here hx rfl (hb hby at_387) kk_) ?_
                    show Go p.tables e below _ (T37.setTop (mkF m 388 #[.val (.long x1), .second, .val (.long x2), .second, .val (.long x3), .second, .val (.int x4), .val (.long y7), .second, .val (.long y9), .second, .val (.int ((XT.ushr x4 (2 : Int32)) &&& (3 : Int32))), .val (.int (0 : Int32)), .val (.long y13), .second, .val (.ref b), .val (.ref ia), .val (.int (3 : Int32)), .val (.int (3 : Int32))] [(.int (1 : Int32))]))
                    exact own_retW XN37 sq9 (by rw [e37]; exact kz10) hx hlk Bd.returns rfl (Or.inl ⟨rfl, Or.inr (Or.inl rfl), _, rfl⟩) (hb hby at_388) ⟨rfl, N37⟩ (by decide) (by decide)
            refine own_go (fun tt_ kk_ => XS.iload X0.here hx rfl (hb hby at_104) rfl kk_) ?_
            show Go p.tables e below _ (s₁.setTop (mkF m 106 #[.val (.long x1), .second, .val (.long x2), .second, .val (.long x3), .second, .val (.int x4), .val (.long y7), .second, .val (.long y9), .second, .val (.int ((XT.ushr x4 (2 : Int32)) &&& (3 : Int32))), .val (.int (0 : Int32)), .unset, .unset, .unset, .unset, .unset, .unset] [(.int ((XT.ushr x4 (2 : Int32)) &&& (3 : Int32)))]))
            refine own_go (fun tt_ kk_ => XS.iconst X0.here hx rfl (hb hby at_106) kk_) ?_
            show Go p.tables e below _ (s₁.setTop (mkF m 107 #[.val (.long x1), .second, .val (.long x2), .second, .val (.long x3), .second, .val (.int x4), .val (.long y7), .second, .val (.long y9), .second, .val (.int ((XT.ushr x4 (2 : Int32)) &&& (3 : Int32))), .val (.int (0 : Int32)), .unset, .unset, .unset, .unset, .unset, .unset] [(.int (1 : Int32)), (.int ((XT.ushr x4 (2 : Int32)) &&& (3 : Int32)))]))
            by_cases hc38 : ((XT.ushr x4 (2 : Int32)) &&& (3 : Int32)) = (1 : Int32)
            · refine own_go (fun tt_ kk_ => XS.icmpNo X0.here hx rfl (hb hby at_107) rfl (XT.ii_ne_f hc38) kk_) ?_
              show Go p.tables e below _ (s₁.setTop (mkF m 110 #[.val (.long x1), .second, .val (.long x2), .second, .val (.long x3), .second, .val (.int x4), .val (.long y7), .second, .val (.long y9), .second, .val (.int ((XT.ushr x4 (2 : Int32)) &&& (3 : Int32))), .val (.int (0 : Int32)), .unset, .unset, .unset, .unset, .unset, .unset] []))
              refine own_go (fun tt_ kk_ => XT.lloadN X0.here hx rfl (hb hby at_110) rfl kk_) ?_
              show Go p.tables e below _ (s₁.setTop (mkF m 111 #[.val (.long x1), .second, .val (.long x2), .second, .val (.long x3), .second, .val (.int x4), .val (.long y7), .second, .val (.long y9), .second, .val (.int ((XT.ushr x4 (2 : Int32)) &&& (3 : Int32))), .val (.int (0 : Int32)), .unset, .unset, .unset, .unset, .unset, .unset] [(.long x1)]))
              refine own_go (fun tt_ kk_ => XS.goto X0.here hx rfl (pc0 := 111) (pc' := 127) rfl (hb hby at_111) (by decide) (by decide) kk_) ?_
              show Go p.tables e below _ (s₁.setTop (mkF m 127 #[.val (.long x1), .second, .val (.long x2), .second, .val (.long x3), .second, .val (.int x4), .val (.long y7), .second, .val (.long y9), .second, .val (.int ((XT.ushr x4 (2 : Int32)) &&& (3 : Int32))), .val (.int (0 : Int32)), .unset, .unset, .unset, .unset, .unset, .unset] [(.long x1)]))
              refine own_go (fun tt_ kk_ => XT.lstore X0.here hx rfl (hb hby at_127) rfl (l' := #[.val (.long x1), .second, .val (.long x2), .second, .val (.long x3), .second, .val (.int x4), .val (.long y7), .second, .val (.long y9), .second, .val (.int ((XT.ushr x4 (2 : Int32)) &&& (3 : Int32))), .val (.int (0 : Int32)), .val (.long x1), .second, .unset, .unset, .unset, .unset]) rfl kk_) ?_
              show Go p.tables e below _ (s₁.setTop (mkF m 129 #[.val (.long x1), .second, .val (.long x2), .second, .val (.long x3), .second, .val (.int x4), .val (.long y7), .second, .val (.long y9), .second, .val (.int ((XT.ushr x4 (2 : Int32)) &&& (3 : Int32))), .val (.int (0 : Int32)), .val (.long x1), .second, .unset, .unset, .unset, .unset] []))
              exact J129 _
            · refine own_go (fun tt_ kk_ => XS.icmpYes X0.here hx rfl (pc0 := 107) (pc' := 114) rfl (hb hby at_107) rfl (XT.ii_ne_t hc38) (by decide) (by decide) kk_) ?_
              show Go p.tables e below _ (s₁.setTop (mkF m 114 #[.val (.long x1), .second, .val (.long x2), .second, .val (.long x3), .second, .val (.int x4), .val (.long y7), .second, .val (.long y9), .second, .val (.int ((XT.ushr x4 (2 : Int32)) &&& (3 : Int32))), .val (.int (0 : Int32)), .unset, .unset, .unset, .unset, .unset, .unset] []))
              refine own_go (fun tt_ kk_ => XS.iload X0.here hx rfl (hb hby at_114) rfl kk_) ?_
              show Go p.tables e below _ (s₁.setTop (mkF m 116 #[.val (.long x1), .second, .val (.long x2), .second, .val (.long x3), .second, .val (.int x4), .val (.long y7), .second, .val (.long y9), .second, .val (.int ((XT.ushr x4 (2 : Int32)) &&& (3 : Int32))), .val (.int (0 : Int32)), .unset, .unset, .unset, .unset, .unset, .unset] [(.int ((XT.ushr x4 (2 : Int32)) &&& (3 : Int32)))]))
              refine own_go (fun tt_ kk_ => XS.iconst X0.here hx rfl (hb hby at_116) kk_) ?_
              show Go p.tables e below _ (s₁.setTop (mkF m 117 #[.val (.long x1), .second, .val (.long x2), .second, .val (.long x3), .second, .val (.int x4), .val (.long y7), .second, .val (.long y9), .second, .val (.int ((XT.ushr x4 (2 : Int32)) &&& (3 : Int32))), .val (.int (0 : Int32)), .unset, .unset, .unset, .unset, .unset, .unset] [(.int (2 : Int32)), (.int ((XT.ushr x4 (2 : Int32)) &&& (3 : Int32)))]))
              by_cases hc39 : ((XT.ushr x4 (2 : Int32)) &&& (3 : Int32)) = (2 : Int32)
              · refine own_go (fun tt_ kk_ => XS.icmpNo X0.here hx rfl (hb hby at_117) rfl (XT.ii_ne_f hc39) kk_) ?_
                show Go p.tables e below _ (s₁.setTop (mkF m 120 #[.val (.long x1), .second, .val (.long x2), .second, .val (.long x3), .second, .val (.int x4), .val (.long y7), .second, .val (.long y9), .second, .val (.int ((XT.ushr x4 (2 : Int32)) &&& (3 : Int32))), .val (.int (0 : Int32)), .unset, .unset, .unset, .unset, .unset, .unset] []))
                refine own_go (fun tt_ kk_ => XT.lload X0.here hx rfl (hb hby at_120) rfl kk_) ?_
                show Go p.tables e below _ (s₁.setTop (mkF m 122 #[.val (.long x1), .second, .val (.long x2), .second, .val (.long x3), .second, .val (.int x4), .val (.long y7), .second, .val (.long y9), .second, .val (.int ((XT.ushr x4 (2 : Int32)) &&& (3 : Int32))), .val (.int (0 : Int32)), .unset, .unset, .unset, .unset, .unset, .unset] [(.long y7)]))
                refine own_go (fun tt_ kk_ => XS.goto X0.here hx rfl (pc0 := 122) (pc' := 127) rfl (hb hby at_122) (by decide) (by decide) kk_) ?_
                show Go p.tables e below _ (s₁.setTop (mkF m 127 #[.val (.long x1), .second, .val (.long x2), .second, .val (.long x3), .second, .val (.int x4), .val (.long y7), .second, .val (.long y9), .second, .val (.int ((XT.ushr x4 (2 : Int32)) &&& (3 : Int32))), .val (.int (0 : Int32)), .unset, .unset, .unset, .unset, .unset, .unset] [(.long y7)]))
                refine own_go (fun tt_ kk_ => XT.lstore X0.here hx rfl (hb hby at_127) rfl (l' := #[.val (.long x1), .second, .val (.long x2), .second, .val (.long x3), .second, .val (.int x4), .val (.long y7), .second, .val (.long y9), .second, .val (.int ((XT.ushr x4 (2 : Int32)) &&& (3 : Int32))), .val (.int (0 : Int32)), .val (.long y7), .second, .unset, .unset, .unset, .unset]) rfl kk_) ?_
                show Go p.tables e below _ (s₁.setTop (mkF m 129 #[.val (.long x1), .second, .val (.long x2), .second, .val (.long x3), .second, .val (.int x4), .val (.long y7), .second, .val (.long y9), .second, .val (.int ((XT.ushr x4 (2 : Int32)) &&& (3 : Int32))), .val (.int (0 : Int32)), .val (.long y7), .second, .unset, .unset, .unset, .unset] []))
                exact J129 _
              · refine own_go (fun tt_ kk_ => XS.icmpYes X0.here hx rfl (pc0 := 117) (pc' := 125) rfl (hb hby at_117) rfl (XT.ii_ne_t hc39) (by decide) (by decide) kk_) ?_
                show Go p.tables e below _ (s₁.setTop (mkF m 125 #[.val (.long x1), .second, .val (.long x2), .second, .val (.long x3), .second, .val (.int x4), .val (.long y7), .second, .val (.long y9), .second, .val (.int ((XT.ushr x4 (2 : Int32)) &&& (3 : Int32))), .val (.int (0 : Int32)), .unset, .unset, .unset, .unset, .unset, .unset] []))
                refine own_go (fun tt_ kk_ => XT.lload X0.here hx rfl (hb hby at_125) rfl kk_) ?_
                show Go p.tables e below _ (s₁.setTop (mkF m 127 #[.val (.long x1), .second, .val (.long x2), .second, .val (.long x3), .second, .val (.int x4), .val (.long y7), .second, .val (.long y9), .second, .val (.int ((XT.ushr x4 (2 : Int32)) &&& (3 : Int32))), .val (.int (0 : Int32)), .unset, .unset, .unset, .unset, .unset, .unset] [(.long y9)]))
                refine own_go (fun tt_ kk_ => XT.lstore X0.here hx rfl (hb hby at_127) rfl (l' := #[.val (.long x1), .second, .val (.long x2), .second, .val (.long x3), .second, .val (.int x4), .val (.long y7), .second, .val (.long y9), .second, .val (.int ((XT.ushr x4 (2 : Int32)) &&& (3 : Int32))), .val (.int (0 : Int32)), .val (.long y9), .second, .unset, .unset, .unset, .unset]) rfl kk_) ?_
                show Go p.tables e below _ (s₁.setTop (mkF m 129 #[.val (.long x1), .second, .val (.long x2), .second, .val (.long x3), .second, .val (.int x4), .val (.long y7), .second, .val (.long y9), .second, .val (.int ((XT.ushr x4 (2 : Int32)) &&& (3 : Int32))), .val (.int (0 : Int32)), .val (.long y9), .second, .unset, .unset, .unset, .unset] []))
                exact J129 _
          · refine own_go (fun tt_ kk_ => XS.ifNo X0.here hx rfl (hb hby at_94) rfl (XT.i0_eq_f hc1) kk_) ?_
            show Go p.tables e below _ (s₁.setTop (mkF m 97 #[.val (.long x1), .second, .val (.long x2), .second, .val (.long x3), .second, .val (.int x4), .val (.long y7), .second, .val (.long y9), .second, .val (.int ((XT.ushr x4 (2 : Int32)) &&& (3 : Int32))), .unset, .unset, .unset, .unset, .unset, .unset, .unset] []))
            refine own_go (fun tt_ kk_ => XS.iconst X0.here hx rfl (hb hby at_97) kk_) ?_
            show Go p.tables e below _ (s₁.setTop (mkF m 98 #[.val (.long x1), .second, .val (.long x2), .second, .val (.long x3), .second, .val (.int x4), .val (.long y7), .second, .val (.long y9), .second, .val (.int ((XT.ushr x4 (2 : Int32)) &&& (3 : Int32))), .unset, .unset, .unset, .unset, .unset, .unset, .unset] [(.int (1 : Int32))]))
            refine own_go (fun tt_ kk_ => XS.goto X0.here hx rfl (pc0 := 98) (pc' := 102) rfl (hb hby at_98) (by decide) (by decide) kk_) ?_
            show Go p.tables e below _ (s₁.setTop (mkF m 102 #[.val (.long x1), .second, .val (.long x2), .second, .val (.long x3), .second, .val (.int x4), .val (.long y7), .second, .val (.long y9), .second, .val (.int ((XT.ushr x4 (2 : Int32)) &&& (3 : Int32))), .unset, .unset, .unset, .unset, .unset, .unset, .unset] [(.int (1 : Int32))]))
            refine own_go (fun tt_ kk_ => XS.istore X0.here hx rfl (hb hby at_102) rfl (l' := #[.val (.long x1), .second, .val (.long x2), .second, .val (.long x3), .second, .val (.int x4), .val (.long y7), .second, .val (.long y9), .second, .val (.int ((XT.ushr x4 (2 : Int32)) &&& (3 : Int32))), .val (.int (1 : Int32)), .unset, .unset, .unset, .unset, .unset, .unset]) rfl kk_) ?_
            show Go p.tables e below _ (s₁.setTop (mkF m 104 #[.val (.long x1), .second, .val (.long x2), .second, .val (.long x3), .second, .val (.int x4), .val (.long y7), .second, .val (.long y9), .second, .val (.int ((XT.ushr x4 (2 : Int32)) &&& (3 : Int32))), .val (.int (1 : Int32)), .unset, .unset, .unset, .unset, .unset, .unset] []))
            have J129 : ∀ y13 : Int64, (y13 = x1 ∨ y13 = y7 ∨ y13 = y9) → Go p.tables e below (FinW s below (LQ n0) room_1.cells room_1.slots) (s₁.setTop (mkF m 129 #[.val (.long x1), .second, .val (.long x2), .second, .val (.long x3), .second, .val (.int x4), .val (.long y7), .second, .val (.long y9), .second, .val (.int ((XT.ushr x4 (2 : Int32)) &&& (3 : Int32))), .val (.int (1 : Int32)), .val (.long y13), .second, .unset, .unset, .unset, .unset] [])) := by
              intro y13 hr13
              show Go p.tables e below _ (s₁.setTop (mkF m 129 #[.val (.long x1), .second, .val (.long x2), .second, .val (.long x3), .second, .val (.int x4), .val (.long y7), .second, .val (.long y9), .second, .val (.int ((XT.ushr x4 (2 : Int32)) &&& (3 : Int32))), .val (.int (1 : Int32)), .val (.long y13), .second, .unset, .unset, .unset, .unset] []))
              obtain ⟨T40, h40, X40, e40, Ex40, A40, D40, -, st40⟩ := newO X0 hx hZ hown (hw _ (List.mem_of_getElem? (i := 0) rfl)) (hw _ (List.mem_of_getElem? (i := 1) rfl)) (hw _ (List.mem_of_getElem? (i := 2) rfl)) e0 (g := (mkF m 129 #[.val (.long x1), .second, .val (.long x2), .second, .val (.long x3), .second, .val (.int x4), .val (.long y7), .second, .val (.long y9), .second, .val (.int ((XT.ushr x4 (2 : Int32)) &&& (3 : Int32))), .val (.int (1 : Int32)), .val (.long y13), .second, .unset, .unset, .unset, .unset] [])) rfl (hb hby at_129) (by decide) (by decide)
              obtain ⟨b, gb⟩ : ∃ z, z = h0.size := ⟨_, rfl⟩
              rw [← gb] at A40 D40 st40
              have gb0 : n0 ≤ b := Nat.le_trans Z0 (Nat.le_of_eq gb.symm)
              have Z1 : n0 ≤ h40.size := Nat.le_trans Z0 Ex40.1
              have O40 := OO.ext Ex40
              refine own_go (fun tt_ kk_ => st40 tt_ kk_) ?_
              show Go p.tables e below _ (T40.setTop (mkF m 132 #[.val (.long x1), .second, .val (.long x2), .second, .val (.long x3), .second, .val (.int x4), .val (.long y7), .second, .val (.long y9), .second, .val (.int ((XT.ushr x4 (2 : Int32)) &&& (3 : Int32))), .val (.int (1 : Int32)), .val (.long y13), .second, .unset, .unset, .unset, .unset] [(.ref b)]))
              refine own_go (fun tt_ kk_ => XS.dup X40.here hx rfl (hb hby at_132) rfl rfl kk_) ?_
              show Go p.tables e below _ (T40.setTop (mkF m 133 #[.val (.long x1), .second, .val (.long x2), .second, .val (.long x3), .second, .val (.int x4), .val (.long y7), .second, .val (.long y9), .second, .val (.int ((XT.ushr x4 (2 : Int32)) &&& (3 : Int32))), .val (.int (1 : Int32)), .val (.long y13), .second, .unset, .unset, .unset, .unset] [(.ref b), (.ref b)]))
              obtain ⟨v41, _, ⟨T41, L41, k41, n41⟩, -, X41, ⟨Lc41, hQ41, l41, y41, z41⟩, st41⟩ := X40.specialBack hx (y := (⟨"com/example/rootlet/rootlet/IdMap", "<init>", "()V"⟩ : MethodName)) rfl hown (mvT hZ (hw _ (List.mem_of_getElem? (i := 3) rfl))) (mvT hZ (hw _ (List.mem_of_getElem? (i := 4) rfl))) (mvT hZ (hw _ (List.mem_of_getElem? (i := 5) rfl))) (by decide) (backOf (W := 1) (rm_init l Z a0 hw [] b h40 n0 A40 (D40 (Or.inl (hw _ (List.mem_of_getElem? (i := 14) rfl))) (ty := .array .long) (by decide)) (D40 (Or.inl (hw _ (List.mem_of_getElem? (i := 16) rfl))) (ty := .array OBJ) (by decide)) (D40 (Or.inl (hw _ (List.mem_of_getElem? (i := 21) rfl))) (ty := .int) (by decide)) (D40 (Or.inl (hw _ (List.mem_of_getElem? (i := 53) rfl))) (ty := .int) (by decide)) gb0 Z1 O40) hZ (hw _ (List.mem_of_getElem? (i := 5) rfl)) (hw _ (List.mem_of_getElem? (i := 2) rfl)) (by decide) (by decide)) (g := (mkF m 133 #[.val (.long x1), .second, .val (.long x2), .second, .val (.long x3), .second, .val (.int x4), .val (.long y7), .second, .val (.long y9), .second, .val (.int ((XT.ushr x4 (2 : Int32)) &&& (3 : Int32))), .val (.int (1 : Int32)), .val (.long y13), .second, .unset, .unset, .unset, .unset] [(.ref b), (.ref b)])) rfl (by rw [hml]; rfl) (Steps.refl _) (a := b) (argsL := []) (rest := [(.ref b)]) (lenOf pd_4 rfl) rfl (by show 2 * 0 + _ ≤ _; exact Nat.le_of_eq rfl) (hb hby at_133) (fun _ _ => ⟨rfl, e40, (by decide : (0 + 1) + 2 ≤ _), (by decide : (0 + 4) + 32 ≤ _)⟩)
              dsimp only [Pt.U, Pt.locs, Pt.cells, Pt.slots] at X41 l41 y41 z41 st41 hQ41
              subst y41 z41
              have XN41 : Stand p l e room_1 s m #[(.long x1), (.long x2), (.long x3), (.int x4)] below meth c T41 _ 3 36 := X41
              obtain ⟨hv41, N41q, O41, ka, va, MI41⟩ := hQ41
              subst hv41
              have N41 : Fr n0 L41 := by rw [l41]; exact Fr.app N0 N41q
              obtain ⟨G0, hG0⟩ : ∃ z : Int64 → Value, z = fun _ => .null := ⟨_, rfl⟩
              obtain ⟨ks0, vs0, M0, RR0⟩ : ∃ ks vs, own_Map Z T41.heap n0 b ka va ks vs 0 ∧ own_Rep own_hm ks vs G0 0 := ⟨_, _, MI41, by rw [hG0]; exact own_Rep_empty _⟩
              refine own_go (fun tt_ kk_ => st41.trans kk_) ?_
              show Go p.tables e below _ (T41.setTop (mkF m 136 #[.val (.long x1), .second, .val (.long x2), .second, .val (.long x3), .second, .val (.int x4), .val (.long y7), .second, .val (.long y9), .second, .val (.int ((XT.ushr x4 (2 : Int32)) &&& (3 : Int32))), .val (.int (1 : Int32)), .val (.long y13), .second, .unset, .unset, .unset, .unset] [(.ref b)]))
              refine own_go (fun tt_ kk_ => XS.astore XN41.here hx rfl (hb hby at_136) rfl rfl (l' := #[.val (.long x1), .second, .val (.long x2), .second, .val (.long x3), .second, .val (.int x4), .val (.long y7), .second, .val (.long y9), .second, .val (.int ((XT.ushr x4 (2 : Int32)) &&& (3 : Int32))), .val (.int (1 : Int32)), .val (.long y13), .second, .val (.ref b), .unset, .unset, .unset]) rfl kk_) ?_
              show Go p.tables e below _ (T41.setTop (mkF m 138 #[.val (.long x1), .second, .val (.long x2), .second, .val (.long x3), .second, .val (.int x4), .val (.long y7), .second, .val (.long y9), .second, .val (.int ((XT.ushr x4 (2 : Int32)) &&& (3 : Int32))), .val (.int (1 : Int32)), .val (.long y13), .second, .val (.ref b), .unset, .unset, .unset] []))
              refine own_go (fun tt_ kk_ => XS.aload XN41.here hx rfl (hb hby at_138) rfl rfl kk_) ?_
              show Go p.tables e below _ (T41.setTop (mkF m 140 #[.val (.long x1), .second, .val (.long x2), .second, .val (.long x3), .second, .val (.int x4), .val (.long y7), .second, .val (.long y9), .second, .val (.int ((XT.ushr x4 (2 : Int32)) &&& (3 : Int32))), .val (.int (1 : Int32)), .val (.long y13), .second, .val (.ref b), .unset, .unset, .unset] [(.ref b)]))
              refine own_go (fun tt_ kk_ => XT.lloadN XN41.here hx rfl (hb hby at_140) rfl kk_) ?_
              show Go p.tables e below _ (T41.setTop (mkF m 141 #[.val (.long x1), .second, .val (.long x2), .second, .val (.long x3), .second, .val (.int x4), .val (.long y7), .second, .val (.long y9), .second, .val (.int ((XT.ushr x4 (2 : Int32)) &&& (3 : Int32))), .val (.int (1 : Int32)), .val (.long y13), .second, .val (.ref b), .unset, .unset, .unset] [(.long x1), (.ref b)]))
              refine own_go (fun tt_ kk_ => XS.iconst XN41.here hx rfl (hb hby at_141) kk_) ?_
              show Go p.tables e below _ (T41.setTop (mkF m 142 #[.val (.long x1), .second, .val (.long x2), .second, .val (.long x3), .second, .val (.int x4), .val (.long y7), .second, .val (.long y9), .second, .val (.int ((XT.ushr x4 (2 : Int32)) &&& (3 : Int32))), .val (.int (1 : Int32)), .val (.long y13), .second, .val (.ref b), .unset, .unset, .unset] [(.int (1 : Int32)), (.long x1), (.ref b)]))
              obtain ⟨v42, _, ⟨T42, L42, k42, n42⟩, -, X42, ⟨Lc42, hQ42, l42, y42, z42⟩, st42⟩ := Jvm.LawKit.callS XN41 hx (y := (⟨"java/lang/Integer", "valueOf", "(I)Ljava/lang/Integer;"⟩ : MethodName)) hown (mvT hZ (hw _ (List.mem_of_getElem? (i := 22) rfl))) (mvT hZ (hw _ (List.mem_of_getElem? (i := 23) rfl))) (mvT hZ (hw _ (List.mem_of_getElem? (i := 24) rfl))) (mvT hZ (hw _ (List.mem_of_getElem? (i := 25) rfl))) (by decide) (backOf (W := 3) (rm_valueOf l Z a0 hw [] (1 : Int32) ca w_1 ccl T41.heap n0 (S_high.ext O41.2) (S_cache.ext O41.2) (Arc.ext O41.2) (by decide) (by decide) (by rw [hcl]; decide) Bx_1) hZ (hw _ (List.mem_of_getElem? (i := 25) rfl)) (hw _ (List.mem_of_getElem? (i := 24) rfl)) (by decide) (by decide)) (g := (mkF m 142 #[.val (.long x1), .second, .val (.long x2), .second, .val (.long x3), .second, .val (.int x4), .val (.long y7), .second, .val (.long y9), .second, .val (.int ((XT.ushr x4 (2 : Int32)) &&& (3 : Int32))), .val (.int (1 : Int32)), .val (.long y13), .second, .val (.ref b), .unset, .unset, .unset] [(.int (1 : Int32)), (.long x1), (.ref b)])) rfl (by rw [hml]; rfl) (argsL := [(.int (1 : Int32))]) (rest := [(.long x1), (.ref b)]) (lenOf pd_5 rfl) rfl (by show 2 * 0 + _ ≤ _; exact Nat.le_of_eq rfl) (hb hby at_142) (fun _ _ => ⟨rfl, rfl, (by decide : 3 + 0 ≤ _), (by decide : 36 + 0 ≤ _)⟩)
              dsimp only [Pt.U, Pt.locs, Pt.cells, Pt.slots] at X42 l42 y42 z42 st42 hQ42
              subst y42 z42
              have XN42 : Stand p l e room_1 s m #[(.long x1), (.long x2), (.long x3), (.int x4)] below meth c T42 _ 3 36 := X42
              obtain ⟨hv42, N42q, e42⟩ := hQ42
              subst hv42
              have N42 : Fr n0 L42 := by rw [l42]; exact Fr.app N41 N42q
              refine own_go (fun tt_ kk_ => st42 tt_ kk_) ?_
              show Go p.tables e below _ (T42.setTop (mkF m 145 #[.val (.long x1), .second, .val (.long x2), .second, .val (.long x3), .second, .val (.int x4), .val (.long y7), .second, .val (.long y9), .second, .val (.int ((XT.ushr x4 (2 : Int32)) &&& (3 : Int32))), .val (.int (1 : Int32)), .val (.long y13), .second, .val (.ref b), .unset, .unset, .unset] [(.ref w_1), (.long x1), (.ref b)]))
              obtain ⟨cq43, kq43, q43a, q43b, q43c⟩ := isOf hZ e42 M0.2.1
              obtain ⟨v43, _, ⟨T43, L43, k43, n43⟩, -, X43, sn43, sg43, ⟨Lc43, hQ43, l43, y43, z43⟩, st43⟩ := XN42.virtualBackS hx (y := (⟨"com/example/rootlet/rootlet/IdMap", "put", "(JLjava/lang/Object;)Ljava/lang/Object;"⟩ : MethodName)) (z := (⟨"com/example/rootlet/rootlet/IdMap", "put", "(JLjava/lang/Object;)Ljava/lang/Object;"⟩ : MethodName)) hown (mvT hZ (hw _ (List.mem_of_getElem? (i := 29) rfl))) (mvT hZ (hw _ (List.mem_of_getElem? (i := 30) rfl))) (notFace_of_selects (args := #[]) (mvT hZ (hw _ (List.mem_of_getElem? (i := 32) rfl)))) (mvT hZ (hw _ (List.mem_of_getElem? (i := 32) rfl))) (mvT hZ (hw _ (List.mem_of_getElem? (i := 31) rfl))) (by decide) (backOfS (W := 0) (rm_put l Z a0 hw [] b ka va ks0 vs0 G0 0 x1 w_1 T41.heap n0 M0 RR0 (by omega) O41 (Ew_1.ext O41.2)) hZ (hw _ (List.mem_of_getElem? (i := 33) rfl)) (hw _ (List.mem_of_getElem? (i := 2) rfl)) (by decide) (by decide)) q43a q43c (g := (mkF m 145 #[.val (.long x1), .second, .val (.long x2), .second, .val (.long x3), .second, .val (.int x4), .val (.long y7), .second, .val (.long y9), .second, .val (.int ((XT.ushr x4 (2 : Int32)) &&& (3 : Int32))), .val (.int (1 : Int32)), .val (.long y13), .second, .val (.ref b), .unset, .unset, .unset] [(.ref w_1), (.long x1), (.ref b)])) rfl (by rw [hml]; rfl) (Steps.refl _) (argsL := [(.long x1), (.ref w_1)]) (rest := []) (lenOf pd_6 rfl) rfl (by show 2 * 0 + _ ≤ _; exact Nat.le_of_eq rfl) (hb hby at_145) (fun _ _ => ⟨rfl, e42, (by decide : 3 + 2 ≤ _), (by decide : 36 + 24 ≤ _)⟩)
              dsimp only [Pt.U, Pt.locs, Pt.cells, Pt.slots] at X43 l43 y43 z43 st43 hQ43 sn43 sg43
              subst y43 z43
              obtain ⟨hv43, N43q, ⟨O43, sz43⟩, ks43, vs43, M43, RR43⟩ := hQ43
              subst hv43
              have N43 : Fr n0 L43 := by rw [l43]; exact Fr.app N42 N43q
              obtain ⟨G43, hG43⟩ : ∃ z, z = own_upd G0 x1 (.ref w_1) := ⟨_, rfl⟩
              obtain ⟨nn43, hn43⟩ : ∃ z, z = (if G0 x1 = .null then 0 + 1 else 0) := ⟨_, rfl⟩
              rw [← hn43] at M43 RR43
              rw [← hG43] at RR43
              have bd43 : nn43 ≤ 1 := by rw [hn43]; split <;> omega
              have hZ43 : Z.Warmed39 (s.setVm T43.vm).vm := State.Warmed39.trans hZ sn43.1
              have sq43 : s.Since T43.vm T43.heap.size := sn43
              have hown43 : (s.setVm T43.vm).vm.findClass "com/example/rootlet/rootlet/IdMapIdsPinLaw" = some m.cls := by rw [show (s.setVm T43.vm).vm = T43.vm from rfl, sn43.1.alike.findClass]; exact hown
              have Y43 : Stand p l e room_1 (s.setVm T43.vm) m #[(.long x1), (.long x2), (.long x3), (.int x4)] below meth c T43 _ 5 60 := X43
              refine own_go (fun tt_ kk_ => st43.trans kk_) ?_
              show Go p.tables e below _ (T43.setTop (mkF m 148 #[.val (.long x1), .second, .val (.long x2), .second, .val (.long x3), .second, .val (.int x4), .val (.long y7), .second, .val (.long y9), .second, .val (.int ((XT.ushr x4 (2 : Int32)) &&& (3 : Int32))), .val (.int (1 : Int32)), .val (.long y13), .second, .val (.ref b), .unset, .unset, .unset] [(G0 x1)]))
              refine own_go (fun tt_ kk_ => XT.pop Y43.here hx rfl (hb hby at_148) rfl (XT.cat1 (own_gref M0 RR0 _)) kk_) ?_
              show Go p.tables e below _ (T43.setTop (mkF m 149 #[.val (.long x1), .second, .val (.long x2), .second, .val (.long x3), .second, .val (.int x4), .val (.long y7), .second, .val (.long y9), .second, .val (.int ((XT.ushr x4 (2 : Int32)) &&& (3 : Int32))), .val (.int (1 : Int32)), .val (.long y13), .second, .val (.ref b), .unset, .unset, .unset] []))
              refine own_go (fun tt_ kk_ => XS.aload Y43.here hx rfl (hb hby at_149) rfl rfl kk_) ?_
              show Go p.tables e below _ (T43.setTop (mkF m 151 #[.val (.long x1), .second, .val (.long x2), .second, .val (.long x3), .second, .val (.int x4), .val (.long y7), .second, .val (.long y9), .second, .val (.int ((XT.ushr x4 (2 : Int32)) &&& (3 : Int32))), .val (.int (1 : Int32)), .val (.long y13), .second, .val (.ref b), .unset, .unset, .unset] [(.ref b)]))
              refine own_go (fun tt_ kk_ => XT.lload Y43.here hx rfl (hb hby at_151) rfl kk_) ?_
              show Go p.tables e below _ (T43.setTop (mkF m 153 #[.val (.long x1), .second, .val (.long x2), .second, .val (.long x3), .second, .val (.int x4), .val (.long y7), .second, .val (.long y9), .second, .val (.int ((XT.ushr x4 (2 : Int32)) &&& (3 : Int32))), .val (.int (1 : Int32)), .val (.long y13), .second, .val (.ref b), .unset, .unset, .unset] [(.long y7), (.ref b)]))
              refine own_go (fun tt_ kk_ => XS.iconst Y43.here hx rfl (hb hby at_153) kk_) ?_
              show Go p.tables e below _ (T43.setTop (mkF m 154 #[.val (.long x1), .second, .val (.long x2), .second, .val (.long x3), .second, .val (.int x4), .val (.long y7), .second, .val (.long y9), .second, .val (.int ((XT.ushr x4 (2 : Int32)) &&& (3 : Int32))), .val (.int (1 : Int32)), .val (.long y13), .second, .val (.ref b), .unset, .unset, .unset] [(.int (2 : Int32)), (.long y7), (.ref b)]))
              obtain ⟨v44, _, ⟨T44, L44, k44, n44⟩, -, X44, ⟨Lc44, hQ44, l44, y44, z44⟩, st44⟩ := Jvm.LawKit.callS Y43 hx (y := (⟨"java/lang/Integer", "valueOf", "(I)Ljava/lang/Integer;"⟩ : MethodName)) hown43 (mvT hZ43 (hw _ (List.mem_of_getElem? (i := 22) rfl))) (mvT hZ43 (hw _ (List.mem_of_getElem? (i := 23) rfl))) (mvT hZ43 (hw _ (List.mem_of_getElem? (i := 24) rfl))) (mvT hZ43 (hw _ (List.mem_of_getElem? (i := 25) rfl))) (by decide) (backOf (W := 3) (rm_valueOf l Z a0 hw [] (2 : Int32) ca w_2 ccl T43.heap n0 (S_high.ext O43.2) (S_cache.ext O43.2) (Arc.ext O43.2) (by decide) (by decide) (by rw [hcl]; decide) Bx_2) hZ43 (hw _ (List.mem_of_getElem? (i := 25) rfl)) (hw _ (List.mem_of_getElem? (i := 24) rfl)) (by decide) (by decide)) (g := (mkF m 154 #[.val (.long x1), .second, .val (.long x2), .second, .val (.long x3), .second, .val (.int x4), .val (.long y7), .second, .val (.long y9), .second, .val (.int ((XT.ushr x4 (2 : Int32)) &&& (3 : Int32))), .val (.int (1 : Int32)), .val (.long y13), .second, .val (.ref b), .unset, .unset, .unset] [(.int (2 : Int32)), (.long y7), (.ref b)])) rfl (by rw [hml]; rfl) (argsL := [(.int (2 : Int32))]) (rest := [(.long y7), (.ref b)]) (lenOf pd_5 rfl) rfl (by show 2 * 0 + _ ≤ _; exact Nat.le_of_eq rfl) (hb hby at_154) (fun _ _ => ⟨rfl, rfl, (by decide : 5 + 0 ≤ _), (by decide : 60 + 0 ≤ _)⟩)
              dsimp only [Pt.U, Pt.locs, Pt.cells, Pt.slots] at X44 l44 y44 z44 st44 hQ44
              subst y44 z44
              have XN44 : Stand p l e room_1 (s.setVm T43.vm) m #[(.long x1), (.long x2), (.long x3), (.int x4)] below meth c T44 _ 5 60 := X44
              obtain ⟨hv44, N44q, e44⟩ := hQ44
              subst hv44
              have N44 : Fr n0 L44 := by rw [l44]; exact Fr.app N43 N44q
              refine own_go (fun tt_ kk_ => st44 tt_ kk_) ?_
              show Go p.tables e below _ (T44.setTop (mkF m 157 #[.val (.long x1), .second, .val (.long x2), .second, .val (.long x3), .second, .val (.int x4), .val (.long y7), .second, .val (.long y9), .second, .val (.int ((XT.ushr x4 (2 : Int32)) &&& (3 : Int32))), .val (.int (1 : Int32)), .val (.long y13), .second, .val (.ref b), .unset, .unset, .unset] [(.ref w_2), (.long y7), (.ref b)]))
              obtain ⟨cq45, kq45, q45a, q45b, q45c⟩ := isOf hZ43 e44 M43.2.1
              obtain ⟨v45, _, ⟨T45, L45, k45, n45⟩, -, X45, sn45, sg45, ⟨Lc45, hQ45, l45, y45, z45⟩, st45⟩ := XN44.virtualBackS hx (y := (⟨"com/example/rootlet/rootlet/IdMap", "put", "(JLjava/lang/Object;)Ljava/lang/Object;"⟩ : MethodName)) (z := (⟨"com/example/rootlet/rootlet/IdMap", "put", "(JLjava/lang/Object;)Ljava/lang/Object;"⟩ : MethodName)) hown43 (mvT hZ43 (hw _ (List.mem_of_getElem? (i := 29) rfl))) (mvT hZ43 (hw _ (List.mem_of_getElem? (i := 30) rfl))) (notFace_of_selects (args := #[]) (mvT hZ43 (hw _ (List.mem_of_getElem? (i := 32) rfl)))) (mvT hZ43 (hw _ (List.mem_of_getElem? (i := 32) rfl))) (mvT hZ43 (hw _ (List.mem_of_getElem? (i := 31) rfl))) (by decide) (backOfS (W := 0) (rm_put l Z a0 hw [] b ka va ks43 vs43 G43 nn43 y7 w_2 T43.heap n0 M43 RR43 (by omega) O43 (Ew_2.ext O43.2)) hZ43 (hw _ (List.mem_of_getElem? (i := 33) rfl)) (hw _ (List.mem_of_getElem? (i := 2) rfl)) (by decide) (by decide)) q45a q45c (g := (mkF m 157 #[.val (.long x1), .second, .val (.long x2), .second, .val (.long x3), .second, .val (.int x4), .val (.long y7), .second, .val (.long y9), .second, .val (.int ((XT.ushr x4 (2 : Int32)) &&& (3 : Int32))), .val (.int (1 : Int32)), .val (.long y13), .second, .val (.ref b), .unset, .unset, .unset] [(.ref w_2), (.long y7), (.ref b)])) rfl (by rw [hml]; rfl) (Steps.refl _) (argsL := [(.long y7), (.ref w_2)]) (rest := []) (lenOf pd_6 rfl) rfl (by show 2 * 0 + _ ≤ _; exact Nat.le_of_eq rfl) (hb hby at_157) (fun _ _ => ⟨rfl, e44, (by decide : 5 + 2 ≤ _), (by decide : 60 + 24 ≤ _)⟩)
              dsimp only [Pt.U, Pt.locs, Pt.cells, Pt.slots] at X45 l45 y45 z45 st45 hQ45 sn45 sg45
              subst y45 z45
              obtain ⟨hv45, N45q, ⟨O45, sz45⟩, ks45, vs45, M45, RR45⟩ := hQ45
              subst hv45
              have N45 : Fr n0 L45 := by rw [l45]; exact Fr.app N44 N45q
              obtain ⟨G45, hG45⟩ : ∃ z, z = own_upd G43 y7 (.ref w_2) := ⟨_, rfl⟩
              obtain ⟨nn45, hn45⟩ : ∃ z, z = (if G43 y7 = .null then nn43 + 1 else nn43) := ⟨_, rfl⟩
              rw [← hn45] at M45 RR45
              rw [← hG45] at RR45
              have bd45 : nn45 ≤ 2 := by rw [hn45]; split <;> omega
              have hZ45 : Z.Warmed39 (s.setVm T45.vm).vm := State.Warmed39.trans (t := s.setVm T43.vm) hZ43 sn45.1
              have sq45 : s.Since T45.vm T45.heap.size := State.Since.trans sq43 sn45 (Nat.le_trans (by rw [e44]; exact (Nat.le_refl _)) sg45)
              have hown45 : (s.setVm T45.vm).vm.findClass "com/example/rootlet/rootlet/IdMapIdsPinLaw" = some m.cls := by rw [show (s.setVm T45.vm).vm = T45.vm from rfl, sn45.1.alike.findClass]; exact hown43
              have Y45 : Stand p l e room_1 (s.setVm T45.vm) m #[(.long x1), (.long x2), (.long x3), (.int x4)] below meth c T45 _ 7 84 := X45
              refine own_go (fun tt_ kk_ => st45.trans kk_) ?_
              show Go p.tables e below _ (T45.setTop (mkF m 160 #[.val (.long x1), .second, .val (.long x2), .second, .val (.long x3), .second, .val (.int x4), .val (.long y7), .second, .val (.long y9), .second, .val (.int ((XT.ushr x4 (2 : Int32)) &&& (3 : Int32))), .val (.int (1 : Int32)), .val (.long y13), .second, .val (.ref b), .unset, .unset, .unset] [(G43 y7)]))
              refine own_go (fun tt_ kk_ => XT.pop Y45.here hx rfl (hb hby at_160) rfl (XT.cat1 (own_gref M43 RR43 _)) kk_) ?_
              show Go p.tables e below _ (T45.setTop (mkF m 161 #[.val (.long x1), .second, .val (.long x2), .second, .val (.long x3), .second, .val (.int x4), .val (.long y7), .second, .val (.long y9), .second, .val (.int ((XT.ushr x4 (2 : Int32)) &&& (3 : Int32))), .val (.int (1 : Int32)), .val (.long y13), .second, .val (.ref b), .unset, .unset, .unset] []))
              refine own_go (fun tt_ kk_ => XS.aload Y45.here hx rfl (hb hby at_161) rfl rfl kk_) ?_
              show Go p.tables e below _ (T45.setTop (mkF m 163 #[.val (.long x1), .second, .val (.long x2), .second, .val (.long x3), .second, .val (.int x4), .val (.long y7), .second, .val (.long y9), .second, .val (.int ((XT.ushr x4 (2 : Int32)) &&& (3 : Int32))), .val (.int (1 : Int32)), .val (.long y13), .second, .val (.ref b), .unset, .unset, .unset] [(.ref b)]))
              refine own_go (fun tt_ kk_ => XT.lload Y45.here hx rfl (hb hby at_163) rfl kk_) ?_
              show Go p.tables e below _ (T45.setTop (mkF m 165 #[.val (.long x1), .second, .val (.long x2), .second, .val (.long x3), .second, .val (.int x4), .val (.long y7), .second, .val (.long y9), .second, .val (.int ((XT.ushr x4 (2 : Int32)) &&& (3 : Int32))), .val (.int (1 : Int32)), .val (.long y13), .second, .val (.ref b), .unset, .unset, .unset] [(.long y9), (.ref b)]))
              refine own_go (fun tt_ kk_ => XS.iconst Y45.here hx rfl (hb hby at_165) kk_) ?_
              show Go p.tables e below _ (T45.setTop (mkF m 166 #[.val (.long x1), .second, .val (.long x2), .second, .val (.long x3), .second, .val (.int x4), .val (.long y7), .second, .val (.long y9), .second, .val (.int ((XT.ushr x4 (2 : Int32)) &&& (3 : Int32))), .val (.int (1 : Int32)), .val (.long y13), .second, .val (.ref b), .unset, .unset, .unset] [(.int (3 : Int32)), (.long y9), (.ref b)]))
              obtain ⟨v46, _, ⟨T46, L46, k46, n46⟩, -, X46, ⟨Lc46, hQ46, l46, y46, z46⟩, st46⟩ := Jvm.LawKit.callS Y45 hx (y := (⟨"java/lang/Integer", "valueOf", "(I)Ljava/lang/Integer;"⟩ : MethodName)) hown45 (mvT hZ45 (hw _ (List.mem_of_getElem? (i := 22) rfl))) (mvT hZ45 (hw _ (List.mem_of_getElem? (i := 23) rfl))) (mvT hZ45 (hw _ (List.mem_of_getElem? (i := 24) rfl))) (mvT hZ45 (hw _ (List.mem_of_getElem? (i := 25) rfl))) (by decide) (backOf (W := 3) (rm_valueOf l Z a0 hw [] (3 : Int32) ca w_3 ccl T45.heap n0 (S_high.ext O45.2) (S_cache.ext O45.2) (Arc.ext O45.2) (by decide) (by decide) (by rw [hcl]; decide) Bx_3) hZ45 (hw _ (List.mem_of_getElem? (i := 25) rfl)) (hw _ (List.mem_of_getElem? (i := 24) rfl)) (by decide) (by decide)) (g := (mkF m 166 #[.val (.long x1), .second, .val (.long x2), .second, .val (.long x3), .second, .val (.int x4), .val (.long y7), .second, .val (.long y9), .second, .val (.int ((XT.ushr x4 (2 : Int32)) &&& (3 : Int32))), .val (.int (1 : Int32)), .val (.long y13), .second, .val (.ref b), .unset, .unset, .unset] [(.int (3 : Int32)), (.long y9), (.ref b)])) rfl (by rw [hml]; rfl) (argsL := [(.int (3 : Int32))]) (rest := [(.long y9), (.ref b)]) (lenOf pd_5 rfl) rfl (by show 2 * 0 + _ ≤ _; exact Nat.le_of_eq rfl) (hb hby at_166) (fun _ _ => ⟨rfl, rfl, (by decide : 7 + 0 ≤ _), (by decide : 84 + 0 ≤ _)⟩)
              dsimp only [Pt.U, Pt.locs, Pt.cells, Pt.slots] at X46 l46 y46 z46 st46 hQ46
              subst y46 z46
              have XN46 : Stand p l e room_1 (s.setVm T45.vm) m #[(.long x1), (.long x2), (.long x3), (.int x4)] below meth c T46 _ 7 84 := X46
              obtain ⟨hv46, N46q, e46⟩ := hQ46
              subst hv46
              have N46 : Fr n0 L46 := by rw [l46]; exact Fr.app N45 N46q
              refine own_go (fun tt_ kk_ => st46 tt_ kk_) ?_
              show Go p.tables e below _ (T46.setTop (mkF m 169 #[.val (.long x1), .second, .val (.long x2), .second, .val (.long x3), .second, .val (.int x4), .val (.long y7), .second, .val (.long y9), .second, .val (.int ((XT.ushr x4 (2 : Int32)) &&& (3 : Int32))), .val (.int (1 : Int32)), .val (.long y13), .second, .val (.ref b), .unset, .unset, .unset] [(.ref w_3), (.long y9), (.ref b)]))
              obtain ⟨cq47, kq47, q47a, q47b, q47c⟩ := isOf hZ45 e46 M45.2.1
              obtain ⟨v47, _, ⟨T47, L47, k47, n47⟩, -, X47, sn47, sg47, ⟨Lc47, hQ47, l47, y47, z47⟩, st47⟩ := XN46.virtualBackS hx (y := (⟨"com/example/rootlet/rootlet/IdMap", "put", "(JLjava/lang/Object;)Ljava/lang/Object;"⟩ : MethodName)) (z := (⟨"com/example/rootlet/rootlet/IdMap", "put", "(JLjava/lang/Object;)Ljava/lang/Object;"⟩ : MethodName)) hown45 (mvT hZ45 (hw _ (List.mem_of_getElem? (i := 29) rfl))) (mvT hZ45 (hw _ (List.mem_of_getElem? (i := 30) rfl))) (notFace_of_selects (args := #[]) (mvT hZ45 (hw _ (List.mem_of_getElem? (i := 32) rfl)))) (mvT hZ45 (hw _ (List.mem_of_getElem? (i := 32) rfl))) (mvT hZ45 (hw _ (List.mem_of_getElem? (i := 31) rfl))) (by decide) (backOfS (W := 0) (rm_put l Z a0 hw [] b ka va ks45 vs45 G45 nn45 y9 w_3 T45.heap n0 M45 RR45 (by omega) O45 (Ew_3.ext O45.2)) hZ45 (hw _ (List.mem_of_getElem? (i := 33) rfl)) (hw _ (List.mem_of_getElem? (i := 2) rfl)) (by decide) (by decide)) q47a q47c (g := (mkF m 169 #[.val (.long x1), .second, .val (.long x2), .second, .val (.long x3), .second, .val (.int x4), .val (.long y7), .second, .val (.long y9), .second, .val (.int ((XT.ushr x4 (2 : Int32)) &&& (3 : Int32))), .val (.int (1 : Int32)), .val (.long y13), .second, .val (.ref b), .unset, .unset, .unset] [(.ref w_3), (.long y9), (.ref b)])) rfl (by rw [hml]; rfl) (Steps.refl _) (argsL := [(.long y9), (.ref w_3)]) (rest := []) (lenOf pd_6 rfl) rfl (by show 2 * 0 + _ ≤ _; exact Nat.le_of_eq rfl) (hb hby at_169) (fun _ _ => ⟨rfl, e46, (by decide : 7 + 2 ≤ _), (by decide : 84 + 24 ≤ _)⟩)
              dsimp only [Pt.U, Pt.locs, Pt.cells, Pt.slots] at X47 l47 y47 z47 st47 hQ47 sn47 sg47
              subst y47 z47
              obtain ⟨hv47, N47q, ⟨O47, sz47⟩, ks47, vs47, M47, RR47⟩ := hQ47
              subst hv47
              have N47 : Fr n0 L47 := by rw [l47]; exact Fr.app N46 N47q
              obtain ⟨G47, hG47⟩ : ∃ z, z = own_upd G45 y9 (.ref w_3) := ⟨_, rfl⟩
              obtain ⟨nn47, hn47⟩ : ∃ z, z = (if G45 y9 = .null then nn45 + 1 else nn45) := ⟨_, rfl⟩
              rw [← hn47] at M47 RR47
              rw [← hG47] at RR47
              have bd47 : nn47 ≤ 3 := by rw [hn47]; split <;> omega
              have hZ47 : Z.Warmed39 (s.setVm T47.vm).vm := State.Warmed39.trans (t := s.setVm T45.vm) hZ45 sn47.1
              have sq47 : s.Since T47.vm T47.heap.size := State.Since.trans sq45 sn47 (Nat.le_trans (by rw [e46]; exact (Nat.le_refl _)) sg47)
              have hown47 : (s.setVm T47.vm).vm.findClass "com/example/rootlet/rootlet/IdMapIdsPinLaw" = some m.cls := by rw [show (s.setVm T47.vm).vm = T47.vm from rfl, sn47.1.alike.findClass]; exact hown45
              have Y47 : Stand p l e room_1 (s.setVm T47.vm) m #[(.long x1), (.long x2), (.long x3), (.int x4)] below meth c T47 _ 9 108 := X47
              refine own_go (fun tt_ kk_ => st47.trans kk_) ?_
              show Go p.tables e below _ (T47.setTop (mkF m 172 #[.val (.long x1), .second, .val (.long x2), .second, .val (.long x3), .second, .val (.int x4), .val (.long y7), .second, .val (.long y9), .second, .val (.int ((XT.ushr x4 (2 : Int32)) &&& (3 : Int32))), .val (.int (1 : Int32)), .val (.long y13), .second, .val (.ref b), .unset, .unset, .unset] [(G45 y9)]))
              refine own_go (fun tt_ kk_ => XT.pop Y47.here hx rfl (hb hby at_172) rfl (XT.cat1 (own_gref M45 RR45 _)) kk_) ?_
              show Go p.tables e below _ (T47.setTop (mkF m 173 #[.val (.long x1), .second, .val (.long x2), .second, .val (.long x3), .second, .val (.int x4), .val (.long y7), .second, .val (.long y9), .second, .val (.int ((XT.ushr x4 (2 : Int32)) &&& (3 : Int32))), .val (.int (1 : Int32)), .val (.long y13), .second, .val (.ref b), .unset, .unset, .unset] []))
              refine own_go (fun tt_ kk_ => XS.iload Y47.here hx rfl (hb hby at_173) rfl kk_) ?_
              show Go p.tables e below _ (T47.setTop (mkF m 175 #[.val (.long x1), .second, .val (.long x2), .second, .val (.long x3), .second, .val (.int x4), .val (.long y7), .second, .val (.long y9), .second, .val (.int ((XT.ushr x4 (2 : Int32)) &&& (3 : Int32))), .val (.int (1 : Int32)), .val (.long y13), .second, .val (.ref b), .unset, .unset, .unset] [(.int (1 : Int32))]))
              refine own_go (fun tt_ kk_ => XS.ifNo Y47.here hx rfl (hb hby at_175) rfl (XT.i0_eq_f (by decide)) kk_) ?_
              show Go p.tables e below _ (T47.setTop (mkF m 178 #[.val (.long x1), .second, .val (.long x2), .second, .val (.long x3), .second, .val (.int x4), .val (.long y7), .second, .val (.long y9), .second, .val (.int ((XT.ushr x4 (2 : Int32)) &&& (3 : Int32))), .val (.int (1 : Int32)), .val (.long y13), .second, .val (.ref b), .unset, .unset, .unset] []))
              refine own_go (fun tt_ kk_ => XS.aload Y47.here hx rfl (hb hby at_178) rfl rfl kk_) ?_
              show Go p.tables e below _ (T47.setTop (mkF m 180 #[.val (.long x1), .second, .val (.long x2), .second, .val (.long x3), .second, .val (.int x4), .val (.long y7), .second, .val (.long y9), .second, .val (.int ((XT.ushr x4 (2 : Int32)) &&& (3 : Int32))), .val (.int (1 : Int32)), .val (.long y13), .second, .val (.ref b), .unset, .unset, .unset] [(.ref b)]))
              refine own_go (fun tt_ kk_ => XT.lload Y47.here hx rfl (hb hby at_180) rfl kk_) ?_
              show Go p.tables e below _ (T47.setTop (mkF m 182 #[.val (.long x1), .second, .val (.long x2), .second, .val (.long x3), .second, .val (.int x4), .val (.long y7), .second, .val (.long y9), .second, .val (.int ((XT.ushr x4 (2 : Int32)) &&& (3 : Int32))), .val (.int (1 : Int32)), .val (.long y13), .second, .val (.ref b), .unset, .unset, .unset] [(.long y13), (.ref b)]))
              obtain ⟨cq48, kq48, q48a, q48b, q48c⟩ := isOf hZ47 rfl M47.2.1
              obtain ⟨v48, _, ⟨T48, L48, k48, n48⟩, -, X48, ⟨Lc48, hQ48, l48, y48, z48⟩, st48⟩ := Y47.virtualBack hx (y := (⟨"com/example/rootlet/rootlet/IdMap", "remove", "(J)Ljava/lang/Object;"⟩ : MethodName)) (z := (⟨"com/example/rootlet/rootlet/IdMap", "remove", "(J)Ljava/lang/Object;"⟩ : MethodName)) hown47 (mvT hZ47 (hw _ (List.mem_of_getElem? (i := 70) rfl))) (mvT hZ47 (hw _ (List.mem_of_getElem? (i := 71) rfl))) (notFace_of_selects (args := #[]) (mvT hZ47 (hw _ (List.mem_of_getElem? (i := 73) rfl)))) (mvT hZ47 (hw _ (List.mem_of_getElem? (i := 73) rfl))) (mvT hZ47 (hw _ (List.mem_of_getElem? (i := 72) rfl))) (by decide) (backOf (W := 0) (rm_remove l Z a0 hw [] b ka va ks47 vs47 G47 nn47 y13 T47.heap n0 M47 RR47 (by omega) O47) hZ47 (hw _ (List.mem_of_getElem? (i := 74) rfl)) (hw _ (List.mem_of_getElem? (i := 2) rfl)) (by decide) (by decide)) q48a q48c (g := (mkF m 182 #[.val (.long x1), .second, .val (.long x2), .second, .val (.long x3), .second, .val (.int x4), .val (.long y7), .second, .val (.long y9), .second, .val (.int ((XT.ushr x4 (2 : Int32)) &&& (3 : Int32))), .val (.int (1 : Int32)), .val (.long y13), .second, .val (.ref b), .unset, .unset, .unset] [(.long y13), (.ref b)])) rfl (by rw [hml]; rfl) (Steps.refl _) (argsL := [(.long y13)]) (rest := []) (lenOf pd_7 rfl) rfl (by show 2 * 0 + _ ≤ _; exact Nat.le_of_eq rfl) (hb hby at_182) (fun _ _ => ⟨rfl, rfl, (by decide : 9 + 0 ≤ _), (by decide : 108 + 0 ≤ _)⟩)
              dsimp only [Pt.U, Pt.locs, Pt.cells, Pt.slots] at X48 l48 y48 z48 st48 hQ48
              subst y48 z48
              have XN48 : Stand p l e room_1 (s.setVm T47.vm) m #[(.long x1), (.long x2), (.long x3), (.int x4)] below meth c T48 _ 9 108 := X48
              obtain ⟨hv48, N48q, ⟨O48, sz48⟩, ks48, vs48, M48, RR48⟩ := hQ48
              subst hv48
              have N48 : Fr n0 L48 := by rw [l48]; exact Fr.app N47 N48q
              obtain ⟨G48, hG48⟩ : ∃ z, z = own_upd G47 y13 .null := ⟨_, rfl⟩
              obtain ⟨nn48, hn48⟩ : ∃ z, z = (if G47 y13 = .null then nn47 else nn47 - 1) := ⟨_, rfl⟩
              rw [← hn48] at M48 RR48
              rw [← hG48] at RR48
              have bd48 : nn48 ≤ 3 := by rw [hn48]; split <;> omega
              have kz48 : T47.heap.size ≤ T48.heap.size := Nat.le_trans (Nat.le_refl _) sz48
              refine own_go (fun tt_ kk_ => st48.trans kk_) ?_
              show Go p.tables e below _ (T48.setTop (mkF m 185 #[.val (.long x1), .second, .val (.long x2), .second, .val (.long x3), .second, .val (.int x4), .val (.long y7), .second, .val (.long y9), .second, .val (.int ((XT.ushr x4 (2 : Int32)) &&& (3 : Int32))), .val (.int (1 : Int32)), .val (.long y13), .second, .val (.ref b), .unset, .unset, .unset] [(G47 y13)]))
              refine own_go (fun tt_ kk_ => XT.pop XN48.here hx rfl (hb hby at_185) rfl (XT.cat1 (own_gref M47 RR47 _)) kk_) ?_
              show Go p.tables e below _ (T48.setTop (mkF m 186 #[.val (.long x1), .second, .val (.long x2), .second, .val (.long x3), .second, .val (.int x4), .val (.long y7), .second, .val (.long y9), .second, .val (.int ((XT.ushr x4 (2 : Int32)) &&& (3 : Int32))), .val (.int (1 : Int32)), .val (.long y13), .second, .val (.ref b), .unset, .unset, .unset] []))
              refine own_go (fun tt_ kk_ => XS.aload XN48.here hx rfl (hb hby at_186) rfl rfl kk_) ?_
              show Go p.tables e below _ (T48.setTop (mkF m 188 #[.val (.long x1), .second, .val (.long x2), .second, .val (.long x3), .second, .val (.int x4), .val (.long y7), .second, .val (.long y9), .second, .val (.int ((XT.ushr x4 (2 : Int32)) &&& (3 : Int32))), .val (.int (1 : Int32)), .val (.long y13), .second, .val (.ref b), .unset, .unset, .unset] [(.ref b)]))
              obtain ⟨cq49, kq49, q49a, q49b, q49c⟩ := isOf hZ47 rfl M48.2.1
              obtain ⟨v49, _, ⟨T49, L49, k49, n49⟩, -, X49, ⟨Lc49, hQ49, l49, y49, z49⟩, st49⟩ := XN48.virtualBack hx (y := (⟨"com/example/rootlet/rootlet/IdMap", "ids", "()[J"⟩ : MethodName)) (z := (⟨"com/example/rootlet/rootlet/IdMap", "ids", "()[J"⟩ : MethodName)) hown47 (mvT hZ47 (hw _ (List.mem_of_getElem? (i := 59) rfl))) (mvT hZ47 (hw _ (List.mem_of_getElem? (i := 60) rfl))) (notFace_of_selects (args := #[]) (mvT hZ47 (hw _ (List.mem_of_getElem? (i := 62) rfl)))) (mvT hZ47 (hw _ (List.mem_of_getElem? (i := 62) rfl))) (mvT hZ47 (hw _ (List.mem_of_getElem? (i := 61) rfl))) (by decide) (backOf (W := 0) (rm_ids l Z a0 hw [] b ka va ks48 vs48 G48 nn48 T48.heap n0 M48 RR48 (by omega) O48 (own_old_le O48)) hZ47 (hw _ (List.mem_of_getElem? (i := 63) rfl)) (hw _ (List.mem_of_getElem? (i := 2) rfl)) (by decide) (by decide)) q49a q49c (g := (mkF m 188 #[.val (.long x1), .second, .val (.long x2), .second, .val (.long x3), .second, .val (.int x4), .val (.long y7), .second, .val (.long y9), .second, .val (.int ((XT.ushr x4 (2 : Int32)) &&& (3 : Int32))), .val (.int (1 : Int32)), .val (.long y13), .second, .val (.ref b), .unset, .unset, .unset] [(.ref b)])) rfl (by rw [hml]; rfl) (Steps.refl _) (argsL := []) (rest := []) (lenOf pd_8 rfl) rfl (by show 2 * 0 + _ ≤ _; exact Nat.le_of_eq rfl) (hb hby at_188) (fun _ _ => ⟨rfl, rfl, (by decide : 9 + 1 ≤ _), (by decide : 108 + 8 ≤ _)⟩)
              dsimp only [Pt.U, Pt.locs, Pt.cells, Pt.slots] at X49 l49 y49 z49 st49 hQ49
              subst y49 z49
              have XN49 : Stand p l e room_1 (s.setVm T47.vm) m #[(.long x1), (.long x2), (.long x3), (.int x4)] below meth c T49 _ 10 116 := X49
              obtain ⟨ia, ci, out, hv49, N49q, ⟨O49, sz49⟩, Ai, szi, hati, hout, hinj⟩ := hQ49
              subst hv49
              have N49 : Fr n0 L49 := by rw [l49]; exact Fr.app N48 N49q
              have kz49 : T47.heap.size ≤ T49.heap.size := Nat.le_trans kz48 sz49
              refine own_go (fun tt_ kk_ => st49.trans kk_) ?_
              show Go p.tables e below _ (T49.setTop (mkF m 191 #[.val (.long x1), .second, .val (.long x2), .second, .val (.long x3), .second, .val (.int x4), .val (.long y7), .second, .val (.long y9), .second, .val (.int ((XT.ushr x4 (2 : Int32)) &&& (3 : Int32))), .val (.int (1 : Int32)), .val (.long y13), .second, .val (.ref b), .unset, .unset, .unset] [(.ref ia)]))
              refine own_go (fun tt_ kk_ => XS.astore XN49.here hx rfl (hb hby at_191) rfl rfl (l' := #[.val (.long x1), .second, .val (.long x2), .second, .val (.long x3), .second, .val (.int x4), .val (.long y7), .second, .val (.long y9), .second, .val (.int ((XT.ushr x4 (2 : Int32)) &&& (3 : Int32))), .val (.int (1 : Int32)), .val (.long y13), .second, .val (.ref b), .val (.ref ia), .unset, .unset]) rfl kk_) ?_
              show Go p.tables e below _ (T49.setTop (mkF m 193 #[.val (.long x1), .second, .val (.long x2), .second, .val (.long x3), .second, .val (.int x4), .val (.long y7), .second, .val (.long y9), .second, .val (.int ((XT.ushr x4 (2 : Int32)) &&& (3 : Int32))), .val (.int (1 : Int32)), .val (.long y13), .second, .val (.ref b), .val (.ref ia), .unset, .unset] []))
              refine own_go (fun tt_ kk_ => XS.iconst XN49.here hx rfl (hb hby at_193) kk_) ?_
              show Go p.tables e below _ (T49.setTop (mkF m 194 #[.val (.long x1), .second, .val (.long x2), .second, .val (.long x3), .second, .val (.int x4), .val (.long y7), .second, .val (.long y9), .second, .val (.int ((XT.ushr x4 (2 : Int32)) &&& (3 : Int32))), .val (.int (1 : Int32)), .val (.long y13), .second, .val (.ref b), .val (.ref ia), .unset, .unset] [(.int (1 : Int32))]))
              refine own_go (fun tt_ kk_ => XT.lload XN49.here hx rfl (hb hby at_194) rfl kk_) ?_
              show Go p.tables e below _ (T49.setTop (mkF m 196 #[.val (.long x1), .second, .val (.long x2), .second, .val (.long x3), .second, .val (.int x4), .val (.long y7), .second, .val (.long y9), .second, .val (.int ((XT.ushr x4 (2 : Int32)) &&& (3 : Int32))), .val (.int (1 : Int32)), .val (.long y13), .second, .val (.ref b), .val (.ref ia), .unset, .unset] [(.long y7), (.int (1 : Int32))]))
              refine own_go (fun tt_ kk_ => XT.lloadN XN49.here hx rfl (hb hby at_196) rfl kk_) ?_
              show Go p.tables e below _ (T49.setTop (mkF m 197 #[.val (.long x1), .second, .val (.long x2), .second, .val (.long x3), .second, .val (.int x4), .val (.long y7), .second, .val (.long y9), .second, .val (.int ((XT.ushr x4 (2 : Int32)) &&& (3 : Int32))), .val (.int (1 : Int32)), .val (.long y13), .second, .val (.ref b), .val (.ref ia), .unset, .unset] [(.long x1), (.long y7), (.int (1 : Int32))]))
              refine own_go (fun tt_ kk_ => XT.lcmp XN49.here hx rfl (hb hby at_197) rfl kk_) ?_
              show Go p.tables e below _ (T49.setTop (mkF m 198 #[.val (.long x1), .second, .val (.long x2), .second, .val (.long x3), .second, .val (.int x4), .val (.long y7), .second, .val (.long y9), .second, .val (.int ((XT.ushr x4 (2 : Int32)) &&& (3 : Int32))), .val (.int (1 : Int32)), .val (.long y13), .second, .val (.ref b), .val (.ref ia), .unset, .unset] [(.int (XT.cmpL y7 x1)), (.int (1 : Int32))]))
              by_cases hc50 : y7 = x1
              · refine own_go (fun tt_ kk_ => XS.ifYes XN49.here hx rfl (pc0 := 198) (pc' := 205) rfl (hb hby at_198) rfl (XT.ll_eq_t hc50) (by decide) (by decide) kk_) ?_
                show Go p.tables e below _ (T49.setTop (mkF m 205 #[.val (.long x1), .second, .val (.long x2), .second, .val (.long x3), .second, .val (.int x4), .val (.long y7), .second, .val (.long y9), .second, .val (.int ((XT.ushr x4 (2 : Int32)) &&& (3 : Int32))), .val (.int (1 : Int32)), .val (.long y13), .second, .val (.ref b), .val (.ref ia), .unset, .unset] [(.int (1 : Int32))]))
                refine own_go (fun tt_ kk_ => XS.iconst XN49.here hx rfl (hb hby at_205) kk_) ?_
                show Go p.tables e below _ (T49.setTop (mkF m 206 #[.val (.long x1), .second, .val (.long x2), .second, .val (.long x3), .second, .val (.int x4), .val (.long y7), .second, .val (.long y9), .second, .val (.int ((XT.ushr x4 (2 : Int32)) &&& (3 : Int32))), .val (.int (1 : Int32)), .val (.long y13), .second, .val (.ref b), .val (.ref ia), .unset, .unset] [(.int (0 : Int32)), (.int (1 : Int32))]))
                refine own_go (fun tt_ kk_ => XS.iadd XN49.here hx rfl (hb hby at_206) rfl kk_) ?_
                show Go p.tables e below _ (T49.setTop (mkF m 207 #[.val (.long x1), .second, .val (.long x2), .second, .val (.long x3), .second, .val (.int x4), .val (.long y7), .second, .val (.long y9), .second, .val (.int ((XT.ushr x4 (2 : Int32)) &&& (3 : Int32))), .val (.int (1 : Int32)), .val (.long y13), .second, .val (.ref b), .val (.ref ia), .unset, .unset] [(.int (1 : Int32))]))
                refine own_go (fun tt_ kk_ => XT.lload XN49.here hx rfl (hb hby at_207) rfl kk_) ?_
                show Go p.tables e below _ (T49.setTop (mkF m 209 #[.val (.long x1), .second, .val (.long x2), .second, .val (.long x3), .second, .val (.int x4), .val (.long y7), .second, .val (.long y9), .second, .val (.int ((XT.ushr x4 (2 : Int32)) &&& (3 : Int32))), .val (.int (1 : Int32)), .val (.long y13), .second, .val (.ref b), .val (.ref ia), .unset, .unset] [(.long y9), (.int (1 : Int32))]))
                refine own_go (fun tt_ kk_ => XT.lloadN XN49.here hx rfl (hb hby at_209) rfl kk_) ?_
                show Go p.tables e below _ (T49.setTop (mkF m 210 #[.val (.long x1), .second, .val (.long x2), .second, .val (.long x3), .second, .val (.int x4), .val (.long y7), .second, .val (.long y9), .second, .val (.int ((XT.ushr x4 (2 : Int32)) &&& (3 : Int32))), .val (.int (1 : Int32)), .val (.long y13), .second, .val (.ref b), .val (.ref ia), .unset, .unset] [(.long x1), (.long y9), (.int (1 : Int32))]))
                refine own_go (fun tt_ kk_ => XT.lcmp XN49.here hx rfl (hb hby at_210) rfl kk_) ?_
                show Go p.tables e below _ (T49.setTop (mkF m 211 #[.val (.long x1), .second, .val (.long x2), .second, .val (.long x3), .second, .val (.int x4), .val (.long y7), .second, .val (.long y9), .second, .val (.int ((XT.ushr x4 (2 : Int32)) &&& (3 : Int32))), .val (.int (1 : Int32)), .val (.long y13), .second, .val (.ref b), .val (.ref ia), .unset, .unset] [(.int (XT.cmpL y9 x1)), (.int (1 : Int32))]))
                by_cases hc51 : y9 = x1
                · refine own_go (fun tt_ kk_ => XS.ifYes XN49.here hx rfl (pc0 := 211) (pc' := 226) rfl (hb hby at_211) rfl (XT.ll_eq_t hc51) (by decide) (by decide) kk_) ?_
                  show Go p.tables e below _ (T49.setTop (mkF m 226 #[.val (.long x1), .second, .val (.long x2), .second, .val (.long x3), .second, .val (.int x4), .val (.long y7), .second, .val (.long y9), .second, .val (.int ((XT.ushr x4 (2 : Int32)) &&& (3 : Int32))), .val (.int (1 : Int32)), .val (.long y13), .second, .val (.ref b), .val (.ref ia), .unset, .unset] [(.int (1 : Int32))]))
                  refine own_go (fun tt_ kk_ => XS.iconst XN49.here hx rfl (hb hby at_226) kk_) ?_
                  show Go p.tables e below _ (T49.setTop (mkF m 227 #[.val (.long x1), .second, .val (.long x2), .second, .val (.long x3), .second, .val (.int x4), .val (.long y7), .second, .val (.long y9), .second, .val (.int ((XT.ushr x4 (2 : Int32)) &&& (3 : Int32))), .val (.int (1 : Int32)), .val (.long y13), .second, .val (.ref b), .val (.ref ia), .unset, .unset] [(.int (0 : Int32)), (.int (1 : Int32))]))
                  refine own_go (fun tt_ kk_ => XS.iadd XN49.here hx rfl (hb hby at_227) rfl kk_) ?_
                  show Go p.tables e below _ (T49.setTop (mkF m 228 #[.val (.long x1), .second, .val (.long x2), .second, .val (.long x3), .second, .val (.int x4), .val (.long y7), .second, .val (.long y9), .second, .val (.int ((XT.ushr x4 (2 : Int32)) &&& (3 : Int32))), .val (.int (1 : Int32)), .val (.long y13), .second, .val (.ref b), .val (.ref ia), .unset, .unset] [(.int (1 : Int32))]))
                  refine own_go (fun tt_ kk_ => XS.istore XN49.here hx rfl (hb hby at_228) rfl (l' := #[.val (.long x1), .second, .val (.long x2), .second, .val (.long x3), .second, .val (.int x4), .val (.long y7), .second, .val (.long y9), .second, .val (.int ((XT.ushr x4 (2 : Int32)) &&& (3 : Int32))), .val (.int (1 : Int32)), .val (.long y13), .second, .val (.ref b), .val (.ref ia), .val (.int (1 : Int32)), .unset]) rfl kk_) ?_
                  show Go p.tables e below _ (T49.setTop (mkF m 230 #[.val (.long x1), .second, .val (.long x2), .second, .val (.long x3), .second, .val (.int x4), .val (.long y7), .second, .val (.long y9), .second, .val (.int ((XT.ushr x4 (2 : Int32)) &&& (3 : Int32))), .val (.int (1 : Int32)), .val (.long y13), .second, .val (.ref b), .val (.ref ia), .val (.int (1 : Int32)), .unset] []))
                  refine own_go (fun tt_ kk_ => XS.iload XN49.here hx rfl (hb hby at_230) rfl kk_) ?_
                  show Go p.tables e below _ (T49.setTop (mkF m 232 #[.val (.long x1), .second, .val (.long x2), .second, .val (.long x3), .second, .val (.int x4), .val (.long y7), .second, .val (.long y9), .second, .val (.int ((XT.ushr x4 (2 : Int32)) &&& (3 : Int32))), .val (.int (1 : Int32)), .val (.long y13), .second, .val (.ref b), .val (.ref ia), .val (.int (1 : Int32)), .unset] [(.int (1 : Int32))]))
                  refine own_go (fun tt_ kk_ => XS.iload XN49.here hx rfl (hb hby at_232) rfl kk_) ?_
                  show Go p.tables e below _ (T49.setTop (mkF m 234 #[.val (.long x1), .second, .val (.long x2), .second, .val (.long x3), .second, .val (.int x4), .val (.long y7), .second, .val (.long y9), .second, .val (.int ((XT.ushr x4 (2 : Int32)) &&& (3 : Int32))), .val (.int (1 : Int32)), .val (.long y13), .second, .val (.ref b), .val (.ref ia), .val (.int (1 : Int32)), .unset] [(.int (1 : Int32)), (.int (1 : Int32))]))
                  refine own_go (fun tt_ kk_ => XS.ifNo XN49.here hx rfl (hb hby at_234) rfl (XT.i0_eq_f (by decide)) kk_) ?_
                  show Go p.tables e below _ (T49.setTop (mkF m 237 #[.val (.long x1), .second, .val (.long x2), .second, .val (.long x3), .second, .val (.int x4), .val (.long y7), .second, .val (.long y9), .second, .val (.int ((XT.ushr x4 (2 : Int32)) &&& (3 : Int32))), .val (.int (1 : Int32)), .val (.long y13), .second, .val (.ref b), .val (.ref ia), .val (.int (1 : Int32)), .unset] [(.int (1 : Int32))]))
                  refine own_go (fun tt_ kk_ => XS.iconst XN49.here hx rfl (hb hby at_237) kk_) ?_
                  show Go p.tables e below _ (T49.setTop (mkF m 238 #[.val (.long x1), .second, .val (.long x2), .second, .val (.long x3), .second, .val (.int x4), .val (.long y7), .second, .val (.long y9), .second, .val (.int ((XT.ushr x4 (2 : Int32)) &&& (3 : Int32))), .val (.int (1 : Int32)), .val (.long y13), .second, .val (.ref b), .val (.ref ia), .val (.int (1 : Int32)), .unset] [(.int (1 : Int32)), (.int (1 : Int32))]))
                  refine own_go (fun tt_ kk_ => XS.goto XN49.here hx rfl (pc0 := 238) (pc' := 242) rfl (hb hby at_238) (by decide) (by decide) kk_) ?_
                  show Go p.tables e below _ (T49.setTop (mkF m 242 #[.val (.long x1), .second, .val (.long x2), .second, .val (.long x3), .second, .val (.int x4), .val (.long y7), .second, .val (.long y9), .second, .val (.int ((XT.ushr x4 (2 : Int32)) &&& (3 : Int32))), .val (.int (1 : Int32)), .val (.long y13), .second, .val (.ref b), .val (.ref ia), .val (.int (1 : Int32)), .unset] [(.int (1 : Int32)), (.int (1 : Int32))]))
                  refine own_go (fun tt_ kk_ => XS.isub XN49.here hx rfl (hb hby at_242) rfl kk_) ?_
                  show Go p.tables e below _ (T49.setTop (mkF m 243 #[.val (.long x1), .second, .val (.long x2), .second, .val (.long x3), .second, .val (.int x4), .val (.long y7), .second, .val (.long y9), .second, .val (.int ((XT.ushr x4 (2 : Int32)) &&& (3 : Int32))), .val (.int (1 : Int32)), .val (.long y13), .second, .val (.ref b), .val (.ref ia), .val (.int (1 : Int32)), .unset] [(.int (0 : Int32))]))
                  refine own_go (fun tt_ kk_ => XS.istore XN49.here hx rfl (hb hby at_243) rfl (l' := #[.val (.long x1), .second, .val (.long x2), .second, .val (.long x3), .second, .val (.int x4), .val (.long y7), .second, .val (.long y9), .second, .val (.int ((XT.ushr x4 (2 : Int32)) &&& (3 : Int32))), .val (.int (1 : Int32)), .val (.long y13), .second, .val (.ref b), .val (.ref ia), .val (.int (1 : Int32)), .val (.int (0 : Int32))]) rfl kk_) ?_
                  show Go p.tables e below _ (T49.setTop (mkF m 245 #[.val (.long x1), .second, .val (.long x2), .second, .val (.long x3), .second, .val (.int x4), .val (.long y7), .second, .val (.long y9), .second, .val (.int ((XT.ushr x4 (2 : Int32)) &&& (3 : Int32))), .val (.int (1 : Int32)), .val (.long y13), .second, .val (.ref b), .val (.ref ia), .val (.int (1 : Int32)), .val (.int (0 : Int32))] []))
                  have d3 : own_dn3 x1 y7 y9 = 1 := by rw [own_dn3, if_pos hc50, if_pos hc51]
                  have hnk : nn48 = 0 := by
                    have g : G47 y13 ≠ .null := by rw [hG47, hG45, hG43, hG0]; exact fun z => own_has3.mp z hr13
                    rw [hn48, if_neg g, own_count3 hG0 hG43 hG45 hn43 hn45 hn47, d3]
                  refine own_go (fun tt_ kk_ => XS.aload XN49.here hx rfl (hb hby at_245) rfl rfl kk_) ?_
                  show Go p.tables e below _ (T49.setTop (mkF m 247 #[.val (.long x1), .second, .val (.long x2), .second, .val (.long x3), .second, .val (.int x4), .val (.long y7), .second, .val (.long y9), .second, .val (.int ((XT.ushr x4 (2 : Int32)) &&& (3 : Int32))), .val (.int (1 : Int32)), .val (.long y13), .second, .val (.ref b), .val (.ref ia), .val (.int (1 : Int32)), .val (.int (0 : Int32))] [(.ref ia)]))
                  refine own_go (fun tt_ kk_ => XN49.arraylength hx Ai.1 (State.isArrayOf_alike hZ47.alike Ai.2.1) (g := (mkF m 247 #[.val (.long x1), .second, .val (.long x2), .second, .val (.long x3), .second, .val (.int x4), .val (.long y7), .second, .val (.long y9), .second, .val (.int ((XT.ushr x4 (2 : Int32)) &&& (3 : Int32))), .val (.int (1 : Int32)), .val (.long y13), .second, .val (.ref b), .val (.ref ia), .val (.int (1 : Int32)), .val (.int (0 : Int32))] [(.ref ia)])) rfl rfl (hb hby at_247) tt_ (by rw [(show ci.slots.size.toInt32 = ix nn48 by rw [szi]; rfl)]; exact kk_)) ?_
                  show Go p.tables e below _ (T49.setTop (mkF m 248 #[.val (.long x1), .second, .val (.long x2), .second, .val (.long x3), .second, .val (.int x4), .val (.long y7), .second, .val (.long y9), .second, .val (.int ((XT.ushr x4 (2 : Int32)) &&& (3 : Int32))), .val (.int (1 : Int32)), .val (.long y13), .second, .val (.ref b), .val (.ref ia), .val (.int (1 : Int32)), .val (.int (0 : Int32))] [(.int (ix nn48))]))
                  refine own_go (fun tt_ kk_ => XS.iload XN49.here hx rfl (hb hby at_248) rfl kk_) ?_
                  show Go p.tables e below _ (T49.setTop (mkF m 250 #[.val (.long x1), .second, .val (.long x2), .second, .val (.long x3), .second, .val (.int x4), .val (.long y7), .second, .val (.long y9), .second, .val (.int ((XT.ushr x4 (2 : Int32)) &&& (3 : Int32))), .val (.int (1 : Int32)), .val (.long y13), .second, .val (.ref b), .val (.ref ia), .val (.int (1 : Int32)), .val (.int (0 : Int32))] [(.int (0 : Int32)), (.int (ix nn48))]))
                  refine own_go (fun tt_ kk_ => XS.icmpYes XN49.here hx rfl (pc0 := 250) (pc' := 255) rfl (hb hby at_250) rfl (XT.ii_eq_t (show ix nn48 = (0 : Int32) by rw [hnk]; rfl)) (by decide) (by decide) kk_) ?_
                  show Go p.tables e below _ (T49.setTop (mkF m 255 #[.val (.long x1), .second, .val (.long x2), .second, .val (.long x3), .second, .val (.int x4), .val (.long y7), .second, .val (.long y9), .second, .val (.int ((XT.ushr x4 (2 : Int32)) &&& (3 : Int32))), .val (.int (1 : Int32)), .val (.long y13), .second, .val (.ref b), .val (.ref ia), .val (.int (1 : Int32)), .val (.int (0 : Int32))] []))
                  refine own_go (fun tt_ kk_ => XS.iload XN49.here hx rfl (hb hby at_255) rfl kk_) ?_
                  show Go p.tables e below _ (T49.setTop (mkF m 257 #[.val (.long x1), .second, .val (.long x2), .second, .val (.long x3), .second, .val (.int x4), .val (.long y7), .second, .val (.long y9), .second, .val (.int ((XT.ushr x4 (2 : Int32)) &&& (3 : Int32))), .val (.int (1 : Int32)), .val (.long y13), .second, .val (.ref b), .val (.ref ia), .val (.int (1 : Int32)), .val (.int (0 : Int32))] [(.int (0 : Int32))]))
                  refine own_go (fun tt_ kk_ => XS.ifYes XN49.here hx rfl (pc0 := 257) (pc' := 281) rfl (hb hby at_257) rfl (XT.i0_le_t (by decide)) (by decide) (by decide) kk_) ?_
                  show Go p.tables e below _ (T49.setTop (mkF m 281 #[.val (.long x1), .second, .val (.long x2), .second, .val (.long x3), .second, .val (.int x4), .val (.long y7), .second, .val (.long y9), .second, .val (.int ((XT.ushr x4 (2 : Int32)) &&& (3 : Int32))), .val (.int (1 : Int32)), .val (.long y13), .second, .val (.ref b), .val (.ref ia), .val (.int (1 : Int32)), .val (.int (0 : Int32))] []))
                  refine own_go (fun tt_ kk_ => XS.iload XN49.here hx rfl (hb hby at_281) rfl kk_) ?_
                  show Go p.tables e below _ (T49.setTop (mkF m 283 #[.val (.long x1), .second, .val (.long x2), .second, .val (.long x3), .second, .val (.int x4), .val (.long y7), .second, .val (.long y9), .second, .val (.int ((XT.ushr x4 (2 : Int32)) &&& (3 : Int32))), .val (.int (1 : Int32)), .val (.long y13), .second, .val (.ref b), .val (.ref ia), .val (.int (1 : Int32)), .val (.int (0 : Int32))] [(.int (0 : Int32))]))
                  refine own_go (fun tt_ kk_ => XS.iconst XN49.here hx rfl (hb hby at_283) kk_) ?_
                  show Go p.tables e below _ (T49.setTop (mkF m 284 #[.val (.long x1), .second, .val (.long x2), .second, .val (.long x3), .second, .val (.int x4), .val (.long y7), .second, .val (.long y9), .second, .val (.int ((XT.ushr x4 (2 : Int32)) &&& (3 : Int32))), .val (.int (1 : Int32)), .val (.long y13), .second, .val (.ref b), .val (.ref ia), .val (.int (1 : Int32)), .val (.int (0 : Int32))] [(.int (1 : Int32)), (.int (0 : Int32))]))
                  refine own_go (fun tt_ kk_ => XS.icmpYes XN49.here hx rfl (pc0 := 284) (pc' := 308) rfl (hb hby at_284) rfl (XT.ii_le_t (by decide)) (by decide) (by decide) kk_) ?_
                  show Go p.tables e below _ (T49.setTop (mkF m 308 #[.val (.long x1), .second, .val (.long x2), .second, .val (.long x3), .second, .val (.int x4), .val (.long y7), .second, .val (.long y9), .second, .val (.int ((XT.ushr x4 (2 : Int32)) &&& (3 : Int32))), .val (.int (1 : Int32)), .val (.long y13), .second, .val (.ref b), .val (.ref ia), .val (.int (1 : Int32)), .val (.int (0 : Int32))] []))
                  refine own_go (fun tt_ kk_ => XS.iload XN49.here hx rfl (hb hby at_308) rfl kk_) ?_
                  show Go p.tables e below _ (T49.setTop (mkF m 310 #[.val (.long x1), .second, .val (.long x2), .second, .val (.long x3), .second, .val (.int x4), .val (.long y7), .second, .val (.long y9), .second, .val (.int ((XT.ushr x4 (2 : Int32)) &&& (3 : Int32))), .val (.int (1 : Int32)), .val (.long y13), .second, .val (.ref b), .val (.ref ia), .val (.int (1 : Int32)), .val (.int (0 : Int32))] [(.int (0 : Int32))]))
                  refine own_go (fun tt_ kk_ => XS.iconst XN49.here hx rfl (hb hby at_310) kk_) ?_
                  show Go p.tables e below _ (T49.setTop (mkF m 311 #[.val (.long x1), .second, .val (.long x2), .second, .val (.long x3), .second, .val (.int x4), .val (.long y7), .second, .val (.long y9), .second, .val (.int ((XT.ushr x4 (2 : Int32)) &&& (3 : Int32))), .val (.int (1 : Int32)), .val (.long y13), .second, .val (.ref b), .val (.ref ia), .val (.int (1 : Int32)), .val (.int (0 : Int32))] [(.int (2 : Int32)), (.int (0 : Int32))]))
                  refine own_go (fun tt_ kk_ => XS.icmpYes XN49.here hx rfl (pc0 := 311) (pc' := 335) rfl (hb hby at_311) rfl (XT.ii_le_t (by decide)) (by decide) (by decide) kk_) ?_
                  show Go p.tables e below _ (T49.setTop (mkF m 335 #[.val (.long x1), .second, .val (.long x2), .second, .val (.long x3), .second, .val (.int x4), .val (.long y7), .second, .val (.long y9), .second, .val (.int ((XT.ushr x4 (2 : Int32)) &&& (3 : Int32))), .val (.int (1 : Int32)), .val (.long y13), .second, .val (.ref b), .val (.ref ia), .val (.int (1 : Int32)), .val (.int (0 : Int32))] []))
                  refine own_go (fun tt_ kk_ => XS.iload XN49.here hx rfl (hb hby at_335) rfl kk_) ?_
                  show Go p.tables e below _ (T49.setTop (mkF m 337 #[.val (.long x1), .second, .val (.long x2), .second, .val (.long x3), .second, .val (.int x4), .val (.long y7), .second, .val (.long y9), .second, .val (.int ((XT.ushr x4 (2 : Int32)) &&& (3 : Int32))), .val (.int (1 : Int32)), .val (.long y13), .second, .val (.ref b), .val (.ref ia), .val (.int (1 : Int32)), .val (.int (0 : Int32))] [(.int (0 : Int32))]))
                  refine own_go (fun tt_ kk_ => XS.iconst XN49.here hx rfl (hb hby at_337) kk_) ?_
                  show Go p.tables e below _ (T49.setTop (mkF m 338 #[.val (.long x1), .second, .val (.long x2), .second, .val (.long x3), .second, .val (.int x4), .val (.long y7), .second, .val (.long y9), .second, .val (.int ((XT.ushr x4 (2 : Int32)) &&& (3 : Int32))), .val (.int (1 : Int32)), .val (.long y13), .second, .val (.ref b), .val (.ref ia), .val (.int (1 : Int32)), .val (.int (0 : Int32))] [(.int (1 : Int32)), (.int (0 : Int32))]))
                  refine own_go (fun tt_ kk_ => XS.icmpYes XN49.here hx rfl (pc0 := 338) (pc' := 355) rfl (hb hby at_338) rfl (XT.ii_le_t (by decide)) (by decide) (by decide) kk_) ?_
                  show Go p.tables e below _ (T49.setTop (mkF m 355 #[.val (.long x1), .second, .val (.long x2), .second, .val (.long x3), .second, .val (.int x4), .val (.long y7), .second, .val (.long y9), .second, .val (.int ((XT.ushr x4 (2 : Int32)) &&& (3 : Int32))), .val (.int (1 : Int32)), .val (.long y13), .second, .val (.ref b), .val (.ref ia), .val (.int (1 : Int32)), .val (.int (0 : Int32))] []))
                  refine own_go (fun tt_ kk_ => XS.iload XN49.here hx rfl (hb hby at_355) rfl kk_) ?_
                  show Go p.tables e below _ (T49.setTop (mkF m 357 #[.val (.long x1), .second, .val (.long x2), .second, .val (.long x3), .second, .val (.int x4), .val (.long y7), .second, .val (.long y9), .second, .val (.int ((XT.ushr x4 (2 : Int32)) &&& (3 : Int32))), .val (.int (1 : Int32)), .val (.long y13), .second, .val (.ref b), .val (.ref ia), .val (.int (1 : Int32)), .val (.int (0 : Int32))] [(.int (0 : Int32))]))
                  refine own_go (fun tt_ kk_ => XS.iconst XN49.here hx rfl (hb hby at_357) kk_) ?_
                  show Go p.tables e below _ (T49.setTop (mkF m 358 #[.val (.long x1), .second, .val (.long x2), .second, .val (.long x3), .second, .val (.int x4), .val (.long y7), .second, .val (.long y9), .second, .val (.int ((XT.ushr x4 (2 : Int32)) &&& (3 : Int32))), .val (.int (1 : Int32)), .val (.long y13), .second, .val (.ref b), .val (.ref ia), .val (.int (1 : Int32)), .val (.int (0 : Int32))] [(.int (2 : Int32)), (.int (0 : Int32))]))
                  refine own_go (fun tt_ kk_ => XS.icmpYes XN49.here hx rfl (pc0 := 358) (pc' := 387) rfl (hb hby at_358) rfl (XT.ii_le_t (by decide)) (by decide) (by decide) kk_) ?_
                  show Go p.tables e below _ (T49.setTop (mkF m 387 #[.val (.long x1), .second, .val (.long x2), .second, .val (.long x3), .second, .val (.int x4), .val (.long y7), .second, .val (.long y9), .second, .val (.int ((XT.ushr x4 (2 : Int32)) &&& (3 : Int32))), .val (.int (1 : Int32)), .val (.long y13), .second, .val (.ref b), .val (.ref ia), .val (.int (1 : Int32)), .val (.int (0 : Int32))] []))
                  refine own_go (fun tt_ kk_ => XS.iconst XN49.here hx rfl (hb hby at_387) kk_) ?_
                  show Go p.tables e below _ (T49.setTop (mkF m 388 #[.val (.long x1), .second, .val (.long x2), .second, .val (.long x3), .second, .val (.int x4), .val (.long y7), .second, .val (.long y9), .second, .val (.int ((XT.ushr x4 (2 : Int32)) &&& (3 : Int32))), .val (.int (1 : Int32)), .val (.long y13), .second, .val (.ref b), .val (.ref ia), .val (.int (1 : Int32)), .val (.int (0 : Int32))] [(.int (1 : Int32))]))
                  exact own_retW XN49 sq47 kz49 hx hlk Bd.returns rfl (Or.inl ⟨rfl, Or.inr (Or.inl rfl), _, rfl⟩) (hb hby at_388) ⟨rfl, N49⟩ (by decide) (by decide)
                · refine own_go (fun tt_ kk_ => XS.ifNo XN49.here hx rfl (hb hby at_211) rfl (XT.ll_eq_f hc51) kk_) ?_
                  show Go p.tables e below _ (T49.setTop (mkF m 214 #[.val (.long x1), .second, .val (.long x2), .second, .val (.long x3), .second, .val (.int x4), .val (.long y7), .second, .val (.long y9), .second, .val (.int ((XT.ushr x4 (2 : Int32)) &&& (3 : Int32))), .val (.int (1 : Int32)), .val (.long y13), .second, .val (.ref b), .val (.ref ia), .unset, .unset] [(.int (1 : Int32))]))
                  refine own_go (fun tt_ kk_ => XT.lload XN49.here hx rfl (hb hby at_214) rfl kk_) ?_
                  show Go p.tables e below _ (T49.setTop (mkF m 216 #[.val (.long x1), .second, .val (.long x2), .second, .val (.long x3), .second, .val (.int x4), .val (.long y7), .second, .val (.long y9), .second, .val (.int ((XT.ushr x4 (2 : Int32)) &&& (3 : Int32))), .val (.int (1 : Int32)), .val (.long y13), .second, .val (.ref b), .val (.ref ia), .unset, .unset] [(.long y9), (.int (1 : Int32))]))
                  refine own_go (fun tt_ kk_ => XT.lload XN49.here hx rfl (hb hby at_216) rfl kk_) ?_
                  show Go p.tables e below _ (T49.setTop (mkF m 218 #[.val (.long x1), .second, .val (.long x2), .second, .val (.long x3), .second, .val (.int x4), .val (.long y7), .second, .val (.long y9), .second, .val (.int ((XT.ushr x4 (2 : Int32)) &&& (3 : Int32))), .val (.int (1 : Int32)), .val (.long y13), .second, .val (.ref b), .val (.ref ia), .unset, .unset] [(.long y7), (.long y9), (.int (1 : Int32))]))
                  refine own_go (fun tt_ kk_ => XT.lcmp XN49.here hx rfl (hb hby at_218) rfl kk_) ?_
                  show Go p.tables e below _ (T49.setTop (mkF m 219 #[.val (.long x1), .second, .val (.long x2), .second, .val (.long x3), .second, .val (.int x4), .val (.long y7), .second, .val (.long y9), .second, .val (.int ((XT.ushr x4 (2 : Int32)) &&& (3 : Int32))), .val (.int (1 : Int32)), .val (.long y13), .second, .val (.ref b), .val (.ref ia), .unset, .unset] [(.int (XT.cmpL y9 y7)), (.int (1 : Int32))]))
                  by_cases hc52 : y9 = y7
                  · refine own_go (fun tt_ kk_ => XS.ifYes XN49.here hx rfl (pc0 := 219) (pc' := 226) rfl (hb hby at_219) rfl (XT.ll_eq_t hc52) (by decide) (by decide) kk_) ?_
                    show Go p.tables e below _ (T49.setTop (mkF m 226 #[.val (.long x1), .second, .val (.long x2), .second, .val (.long x3), .second, .val (.int x4), .val (.long y7), .second, .val (.long y9), .second, .val (.int ((XT.ushr x4 (2 : Int32)) &&& (3 : Int32))), .val (.int (1 : Int32)), .val (.long y13), .second, .val (.ref b), .val (.ref ia), .unset, .unset] [(.int (1 : Int32))]))
                    refine own_go (fun tt_ kk_ => XS.iconst XN49.here hx rfl (hb hby at_226) kk_) ?_
                    show Go p.tables e below _ (T49.setTop (mkF m 227 #[.val (.long x1), .second, .val (.long x2), .second, .val (.long x3), .second, .val (.int x4), .val (.long y7), .second, .val (.long y9), .second, .val (.int ((XT.ushr x4 (2 : Int32)) &&& (3 : Int32))), .val (.int (1 : Int32)), .val (.long y13), .second, .val (.ref b), .val (.ref ia), .unset, .unset] [(.int (0 : Int32)), (.int (1 : Int32))]))
                    refine own_go (fun tt_ kk_ => XS.iadd XN49.here hx rfl (hb hby at_227) rfl kk_) ?_
                    show Go p.tables e below _ (T49.setTop (mkF m 228 #[.val (.long x1), .second, .val (.long x2), .second, .val (.long x3), .second, .val (.int x4), .val (.long y7), .second, .val (.long y9), .second, .val (.int ((XT.ushr x4 (2 : Int32)) &&& (3 : Int32))), .val (.int (1 : Int32)), .val (.long y13), .second, .val (.ref b), .val (.ref ia), .unset, .unset] [(.int (1 : Int32))]))
                    refine own_go (fun tt_ kk_ => XS.istore XN49.here hx rfl (hb hby at_228) rfl (l' := #[.val (.long x1), .second, .val (.long x2), .second, .val (.long x3), .second, .val (.int x4), .val (.long y7), .second, .val (.long y9), .second, .val (.int ((XT.ushr x4 (2 : Int32)) &&& (3 : Int32))), .val (.int (1 : Int32)), .val (.long y13), .second, .val (.ref b), .val (.ref ia), .val (.int (1 : Int32)), .unset]) rfl kk_) ?_
                    show Go p.tables e below _ (T49.setTop (mkF m 230 #[.val (.long x1), .second, .val (.long x2), .second, .val (.long x3), .second, .val (.int x4), .val (.long y7), .second, .val (.long y9), .second, .val (.int ((XT.ushr x4 (2 : Int32)) &&& (3 : Int32))), .val (.int (1 : Int32)), .val (.long y13), .second, .val (.ref b), .val (.ref ia), .val (.int (1 : Int32)), .unset] []))
                    refine own_go (fun tt_ kk_ => XS.iload XN49.here hx rfl (hb hby at_230) rfl kk_) ?_
                    show Go p.tables e below _ (T49.setTop (mkF m 232 #[.val (.long x1), .second, .val (.long x2), .second, .val (.long x3), .second, .val (.int x4), .val (.long y7), .second, .val (.long y9), .second, .val (.int ((XT.ushr x4 (2 : Int32)) &&& (3 : Int32))), .val (.int (1 : Int32)), .val (.long y13), .second, .val (.ref b), .val (.ref ia), .val (.int (1 : Int32)), .unset] [(.int (1 : Int32))]))
                    refine own_go (fun tt_ kk_ => XS.iload XN49.here hx rfl (hb hby at_232) rfl kk_) ?_
                    show Go p.tables e below _ (T49.setTop (mkF m 234 #[.val (.long x1), .second, .val (.long x2), .second, .val (.long x3), .second, .val (.int x4), .val (.long y7), .second, .val (.long y9), .second, .val (.int ((XT.ushr x4 (2 : Int32)) &&& (3 : Int32))), .val (.int (1 : Int32)), .val (.long y13), .second, .val (.ref b), .val (.ref ia), .val (.int (1 : Int32)), .unset] [(.int (1 : Int32)), (.int (1 : Int32))]))
                    refine own_go (fun tt_ kk_ => XS.ifNo XN49.here hx rfl (hb hby at_234) rfl (XT.i0_eq_f (by decide)) kk_) ?_
                    show Go p.tables e below _ (T49.setTop (mkF m 237 #[.val (.long x1), .second, .val (.long x2), .second, .val (.long x3), .second, .val (.int x4), .val (.long y7), .second, .val (.long y9), .second, .val (.int ((XT.ushr x4 (2 : Int32)) &&& (3 : Int32))), .val (.int (1 : Int32)), .val (.long y13), .second, .val (.ref b), .val (.ref ia), .val (.int (1 : Int32)), .unset] [(.int (1 : Int32))]))
                    refine own_go (fun tt_ kk_ => XS.iconst XN49.here hx rfl (hb hby at_237) kk_) ?_
                    show Go p.tables e below _ (T49.setTop (mkF m 238 #[.val (.long x1), .second, .val (.long x2), .second, .val (.long x3), .second, .val (.int x4), .val (.long y7), .second, .val (.long y9), .second, .val (.int ((XT.ushr x4 (2 : Int32)) &&& (3 : Int32))), .val (.int (1 : Int32)), .val (.long y13), .second, .val (.ref b), .val (.ref ia), .val (.int (1 : Int32)), .unset] [(.int (1 : Int32)), (.int (1 : Int32))]))
                    refine own_go (fun tt_ kk_ => XS.goto XN49.here hx rfl (pc0 := 238) (pc' := 242) rfl (hb hby at_238) (by decide) (by decide) kk_) ?_
                    show Go p.tables e below _ (T49.setTop (mkF m 242 #[.val (.long x1), .second, .val (.long x2), .second, .val (.long x3), .second, .val (.int x4), .val (.long y7), .second, .val (.long y9), .second, .val (.int ((XT.ushr x4 (2 : Int32)) &&& (3 : Int32))), .val (.int (1 : Int32)), .val (.long y13), .second, .val (.ref b), .val (.ref ia), .val (.int (1 : Int32)), .unset] [(.int (1 : Int32)), (.int (1 : Int32))]))
                    refine own_go (fun tt_ kk_ => XS.isub XN49.here hx rfl (hb hby at_242) rfl kk_) ?_
                    show Go p.tables e below _ (T49.setTop (mkF m 243 #[.val (.long x1), .second, .val (.long x2), .second, .val (.long x3), .second, .val (.int x4), .val (.long y7), .second, .val (.long y9), .second, .val (.int ((XT.ushr x4 (2 : Int32)) &&& (3 : Int32))), .val (.int (1 : Int32)), .val (.long y13), .second, .val (.ref b), .val (.ref ia), .val (.int (1 : Int32)), .unset] [(.int (0 : Int32))]))
                    refine own_go (fun tt_ kk_ => XS.istore XN49.here hx rfl (hb hby at_243) rfl (l' := #[.val (.long x1), .second, .val (.long x2), .second, .val (.long x3), .second, .val (.int x4), .val (.long y7), .second, .val (.long y9), .second, .val (.int ((XT.ushr x4 (2 : Int32)) &&& (3 : Int32))), .val (.int (1 : Int32)), .val (.long y13), .second, .val (.ref b), .val (.ref ia), .val (.int (1 : Int32)), .val (.int (0 : Int32))]) rfl kk_) ?_
                    show Go p.tables e below _ (T49.setTop (mkF m 245 #[.val (.long x1), .second, .val (.long x2), .second, .val (.long x3), .second, .val (.int x4), .val (.long y7), .second, .val (.long y9), .second, .val (.int ((XT.ushr x4 (2 : Int32)) &&& (3 : Int32))), .val (.int (1 : Int32)), .val (.long y13), .second, .val (.ref b), .val (.ref ia), .val (.int (1 : Int32)), .val (.int (0 : Int32))] []))
                    have d3 : own_dn3 x1 y7 y9 = 1 := by rw [own_dn3, if_pos hc50, if_neg hc51, if_pos hc52]
                    have hnk : nn48 = 0 := by
                      have g : G47 y13 ≠ .null := by rw [hG47, hG45, hG43, hG0]; exact fun z => own_has3.mp z hr13
                      rw [hn48, if_neg g, own_count3 hG0 hG43 hG45 hn43 hn45 hn47, d3]
                    refine own_go (fun tt_ kk_ => XS.aload XN49.here hx rfl (hb hby at_245) rfl rfl kk_) ?_
                    show Go p.tables e below _ (T49.setTop (mkF m 247 #[.val (.long x1), .second, .val (.long x2), .second, .val (.long x3), .second, .val (.int x4), .val (.long y7), .second, .val (.long y9), .second, .val (.int ((XT.ushr x4 (2 : Int32)) &&& (3 : Int32))), .val (.int (1 : Int32)), .val (.long y13), .second, .val (.ref b), .val (.ref ia), .val (.int (1 : Int32)), .val (.int (0 : Int32))] [(.ref ia)]))
                    refine own_go (fun tt_ kk_ => XN49.arraylength hx Ai.1 (State.isArrayOf_alike hZ47.alike Ai.2.1) (g := (mkF m 247 #[.val (.long x1), .second, .val (.long x2), .second, .val (.long x3), .second, .val (.int x4), .val (.long y7), .second, .val (.long y9), .second, .val (.int ((XT.ushr x4 (2 : Int32)) &&& (3 : Int32))), .val (.int (1 : Int32)), .val (.long y13), .second, .val (.ref b), .val (.ref ia), .val (.int (1 : Int32)), .val (.int (0 : Int32))] [(.ref ia)])) rfl rfl (hb hby at_247) tt_ (by rw [(show ci.slots.size.toInt32 = ix nn48 by rw [szi]; rfl)]; exact kk_)) ?_
                    show Go p.tables e below _ (T49.setTop (mkF m 248 #[.val (.long x1), .second, .val (.long x2), .second, .val (.long x3), .second, .val (.int x4), .val (.long y7), .second, .val (.long y9), .second, .val (.int ((XT.ushr x4 (2 : Int32)) &&& (3 : Int32))), .val (.int (1 : Int32)), .val (.long y13), .second, .val (.ref b), .val (.ref ia), .val (.int (1 : Int32)), .val (.int (0 : Int32))] [(.int (ix nn48))]))
                    refine own_go (fun tt_ kk_ => XS.iload XN49.here hx rfl (hb hby at_248) rfl kk_) ?_
                    show Go p.tables e below _ (T49.setTop (mkF m 250 #[.val (.long x1), .second, .val (.long x2), .second, .val (.long x3), .second, .val (.int x4), .val (.long y7), .second, .val (.long y9), .second, .val (.int ((XT.ushr x4 (2 : Int32)) &&& (3 : Int32))), .val (.int (1 : Int32)), .val (.long y13), .second, .val (.ref b), .val (.ref ia), .val (.int (1 : Int32)), .val (.int (0 : Int32))] [(.int (0 : Int32)), (.int (ix nn48))]))
                    refine own_go (fun tt_ kk_ => XS.icmpYes XN49.here hx rfl (pc0 := 250) (pc' := 255) rfl (hb hby at_250) rfl (XT.ii_eq_t (show ix nn48 = (0 : Int32) by rw [hnk]; rfl)) (by decide) (by decide) kk_) ?_
                    show Go p.tables e below _ (T49.setTop (mkF m 255 #[.val (.long x1), .second, .val (.long x2), .second, .val (.long x3), .second, .val (.int x4), .val (.long y7), .second, .val (.long y9), .second, .val (.int ((XT.ushr x4 (2 : Int32)) &&& (3 : Int32))), .val (.int (1 : Int32)), .val (.long y13), .second, .val (.ref b), .val (.ref ia), .val (.int (1 : Int32)), .val (.int (0 : Int32))] []))
                    refine own_go (fun tt_ kk_ => XS.iload XN49.here hx rfl (hb hby at_255) rfl kk_) ?_
                    show Go p.tables e below _ (T49.setTop (mkF m 257 #[.val (.long x1), .second, .val (.long x2), .second, .val (.long x3), .second, .val (.int x4), .val (.long y7), .second, .val (.long y9), .second, .val (.int ((XT.ushr x4 (2 : Int32)) &&& (3 : Int32))), .val (.int (1 : Int32)), .val (.long y13), .second, .val (.ref b), .val (.ref ia), .val (.int (1 : Int32)), .val (.int (0 : Int32))] [(.int (0 : Int32))]))
                    refine own_go (fun tt_ kk_ => XS.ifYes XN49.here hx rfl (pc0 := 257) (pc' := 281) rfl (hb hby at_257) rfl (XT.i0_le_t (by decide)) (by decide) (by decide) kk_) ?_
                    show Go p.tables e below _ (T49.setTop (mkF m 281 #[.val (.long x1), .second, .val (.long x2), .second, .val (.long x3), .second, .val (.int x4), .val (.long y7), .second, .val (.long y9), .second, .val (.int ((XT.ushr x4 (2 : Int32)) &&& (3 : Int32))), .val (.int (1 : Int32)), .val (.long y13), .second, .val (.ref b), .val (.ref ia), .val (.int (1 : Int32)), .val (.int (0 : Int32))] []))
                    refine own_go (fun tt_ kk_ => XS.iload XN49.here hx rfl (hb hby at_281) rfl kk_) ?_
                    show Go p.tables e below _ (T49.setTop (mkF m 283 #[.val (.long x1), .second, .val (.long x2), .second, .val (.long x3), .second, .val (.int x4), .val (.long y7), .second, .val (.long y9), .second, .val (.int ((XT.ushr x4 (2 : Int32)) &&& (3 : Int32))), .val (.int (1 : Int32)), .val (.long y13), .second, .val (.ref b), .val (.ref ia), .val (.int (1 : Int32)), .val (.int (0 : Int32))] [(.int (0 : Int32))]))
                    refine own_go (fun tt_ kk_ => XS.iconst XN49.here hx rfl (hb hby at_283) kk_) ?_
                    show Go p.tables e below _ (T49.setTop (mkF m 284 #[.val (.long x1), .second, .val (.long x2), .second, .val (.long x3), .second, .val (.int x4), .val (.long y7), .second, .val (.long y9), .second, .val (.int ((XT.ushr x4 (2 : Int32)) &&& (3 : Int32))), .val (.int (1 : Int32)), .val (.long y13), .second, .val (.ref b), .val (.ref ia), .val (.int (1 : Int32)), .val (.int (0 : Int32))] [(.int (1 : Int32)), (.int (0 : Int32))]))
                    refine own_go (fun tt_ kk_ => XS.icmpYes XN49.here hx rfl (pc0 := 284) (pc' := 308) rfl (hb hby at_284) rfl (XT.ii_le_t (by decide)) (by decide) (by decide) kk_) ?_
                    show Go p.tables e below _ (T49.setTop (mkF m 308 #[.val (.long x1), .second, .val (.long x2), .second, .val (.long x3), .second, .val (.int x4), .val (.long y7), .second, .val (.long y9), .second, .val (.int ((XT.ushr x4 (2 : Int32)) &&& (3 : Int32))), .val (.int (1 : Int32)), .val (.long y13), .second, .val (.ref b), .val (.ref ia), .val (.int (1 : Int32)), .val (.int (0 : Int32))] []))
                    refine own_go (fun tt_ kk_ => XS.iload XN49.here hx rfl (hb hby at_308) rfl kk_) ?_
                    show Go p.tables e below _ (T49.setTop (mkF m 310 #[.val (.long x1), .second, .val (.long x2), .second, .val (.long x3), .second, .val (.int x4), .val (.long y7), .second, .val (.long y9), .second, .val (.int ((XT.ushr x4 (2 : Int32)) &&& (3 : Int32))), .val (.int (1 : Int32)), .val (.long y13), .second, .val (.ref b), .val (.ref ia), .val (.int (1 : Int32)), .val (.int (0 : Int32))] [(.int (0 : Int32))]))
                    refine own_go (fun tt_ kk_ => XS.iconst XN49.here hx rfl (hb hby at_310) kk_) ?_
                    show Go p.tables e below _ (T49.setTop (mkF m 311 #[.val (.long x1), .second, .val (.long x2), .second, .val (.long x3), .second, .val (.int x4), .val (.long y7), .second, .val (.long y9), .second, .val (.int ((XT.ushr x4 (2 : Int32)) &&& (3 : Int32))), .val (.int (1 : Int32)), .val (.long y13), .second, .val (.ref b), .val (.ref ia), .val (.int (1 : Int32)), .val (.int (0 : Int32))] [(.int (2 : Int32)), (.int (0 : Int32))]))
                    refine own_go (fun tt_ kk_ => XS.icmpYes XN49.here hx rfl (pc0 := 311) (pc' := 335) rfl (hb hby at_311) rfl (XT.ii_le_t (by decide)) (by decide) (by decide) kk_) ?_
                    show Go p.tables e below _ (T49.setTop (mkF m 335 #[.val (.long x1), .second, .val (.long x2), .second, .val (.long x3), .second, .val (.int x4), .val (.long y7), .second, .val (.long y9), .second, .val (.int ((XT.ushr x4 (2 : Int32)) &&& (3 : Int32))), .val (.int (1 : Int32)), .val (.long y13), .second, .val (.ref b), .val (.ref ia), .val (.int (1 : Int32)), .val (.int (0 : Int32))] []))
                    refine own_go (fun tt_ kk_ => XS.iload XN49.here hx rfl (hb hby at_335) rfl kk_) ?_
                    show Go p.tables e below _ (T49.setTop (mkF m 337 #[.val (.long x1), .second, .val (.long x2), .second, .val (.long x3), .second, .val (.int x4), .val (.long y7), .second, .val (.long y9), .second, .val (.int ((XT.ushr x4 (2 : Int32)) &&& (3 : Int32))), .val (.int (1 : Int32)), .val (.long y13), .second, .val (.ref b), .val (.ref ia), .val (.int (1 : Int32)), .val (.int (0 : Int32))] [(.int (0 : Int32))]))
                    refine own_go (fun tt_ kk_ => XS.iconst XN49.here hx rfl (hb hby at_337) kk_) ?_
                    show Go p.tables e below _ (T49.setTop (mkF m 338 #[.val (.long x1), .second, .val (.long x2), .second, .val (.long x3), .second, .val (.int x4), .val (.long y7), .second, .val (.long y9), .second, .val (.int ((XT.ushr x4 (2 : Int32)) &&& (3 : Int32))), .val (.int (1 : Int32)), .val (.long y13), .second, .val (.ref b), .val (.ref ia), .val (.int (1 : Int32)), .val (.int (0 : Int32))] [(.int (1 : Int32)), (.int (0 : Int32))]))
                    refine own_go (fun tt_ kk_ => XS.icmpYes XN49.here hx rfl (pc0 := 338) (pc' := 355) rfl (hb hby at_338) rfl (XT.ii_le_t (by decide)) (by decide) (by decide) kk_) ?_
                    show Go p.tables e below _ (T49.setTop (mkF m 355 #[.val (.long x1), .second, .val (.long x2), .second, .val (.long x3), .second, .val (.int x4), .val (.long y7), .second, .val (.long y9), .second, .val (.int ((XT.ushr x4 (2 : Int32)) &&& (3 : Int32))), .val (.int (1 : Int32)), .val (.long y13), .second, .val (.ref b), .val (.ref ia), .val (.int (1 : Int32)), .val (.int (0 : Int32))] []))
                    refine own_go (fun tt_ kk_ => XS.iload XN49.here hx rfl (hb hby at_355) rfl kk_) ?_
                    show Go p.tables e below _ (T49.setTop (mkF m 357 #[.val (.long x1), .second, .val (.long x2), .second, .val (.long x3), .second, .val (.int x4), .val (.long y7), .second, .val (.long y9), .second, .val (.int ((XT.ushr x4 (2 : Int32)) &&& (3 : Int32))), .val (.int (1 : Int32)), .val (.long y13), .second, .val (.ref b), .val (.ref ia), .val (.int (1 : Int32)), .val (.int (0 : Int32))] [(.int (0 : Int32))]))
                    refine own_go (fun tt_ kk_ => XS.iconst XN49.here hx rfl (hb hby at_357) kk_) ?_
                    show Go p.tables e below _ (T49.setTop (mkF m 358 #[.val (.long x1), .second, .val (.long x2), .second, .val (.long x3), .second, .val (.int x4), .val (.long y7), .second, .val (.long y9), .second, .val (.int ((XT.ushr x4 (2 : Int32)) &&& (3 : Int32))), .val (.int (1 : Int32)), .val (.long y13), .second, .val (.ref b), .val (.ref ia), .val (.int (1 : Int32)), .val (.int (0 : Int32))] [(.int (2 : Int32)), (.int (0 : Int32))]))
                    refine own_go (fun tt_ kk_ => XS.icmpYes XN49.here hx rfl (pc0 := 358) (pc' := 387) rfl (hb hby at_358) rfl (XT.ii_le_t (by decide)) (by decide) (by decide) kk_) ?_
                    show Go p.tables e below _ (T49.setTop (mkF m 387 #[.val (.long x1), .second, .val (.long x2), .second, .val (.long x3), .second, .val (.int x4), .val (.long y7), .second, .val (.long y9), .second, .val (.int ((XT.ushr x4 (2 : Int32)) &&& (3 : Int32))), .val (.int (1 : Int32)), .val (.long y13), .second, .val (.ref b), .val (.ref ia), .val (.int (1 : Int32)), .val (.int (0 : Int32))] []))
                    refine own_go (fun tt_ kk_ => XS.iconst XN49.here hx rfl (hb hby at_387) kk_) ?_
                    show Go p.tables e below _ (T49.setTop (mkF m 388 #[.val (.long x1), .second, .val (.long x2), .second, .val (.long x3), .second, .val (.int x4), .val (.long y7), .second, .val (.long y9), .second, .val (.int ((XT.ushr x4 (2 : Int32)) &&& (3 : Int32))), .val (.int (1 : Int32)), .val (.long y13), .second, .val (.ref b), .val (.ref ia), .val (.int (1 : Int32)), .val (.int (0 : Int32))] [(.int (1 : Int32))]))
                    exact own_retW XN49 sq47 kz49 hx hlk Bd.returns rfl (Or.inl ⟨rfl, Or.inr (Or.inl rfl), _, rfl⟩) (hb hby at_388) ⟨rfl, N49⟩ (by decide) (by decide)
                  · refine own_go (fun tt_ kk_ => XS.ifNo XN49.here hx rfl (hb hby at_219) rfl (XT.ll_eq_f hc52) kk_) ?_
                    show Go p.tables e below _ (T49.setTop (mkF m 222 #[.val (.long x1), .second, .val (.long x2), .second, .val (.long x3), .second, .val (.int x4), .val (.long y7), .second, .val (.long y9), .second, .val (.int ((XT.ushr x4 (2 : Int32)) &&& (3 : Int32))), .val (.int (1 : Int32)), .val (.long y13), .second, .val (.ref b), .val (.ref ia), .unset, .unset] [(.int (1 : Int32))]))
                    refine own_go (fun tt_ kk_ => XS.iconst XN49.here hx rfl (hb hby at_222) kk_) ?_
                    show Go p.tables e below _ (T49.setTop (mkF m 223 #[.val (.long x1), .second, .val (.long x2), .second, .val (.long x3), .second, .val (.int x4), .val (.long y7), .second, .val (.long y9), .second, .val (.int ((XT.ushr x4 (2 : Int32)) &&& (3 : Int32))), .val (.int (1 : Int32)), .val (.long y13), .second, .val (.ref b), .val (.ref ia), .unset, .unset] [(.int (1 : Int32)), (.int (1 : Int32))]))
                    refine own_go (fun tt_ kk_ => XS.goto XN49.here hx rfl (pc0 := 223) (pc' := 227) rfl (hb hby at_223) (by decide) (by decide) kk_) ?_
                    show Go p.tables e below _ (T49.setTop (mkF m 227 #[.val (.long x1), .second, .val (.long x2), .second, .val (.long x3), .second, .val (.int x4), .val (.long y7), .second, .val (.long y9), .second, .val (.int ((XT.ushr x4 (2 : Int32)) &&& (3 : Int32))), .val (.int (1 : Int32)), .val (.long y13), .second, .val (.ref b), .val (.ref ia), .unset, .unset] [(.int (1 : Int32)), (.int (1 : Int32))]))
                    refine own_go (fun tt_ kk_ => XS.iadd XN49.here hx rfl (hb hby at_227) rfl kk_) ?_
                    show Go p.tables e below _ (T49.setTop (mkF m 228 #[.val (.long x1), .second, .val (.long x2), .second, .val (.long x3), .second, .val (.int x4), .val (.long y7), .second, .val (.long y9), .second, .val (.int ((XT.ushr x4 (2 : Int32)) &&& (3 : Int32))), .val (.int (1 : Int32)), .val (.long y13), .second, .val (.ref b), .val (.ref ia), .unset, .unset] [(.int (2 : Int32))]))
                    refine own_go (fun tt_ kk_ => XS.istore XN49.here hx rfl (hb hby at_228) rfl (l' := #[.val (.long x1), .second, .val (.long x2), .second, .val (.long x3), .second, .val (.int x4), .val (.long y7), .second, .val (.long y9), .second, .val (.int ((XT.ushr x4 (2 : Int32)) &&& (3 : Int32))), .val (.int (1 : Int32)), .val (.long y13), .second, .val (.ref b), .val (.ref ia), .val (.int (2 : Int32)), .unset]) rfl kk_) ?_
                    show Go p.tables e below _ (T49.setTop (mkF m 230 #[.val (.long x1), .second, .val (.long x2), .second, .val (.long x3), .second, .val (.int x4), .val (.long y7), .second, .val (.long y9), .second, .val (.int ((XT.ushr x4 (2 : Int32)) &&& (3 : Int32))), .val (.int (1 : Int32)), .val (.long y13), .second, .val (.ref b), .val (.ref ia), .val (.int (2 : Int32)), .unset] []))
                    refine own_go (fun tt_ kk_ => XS.iload XN49.here hx rfl (hb hby at_230) rfl kk_) ?_
                    show Go p.tables e below _ (T49.setTop (mkF m 232 #[.val (.long x1), .second, .val (.long x2), .second, .val (.long x3), .second, .val (.int x4), .val (.long y7), .second, .val (.long y9), .second, .val (.int ((XT.ushr x4 (2 : Int32)) &&& (3 : Int32))), .val (.int (1 : Int32)), .val (.long y13), .second, .val (.ref b), .val (.ref ia), .val (.int (2 : Int32)), .unset] [(.int (2 : Int32))]))
                    refine own_go (fun tt_ kk_ => XS.iload XN49.here hx rfl (hb hby at_232) rfl kk_) ?_
                    show Go p.tables e below _ (T49.setTop (mkF m 234 #[.val (.long x1), .second, .val (.long x2), .second, .val (.long x3), .second, .val (.int x4), .val (.long y7), .second, .val (.long y9), .second, .val (.int ((XT.ushr x4 (2 : Int32)) &&& (3 : Int32))), .val (.int (1 : Int32)), .val (.long y13), .second, .val (.ref b), .val (.ref ia), .val (.int (2 : Int32)), .unset] [(.int (1 : Int32)), (.int (2 : Int32))]))
                    refine own_go (fun tt_ kk_ => XS.ifNo XN49.here hx rfl (hb hby at_234) rfl (XT.i0_eq_f (by decide)) kk_) ?_
                    show Go p.tables e below _ (T49.setTop (mkF m 237 #[.val (.long x1), .second, .val (.long x2), .second, .val (.long x3), .second, .val (.int x4), .val (.long y7), .second, .val (.long y9), .second, .val (.int ((XT.ushr x4 (2 : Int32)) &&& (3 : Int32))), .val (.int (1 : Int32)), .val (.long y13), .second, .val (.ref b), .val (.ref ia), .val (.int (2 : Int32)), .unset] [(.int (2 : Int32))]))
                    refine own_go (fun tt_ kk_ => XS.iconst XN49.here hx rfl (hb hby at_237) kk_) ?_
                    show Go p.tables e below _ (T49.setTop (mkF m 238 #[.val (.long x1), .second, .val (.long x2), .second, .val (.long x3), .second, .val (.int x4), .val (.long y7), .second, .val (.long y9), .second, .val (.int ((XT.ushr x4 (2 : Int32)) &&& (3 : Int32))), .val (.int (1 : Int32)), .val (.long y13), .second, .val (.ref b), .val (.ref ia), .val (.int (2 : Int32)), .unset] [(.int (1 : Int32)), (.int (2 : Int32))]))
                    refine own_go (fun tt_ kk_ => XS.goto XN49.here hx rfl (pc0 := 238) (pc' := 242) rfl (hb hby at_238) (by decide) (by decide) kk_) ?_
                    show Go p.tables e below _ (T49.setTop (mkF m 242 #[.val (.long x1), .second, .val (.long x2), .second, .val (.long x3), .second, .val (.int x4), .val (.long y7), .second, .val (.long y9), .second, .val (.int ((XT.ushr x4 (2 : Int32)) &&& (3 : Int32))), .val (.int (1 : Int32)), .val (.long y13), .second, .val (.ref b), .val (.ref ia), .val (.int (2 : Int32)), .unset] [(.int (1 : Int32)), (.int (2 : Int32))]))
                    refine own_go (fun tt_ kk_ => XS.isub XN49.here hx rfl (hb hby at_242) rfl kk_) ?_
                    show Go p.tables e below _ (T49.setTop (mkF m 243 #[.val (.long x1), .second, .val (.long x2), .second, .val (.long x3), .second, .val (.int x4), .val (.long y7), .second, .val (.long y9), .second, .val (.int ((XT.ushr x4 (2 : Int32)) &&& (3 : Int32))), .val (.int (1 : Int32)), .val (.long y13), .second, .val (.ref b), .val (.ref ia), .val (.int (2 : Int32)), .unset] [(.int (1 : Int32))]))
                    refine own_go (fun tt_ kk_ => XS.istore XN49.here hx rfl (hb hby at_243) rfl (l' := #[.val (.long x1), .second, .val (.long x2), .second, .val (.long x3), .second, .val (.int x4), .val (.long y7), .second, .val (.long y9), .second, .val (.int ((XT.ushr x4 (2 : Int32)) &&& (3 : Int32))), .val (.int (1 : Int32)), .val (.long y13), .second, .val (.ref b), .val (.ref ia), .val (.int (2 : Int32)), .val (.int (1 : Int32))]) rfl kk_) ?_
                    show Go p.tables e below _ (T49.setTop (mkF m 245 #[.val (.long x1), .second, .val (.long x2), .second, .val (.long x3), .second, .val (.int x4), .val (.long y7), .second, .val (.long y9), .second, .val (.int ((XT.ushr x4 (2 : Int32)) &&& (3 : Int32))), .val (.int (1 : Int32)), .val (.long y13), .second, .val (.ref b), .val (.ref ia), .val (.int (2 : Int32)), .val (.int (1 : Int32))] []))
                    have d3 : own_dn3 x1 y7 y9 = 2 := by rw [own_dn3, if_pos hc50, if_neg hc51, if_neg hc52]
                    have hnk : nn48 = 1 := by
                      have g : G47 y13 ≠ .null := by rw [hG47, hG45, hG43, hG0]; exact fun z => own_has3.mp z hr13
                      rw [hn48, if_neg g, own_count3 hG0 hG43 hG45 hn43 hn45 hn47, d3]
                    refine own_go (fun tt_ kk_ => XS.aload XN49.here hx rfl (hb hby at_245) rfl rfl kk_) ?_
                    show Go p.tables e below _ (T49.setTop (mkF m 247 #[.val (.long x1), .second, .val (.long x2), .second, .val (.long x3), .second, .val (.int x4), .val (.long y7), .second, .val (.long y9), .second, .val (.int ((XT.ushr x4 (2 : Int32)) &&& (3 : Int32))), .val (.int (1 : Int32)), .val (.long y13), .second, .val (.ref b), .val (.ref ia), .val (.int (2 : Int32)), .val (.int (1 : Int32))] [(.ref ia)]))
                    refine own_go (fun tt_ kk_ => XN49.arraylength hx Ai.1 (State.isArrayOf_alike hZ47.alike Ai.2.1) (g := (mkF m 247 #[.val (.long x1), .second, .val (.long x2), .second, .val (.long x3), .second, .val (.int x4), .val (.long y7), .second, .val (.long y9), .second, .val (.int ((XT.ushr x4 (2 : Int32)) &&& (3 : Int32))), .val (.int (1 : Int32)), .val (.long y13), .second, .val (.ref b), .val (.ref ia), .val (.int (2 : Int32)), .val (.int (1 : Int32))] [(.ref ia)])) rfl rfl (hb hby at_247) tt_ (by rw [(show ci.slots.size.toInt32 = ix nn48 by rw [szi]; rfl)]; exact kk_)) ?_
                    show Go p.tables e below _ (T49.setTop (mkF m 248 #[.val (.long x1), .second, .val (.long x2), .second, .val (.long x3), .second, .val (.int x4), .val (.long y7), .second, .val (.long y9), .second, .val (.int ((XT.ushr x4 (2 : Int32)) &&& (3 : Int32))), .val (.int (1 : Int32)), .val (.long y13), .second, .val (.ref b), .val (.ref ia), .val (.int (2 : Int32)), .val (.int (1 : Int32))] [(.int (ix nn48))]))
                    refine own_go (fun tt_ kk_ => XS.iload XN49.here hx rfl (hb hby at_248) rfl kk_) ?_
                    show Go p.tables e below _ (T49.setTop (mkF m 250 #[.val (.long x1), .second, .val (.long x2), .second, .val (.long x3), .second, .val (.int x4), .val (.long y7), .second, .val (.long y9), .second, .val (.int ((XT.ushr x4 (2 : Int32)) &&& (3 : Int32))), .val (.int (1 : Int32)), .val (.long y13), .second, .val (.ref b), .val (.ref ia), .val (.int (2 : Int32)), .val (.int (1 : Int32))] [(.int (1 : Int32)), (.int (ix nn48))]))
                    refine own_go (fun tt_ kk_ => XS.icmpYes XN49.here hx rfl (pc0 := 250) (pc' := 255) rfl (hb hby at_250) rfl (XT.ii_eq_t (show ix nn48 = (1 : Int32) by rw [hnk]; rfl)) (by decide) (by decide) kk_) ?_
                    show Go p.tables e below _ (T49.setTop (mkF m 255 #[.val (.long x1), .second, .val (.long x2), .second, .val (.long x3), .second, .val (.int x4), .val (.long y7), .second, .val (.long y9), .second, .val (.int ((XT.ushr x4 (2 : Int32)) &&& (3 : Int32))), .val (.int (1 : Int32)), .val (.long y13), .second, .val (.ref b), .val (.ref ia), .val (.int (2 : Int32)), .val (.int (1 : Int32))] []))
                    refine own_go (fun tt_ kk_ => XS.iload XN49.here hx rfl (hb hby at_255) rfl kk_) ?_
                    show Go p.tables e below _ (T49.setTop (mkF m 257 #[.val (.long x1), .second, .val (.long x2), .second, .val (.long x3), .second, .val (.int x4), .val (.long y7), .second, .val (.long y9), .second, .val (.int ((XT.ushr x4 (2 : Int32)) &&& (3 : Int32))), .val (.int (1 : Int32)), .val (.long y13), .second, .val (.ref b), .val (.ref ia), .val (.int (2 : Int32)), .val (.int (1 : Int32))] [(.int (1 : Int32))]))
                    refine own_go (fun tt_ kk_ => XS.ifNo XN49.here hx rfl (hb hby at_257) rfl (XT.i0_le_f (by decide)) kk_) ?_
                    show Go p.tables e below _ (T49.setTop (mkF m 260 #[.val (.long x1), .second, .val (.long x2), .second, .val (.long x3), .second, .val (.int x4), .val (.long y7), .second, .val (.long y9), .second, .val (.int ((XT.ushr x4 (2 : Int32)) &&& (3 : Int32))), .val (.int (1 : Int32)), .val (.long y13), .second, .val (.ref b), .val (.ref ia), .val (.int (2 : Int32)), .val (.int (1 : Int32))] []))
                    refine own_go (fun tt_ kk_ => XS.aload XN49.here hx rfl (hb hby at_260) rfl rfl kk_) ?_
                    show Go p.tables e below _ (T49.setTop (mkF m 262 #[.val (.long x1), .second, .val (.long x2), .second, .val (.long x3), .second, .val (.int x4), .val (.long y7), .second, .val (.long y9), .second, .val (.int ((XT.ushr x4 (2 : Int32)) &&& (3 : Int32))), .val (.int (1 : Int32)), .val (.long y13), .second, .val (.ref b), .val (.ref ia), .val (.int (2 : Int32)), .val (.int (1 : Int32))] [(.ref ia)]))
                    refine own_go (fun tt_ kk_ => XS.iconst XN49.here hx rfl (hb hby at_262) kk_) ?_
                    show Go p.tables e below _ (T49.setTop (mkF m 263 #[.val (.long x1), .second, .val (.long x2), .second, .val (.long x3), .second, .val (.int x4), .val (.long y7), .second, .val (.long y9), .second, .val (.int ((XT.ushr x4 (2 : Int32)) &&& (3 : Int32))), .val (.int (1 : Int32)), .val (.long y13), .second, .val (.ref b), .val (.ref ia), .val (.int (2 : Int32)), .val (.int (1 : Int32))] [(.int (0 : Int32)), (.ref ia)]))
                    refine own_go (fun tt_ kk_ => XN49.laload hx (j := (0 : Int32)) (v := (.long (out 0))) Ai.1 (State.isArrayOf_alike hZ47.alike Ai.2.1) Ai.2.2 (by rw [szi, hnk]; decide) (hati 0 (by omega)) (g := (mkF m 263 #[.val (.long x1), .second, .val (.long x2), .second, .val (.long x3), .second, .val (.int x4), .val (.long y7), .second, .val (.long y9), .second, .val (.int ((XT.ushr x4 (2 : Int32)) &&& (3 : Int32))), .val (.int (1 : Int32)), .val (.long y13), .second, .val (.ref b), .val (.ref ia), .val (.int (2 : Int32)), .val (.int (1 : Int32))] [(.int (0 : Int32)), (.ref ia)])) rfl rfl (hb hby at_263) tt_ kk_) ?_
                    show Go p.tables e below _ (T49.setTop (mkF m 264 #[.val (.long x1), .second, .val (.long x2), .second, .val (.long x3), .second, .val (.int x4), .val (.long y7), .second, .val (.long y9), .second, .val (.int ((XT.ushr x4 (2 : Int32)) &&& (3 : Int32))), .val (.int (1 : Int32)), .val (.long y13), .second, .val (.ref b), .val (.ref ia), .val (.int (2 : Int32)), .val (.int (1 : Int32))] [(.long (out 0))]))
                    refine own_go (fun tt_ kk_ => XT.lloadN XN49.here hx rfl (hb hby at_264) rfl kk_) ?_
                    show Go p.tables e below _ (T49.setTop (mkF m 265 #[.val (.long x1), .second, .val (.long x2), .second, .val (.long x3), .second, .val (.int x4), .val (.long y7), .second, .val (.long y9), .second, .val (.int ((XT.ushr x4 (2 : Int32)) &&& (3 : Int32))), .val (.int (1 : Int32)), .val (.long y13), .second, .val (.ref b), .val (.ref ia), .val (.int (2 : Int32)), .val (.int (1 : Int32))] [(.long x1), (.long (out 0))]))
                    refine own_go (fun tt_ kk_ => XT.lload XN49.here hx rfl (hb hby at_265) rfl kk_) ?_
                    show Go p.tables e below _ (T49.setTop (mkF m 267 #[.val (.long x1), .second, .val (.long x2), .second, .val (.long x3), .second, .val (.int x4), .val (.long y7), .second, .val (.long y9), .second, .val (.int ((XT.ushr x4 (2 : Int32)) &&& (3 : Int32))), .val (.int (1 : Int32)), .val (.long y13), .second, .val (.ref b), .val (.ref ia), .val (.int (2 : Int32)), .val (.int (1 : Int32))] [(.long y7), (.long x1), (.long (out 0))]))
                    refine own_go (fun tt_ kk_ => XT.lload XN49.here hx rfl (hb hby at_267) rfl kk_) ?_
                    show Go p.tables e below _ (T49.setTop (mkF m 269 #[.val (.long x1), .second, .val (.long x2), .second, .val (.long x3), .second, .val (.int x4), .val (.long y7), .second, .val (.long y9), .second, .val (.int ((XT.ushr x4 (2 : Int32)) &&& (3 : Int32))), .val (.int (1 : Int32)), .val (.long y13), .second, .val (.ref b), .val (.ref ia), .val (.int (2 : Int32)), .val (.int (1 : Int32))] [(.long y9), (.long y7), (.long x1), (.long (out 0))]))
                    refine own_go (fun tt_ kk_ => XS.iload XN49.here hx rfl (hb hby at_269) rfl kk_) ?_
                    show Go p.tables e below _ (T49.setTop (mkF m 271 #[.val (.long x1), .second, .val (.long x2), .second, .val (.long x3), .second, .val (.int x4), .val (.long y7), .second, .val (.long y9), .second, .val (.int ((XT.ushr x4 (2 : Int32)) &&& (3 : Int32))), .val (.int (1 : Int32)), .val (.long y13), .second, .val (.ref b), .val (.ref ia), .val (.int (2 : Int32)), .val (.int (1 : Int32))] [(.int (1 : Int32)), (.long y9), (.long y7), (.long x1), (.long (out 0))]))
                    refine own_go (fun tt_ kk_ => XT.lload XN49.here hx rfl (hb hby at_271) rfl kk_) ?_
                    show Go p.tables e below _ (T49.setTop (mkF m 273 #[.val (.long x1), .second, .val (.long x2), .second, .val (.long x3), .second, .val (.int x4), .val (.long y7), .second, .val (.long y9), .second, .val (.int ((XT.ushr x4 (2 : Int32)) &&& (3 : Int32))), .val (.int (1 : Int32)), .val (.long y13), .second, .val (.ref b), .val (.ref ia), .val (.int (2 : Int32)), .val (.int (1 : Int32))] [(.long y13), (.int (1 : Int32)), (.long y9), (.long y7), (.long x1), (.long (out 0))]))
                    have hj53 := hout 0 (by omega)
                    rw [hG48, hG47, hG45, hG43, hG0] at hj53
                    have hs53 : (out 0) = x1 ∨ (out 0) = y7 ∨ (out 0) = y9 := Classical.byContradiction fun z => hj53 (own_gone.mpr (Or.inr (own_has3.mpr z)))
                    obtain ⟨v54, _, ⟨T54, L54, k54, n54⟩, -, X54, ⟨Lc54, hQ54, l54, y54, z54⟩, st54⟩ := Jvm.LawKit.callS XN49 hx (y := (⟨"com/example/rootlet/rootlet/IdMapIdsPinLaw", "expected", "(JJJJZJ)Z"⟩ : MethodName)) hown47 (mvT hZ47 (hw _ (List.mem_of_getElem? (i := 64) rfl))) (mvT hZ47 (hw _ (List.mem_of_getElem? (i := 65) rfl))) (mvT hZ47 (hw _ (List.mem_of_getElem? (i := 66) rfl))) (mvT hZ47 (hw _ (List.mem_of_getElem? (i := 67) rfl))) (by decide) (backOf (W := 0) (rm_expected l Z a0 hw [] (out 0) x1 y7 y9 (1 : Int32) y13 T49.heap n0) hZ47 (hw _ (List.mem_of_getElem? (i := 67) rfl)) (hw _ (List.mem_of_getElem? (i := 66) rfl)) (by decide) (by decide)) (g := (mkF m 273 #[.val (.long x1), .second, .val (.long x2), .second, .val (.long x3), .second, .val (.int x4), .val (.long y7), .second, .val (.long y9), .second, .val (.int ((XT.ushr x4 (2 : Int32)) &&& (3 : Int32))), .val (.int (1 : Int32)), .val (.long y13), .second, .val (.ref b), .val (.ref ia), .val (.int (2 : Int32)), .val (.int (1 : Int32))] [(.long y13), (.int (1 : Int32)), (.long y9), (.long y7), (.long x1), (.long (out 0))])) rfl (by rw [hml]; rfl) (argsL := [(.long (out 0)), (.long x1), (.long y7), (.long y9), (.int (1 : Int32)), (.long y13)]) (rest := []) (lenOf pd_9 rfl) rfl (by show 2 * 0 + _ ≤ _; exact Nat.le_of_eq rfl) (hb hby at_273) (fun _ _ => ⟨rfl, rfl, (by decide : 10 + 0 ≤ _), (by decide : 116 + 0 ≤ _)⟩)
                    dsimp only [Pt.U, Pt.locs, Pt.cells, Pt.slots] at X54 l54 y54 z54 st54 hQ54
                    subst y54 z54
                    have XN54 : Stand p l e room_1 (s.setVm T47.vm) m #[(.long x1), (.long x2), (.long x3), (.int x4)] below meth c T54 _ 10 116 := X54
                    obtain ⟨hv54, N54q, e54⟩ := hQ54
                    rw [show ((.int (own_expd (out 0) x1 y7 y9 (1 : Int32) y13)) : Value) = (.int (1 : Int32)) from congrArg Value.int (own_expd_one hs53 (Or.inr (fun z => hj53 (own_gone.mpr (Or.inl z)))))] at hv54
                    subst hv54
                    have N54 : Fr n0 L54 := by rw [l54]; exact Fr.app N49 N54q
                    refine own_go (fun tt_ kk_ => st54 tt_ kk_) ?_
                    show Go p.tables e below _ (T54.setTop (mkF m 276 #[.val (.long x1), .second, .val (.long x2), .second, .val (.long x3), .second, .val (.int x4), .val (.long y7), .second, .val (.long y9), .second, .val (.int ((XT.ushr x4 (2 : Int32)) &&& (3 : Int32))), .val (.int (1 : Int32)), .val (.long y13), .second, .val (.ref b), .val (.ref ia), .val (.int (2 : Int32)), .val (.int (1 : Int32))] [(.int (1 : Int32))]))
                    refine own_go (fun tt_ kk_ => XS.ifYes XN54.here hx rfl (pc0 := 276) (pc' := 281) rfl (hb hby at_276) rfl (XT.i0_ne_t (by decide)) (by decide) (by decide) kk_) ?_
                    show Go p.tables e below _ (T54.setTop (mkF m 281 #[.val (.long x1), .second, .val (.long x2), .second, .val (.long x3), .second, .val (.int x4), .val (.long y7), .second, .val (.long y9), .second, .val (.int ((XT.ushr x4 (2 : Int32)) &&& (3 : Int32))), .val (.int (1 : Int32)), .val (.long y13), .second, .val (.ref b), .val (.ref ia), .val (.int (2 : Int32)), .val (.int (1 : Int32))] []))
                    refine own_go (fun tt_ kk_ => XS.iload XN54.here hx rfl (hb hby at_281) rfl kk_) ?_
                    show Go p.tables e below _ (T54.setTop (mkF m 283 #[.val (.long x1), .second, .val (.long x2), .second, .val (.long x3), .second, .val (.int x4), .val (.long y7), .second, .val (.long y9), .second, .val (.int ((XT.ushr x4 (2 : Int32)) &&& (3 : Int32))), .val (.int (1 : Int32)), .val (.long y13), .second, .val (.ref b), .val (.ref ia), .val (.int (2 : Int32)), .val (.int (1 : Int32))] [(.int (1 : Int32))]))
                    refine own_go (fun tt_ kk_ => XS.iconst XN54.here hx rfl (hb hby at_283) kk_) ?_
                    show Go p.tables e below _ (T54.setTop (mkF m 284 #[.val (.long x1), .second, .val (.long x2), .second, .val (.long x3), .second, .val (.int x4), .val (.long y7), .second, .val (.long y9), .second, .val (.int ((XT.ushr x4 (2 : Int32)) &&& (3 : Int32))), .val (.int (1 : Int32)), .val (.long y13), .second, .val (.ref b), .val (.ref ia), .val (.int (2 : Int32)), .val (.int (1 : Int32))] [(.int (1 : Int32)), (.int (1 : Int32))]))
                    refine own_go (fun tt_ kk_ => XS.icmpYes XN54.here hx rfl (pc0 := 284) (pc' := 308) rfl (hb hby at_284) rfl (XT.ii_le_t (by decide)) (by decide) (by decide) kk_) ?_
                    show Go p.tables e below _ (T54.setTop (mkF m 308 #[.val (.long x1), .second, .val (.long x2), .second, .val (.long x3), .second, .val (.int x4), .val (.long y7), .second, .val (.long y9), .second, .val (.int ((XT.ushr x4 (2 : Int32)) &&& (3 : Int32))), .val (.int (1 : Int32)), .val (.long y13), .second, .val (.ref b), .val (.ref ia), .val (.int (2 : Int32)), .val (.int (1 : Int32))] []))
                    refine own_go (fun tt_ kk_ => XS.iload XN54.here hx rfl (hb hby at_308) rfl kk_) ?_
                    show Go p.tables e below _ (T54.setTop (mkF m 310 #[.val (.long x1), .second, .val (.long x2), .second, .val (.long x3), .second, .val (.int x4), .val (.long y7), .second, .val (.long y9), .second, .val (.int ((XT.ushr x4 (2 : Int32)) &&& (3 : Int32))), .val (.int (1 : Int32)), .val (.long y13), .second, .val (.ref b), .val (.ref ia), .val (.int (2 : Int32)), .val (.int (1 : Int32))] [(.int (1 : Int32))]))
                    refine own_go (fun tt_ kk_ => XS.iconst XN54.here hx rfl (hb hby at_310) kk_) ?_
                    show Go p.tables e below _ (T54.setTop (mkF m 311 #[.val (.long x1), .second, .val (.long x2), .second, .val (.long x3), .second, .val (.int x4), .val (.long y7), .second, .val (.long y9), .second, .val (.int ((XT.ushr x4 (2 : Int32)) &&& (3 : Int32))), .val (.int (1 : Int32)), .val (.long y13), .second, .val (.ref b), .val (.ref ia), .val (.int (2 : Int32)), .val (.int (1 : Int32))] [(.int (2 : Int32)), (.int (1 : Int32))]))
                    refine own_go (fun tt_ kk_ => XS.icmpYes XN54.here hx rfl (pc0 := 311) (pc' := 335) rfl (hb hby at_311) rfl (XT.ii_le_t (by decide)) (by decide) (by decide) kk_) ?_
                    show Go p.tables e below _ (T54.setTop (mkF m 335 #[.val (.long x1), .second, .val (.long x2), .second, .val (.long x3), .second, .val (.int x4), .val (.long y7), .second, .val (.long y9), .second, .val (.int ((XT.ushr x4 (2 : Int32)) &&& (3 : Int32))), .val (.int (1 : Int32)), .val (.long y13), .second, .val (.ref b), .val (.ref ia), .val (.int (2 : Int32)), .val (.int (1 : Int32))] []))
                    refine own_go (fun tt_ kk_ => XS.iload XN54.here hx rfl (hb hby at_335) rfl kk_) ?_
                    show Go p.tables e below _ (T54.setTop (mkF m 337 #[.val (.long x1), .second, .val (.long x2), .second, .val (.long x3), .second, .val (.int x4), .val (.long y7), .second, .val (.long y9), .second, .val (.int ((XT.ushr x4 (2 : Int32)) &&& (3 : Int32))), .val (.int (1 : Int32)), .val (.long y13), .second, .val (.ref b), .val (.ref ia), .val (.int (2 : Int32)), .val (.int (1 : Int32))] [(.int (1 : Int32))]))
                    refine own_go (fun tt_ kk_ => XS.iconst XN54.here hx rfl (hb hby at_337) kk_) ?_
                    show Go p.tables e below _ (T54.setTop (mkF m 338 #[.val (.long x1), .second, .val (.long x2), .second, .val (.long x3), .second, .val (.int x4), .val (.long y7), .second, .val (.long y9), .second, .val (.int ((XT.ushr x4 (2 : Int32)) &&& (3 : Int32))), .val (.int (1 : Int32)), .val (.long y13), .second, .val (.ref b), .val (.ref ia), .val (.int (2 : Int32)), .val (.int (1 : Int32))] [(.int (1 : Int32)), (.int (1 : Int32))]))
                    refine own_go (fun tt_ kk_ => XS.icmpYes XN54.here hx rfl (pc0 := 338) (pc' := 355) rfl (hb hby at_338) rfl (XT.ii_le_t (by decide)) (by decide) (by decide) kk_) ?_
                    show Go p.tables e below _ (T54.setTop (mkF m 355 #[.val (.long x1), .second, .val (.long x2), .second, .val (.long x3), .second, .val (.int x4), .val (.long y7), .second, .val (.long y9), .second, .val (.int ((XT.ushr x4 (2 : Int32)) &&& (3 : Int32))), .val (.int (1 : Int32)), .val (.long y13), .second, .val (.ref b), .val (.ref ia), .val (.int (2 : Int32)), .val (.int (1 : Int32))] []))
                    refine own_go (fun tt_ kk_ => XS.iload XN54.here hx rfl (hb hby at_355) rfl kk_) ?_
                    show Go p.tables e below _ (T54.setTop (mkF m 357 #[.val (.long x1), .second, .val (.long x2), .second, .val (.long x3), .second, .val (.int x4), .val (.long y7), .second, .val (.long y9), .second, .val (.int ((XT.ushr x4 (2 : Int32)) &&& (3 : Int32))), .val (.int (1 : Int32)), .val (.long y13), .second, .val (.ref b), .val (.ref ia), .val (.int (2 : Int32)), .val (.int (1 : Int32))] [(.int (1 : Int32))]))
                    refine own_go (fun tt_ kk_ => XS.iconst XN54.here hx rfl (hb hby at_357) kk_) ?_
                    show Go p.tables e below _ (T54.setTop (mkF m 358 #[.val (.long x1), .second, .val (.long x2), .second, .val (.long x3), .second, .val (.int x4), .val (.long y7), .second, .val (.long y9), .second, .val (.int ((XT.ushr x4 (2 : Int32)) &&& (3 : Int32))), .val (.int (1 : Int32)), .val (.long y13), .second, .val (.ref b), .val (.ref ia), .val (.int (2 : Int32)), .val (.int (1 : Int32))] [(.int (2 : Int32)), (.int (1 : Int32))]))
                    refine own_go (fun tt_ kk_ => XS.icmpYes XN54.here hx rfl (pc0 := 358) (pc' := 387) rfl (hb hby at_358) rfl (XT.ii_le_t (by decide)) (by decide) (by decide) kk_) ?_
                    show Go p.tables e below _ (T54.setTop (mkF m 387 #[.val (.long x1), .second, .val (.long x2), .second, .val (.long x3), .second, .val (.int x4), .val (.long y7), .second, .val (.long y9), .second, .val (.int ((XT.ushr x4 (2 : Int32)) &&& (3 : Int32))), .val (.int (1 : Int32)), .val (.long y13), .second, .val (.ref b), .val (.ref ia), .val (.int (2 : Int32)), .val (.int (1 : Int32))] []))
                    refine own_go (fun tt_ kk_ => XS.iconst XN54.here hx rfl (hb hby at_387) kk_) ?_
                    show Go p.tables e below _ (T54.setTop (mkF m 388 #[.val (.long x1), .second, .val (.long x2), .second, .val (.long x3), .second, .val (.int x4), .val (.long y7), .second, .val (.long y9), .second, .val (.int ((XT.ushr x4 (2 : Int32)) &&& (3 : Int32))), .val (.int (1 : Int32)), .val (.long y13), .second, .val (.ref b), .val (.ref ia), .val (.int (2 : Int32)), .val (.int (1 : Int32))] [(.int (1 : Int32))]))
                    exact own_retW XN54 sq47 (by rw [e54]; exact kz49) hx hlk Bd.returns rfl (Or.inl ⟨rfl, Or.inr (Or.inl rfl), _, rfl⟩) (hb hby at_388) ⟨rfl, N54⟩ (by decide) (by decide)
              · refine own_go (fun tt_ kk_ => XS.ifNo XN49.here hx rfl (hb hby at_198) rfl (XT.ll_eq_f hc50) kk_) ?_
                show Go p.tables e below _ (T49.setTop (mkF m 201 #[.val (.long x1), .second, .val (.long x2), .second, .val (.long x3), .second, .val (.int x4), .val (.long y7), .second, .val (.long y9), .second, .val (.int ((XT.ushr x4 (2 : Int32)) &&& (3 : Int32))), .val (.int (1 : Int32)), .val (.long y13), .second, .val (.ref b), .val (.ref ia), .unset, .unset] [(.int (1 : Int32))]))
                refine own_go (fun tt_ kk_ => XS.iconst XN49.here hx rfl (hb hby at_201) kk_) ?_
                show Go p.tables e below _ (T49.setTop (mkF m 202 #[.val (.long x1), .second, .val (.long x2), .second, .val (.long x3), .second, .val (.int x4), .val (.long y7), .second, .val (.long y9), .second, .val (.int ((XT.ushr x4 (2 : Int32)) &&& (3 : Int32))), .val (.int (1 : Int32)), .val (.long y13), .second, .val (.ref b), .val (.ref ia), .unset, .unset] [(.int (1 : Int32)), (.int (1 : Int32))]))
                refine own_go (fun tt_ kk_ => XS.goto XN49.here hx rfl (pc0 := 202) (pc' := 206) rfl (hb hby at_202) (by decide) (by decide) kk_) ?_
                show Go p.tables e below _ (T49.setTop (mkF m 206 #[.val (.long x1), .second, .val (.long x2), .second, .val (.long x3), .second, .val (.int x4), .val (.long y7), .second, .val (.long y9), .second, .val (.int ((XT.ushr x4 (2 : Int32)) &&& (3 : Int32))), .val (.int (1 : Int32)), .val (.long y13), .second, .val (.ref b), .val (.ref ia), .unset, .unset] [(.int (1 : Int32)), (.int (1 : Int32))]))
                refine own_go (fun tt_ kk_ => XS.iadd XN49.here hx rfl (hb hby at_206) rfl kk_) ?_
                show Go p.tables e below _ (T49.setTop (mkF m 207 #[.val (.long x1), .second, .val (.long x2), .second, .val (.long x3), .second, .val (.int x4), .val (.long y7), .second, .val (.long y9), .second, .val (.int ((XT.ushr x4 (2 : Int32)) &&& (3 : Int32))), .val (.int (1 : Int32)), .val (.long y13), .second, .val (.ref b), .val (.ref ia), .unset, .unset] [(.int (2 : Int32))]))
                refine own_go (fun tt_ kk_ => XT.lload XN49.here hx rfl (hb hby at_207) rfl kk_) ?_
                show Go p.tables e below _ (T49.setTop (mkF m 209 #[.val (.long x1), .second, .val (.long x2), .second, .val (.long x3), .second, .val (.int x4), .val (.long y7), .second, .val (.long y9), .second, .val (.int ((XT.ushr x4 (2 : Int32)) &&& (3 : Int32))), .val (.int (1 : Int32)), .val (.long y13), .second, .val (.ref b), .val (.ref ia), .unset, .unset] [(.long y9), (.int (2 : Int32))]))
                refine own_go (fun tt_ kk_ => XT.lloadN XN49.here hx rfl (hb hby at_209) rfl kk_) ?_
                show Go p.tables e below _ (T49.setTop (mkF m 210 #[.val (.long x1), .second, .val (.long x2), .second, .val (.long x3), .second, .val (.int x4), .val (.long y7), .second, .val (.long y9), .second, .val (.int ((XT.ushr x4 (2 : Int32)) &&& (3 : Int32))), .val (.int (1 : Int32)), .val (.long y13), .second, .val (.ref b), .val (.ref ia), .unset, .unset] [(.long x1), (.long y9), (.int (2 : Int32))]))
                refine own_go (fun tt_ kk_ => XT.lcmp XN49.here hx rfl (hb hby at_210) rfl kk_) ?_
                show Go p.tables e below _ (T49.setTop (mkF m 211 #[.val (.long x1), .second, .val (.long x2), .second, .val (.long x3), .second, .val (.int x4), .val (.long y7), .second, .val (.long y9), .second, .val (.int ((XT.ushr x4 (2 : Int32)) &&& (3 : Int32))), .val (.int (1 : Int32)), .val (.long y13), .second, .val (.ref b), .val (.ref ia), .unset, .unset] [(.int (XT.cmpL y9 x1)), (.int (2 : Int32))]))
                by_cases hc55 : y9 = x1
                · refine own_go (fun tt_ kk_ => XS.ifYes XN49.here hx rfl (pc0 := 211) (pc' := 226) rfl (hb hby at_211) rfl (XT.ll_eq_t hc55) (by decide) (by decide) kk_) ?_
                  show Go p.tables e below _ (T49.setTop (mkF m 226 #[.val (.long x1), .second, .val (.long x2), .second, .val (.long x3), .second, .val (.int x4), .val (.long y7), .second, .val (.long y9), .second, .val (.int ((XT.ushr x4 (2 : Int32)) &&& (3 : Int32))), .val (.int (1 : Int32)), .val (.long y13), .second, .val (.ref b), .val (.ref ia), .unset, .unset] [(.int (2 : Int32))]))
                  refine own_go (fun tt_ kk_ => XS.iconst XN49.here hx rfl (hb hby at_226) kk_) ?_
                  show Go p.tables e below _ (T49.setTop (mkF m 227 #[.val (.long x1), .second, .val (.long x2), .second, .val (.long x3), .second, .val (.int x4), .val (.long y7), .second, .val (.long y9), .second, .val (.int ((XT.ushr x4 (2 : Int32)) &&& (3 : Int32))), .val (.int (1 : Int32)), .val (.long y13), .second, .val (.ref b), .val (.ref ia), .unset, .unset] [(.int (0 : Int32)), (.int (2 : Int32))]))
                  refine own_go (fun tt_ kk_ => XS.iadd XN49.here hx rfl (hb hby at_227) rfl kk_) ?_
                  show Go p.tables e below _ (T49.setTop (mkF m 228 #[.val (.long x1), .second, .val (.long x2), .second, .val (.long x3), .second, .val (.int x4), .val (.long y7), .second, .val (.long y9), .second, .val (.int ((XT.ushr x4 (2 : Int32)) &&& (3 : Int32))), .val (.int (1 : Int32)), .val (.long y13), .second, .val (.ref b), .val (.ref ia), .unset, .unset] [(.int (2 : Int32))]))
                  refine own_go (fun tt_ kk_ => XS.istore XN49.here hx rfl (hb hby at_228) rfl (l' := #[.val (.long x1), .second, .val (.long x2), .second, .val (.long x3), .second, .val (.int x4), .val (.long y7), .second, .val (.long y9), .second, .val (.int ((XT.ushr x4 (2 : Int32)) &&& (3 : Int32))), .val (.int (1 : Int32)), .val (.long y13), .second, .val (.ref b), .val (.ref ia), .val (.int (2 : Int32)), .unset]) rfl kk_) ?_
                  show Go p.tables e below _ (T49.setTop (mkF m 230 #[.val (.long x1), .second, .val (.long x2), .second, .val (.long x3), .second, .val (.int x4), .val (.long y7), .second, .val (.long y9), .second, .val (.int ((XT.ushr x4 (2 : Int32)) &&& (3 : Int32))), .val (.int (1 : Int32)), .val (.long y13), .second, .val (.ref b), .val (.ref ia), .val (.int (2 : Int32)), .unset] []))
                  refine own_go (fun tt_ kk_ => XS.iload XN49.here hx rfl (hb hby at_230) rfl kk_) ?_
                  show Go p.tables e below _ (T49.setTop (mkF m 232 #[.val (.long x1), .second, .val (.long x2), .second, .val (.long x3), .second, .val (.int x4), .val (.long y7), .second, .val (.long y9), .second, .val (.int ((XT.ushr x4 (2 : Int32)) &&& (3 : Int32))), .val (.int (1 : Int32)), .val (.long y13), .second, .val (.ref b), .val (.ref ia), .val (.int (2 : Int32)), .unset] [(.int (2 : Int32))]))
                  refine own_go (fun tt_ kk_ => XS.iload XN49.here hx rfl (hb hby at_232) rfl kk_) ?_
                  show Go p.tables e below _ (T49.setTop (mkF m 234 #[.val (.long x1), .second, .val (.long x2), .second, .val (.long x3), .second, .val (.int x4), .val (.long y7), .second, .val (.long y9), .second, .val (.int ((XT.ushr x4 (2 : Int32)) &&& (3 : Int32))), .val (.int (1 : Int32)), .val (.long y13), .second, .val (.ref b), .val (.ref ia), .val (.int (2 : Int32)), .unset] [(.int (1 : Int32)), (.int (2 : Int32))]))
                  refine own_go (fun tt_ kk_ => XS.ifNo XN49.here hx rfl (hb hby at_234) rfl (XT.i0_eq_f (by decide)) kk_) ?_
                  show Go p.tables e below _ (T49.setTop (mkF m 237 #[.val (.long x1), .second, .val (.long x2), .second, .val (.long x3), .second, .val (.int x4), .val (.long y7), .second, .val (.long y9), .second, .val (.int ((XT.ushr x4 (2 : Int32)) &&& (3 : Int32))), .val (.int (1 : Int32)), .val (.long y13), .second, .val (.ref b), .val (.ref ia), .val (.int (2 : Int32)), .unset] [(.int (2 : Int32))]))
                  refine own_go (fun tt_ kk_ => XS.iconst XN49.here hx rfl (hb hby at_237) kk_) ?_
                  show Go p.tables e below _ (T49.setTop (mkF m 238 #[.val (.long x1), .second, .val (.long x2), .second, .val (.long x3), .second, .val (.int x4), .val (.long y7), .second, .val (.long y9), .second, .val (.int ((XT.ushr x4 (2 : Int32)) &&& (3 : Int32))), .val (.int (1 : Int32)), .val (.long y13), .second, .val (.ref b), .val (.ref ia), .val (.int (2 : Int32)), .unset] [(.int (1 : Int32)), (.int (2 : Int32))]))
                  refine own_go (fun tt_ kk_ => XS.goto XN49.here hx rfl (pc0 := 238) (pc' := 242) rfl (hb hby at_238) (by decide) (by decide) kk_) ?_
                  show Go p.tables e below _ (T49.setTop (mkF m 242 #[.val (.long x1), .second, .val (.long x2), .second, .val (.long x3), .second, .val (.int x4), .val (.long y7), .second, .val (.long y9), .second, .val (.int ((XT.ushr x4 (2 : Int32)) &&& (3 : Int32))), .val (.int (1 : Int32)), .val (.long y13), .second, .val (.ref b), .val (.ref ia), .val (.int (2 : Int32)), .unset] [(.int (1 : Int32)), (.int (2 : Int32))]))
                  refine own_go (fun tt_ kk_ => XS.isub XN49.here hx rfl (hb hby at_242) rfl kk_) ?_
                  show Go p.tables e below _ (T49.setTop (mkF m 243 #[.val (.long x1), .second, .val (.long x2), .second, .val (.long x3), .second, .val (.int x4), .val (.long y7), .second, .val (.long y9), .second, .val (.int ((XT.ushr x4 (2 : Int32)) &&& (3 : Int32))), .val (.int (1 : Int32)), .val (.long y13), .second, .val (.ref b), .val (.ref ia), .val (.int (2 : Int32)), .unset] [(.int (1 : Int32))]))
                  refine own_go (fun tt_ kk_ => XS.istore XN49.here hx rfl (hb hby at_243) rfl (l' := #[.val (.long x1), .second, .val (.long x2), .second, .val (.long x3), .second, .val (.int x4), .val (.long y7), .second, .val (.long y9), .second, .val (.int ((XT.ushr x4 (2 : Int32)) &&& (3 : Int32))), .val (.int (1 : Int32)), .val (.long y13), .second, .val (.ref b), .val (.ref ia), .val (.int (2 : Int32)), .val (.int (1 : Int32))]) rfl kk_) ?_
                  show Go p.tables e below _ (T49.setTop (mkF m 245 #[.val (.long x1), .second, .val (.long x2), .second, .val (.long x3), .second, .val (.int x4), .val (.long y7), .second, .val (.long y9), .second, .val (.int ((XT.ushr x4 (2 : Int32)) &&& (3 : Int32))), .val (.int (1 : Int32)), .val (.long y13), .second, .val (.ref b), .val (.ref ia), .val (.int (2 : Int32)), .val (.int (1 : Int32))] []))
                  have d3 : own_dn3 x1 y7 y9 = 2 := by rw [own_dn3, if_neg hc50, if_pos hc55]
                  have hnk : nn48 = 1 := by
                    have g : G47 y13 ≠ .null := by rw [hG47, hG45, hG43, hG0]; exact fun z => own_has3.mp z hr13
                    rw [hn48, if_neg g, own_count3 hG0 hG43 hG45 hn43 hn45 hn47, d3]
                  refine own_go (fun tt_ kk_ => XS.aload XN49.here hx rfl (hb hby at_245) rfl rfl kk_) ?_
                  show Go p.tables e below _ (T49.setTop (mkF m 247 #[.val (.long x1), .second, .val (.long x2), .second, .val (.long x3), .second, .val (.int x4), .val (.long y7), .second, .val (.long y9), .second, .val (.int ((XT.ushr x4 (2 : Int32)) &&& (3 : Int32))), .val (.int (1 : Int32)), .val (.long y13), .second, .val (.ref b), .val (.ref ia), .val (.int (2 : Int32)), .val (.int (1 : Int32))] [(.ref ia)]))
                  refine own_go (fun tt_ kk_ => XN49.arraylength hx Ai.1 (State.isArrayOf_alike hZ47.alike Ai.2.1) (g := (mkF m 247 #[.val (.long x1), .second, .val (.long x2), .second, .val (.long x3), .second, .val (.int x4), .val (.long y7), .second, .val (.long y9), .second, .val (.int ((XT.ushr x4 (2 : Int32)) &&& (3 : Int32))), .val (.int (1 : Int32)), .val (.long y13), .second, .val (.ref b), .val (.ref ia), .val (.int (2 : Int32)), .val (.int (1 : Int32))] [(.ref ia)])) rfl rfl (hb hby at_247) tt_ (by rw [(show ci.slots.size.toInt32 = ix nn48 by rw [szi]; rfl)]; exact kk_)) ?_
                  show Go p.tables e below _ (T49.setTop (mkF m 248 #[.val (.long x1), .second, .val (.long x2), .second, .val (.long x3), .second, .val (.int x4), .val (.long y7), .second, .val (.long y9), .second, .val (.int ((XT.ushr x4 (2 : Int32)) &&& (3 : Int32))), .val (.int (1 : Int32)), .val (.long y13), .second, .val (.ref b), .val (.ref ia), .val (.int (2 : Int32)), .val (.int (1 : Int32))] [(.int (ix nn48))]))
                  refine own_go (fun tt_ kk_ => XS.iload XN49.here hx rfl (hb hby at_248) rfl kk_) ?_
                  show Go p.tables e below _ (T49.setTop (mkF m 250 #[.val (.long x1), .second, .val (.long x2), .second, .val (.long x3), .second, .val (.int x4), .val (.long y7), .second, .val (.long y9), .second, .val (.int ((XT.ushr x4 (2 : Int32)) &&& (3 : Int32))), .val (.int (1 : Int32)), .val (.long y13), .second, .val (.ref b), .val (.ref ia), .val (.int (2 : Int32)), .val (.int (1 : Int32))] [(.int (1 : Int32)), (.int (ix nn48))]))
                  refine own_go (fun tt_ kk_ => XS.icmpYes XN49.here hx rfl (pc0 := 250) (pc' := 255) rfl (hb hby at_250) rfl (XT.ii_eq_t (show ix nn48 = (1 : Int32) by rw [hnk]; rfl)) (by decide) (by decide) kk_) ?_
                  show Go p.tables e below _ (T49.setTop (mkF m 255 #[.val (.long x1), .second, .val (.long x2), .second, .val (.long x3), .second, .val (.int x4), .val (.long y7), .second, .val (.long y9), .second, .val (.int ((XT.ushr x4 (2 : Int32)) &&& (3 : Int32))), .val (.int (1 : Int32)), .val (.long y13), .second, .val (.ref b), .val (.ref ia), .val (.int (2 : Int32)), .val (.int (1 : Int32))] []))
                  refine own_go (fun tt_ kk_ => XS.iload XN49.here hx rfl (hb hby at_255) rfl kk_) ?_
                  show Go p.tables e below _ (T49.setTop (mkF m 257 #[.val (.long x1), .second, .val (.long x2), .second, .val (.long x3), .second, .val (.int x4), .val (.long y7), .second, .val (.long y9), .second, .val (.int ((XT.ushr x4 (2 : Int32)) &&& (3 : Int32))), .val (.int (1 : Int32)), .val (.long y13), .second, .val (.ref b), .val (.ref ia), .val (.int (2 : Int32)), .val (.int (1 : Int32))] [(.int (1 : Int32))]))
                  refine own_go (fun tt_ kk_ => XS.ifNo XN49.here hx rfl (hb hby at_257) rfl (XT.i0_le_f (by decide)) kk_) ?_
                  show Go p.tables e below _ (T49.setTop (mkF m 260 #[.val (.long x1), .second, .val (.long x2), .second, .val (.long x3), .second, .val (.int x4), .val (.long y7), .second, .val (.long y9), .second, .val (.int ((XT.ushr x4 (2 : Int32)) &&& (3 : Int32))), .val (.int (1 : Int32)), .val (.long y13), .second, .val (.ref b), .val (.ref ia), .val (.int (2 : Int32)), .val (.int (1 : Int32))] []))
                  refine own_go (fun tt_ kk_ => XS.aload XN49.here hx rfl (hb hby at_260) rfl rfl kk_) ?_
                  show Go p.tables e below _ (T49.setTop (mkF m 262 #[.val (.long x1), .second, .val (.long x2), .second, .val (.long x3), .second, .val (.int x4), .val (.long y7), .second, .val (.long y9), .second, .val (.int ((XT.ushr x4 (2 : Int32)) &&& (3 : Int32))), .val (.int (1 : Int32)), .val (.long y13), .second, .val (.ref b), .val (.ref ia), .val (.int (2 : Int32)), .val (.int (1 : Int32))] [(.ref ia)]))
                  refine own_go (fun tt_ kk_ => XS.iconst XN49.here hx rfl (hb hby at_262) kk_) ?_
                  show Go p.tables e below _ (T49.setTop (mkF m 263 #[.val (.long x1), .second, .val (.long x2), .second, .val (.long x3), .second, .val (.int x4), .val (.long y7), .second, .val (.long y9), .second, .val (.int ((XT.ushr x4 (2 : Int32)) &&& (3 : Int32))), .val (.int (1 : Int32)), .val (.long y13), .second, .val (.ref b), .val (.ref ia), .val (.int (2 : Int32)), .val (.int (1 : Int32))] [(.int (0 : Int32)), (.ref ia)]))
                  refine own_go (fun tt_ kk_ => XN49.laload hx (j := (0 : Int32)) (v := (.long (out 0))) Ai.1 (State.isArrayOf_alike hZ47.alike Ai.2.1) Ai.2.2 (by rw [szi, hnk]; decide) (hati 0 (by omega)) (g := (mkF m 263 #[.val (.long x1), .second, .val (.long x2), .second, .val (.long x3), .second, .val (.int x4), .val (.long y7), .second, .val (.long y9), .second, .val (.int ((XT.ushr x4 (2 : Int32)) &&& (3 : Int32))), .val (.int (1 : Int32)), .val (.long y13), .second, .val (.ref b), .val (.ref ia), .val (.int (2 : Int32)), .val (.int (1 : Int32))] [(.int (0 : Int32)), (.ref ia)])) rfl rfl (hb hby at_263) tt_ kk_) ?_
                  show Go p.tables e below _ (T49.setTop (mkF m 264 #[.val (.long x1), .second, .val (.long x2), .second, .val (.long x3), .second, .val (.int x4), .val (.long y7), .second, .val (.long y9), .second, .val (.int ((XT.ushr x4 (2 : Int32)) &&& (3 : Int32))), .val (.int (1 : Int32)), .val (.long y13), .second, .val (.ref b), .val (.ref ia), .val (.int (2 : Int32)), .val (.int (1 : Int32))] [(.long (out 0))]))
                  refine own_go (fun tt_ kk_ => XT.lloadN XN49.here hx rfl (hb hby at_264) rfl kk_) ?_
                  show Go p.tables e below _ (T49.setTop (mkF m 265 #[.val (.long x1), .second, .val (.long x2), .second, .val (.long x3), .second, .val (.int x4), .val (.long y7), .second, .val (.long y9), .second, .val (.int ((XT.ushr x4 (2 : Int32)) &&& (3 : Int32))), .val (.int (1 : Int32)), .val (.long y13), .second, .val (.ref b), .val (.ref ia), .val (.int (2 : Int32)), .val (.int (1 : Int32))] [(.long x1), (.long (out 0))]))
                  refine own_go (fun tt_ kk_ => XT.lload XN49.here hx rfl (hb hby at_265) rfl kk_) ?_
                  show Go p.tables e below _ (T49.setTop (mkF m 267 #[.val (.long x1), .second, .val (.long x2), .second, .val (.long x3), .second, .val (.int x4), .val (.long y7), .second, .val (.long y9), .second, .val (.int ((XT.ushr x4 (2 : Int32)) &&& (3 : Int32))), .val (.int (1 : Int32)), .val (.long y13), .second, .val (.ref b), .val (.ref ia), .val (.int (2 : Int32)), .val (.int (1 : Int32))] [(.long y7), (.long x1), (.long (out 0))]))
                  refine own_go (fun tt_ kk_ => XT.lload XN49.here hx rfl (hb hby at_267) rfl kk_) ?_
                  show Go p.tables e below _ (T49.setTop (mkF m 269 #[.val (.long x1), .second, .val (.long x2), .second, .val (.long x3), .second, .val (.int x4), .val (.long y7), .second, .val (.long y9), .second, .val (.int ((XT.ushr x4 (2 : Int32)) &&& (3 : Int32))), .val (.int (1 : Int32)), .val (.long y13), .second, .val (.ref b), .val (.ref ia), .val (.int (2 : Int32)), .val (.int (1 : Int32))] [(.long y9), (.long y7), (.long x1), (.long (out 0))]))
                  refine own_go (fun tt_ kk_ => XS.iload XN49.here hx rfl (hb hby at_269) rfl kk_) ?_
                  show Go p.tables e below _ (T49.setTop (mkF m 271 #[.val (.long x1), .second, .val (.long x2), .second, .val (.long x3), .second, .val (.int x4), .val (.long y7), .second, .val (.long y9), .second, .val (.int ((XT.ushr x4 (2 : Int32)) &&& (3 : Int32))), .val (.int (1 : Int32)), .val (.long y13), .second, .val (.ref b), .val (.ref ia), .val (.int (2 : Int32)), .val (.int (1 : Int32))] [(.int (1 : Int32)), (.long y9), (.long y7), (.long x1), (.long (out 0))]))
                  refine own_go (fun tt_ kk_ => XT.lload XN49.here hx rfl (hb hby at_271) rfl kk_) ?_
                  show Go p.tables e below _ (T49.setTop (mkF m 273 #[.val (.long x1), .second, .val (.long x2), .second, .val (.long x3), .second, .val (.int x4), .val (.long y7), .second, .val (.long y9), .second, .val (.int ((XT.ushr x4 (2 : Int32)) &&& (3 : Int32))), .val (.int (1 : Int32)), .val (.long y13), .second, .val (.ref b), .val (.ref ia), .val (.int (2 : Int32)), .val (.int (1 : Int32))] [(.long y13), (.int (1 : Int32)), (.long y9), (.long y7), (.long x1), (.long (out 0))]))
                  have hj56 := hout 0 (by omega)
                  rw [hG48, hG47, hG45, hG43, hG0] at hj56
                  have hs56 : (out 0) = x1 ∨ (out 0) = y7 ∨ (out 0) = y9 := Classical.byContradiction fun z => hj56 (own_gone.mpr (Or.inr (own_has3.mpr z)))
                  obtain ⟨v57, _, ⟨T57, L57, k57, n57⟩, -, X57, ⟨Lc57, hQ57, l57, y57, z57⟩, st57⟩ := Jvm.LawKit.callS XN49 hx (y := (⟨"com/example/rootlet/rootlet/IdMapIdsPinLaw", "expected", "(JJJJZJ)Z"⟩ : MethodName)) hown47 (mvT hZ47 (hw _ (List.mem_of_getElem? (i := 64) rfl))) (mvT hZ47 (hw _ (List.mem_of_getElem? (i := 65) rfl))) (mvT hZ47 (hw _ (List.mem_of_getElem? (i := 66) rfl))) (mvT hZ47 (hw _ (List.mem_of_getElem? (i := 67) rfl))) (by decide) (backOf (W := 0) (rm_expected l Z a0 hw [] (out 0) x1 y7 y9 (1 : Int32) y13 T49.heap n0) hZ47 (hw _ (List.mem_of_getElem? (i := 67) rfl)) (hw _ (List.mem_of_getElem? (i := 66) rfl)) (by decide) (by decide)) (g := (mkF m 273 #[.val (.long x1), .second, .val (.long x2), .second, .val (.long x3), .second, .val (.int x4), .val (.long y7), .second, .val (.long y9), .second, .val (.int ((XT.ushr x4 (2 : Int32)) &&& (3 : Int32))), .val (.int (1 : Int32)), .val (.long y13), .second, .val (.ref b), .val (.ref ia), .val (.int (2 : Int32)), .val (.int (1 : Int32))] [(.long y13), (.int (1 : Int32)), (.long y9), (.long y7), (.long x1), (.long (out 0))])) rfl (by rw [hml]; rfl) (argsL := [(.long (out 0)), (.long x1), (.long y7), (.long y9), (.int (1 : Int32)), (.long y13)]) (rest := []) (lenOf pd_9 rfl) rfl (by show 2 * 0 + _ ≤ _; exact Nat.le_of_eq rfl) (hb hby at_273) (fun _ _ => ⟨rfl, rfl, (by decide : 10 + 0 ≤ _), (by decide : 116 + 0 ≤ _)⟩)
                  dsimp only [Pt.U, Pt.locs, Pt.cells, Pt.slots] at X57 l57 y57 z57 st57 hQ57
                  subst y57 z57
                  have XN57 : Stand p l e room_1 (s.setVm T47.vm) m #[(.long x1), (.long x2), (.long x3), (.int x4)] below meth c T57 _ 10 116 := X57
                  obtain ⟨hv57, N57q, e57⟩ := hQ57
                  rw [show ((.int (own_expd (out 0) x1 y7 y9 (1 : Int32) y13)) : Value) = (.int (1 : Int32)) from congrArg Value.int (own_expd_one hs56 (Or.inr (fun z => hj56 (own_gone.mpr (Or.inl z)))))] at hv57
                  subst hv57
                  have N57 : Fr n0 L57 := by rw [l57]; exact Fr.app N49 N57q
                  refine own_go (fun tt_ kk_ => st57 tt_ kk_) ?_
                  show Go p.tables e below _ (T57.setTop (mkF m 276 #[.val (.long x1), .second, .val (.long x2), .second, .val (.long x3), .second, .val (.int x4), .val (.long y7), .second, .val (.long y9), .second, .val (.int ((XT.ushr x4 (2 : Int32)) &&& (3 : Int32))), .val (.int (1 : Int32)), .val (.long y13), .second, .val (.ref b), .val (.ref ia), .val (.int (2 : Int32)), .val (.int (1 : Int32))] [(.int (1 : Int32))]))
                  refine own_go (fun tt_ kk_ => XS.ifYes XN57.here hx rfl (pc0 := 276) (pc' := 281) rfl (hb hby at_276) rfl (XT.i0_ne_t (by decide)) (by decide) (by decide) kk_) ?_
                  show Go p.tables e below _ (T57.setTop (mkF m 281 #[.val (.long x1), .second, .val (.long x2), .second, .val (.long x3), .second, .val (.int x4), .val (.long y7), .second, .val (.long y9), .second, .val (.int ((XT.ushr x4 (2 : Int32)) &&& (3 : Int32))), .val (.int (1 : Int32)), .val (.long y13), .second, .val (.ref b), .val (.ref ia), .val (.int (2 : Int32)), .val (.int (1 : Int32))] []))
                  refine own_go (fun tt_ kk_ => XS.iload XN57.here hx rfl (hb hby at_281) rfl kk_) ?_
                  show Go p.tables e below _ (T57.setTop (mkF m 283 #[.val (.long x1), .second, .val (.long x2), .second, .val (.long x3), .second, .val (.int x4), .val (.long y7), .second, .val (.long y9), .second, .val (.int ((XT.ushr x4 (2 : Int32)) &&& (3 : Int32))), .val (.int (1 : Int32)), .val (.long y13), .second, .val (.ref b), .val (.ref ia), .val (.int (2 : Int32)), .val (.int (1 : Int32))] [(.int (1 : Int32))]))
                  refine own_go (fun tt_ kk_ => XS.iconst XN57.here hx rfl (hb hby at_283) kk_) ?_
                  show Go p.tables e below _ (T57.setTop (mkF m 284 #[.val (.long x1), .second, .val (.long x2), .second, .val (.long x3), .second, .val (.int x4), .val (.long y7), .second, .val (.long y9), .second, .val (.int ((XT.ushr x4 (2 : Int32)) &&& (3 : Int32))), .val (.int (1 : Int32)), .val (.long y13), .second, .val (.ref b), .val (.ref ia), .val (.int (2 : Int32)), .val (.int (1 : Int32))] [(.int (1 : Int32)), (.int (1 : Int32))]))
                  refine own_go (fun tt_ kk_ => XS.icmpYes XN57.here hx rfl (pc0 := 284) (pc' := 308) rfl (hb hby at_284) rfl (XT.ii_le_t (by decide)) (by decide) (by decide) kk_) ?_
                  show Go p.tables e below _ (T57.setTop (mkF m 308 #[.val (.long x1), .second, .val (.long x2), .second, .val (.long x3), .second, .val (.int x4), .val (.long y7), .second, .val (.long y9), .second, .val (.int ((XT.ushr x4 (2 : Int32)) &&& (3 : Int32))), .val (.int (1 : Int32)), .val (.long y13), .second, .val (.ref b), .val (.ref ia), .val (.int (2 : Int32)), .val (.int (1 : Int32))] []))
                  refine own_go (fun tt_ kk_ => XS.iload XN57.here hx rfl (hb hby at_308) rfl kk_) ?_
                  show Go p.tables e below _ (T57.setTop (mkF m 310 #[.val (.long x1), .second, .val (.long x2), .second, .val (.long x3), .second, .val (.int x4), .val (.long y7), .second, .val (.long y9), .second, .val (.int ((XT.ushr x4 (2 : Int32)) &&& (3 : Int32))), .val (.int (1 : Int32)), .val (.long y13), .second, .val (.ref b), .val (.ref ia), .val (.int (2 : Int32)), .val (.int (1 : Int32))] [(.int (1 : Int32))]))
                  refine own_go (fun tt_ kk_ => XS.iconst XN57.here hx rfl (hb hby at_310) kk_) ?_
                  show Go p.tables e below _ (T57.setTop (mkF m 311 #[.val (.long x1), .second, .val (.long x2), .second, .val (.long x3), .second, .val (.int x4), .val (.long y7), .second, .val (.long y9), .second, .val (.int ((XT.ushr x4 (2 : Int32)) &&& (3 : Int32))), .val (.int (1 : Int32)), .val (.long y13), .second, .val (.ref b), .val (.ref ia), .val (.int (2 : Int32)), .val (.int (1 : Int32))] [(.int (2 : Int32)), (.int (1 : Int32))]))
                  refine own_go (fun tt_ kk_ => XS.icmpYes XN57.here hx rfl (pc0 := 311) (pc' := 335) rfl (hb hby at_311) rfl (XT.ii_le_t (by decide)) (by decide) (by decide) kk_) ?_
                  show Go p.tables e below _ (T57.setTop (mkF m 335 #[.val (.long x1), .second, .val (.long x2), .second, .val (.long x3), .second, .val (.int x4), .val (.long y7), .second, .val (.long y9), .second, .val (.int ((XT.ushr x4 (2 : Int32)) &&& (3 : Int32))), .val (.int (1 : Int32)), .val (.long y13), .second, .val (.ref b), .val (.ref ia), .val (.int (2 : Int32)), .val (.int (1 : Int32))] []))
                  refine own_go (fun tt_ kk_ => XS.iload XN57.here hx rfl (hb hby at_335) rfl kk_) ?_
                  show Go p.tables e below _ (T57.setTop (mkF m 337 #[.val (.long x1), .second, .val (.long x2), .second, .val (.long x3), .second, .val (.int x4), .val (.long y7), .second, .val (.long y9), .second, .val (.int ((XT.ushr x4 (2 : Int32)) &&& (3 : Int32))), .val (.int (1 : Int32)), .val (.long y13), .second, .val (.ref b), .val (.ref ia), .val (.int (2 : Int32)), .val (.int (1 : Int32))] [(.int (1 : Int32))]))
                  refine own_go (fun tt_ kk_ => XS.iconst XN57.here hx rfl (hb hby at_337) kk_) ?_
                  show Go p.tables e below _ (T57.setTop (mkF m 338 #[.val (.long x1), .second, .val (.long x2), .second, .val (.long x3), .second, .val (.int x4), .val (.long y7), .second, .val (.long y9), .second, .val (.int ((XT.ushr x4 (2 : Int32)) &&& (3 : Int32))), .val (.int (1 : Int32)), .val (.long y13), .second, .val (.ref b), .val (.ref ia), .val (.int (2 : Int32)), .val (.int (1 : Int32))] [(.int (1 : Int32)), (.int (1 : Int32))]))
                  refine own_go (fun tt_ kk_ => XS.icmpYes XN57.here hx rfl (pc0 := 338) (pc' := 355) rfl (hb hby at_338) rfl (XT.ii_le_t (by decide)) (by decide) (by decide) kk_) ?_
                  show Go p.tables e below _ (T57.setTop (mkF m 355 #[.val (.long x1), .second, .val (.long x2), .second, .val (.long x3), .second, .val (.int x4), .val (.long y7), .second, .val (.long y9), .second, .val (.int ((XT.ushr x4 (2 : Int32)) &&& (3 : Int32))), .val (.int (1 : Int32)), .val (.long y13), .second, .val (.ref b), .val (.ref ia), .val (.int (2 : Int32)), .val (.int (1 : Int32))] []))
                  refine own_go (fun tt_ kk_ => XS.iload XN57.here hx rfl (hb hby at_355) rfl kk_) ?_
                  show Go p.tables e below _ (T57.setTop (mkF m 357 #[.val (.long x1), .second, .val (.long x2), .second, .val (.long x3), .second, .val (.int x4), .val (.long y7), .second, .val (.long y9), .second, .val (.int ((XT.ushr x4 (2 : Int32)) &&& (3 : Int32))), .val (.int (1 : Int32)), .val (.long y13), .second, .val (.ref b), .val (.ref ia), .val (.int (2 : Int32)), .val (.int (1 : Int32))] [(.int (1 : Int32))]))
                  refine own_go (fun tt_ kk_ => XS.iconst XN57.here hx rfl (hb hby at_357) kk_) ?_
                  show Go p.tables e below _ (T57.setTop (mkF m 358 #[.val (.long x1), .second, .val (.long x2), .second, .val (.long x3), .second, .val (.int x4), .val (.long y7), .second, .val (.long y9), .second, .val (.int ((XT.ushr x4 (2 : Int32)) &&& (3 : Int32))), .val (.int (1 : Int32)), .val (.long y13), .second, .val (.ref b), .val (.ref ia), .val (.int (2 : Int32)), .val (.int (1 : Int32))] [(.int (2 : Int32)), (.int (1 : Int32))]))
                  refine own_go (fun tt_ kk_ => XS.icmpYes XN57.here hx rfl (pc0 := 358) (pc' := 387) rfl (hb hby at_358) rfl (XT.ii_le_t (by decide)) (by decide) (by decide) kk_) ?_
                  show Go p.tables e below _ (T57.setTop (mkF m 387 #[.val (.long x1), .second, .val (.long x2), .second, .val (.long x3), .second, .val (.int x4), .val (.long y7), .second, .val (.long y9), .second, .val (.int ((XT.ushr x4 (2 : Int32)) &&& (3 : Int32))), .val (.int (1 : Int32)), .val (.long y13), .second, .val (.ref b), .val (.ref ia), .val (.int (2 : Int32)), .val (.int (1 : Int32))] []))
                  refine own_go (fun tt_ kk_ => XS.iconst XN57.here hx rfl (hb hby at_387) kk_) ?_
                  show Go p.tables e below _ (T57.setTop (mkF m 388 #[.val (.long x1), .second, .val (.long x2), .second, .val (.long x3), .second, .val (.int x4), .val (.long y7), .second, .val (.long y9), .second, .val (.int ((XT.ushr x4 (2 : Int32)) &&& (3 : Int32))), .val (.int (1 : Int32)), .val (.long y13), .second, .val (.ref b), .val (.ref ia), .val (.int (2 : Int32)), .val (.int (1 : Int32))] [(.int (1 : Int32))]))
                  exact own_retW XN57 sq47 (by rw [e57]; exact kz49) hx hlk Bd.returns rfl (Or.inl ⟨rfl, Or.inr (Or.inl rfl), _, rfl⟩) (hb hby at_388) ⟨rfl, N57⟩ (by decide) (by decide)
                · refine own_go (fun tt_ kk_ => XS.ifNo XN49.here hx rfl (hb hby at_211) rfl (XT.ll_eq_f hc55) kk_) ?_
                  show Go p.tables e below _ (T49.setTop (mkF m 214 #[.val (.long x1), .second, .val (.long x2), .second, .val (.long x3), .second, .val (.int x4), .val (.long y7), .second, .val (.long y9), .second, .val (.int ((XT.ushr x4 (2 : Int32)) &&& (3 : Int32))), .val (.int (1 : Int32)), .val (.long y13), .second, .val (.ref b), .val (.ref ia), .unset, .unset] [(.int (2 : Int32))]))
                  refine own_go (fun tt_ kk_ => XT.lload XN49.here hx rfl (hb hby at_214) rfl kk_) ?_
                  show Go p.tables e below _ (T49.setTop (mkF m 216 #[.val (.long x1), .second, .val (.long x2), .second, .val (.long x3), .second, .val (.int x4), .val (.long y7), .second, .val (.long y9), .second, .val (.int ((XT.ushr x4 (2 : Int32)) &&& (3 : Int32))), .val (.int (1 : Int32)), .val (.long y13), .second, .val (.ref b), .val (.ref ia), .unset, .unset] [(.long y9), (.int (2 : Int32))]))
                  refine own_go (fun tt_ kk_ => XT.lload XN49.here hx rfl (hb hby at_216) rfl kk_) ?_
                  show Go p.tables e below _ (T49.setTop (mkF m 218 #[.val (.long x1), .second, .val (.long x2), .second, .val (.long x3), .second, .val (.int x4), .val (.long y7), .second, .val (.long y9), .second, .val (.int ((XT.ushr x4 (2 : Int32)) &&& (3 : Int32))), .val (.int (1 : Int32)), .val (.long y13), .second, .val (.ref b), .val (.ref ia), .unset, .unset] [(.long y7), (.long y9), (.int (2 : Int32))]))
                  refine own_go (fun tt_ kk_ => XT.lcmp XN49.here hx rfl (hb hby at_218) rfl kk_) ?_
                  show Go p.tables e below _ (T49.setTop (mkF m 219 #[.val (.long x1), .second, .val (.long x2), .second, .val (.long x3), .second, .val (.int x4), .val (.long y7), .second, .val (.long y9), .second, .val (.int ((XT.ushr x4 (2 : Int32)) &&& (3 : Int32))), .val (.int (1 : Int32)), .val (.long y13), .second, .val (.ref b), .val (.ref ia), .unset, .unset] [(.int (XT.cmpL y9 y7)), (.int (2 : Int32))]))
                  by_cases hc58 : y9 = y7
                  · refine own_go (fun tt_ kk_ => XS.ifYes XN49.here hx rfl (pc0 := 219) (pc' := 226) rfl (hb hby at_219) rfl (XT.ll_eq_t hc58) (by decide) (by decide) kk_) ?_
                    show Go p.tables e below _ (T49.setTop (mkF m 226 #[.val (.long x1), .second, .val (.long x2), .second, .val (.long x3), .second, .val (.int x4), .val (.long y7), .second, .val (.long y9), .second, .val (.int ((XT.ushr x4 (2 : Int32)) &&& (3 : Int32))), .val (.int (1 : Int32)), .val (.long y13), .second, .val (.ref b), .val (.ref ia), .unset, .unset] [(.int (2 : Int32))]))
                    refine own_go (fun tt_ kk_ => XS.iconst XN49.here hx rfl (hb hby at_226) kk_) ?_
                    show Go p.tables e below _ (T49.setTop (mkF m 227 #[.val (.long x1), .second, .val (.long x2), .second, .val (.long x3), .second, .val (.int x4), .val (.long y7), .second, .val (.long y9), .second, .val (.int ((XT.ushr x4 (2 : Int32)) &&& (3 : Int32))), .val (.int (1 : Int32)), .val (.long y13), .second, .val (.ref b), .val (.ref ia), .unset, .unset] [(.int (0 : Int32)), (.int (2 : Int32))]))
                    refine own_go (fun tt_ kk_ => XS.iadd XN49.here hx rfl (hb hby at_227) rfl kk_) ?_
                    show Go p.tables e below _ (T49.setTop (mkF m 228 #[.val (.long x1), .second, .val (.long x2), .second, .val (.long x3), .second, .val (.int x4), .val (.long y7), .second, .val (.long y9), .second, .val (.int ((XT.ushr x4 (2 : Int32)) &&& (3 : Int32))), .val (.int (1 : Int32)), .val (.long y13), .second, .val (.ref b), .val (.ref ia), .unset, .unset] [(.int (2 : Int32))]))
                    refine own_go (fun tt_ kk_ => XS.istore XN49.here hx rfl (hb hby at_228) rfl (l' := #[.val (.long x1), .second, .val (.long x2), .second, .val (.long x3), .second, .val (.int x4), .val (.long y7), .second, .val (.long y9), .second, .val (.int ((XT.ushr x4 (2 : Int32)) &&& (3 : Int32))), .val (.int (1 : Int32)), .val (.long y13), .second, .val (.ref b), .val (.ref ia), .val (.int (2 : Int32)), .unset]) rfl kk_) ?_
                    show Go p.tables e below _ (T49.setTop (mkF m 230 #[.val (.long x1), .second, .val (.long x2), .second, .val (.long x3), .second, .val (.int x4), .val (.long y7), .second, .val (.long y9), .second, .val (.int ((XT.ushr x4 (2 : Int32)) &&& (3 : Int32))), .val (.int (1 : Int32)), .val (.long y13), .second, .val (.ref b), .val (.ref ia), .val (.int (2 : Int32)), .unset] []))
                    refine own_go (fun tt_ kk_ => XS.iload XN49.here hx rfl (hb hby at_230) rfl kk_) ?_
                    show Go p.tables e below _ (T49.setTop (mkF m 232 #[.val (.long x1), .second, .val (.long x2), .second, .val (.long x3), .second, .val (.int x4), .val (.long y7), .second, .val (.long y9), .second, .val (.int ((XT.ushr x4 (2 : Int32)) &&& (3 : Int32))), .val (.int (1 : Int32)), .val (.long y13), .second, .val (.ref b), .val (.ref ia), .val (.int (2 : Int32)), .unset] [(.int (2 : Int32))]))
                    refine own_go (fun tt_ kk_ => XS.iload XN49.here hx rfl (hb hby at_232) rfl kk_) ?_
                    show Go p.tables e below _ (T49.setTop (mkF m 234 #[.val (.long x1), .second, .val (.long x2), .second, .val (.long x3), .second, .val (.int x4), .val (.long y7), .second, .val (.long y9), .second, .val (.int ((XT.ushr x4 (2 : Int32)) &&& (3 : Int32))), .val (.int (1 : Int32)), .val (.long y13), .second, .val (.ref b), .val (.ref ia), .val (.int (2 : Int32)), .unset] [(.int (1 : Int32)), (.int (2 : Int32))]))
                    refine own_go (fun tt_ kk_ => XS.ifNo XN49.here hx rfl (hb hby at_234) rfl (XT.i0_eq_f (by decide)) kk_) ?_
                    show Go p.tables e below _ (T49.setTop (mkF m 237 #[.val (.long x1), .second, .val (.long x2), .second, .val (.long x3), .second, .val (.int x4), .val (.long y7), .second, .val (.long y9), .second, .val (.int ((XT.ushr x4 (2 : Int32)) &&& (3 : Int32))), .val (.int (1 : Int32)), .val (.long y13), .second, .val (.ref b), .val (.ref ia), .val (.int (2 : Int32)), .unset] [(.int (2 : Int32))]))
                    refine own_go (fun tt_ kk_ => XS.iconst XN49.here hx rfl (hb hby at_237) kk_) ?_
                    show Go p.tables e below _ (T49.setTop (mkF m 238 #[.val (.long x1), .second, .val (.long x2), .second, .val (.long x3), .second, .val (.int x4), .val (.long y7), .second, .val (.long y9), .second, .val (.int ((XT.ushr x4 (2 : Int32)) &&& (3 : Int32))), .val (.int (1 : Int32)), .val (.long y13), .second, .val (.ref b), .val (.ref ia), .val (.int (2 : Int32)), .unset] [(.int (1 : Int32)), (.int (2 : Int32))]))
                    refine own_go (fun tt_ kk_ => XS.goto XN49.here hx rfl (pc0 := 238) (pc' := 242) rfl (hb hby at_238) (by decide) (by decide) kk_) ?_
                    show Go p.tables e below _ (T49.setTop (mkF m 242 #[.val (.long x1), .second, .val (.long x2), .second, .val (.long x3), .second, .val (.int x4), .val (.long y7), .second, .val (.long y9), .second, .val (.int ((XT.ushr x4 (2 : Int32)) &&& (3 : Int32))), .val (.int (1 : Int32)), .val (.long y13), .second, .val (.ref b), .val (.ref ia), .val (.int (2 : Int32)), .unset] [(.int (1 : Int32)), (.int (2 : Int32))]))
                    refine own_go (fun tt_ kk_ => XS.isub XN49.here hx rfl (hb hby at_242) rfl kk_) ?_
                    show Go p.tables e below _ (T49.setTop (mkF m 243 #[.val (.long x1), .second, .val (.long x2), .second, .val (.long x3), .second, .val (.int x4), .val (.long y7), .second, .val (.long y9), .second, .val (.int ((XT.ushr x4 (2 : Int32)) &&& (3 : Int32))), .val (.int (1 : Int32)), .val (.long y13), .second, .val (.ref b), .val (.ref ia), .val (.int (2 : Int32)), .unset] [(.int (1 : Int32))]))
                    refine own_go (fun tt_ kk_ => XS.istore XN49.here hx rfl (hb hby at_243) rfl (l' := #[.val (.long x1), .second, .val (.long x2), .second, .val (.long x3), .second, .val (.int x4), .val (.long y7), .second, .val (.long y9), .second, .val (.int ((XT.ushr x4 (2 : Int32)) &&& (3 : Int32))), .val (.int (1 : Int32)), .val (.long y13), .second, .val (.ref b), .val (.ref ia), .val (.int (2 : Int32)), .val (.int (1 : Int32))]) rfl kk_) ?_
                    show Go p.tables e below _ (T49.setTop (mkF m 245 #[.val (.long x1), .second, .val (.long x2), .second, .val (.long x3), .second, .val (.int x4), .val (.long y7), .second, .val (.long y9), .second, .val (.int ((XT.ushr x4 (2 : Int32)) &&& (3 : Int32))), .val (.int (1 : Int32)), .val (.long y13), .second, .val (.ref b), .val (.ref ia), .val (.int (2 : Int32)), .val (.int (1 : Int32))] []))
                    have d3 : own_dn3 x1 y7 y9 = 2 := by rw [own_dn3, if_neg hc50, if_neg hc55, if_pos hc58]
                    have hnk : nn48 = 1 := by
                      have g : G47 y13 ≠ .null := by rw [hG47, hG45, hG43, hG0]; exact fun z => own_has3.mp z hr13
                      rw [hn48, if_neg g, own_count3 hG0 hG43 hG45 hn43 hn45 hn47, d3]
                    refine own_go (fun tt_ kk_ => XS.aload XN49.here hx rfl (hb hby at_245) rfl rfl kk_) ?_
                    show Go p.tables e below _ (T49.setTop (mkF m 247 #[.val (.long x1), .second, .val (.long x2), .second, .val (.long x3), .second, .val (.int x4), .val (.long y7), .second, .val (.long y9), .second, .val (.int ((XT.ushr x4 (2 : Int32)) &&& (3 : Int32))), .val (.int (1 : Int32)), .val (.long y13), .second, .val (.ref b), .val (.ref ia), .val (.int (2 : Int32)), .val (.int (1 : Int32))] [(.ref ia)]))
                    refine own_go (fun tt_ kk_ => XN49.arraylength hx Ai.1 (State.isArrayOf_alike hZ47.alike Ai.2.1) (g := (mkF m 247 #[.val (.long x1), .second, .val (.long x2), .second, .val (.long x3), .second, .val (.int x4), .val (.long y7), .second, .val (.long y9), .second, .val (.int ((XT.ushr x4 (2 : Int32)) &&& (3 : Int32))), .val (.int (1 : Int32)), .val (.long y13), .second, .val (.ref b), .val (.ref ia), .val (.int (2 : Int32)), .val (.int (1 : Int32))] [(.ref ia)])) rfl rfl (hb hby at_247) tt_ (by rw [(show ci.slots.size.toInt32 = ix nn48 by rw [szi]; rfl)]; exact kk_)) ?_
                    show Go p.tables e below _ (T49.setTop (mkF m 248 #[.val (.long x1), .second, .val (.long x2), .second, .val (.long x3), .second, .val (.int x4), .val (.long y7), .second, .val (.long y9), .second, .val (.int ((XT.ushr x4 (2 : Int32)) &&& (3 : Int32))), .val (.int (1 : Int32)), .val (.long y13), .second, .val (.ref b), .val (.ref ia), .val (.int (2 : Int32)), .val (.int (1 : Int32))] [(.int (ix nn48))]))
                    refine own_go (fun tt_ kk_ => XS.iload XN49.here hx rfl (hb hby at_248) rfl kk_) ?_
                    show Go p.tables e below _ (T49.setTop (mkF m 250 #[.val (.long x1), .second, .val (.long x2), .second, .val (.long x3), .second, .val (.int x4), .val (.long y7), .second, .val (.long y9), .second, .val (.int ((XT.ushr x4 (2 : Int32)) &&& (3 : Int32))), .val (.int (1 : Int32)), .val (.long y13), .second, .val (.ref b), .val (.ref ia), .val (.int (2 : Int32)), .val (.int (1 : Int32))] [(.int (1 : Int32)), (.int (ix nn48))]))
                    refine own_go (fun tt_ kk_ => XS.icmpYes XN49.here hx rfl (pc0 := 250) (pc' := 255) rfl (hb hby at_250) rfl (XT.ii_eq_t (show ix nn48 = (1 : Int32) by rw [hnk]; rfl)) (by decide) (by decide) kk_) ?_
                    show Go p.tables e below _ (T49.setTop (mkF m 255 #[.val (.long x1), .second, .val (.long x2), .second, .val (.long x3), .second, .val (.int x4), .val (.long y7), .second, .val (.long y9), .second, .val (.int ((XT.ushr x4 (2 : Int32)) &&& (3 : Int32))), .val (.int (1 : Int32)), .val (.long y13), .second, .val (.ref b), .val (.ref ia), .val (.int (2 : Int32)), .val (.int (1 : Int32))] []))
                    refine own_go (fun tt_ kk_ => XS.iload XN49.here hx rfl (hb hby at_255) rfl kk_) ?_
                    show Go p.tables e below _ (T49.setTop (mkF m 257 #[.val (.long x1), .second, .val (.long x2), .second, .val (.long x3), .second, .val (.int x4), .val (.long y7), .second, .val (.long y9), .second, .val (.int ((XT.ushr x4 (2 : Int32)) &&& (3 : Int32))), .val (.int (1 : Int32)), .val (.long y13), .second, .val (.ref b), .val (.ref ia), .val (.int (2 : Int32)), .val (.int (1 : Int32))] [(.int (1 : Int32))]))
                    refine own_go (fun tt_ kk_ => XS.ifNo XN49.here hx rfl (hb hby at_257) rfl (XT.i0_le_f (by decide)) kk_) ?_
                    show Go p.tables e below _ (T49.setTop (mkF m 260 #[.val (.long x1), .second, .val (.long x2), .second, .val (.long x3), .second, .val (.int x4), .val (.long y7), .second, .val (.long y9), .second, .val (.int ((XT.ushr x4 (2 : Int32)) &&& (3 : Int32))), .val (.int (1 : Int32)), .val (.long y13), .second, .val (.ref b), .val (.ref ia), .val (.int (2 : Int32)), .val (.int (1 : Int32))] []))
                    refine own_go (fun tt_ kk_ => XS.aload XN49.here hx rfl (hb hby at_260) rfl rfl kk_) ?_
                    show Go p.tables e below _ (T49.setTop (mkF m 262 #[.val (.long x1), .second, .val (.long x2), .second, .val (.long x3), .second, .val (.int x4), .val (.long y7), .second, .val (.long y9), .second, .val (.int ((XT.ushr x4 (2 : Int32)) &&& (3 : Int32))), .val (.int (1 : Int32)), .val (.long y13), .second, .val (.ref b), .val (.ref ia), .val (.int (2 : Int32)), .val (.int (1 : Int32))] [(.ref ia)]))
                    refine own_go (fun tt_ kk_ => XS.iconst XN49.here hx rfl (hb hby at_262) kk_) ?_
                    show Go p.tables e below _ (T49.setTop (mkF m 263 #[.val (.long x1), .second, .val (.long x2), .second, .val (.long x3), .second, .val (.int x4), .val (.long y7), .second, .val (.long y9), .second, .val (.int ((XT.ushr x4 (2 : Int32)) &&& (3 : Int32))), .val (.int (1 : Int32)), .val (.long y13), .second, .val (.ref b), .val (.ref ia), .val (.int (2 : Int32)), .val (.int (1 : Int32))] [(.int (0 : Int32)), (.ref ia)]))
                    refine own_go (fun tt_ kk_ => XN49.laload hx (j := (0 : Int32)) (v := (.long (out 0))) Ai.1 (State.isArrayOf_alike hZ47.alike Ai.2.1) Ai.2.2 (by rw [szi, hnk]; decide) (hati 0 (by omega)) (g := (mkF m 263 #[.val (.long x1), .second, .val (.long x2), .second, .val (.long x3), .second, .val (.int x4), .val (.long y7), .second, .val (.long y9), .second, .val (.int ((XT.ushr x4 (2 : Int32)) &&& (3 : Int32))), .val (.int (1 : Int32)), .val (.long y13), .second, .val (.ref b), .val (.ref ia), .val (.int (2 : Int32)), .val (.int (1 : Int32))] [(.int (0 : Int32)), (.ref ia)])) rfl rfl (hb hby at_263) tt_ kk_) ?_
                    show Go p.tables e below _ (T49.setTop (mkF m 264 #[.val (.long x1), .second, .val (.long x2), .second, .val (.long x3), .second, .val (.int x4), .val (.long y7), .second, .val (.long y9), .second, .val (.int ((XT.ushr x4 (2 : Int32)) &&& (3 : Int32))), .val (.int (1 : Int32)), .val (.long y13), .second, .val (.ref b), .val (.ref ia), .val (.int (2 : Int32)), .val (.int (1 : Int32))] [(.long (out 0))]))
                    refine own_go (fun tt_ kk_ => XT.lloadN XN49.here hx rfl (hb hby at_264) rfl kk_) ?_
                    show Go p.tables e below _ (T49.setTop (mkF m 265 #[.val (.long x1), .second, .val (.long x2), .second, .val (.long x3), .second, .val (.int x4), .val (.long y7), .second, .val (.long y9), .second, .val (.int ((XT.ushr x4 (2 : Int32)) &&& (3 : Int32))), .val (.int (1 : Int32)), .val (.long y13), .second, .val (.ref b), .val (.ref ia), .val (.int (2 : Int32)), .val (.int (1 : Int32))] [(.long x1), (.long (out 0))]))
                    refine own_go (fun tt_ kk_ => XT.lload XN49.here hx rfl (hb hby at_265) rfl kk_) ?_
                    show Go p.tables e below _ (T49.setTop (mkF m 267 #[.val (.long x1), .second, .val (.long x2), .second, .val (.long x3), .second, .val (.int x4), .val (.long y7), .second, .val (.long y9), .second, .val (.int ((XT.ushr x4 (2 : Int32)) &&& (3 : Int32))), .val (.int (1 : Int32)), .val (.long y13), .second, .val (.ref b), .val (.ref ia), .val (.int (2 : Int32)), .val (.int (1 : Int32))] [(.long y7), (.long x1), (.long (out 0))]))
                    refine own_go (fun tt_ kk_ => XT.lload XN49.here hx rfl (hb hby at_267) rfl kk_) ?_
                    show Go p.tables e below _ (T49.setTop (mkF m 269 #[.val (.long x1), .second, .val (.long x2), .second, .val (.long x3), .second, .val (.int x4), .val (.long y7), .second, .val (.long y9), .second, .val (.int ((XT.ushr x4 (2 : Int32)) &&& (3 : Int32))), .val (.int (1 : Int32)), .val (.long y13), .second, .val (.ref b), .val (.ref ia), .val (.int (2 : Int32)), .val (.int (1 : Int32))] [(.long y9), (.long y7), (.long x1), (.long (out 0))]))
                    refine own_go (fun tt_ kk_ => XS.iload XN49.here hx rfl (hb hby at_269) rfl kk_) ?_
                    show Go p.tables e below _ (T49.setTop (mkF m 271 #[.val (.long x1), .second, .val (.long x2), .second, .val (.long x3), .second, .val (.int x4), .val (.long y7), .second, .val (.long y9), .second, .val (.int ((XT.ushr x4 (2 : Int32)) &&& (3 : Int32))), .val (.int (1 : Int32)), .val (.long y13), .second, .val (.ref b), .val (.ref ia), .val (.int (2 : Int32)), .val (.int (1 : Int32))] [(.int (1 : Int32)), (.long y9), (.long y7), (.long x1), (.long (out 0))]))
                    refine own_go (fun tt_ kk_ => XT.lload XN49.here hx rfl (hb hby at_271) rfl kk_) ?_
                    show Go p.tables e below _ (T49.setTop (mkF m 273 #[.val (.long x1), .second, .val (.long x2), .second, .val (.long x3), .second, .val (.int x4), .val (.long y7), .second, .val (.long y9), .second, .val (.int ((XT.ushr x4 (2 : Int32)) &&& (3 : Int32))), .val (.int (1 : Int32)), .val (.long y13), .second, .val (.ref b), .val (.ref ia), .val (.int (2 : Int32)), .val (.int (1 : Int32))] [(.long y13), (.int (1 : Int32)), (.long y9), (.long y7), (.long x1), (.long (out 0))]))
                    have hj59 := hout 0 (by omega)
                    rw [hG48, hG47, hG45, hG43, hG0] at hj59
                    have hs59 : (out 0) = x1 ∨ (out 0) = y7 ∨ (out 0) = y9 := Classical.byContradiction fun z => hj59 (own_gone.mpr (Or.inr (own_has3.mpr z)))
                    obtain ⟨v60, _, ⟨T60, L60, k60, n60⟩, -, X60, ⟨Lc60, hQ60, l60, y60, z60⟩, st60⟩ := Jvm.LawKit.callS XN49 hx (y := (⟨"com/example/rootlet/rootlet/IdMapIdsPinLaw", "expected", "(JJJJZJ)Z"⟩ : MethodName)) hown47 (mvT hZ47 (hw _ (List.mem_of_getElem? (i := 64) rfl))) (mvT hZ47 (hw _ (List.mem_of_getElem? (i := 65) rfl))) (mvT hZ47 (hw _ (List.mem_of_getElem? (i := 66) rfl))) (mvT hZ47 (hw _ (List.mem_of_getElem? (i := 67) rfl))) (by decide) (backOf (W := 0) (rm_expected l Z a0 hw [] (out 0) x1 y7 y9 (1 : Int32) y13 T49.heap n0) hZ47 (hw _ (List.mem_of_getElem? (i := 67) rfl)) (hw _ (List.mem_of_getElem? (i := 66) rfl)) (by decide) (by decide)) (g := (mkF m 273 #[.val (.long x1), .second, .val (.long x2), .second, .val (.long x3), .second, .val (.int x4), .val (.long y7), .second, .val (.long y9), .second, .val (.int ((XT.ushr x4 (2 : Int32)) &&& (3 : Int32))), .val (.int (1 : Int32)), .val (.long y13), .second, .val (.ref b), .val (.ref ia), .val (.int (2 : Int32)), .val (.int (1 : Int32))] [(.long y13), (.int (1 : Int32)), (.long y9), (.long y7), (.long x1), (.long (out 0))])) rfl (by rw [hml]; rfl) (argsL := [(.long (out 0)), (.long x1), (.long y7), (.long y9), (.int (1 : Int32)), (.long y13)]) (rest := []) (lenOf pd_9 rfl) rfl (by show 2 * 0 + _ ≤ _; exact Nat.le_of_eq rfl) (hb hby at_273) (fun _ _ => ⟨rfl, rfl, (by decide : 10 + 0 ≤ _), (by decide : 116 + 0 ≤ _)⟩)
                    dsimp only [Pt.U, Pt.locs, Pt.cells, Pt.slots] at X60 l60 y60 z60 st60 hQ60
                    subst y60 z60
                    have XN60 : Stand p l e room_1 (s.setVm T47.vm) m #[(.long x1), (.long x2), (.long x3), (.int x4)] below meth c T60 _ 10 116 := X60
                    obtain ⟨hv60, N60q, e60⟩ := hQ60
                    rw [show ((.int (own_expd (out 0) x1 y7 y9 (1 : Int32) y13)) : Value) = (.int (1 : Int32)) from congrArg Value.int (own_expd_one hs59 (Or.inr (fun z => hj59 (own_gone.mpr (Or.inl z)))))] at hv60
                    subst hv60
                    have N60 : Fr n0 L60 := by rw [l60]; exact Fr.app N49 N60q
                    refine own_go (fun tt_ kk_ => st60 tt_ kk_) ?_
                    show Go p.tables e below _ (T60.setTop (mkF m 276 #[.val (.long x1), .second, .val (.long x2), .second, .val (.long x3), .second, .val (.int x4), .val (.long y7), .second, .val (.long y9), .second, .val (.int ((XT.ushr x4 (2 : Int32)) &&& (3 : Int32))), .val (.int (1 : Int32)), .val (.long y13), .second, .val (.ref b), .val (.ref ia), .val (.int (2 : Int32)), .val (.int (1 : Int32))] [(.int (1 : Int32))]))
                    refine own_go (fun tt_ kk_ => XS.ifYes XN60.here hx rfl (pc0 := 276) (pc' := 281) rfl (hb hby at_276) rfl (XT.i0_ne_t (by decide)) (by decide) (by decide) kk_) ?_
                    show Go p.tables e below _ (T60.setTop (mkF m 281 #[.val (.long x1), .second, .val (.long x2), .second, .val (.long x3), .second, .val (.int x4), .val (.long y7), .second, .val (.long y9), .second, .val (.int ((XT.ushr x4 (2 : Int32)) &&& (3 : Int32))), .val (.int (1 : Int32)), .val (.long y13), .second, .val (.ref b), .val (.ref ia), .val (.int (2 : Int32)), .val (.int (1 : Int32))] []))
                    refine own_go (fun tt_ kk_ => XS.iload XN60.here hx rfl (hb hby at_281) rfl kk_) ?_
                    show Go p.tables e below _ (T60.setTop (mkF m 283 #[.val (.long x1), .second, .val (.long x2), .second, .val (.long x3), .second, .val (.int x4), .val (.long y7), .second, .val (.long y9), .second, .val (.int ((XT.ushr x4 (2 : Int32)) &&& (3 : Int32))), .val (.int (1 : Int32)), .val (.long y13), .second, .val (.ref b), .val (.ref ia), .val (.int (2 : Int32)), .val (.int (1 : Int32))] [(.int (1 : Int32))]))
                    refine own_go (fun tt_ kk_ => XS.iconst XN60.here hx rfl (hb hby at_283) kk_) ?_
                    show Go p.tables e below _ (T60.setTop (mkF m 284 #[.val (.long x1), .second, .val (.long x2), .second, .val (.long x3), .second, .val (.int x4), .val (.long y7), .second, .val (.long y9), .second, .val (.int ((XT.ushr x4 (2 : Int32)) &&& (3 : Int32))), .val (.int (1 : Int32)), .val (.long y13), .second, .val (.ref b), .val (.ref ia), .val (.int (2 : Int32)), .val (.int (1 : Int32))] [(.int (1 : Int32)), (.int (1 : Int32))]))
                    refine own_go (fun tt_ kk_ => XS.icmpYes XN60.here hx rfl (pc0 := 284) (pc' := 308) rfl (hb hby at_284) rfl (XT.ii_le_t (by decide)) (by decide) (by decide) kk_) ?_
                    show Go p.tables e below _ (T60.setTop (mkF m 308 #[.val (.long x1), .second, .val (.long x2), .second, .val (.long x3), .second, .val (.int x4), .val (.long y7), .second, .val (.long y9), .second, .val (.int ((XT.ushr x4 (2 : Int32)) &&& (3 : Int32))), .val (.int (1 : Int32)), .val (.long y13), .second, .val (.ref b), .val (.ref ia), .val (.int (2 : Int32)), .val (.int (1 : Int32))] []))
                    refine own_go (fun tt_ kk_ => XS.iload XN60.here hx rfl (hb hby at_308) rfl kk_) ?_
                    show Go p.tables e below _ (T60.setTop (mkF m 310 #[.val (.long x1), .second, .val (.long x2), .second, .val (.long x3), .second, .val (.int x4), .val (.long y7), .second, .val (.long y9), .second, .val (.int ((XT.ushr x4 (2 : Int32)) &&& (3 : Int32))), .val (.int (1 : Int32)), .val (.long y13), .second, .val (.ref b), .val (.ref ia), .val (.int (2 : Int32)), .val (.int (1 : Int32))] [(.int (1 : Int32))]))
                    refine own_go (fun tt_ kk_ => XS.iconst XN60.here hx rfl (hb hby at_310) kk_) ?_
                    show Go p.tables e below _ (T60.setTop (mkF m 311 #[.val (.long x1), .second, .val (.long x2), .second, .val (.long x3), .second, .val (.int x4), .val (.long y7), .second, .val (.long y9), .second, .val (.int ((XT.ushr x4 (2 : Int32)) &&& (3 : Int32))), .val (.int (1 : Int32)), .val (.long y13), .second, .val (.ref b), .val (.ref ia), .val (.int (2 : Int32)), .val (.int (1 : Int32))] [(.int (2 : Int32)), (.int (1 : Int32))]))
                    refine own_go (fun tt_ kk_ => XS.icmpYes XN60.here hx rfl (pc0 := 311) (pc' := 335) rfl (hb hby at_311) rfl (XT.ii_le_t (by decide)) (by decide) (by decide) kk_) ?_
                    show Go p.tables e below _ (T60.setTop (mkF m 335 #[.val (.long x1), .second, .val (.long x2), .second, .val (.long x3), .second, .val (.int x4), .val (.long y7), .second, .val (.long y9), .second, .val (.int ((XT.ushr x4 (2 : Int32)) &&& (3 : Int32))), .val (.int (1 : Int32)), .val (.long y13), .second, .val (.ref b), .val (.ref ia), .val (.int (2 : Int32)), .val (.int (1 : Int32))] []))
                    refine own_go (fun tt_ kk_ => XS.iload XN60.here hx rfl (hb hby at_335) rfl kk_) ?_
                    show Go p.tables e below _ (T60.setTop (mkF m 337 #[.val (.long x1), .second, .val (.long x2), .second, .val (.long x3), .second, .val (.int x4), .val (.long y7), .second, .val (.long y9), .second, .val (.int ((XT.ushr x4 (2 : Int32)) &&& (3 : Int32))), .val (.int (1 : Int32)), .val (.long y13), .second, .val (.ref b), .val (.ref ia), .val (.int (2 : Int32)), .val (.int (1 : Int32))] [(.int (1 : Int32))]))
                    refine own_go (fun tt_ kk_ => XS.iconst XN60.here hx rfl (hb hby at_337) kk_) ?_
                    show Go p.tables e below _ (T60.setTop (mkF m 338 #[.val (.long x1), .second, .val (.long x2), .second, .val (.long x3), .second, .val (.int x4), .val (.long y7), .second, .val (.long y9), .second, .val (.int ((XT.ushr x4 (2 : Int32)) &&& (3 : Int32))), .val (.int (1 : Int32)), .val (.long y13), .second, .val (.ref b), .val (.ref ia), .val (.int (2 : Int32)), .val (.int (1 : Int32))] [(.int (1 : Int32)), (.int (1 : Int32))]))
                    refine own_go (fun tt_ kk_ => XS.icmpYes XN60.here hx rfl (pc0 := 338) (pc' := 355) rfl (hb hby at_338) rfl (XT.ii_le_t (by decide)) (by decide) (by decide) kk_) ?_
                    show Go p.tables e below _ (T60.setTop (mkF m 355 #[.val (.long x1), .second, .val (.long x2), .second, .val (.long x3), .second, .val (.int x4), .val (.long y7), .second, .val (.long y9), .second, .val (.int ((XT.ushr x4 (2 : Int32)) &&& (3 : Int32))), .val (.int (1 : Int32)), .val (.long y13), .second, .val (.ref b), .val (.ref ia), .val (.int (2 : Int32)), .val (.int (1 : Int32))] []))
                    refine own_go (fun tt_ kk_ => XS.iload XN60.here hx rfl (hb hby at_355) rfl kk_) ?_
                    show Go p.tables e below _ (T60.setTop (mkF m 357 #[.val (.long x1), .second, .val (.long x2), .second, .val (.long x3), .second, .val (.int x4), .val (.long y7), .second, .val (.long y9), .second, .val (.int ((XT.ushr x4 (2 : Int32)) &&& (3 : Int32))), .val (.int (1 : Int32)), .val (.long y13), .second, .val (.ref b), .val (.ref ia), .val (.int (2 : Int32)), .val (.int (1 : Int32))] [(.int (1 : Int32))]))
                    refine own_go (fun tt_ kk_ => XS.iconst XN60.here hx rfl (hb hby at_357) kk_) ?_
                    show Go p.tables e below _ (T60.setTop (mkF m 358 #[.val (.long x1), .second, .val (.long x2), .second, .val (.long x3), .second, .val (.int x4), .val (.long y7), .second, .val (.long y9), .second, .val (.int ((XT.ushr x4 (2 : Int32)) &&& (3 : Int32))), .val (.int (1 : Int32)), .val (.long y13), .second, .val (.ref b), .val (.ref ia), .val (.int (2 : Int32)), .val (.int (1 : Int32))] [(.int (2 : Int32)), (.int (1 : Int32))]))
                    refine own_go (fun tt_ kk_ => XS.icmpYes XN60.here hx rfl (pc0 := 358) (pc' := 387) rfl (hb hby at_358) rfl (XT.ii_le_t (by decide)) (by decide) (by decide) kk_) ?_
                    show Go p.tables e below _ (T60.setTop (mkF m 387 #[.val (.long x1), .second, .val (.long x2), .second, .val (.long x3), .second, .val (.int x4), .val (.long y7), .second, .val (.long y9), .second, .val (.int ((XT.ushr x4 (2 : Int32)) &&& (3 : Int32))), .val (.int (1 : Int32)), .val (.long y13), .second, .val (.ref b), .val (.ref ia), .val (.int (2 : Int32)), .val (.int (1 : Int32))] []))
                    refine own_go (fun tt_ kk_ => XS.iconst XN60.here hx rfl (hb hby at_387) kk_) ?_
                    show Go p.tables e below _ (T60.setTop (mkF m 388 #[.val (.long x1), .second, .val (.long x2), .second, .val (.long x3), .second, .val (.int x4), .val (.long y7), .second, .val (.long y9), .second, .val (.int ((XT.ushr x4 (2 : Int32)) &&& (3 : Int32))), .val (.int (1 : Int32)), .val (.long y13), .second, .val (.ref b), .val (.ref ia), .val (.int (2 : Int32)), .val (.int (1 : Int32))] [(.int (1 : Int32))]))
                    exact own_retW XN60 sq47 (by rw [e60]; exact kz49) hx hlk Bd.returns rfl (Or.inl ⟨rfl, Or.inr (Or.inl rfl), _, rfl⟩) (hb hby at_388) ⟨rfl, N60⟩ (by decide) (by decide)
                  · refine own_go (fun tt_ kk_ => XS.ifNo XN49.here hx rfl (hb hby at_219) rfl (XT.ll_eq_f hc58) kk_) ?_
                    show Go p.tables e below _ (T49.setTop (mkF m 222 #[.val (.long x1), .second, .val (.long x2), .second, .val (.long x3), .second, .val (.int x4), .val (.long y7), .second, .val (.long y9), .second, .val (.int ((XT.ushr x4 (2 : Int32)) &&& (3 : Int32))), .val (.int (1 : Int32)), .val (.long y13), .second, .val (.ref b), .val (.ref ia), .unset, .unset] [(.int (2 : Int32))]))
                    refine own_go (fun tt_ kk_ => XS.iconst XN49.here hx rfl (hb hby at_222) kk_) ?_
                    show Go p.tables e below _ (T49.setTop (mkF m 223 #[.val (.long x1), .second, .val (.long x2), .second, .val (.long x3), .second, .val (.int x4), .val (.long y7), .second, .val (.long y9), .second, .val (.int ((XT.ushr x4 (2 : Int32)) &&& (3 : Int32))), .val (.int (1 : Int32)), .val (.long y13), .second, .val (.ref b), .val (.ref ia), .unset, .unset] [(.int (1 : Int32)), (.int (2 : Int32))]))
                    refine own_go (fun tt_ kk_ => XS.goto XN49.here hx rfl (pc0 := 223) (pc' := 227) rfl (hb hby at_223) (by decide) (by decide) kk_) ?_
                    show Go p.tables e below _ (T49.setTop (mkF m 227 #[.val (.long x1), .second, .val (.long x2), .second, .val (.long x3), .second, .val (.int x4), .val (.long y7), .second, .val (.long y9), .second, .val (.int ((XT.ushr x4 (2 : Int32)) &&& (3 : Int32))), .val (.int (1 : Int32)), .val (.long y13), .second, .val (.ref b), .val (.ref ia), .unset, .unset] [(.int (1 : Int32)), (.int (2 : Int32))]))
                    refine own_go (fun tt_ kk_ => XS.iadd XN49.here hx rfl (hb hby at_227) rfl kk_) ?_
                    show Go p.tables e below _ (T49.setTop (mkF m 228 #[.val (.long x1), .second, .val (.long x2), .second, .val (.long x3), .second, .val (.int x4), .val (.long y7), .second, .val (.long y9), .second, .val (.int ((XT.ushr x4 (2 : Int32)) &&& (3 : Int32))), .val (.int (1 : Int32)), .val (.long y13), .second, .val (.ref b), .val (.ref ia), .unset, .unset] [(.int (3 : Int32))]))
                    refine own_go (fun tt_ kk_ => XS.istore XN49.here hx rfl (hb hby at_228) rfl (l' := #[.val (.long x1), .second, .val (.long x2), .second, .val (.long x3), .second, .val (.int x4), .val (.long y7), .second, .val (.long y9), .second, .val (.int ((XT.ushr x4 (2 : Int32)) &&& (3 : Int32))), .val (.int (1 : Int32)), .val (.long y13), .second, .val (.ref b), .val (.ref ia), .val (.int (3 : Int32)), .unset]) rfl kk_) ?_
                    show Go p.tables e below _ (T49.setTop (mkF m 230 #[.val (.long x1), .second, .val (.long x2), .second, .val (.long x3), .second, .val (.int x4), .val (.long y7), .second, .val (.long y9), .second, .val (.int ((XT.ushr x4 (2 : Int32)) &&& (3 : Int32))), .val (.int (1 : Int32)), .val (.long y13), .second, .val (.ref b), .val (.ref ia), .val (.int (3 : Int32)), .unset] []))
                    refine own_go (fun tt_ kk_ => XS.iload XN49.here hx rfl (hb hby at_230) rfl kk_) ?_
                    show Go p.tables e below _ (T49.setTop (mkF m 232 #[.val (.long x1), .second, .val (.long x2), .second, .val (.long x3), .second, .val (.int x4), .val (.long y7), .second, .val (.long y9), .second, .val (.int ((XT.ushr x4 (2 : Int32)) &&& (3 : Int32))), .val (.int (1 : Int32)), .val (.long y13), .second, .val (.ref b), .val (.ref ia), .val (.int (3 : Int32)), .unset] [(.int (3 : Int32))]))
                    refine own_go (fun tt_ kk_ => XS.iload XN49.here hx rfl (hb hby at_232) rfl kk_) ?_
                    show Go p.tables e below _ (T49.setTop (mkF m 234 #[.val (.long x1), .second, .val (.long x2), .second, .val (.long x3), .second, .val (.int x4), .val (.long y7), .second, .val (.long y9), .second, .val (.int ((XT.ushr x4 (2 : Int32)) &&& (3 : Int32))), .val (.int (1 : Int32)), .val (.long y13), .second, .val (.ref b), .val (.ref ia), .val (.int (3 : Int32)), .unset] [(.int (1 : Int32)), (.int (3 : Int32))]))
                    refine own_go (fun tt_ kk_ => XS.ifNo XN49.here hx rfl (hb hby at_234) rfl (XT.i0_eq_f (by decide)) kk_) ?_
                    show Go p.tables e below _ (T49.setTop (mkF m 237 #[.val (.long x1), .second, .val (.long x2), .second, .val (.long x3), .second, .val (.int x4), .val (.long y7), .second, .val (.long y9), .second, .val (.int ((XT.ushr x4 (2 : Int32)) &&& (3 : Int32))), .val (.int (1 : Int32)), .val (.long y13), .second, .val (.ref b), .val (.ref ia), .val (.int (3 : Int32)), .unset] [(.int (3 : Int32))]))
                    refine own_go (fun tt_ kk_ => XS.iconst XN49.here hx rfl (hb hby at_237) kk_) ?_
                    show Go p.tables e below _ (T49.setTop (mkF m 238 #[.val (.long x1), .second, .val (.long x2), .second, .val (.long x3), .second, .val (.int x4), .val (.long y7), .second, .val (.long y9), .second, .val (.int ((XT.ushr x4 (2 : Int32)) &&& (3 : Int32))), .val (.int (1 : Int32)), .val (.long y13), .second, .val (.ref b), .val (.ref ia), .val (.int (3 : Int32)), .unset] [(.int (1 : Int32)), (.int (3 : Int32))]))
                    refine own_go (fun tt_ kk_ => XS.goto XN49.here hx rfl (pc0 := 238) (pc' := 242) rfl (hb hby at_238) (by decide) (by decide) kk_) ?_
                    show Go p.tables e below _ (T49.setTop (mkF m 242 #[.val (.long x1), .second, .val (.long x2), .second, .val (.long x3), .second, .val (.int x4), .val (.long y7), .second, .val (.long y9), .second, .val (.int ((XT.ushr x4 (2 : Int32)) &&& (3 : Int32))), .val (.int (1 : Int32)), .val (.long y13), .second, .val (.ref b), .val (.ref ia), .val (.int (3 : Int32)), .unset] [(.int (1 : Int32)), (.int (3 : Int32))]))
                    refine own_go (fun tt_ kk_ => XS.isub XN49.here hx rfl (hb hby at_242) rfl kk_) ?_
                    show Go p.tables e below _ (T49.setTop (mkF m 243 #[.val (.long x1), .second, .val (.long x2), .second, .val (.long x3), .second, .val (.int x4), .val (.long y7), .second, .val (.long y9), .second, .val (.int ((XT.ushr x4 (2 : Int32)) &&& (3 : Int32))), .val (.int (1 : Int32)), .val (.long y13), .second, .val (.ref b), .val (.ref ia), .val (.int (3 : Int32)), .unset] [(.int (2 : Int32))]))
                    refine own_go (fun tt_ kk_ => XS.istore XN49.here hx rfl (hb hby at_243) rfl (l' := #[.val (.long x1), .second, .val (.long x2), .second, .val (.long x3), .second, .val (.int x4), .val (.long y7), .second, .val (.long y9), .second, .val (.int ((XT.ushr x4 (2 : Int32)) &&& (3 : Int32))), .val (.int (1 : Int32)), .val (.long y13), .second, .val (.ref b), .val (.ref ia), .val (.int (3 : Int32)), .val (.int (2 : Int32))]) rfl kk_) ?_
                    show Go p.tables e below _ (T49.setTop (mkF m 245 #[.val (.long x1), .second, .val (.long x2), .second, .val (.long x3), .second, .val (.int x4), .val (.long y7), .second, .val (.long y9), .second, .val (.int ((XT.ushr x4 (2 : Int32)) &&& (3 : Int32))), .val (.int (1 : Int32)), .val (.long y13), .second, .val (.ref b), .val (.ref ia), .val (.int (3 : Int32)), .val (.int (2 : Int32))] []))
                    have d3 : own_dn3 x1 y7 y9 = 3 := by rw [own_dn3, if_neg hc50, if_neg hc55, if_neg hc58]
                    have hnk : nn48 = 2 := by
                      have g : G47 y13 ≠ .null := by rw [hG47, hG45, hG43, hG0]; exact fun z => own_has3.mp z hr13
                      rw [hn48, if_neg g, own_count3 hG0 hG43 hG45 hn43 hn45 hn47, d3]
                    refine own_go (fun tt_ kk_ => XS.aload XN49.here hx rfl (hb hby at_245) rfl rfl kk_) ?_
                    show Go p.tables e below _ (T49.setTop (mkF m 247 #[.val (.long x1), .second, .val (.long x2), .second, .val (.long x3), .second, .val (.int x4), .val (.long y7), .second, .val (.long y9), .second, .val (.int ((XT.ushr x4 (2 : Int32)) &&& (3 : Int32))), .val (.int (1 : Int32)), .val (.long y13), .second, .val (.ref b), .val (.ref ia), .val (.int (3 : Int32)), .val (.int (2 : Int32))] [(.ref ia)]))
                    refine own_go (fun tt_ kk_ => XN49.arraylength hx Ai.1 (State.isArrayOf_alike hZ47.alike Ai.2.1) (g := (mkF m 247 #[.val (.long x1), .second, .val (.long x2), .second, .val (.long x3), .second, .val (.int x4), .val (.long y7), .second, .val (.long y9), .second, .val (.int ((XT.ushr x4 (2 : Int32)) &&& (3 : Int32))), .val (.int (1 : Int32)), .val (.long y13), .second, .val (.ref b), .val (.ref ia), .val (.int (3 : Int32)), .val (.int (2 : Int32))] [(.ref ia)])) rfl rfl (hb hby at_247) tt_ (by rw [(show ci.slots.size.toInt32 = ix nn48 by rw [szi]; rfl)]; exact kk_)) ?_
                    show Go p.tables e below _ (T49.setTop (mkF m 248 #[.val (.long x1), .second, .val (.long x2), .second, .val (.long x3), .second, .val (.int x4), .val (.long y7), .second, .val (.long y9), .second, .val (.int ((XT.ushr x4 (2 : Int32)) &&& (3 : Int32))), .val (.int (1 : Int32)), .val (.long y13), .second, .val (.ref b), .val (.ref ia), .val (.int (3 : Int32)), .val (.int (2 : Int32))] [(.int (ix nn48))]))
                    refine own_go (fun tt_ kk_ => XS.iload XN49.here hx rfl (hb hby at_248) rfl kk_) ?_
                    show Go p.tables e below _ (T49.setTop (mkF m 250 #[.val (.long x1), .second, .val (.long x2), .second, .val (.long x3), .second, .val (.int x4), .val (.long y7), .second, .val (.long y9), .second, .val (.int ((XT.ushr x4 (2 : Int32)) &&& (3 : Int32))), .val (.int (1 : Int32)), .val (.long y13), .second, .val (.ref b), .val (.ref ia), .val (.int (3 : Int32)), .val (.int (2 : Int32))] [(.int (2 : Int32)), (.int (ix nn48))]))
                    refine own_go (fun tt_ kk_ => XS.icmpYes XN49.here hx rfl (pc0 := 250) (pc' := 255) rfl (hb hby at_250) rfl (XT.ii_eq_t (show ix nn48 = (2 : Int32) by rw [hnk]; rfl)) (by decide) (by decide) kk_) ?_
                    show Go p.tables e below _ (T49.setTop (mkF m 255 #[.val (.long x1), .second, .val (.long x2), .second, .val (.long x3), .second, .val (.int x4), .val (.long y7), .second, .val (.long y9), .second, .val (.int ((XT.ushr x4 (2 : Int32)) &&& (3 : Int32))), .val (.int (1 : Int32)), .val (.long y13), .second, .val (.ref b), .val (.ref ia), .val (.int (3 : Int32)), .val (.int (2 : Int32))] []))
                    refine own_go (fun tt_ kk_ => XS.iload XN49.here hx rfl (hb hby at_255) rfl kk_) ?_
                    show Go p.tables e below _ (T49.setTop (mkF m 257 #[.val (.long x1), .second, .val (.long x2), .second, .val (.long x3), .second, .val (.int x4), .val (.long y7), .second, .val (.long y9), .second, .val (.int ((XT.ushr x4 (2 : Int32)) &&& (3 : Int32))), .val (.int (1 : Int32)), .val (.long y13), .second, .val (.ref b), .val (.ref ia), .val (.int (3 : Int32)), .val (.int (2 : Int32))] [(.int (2 : Int32))]))
                    refine own_go (fun tt_ kk_ => XS.ifNo XN49.here hx rfl (hb hby at_257) rfl (XT.i0_le_f (by decide)) kk_) ?_
                    show Go p.tables e below _ (T49.setTop (mkF m 260 #[.val (.long x1), .second, .val (.long x2), .second, .val (.long x3), .second, .val (.int x4), .val (.long y7), .second, .val (.long y9), .second, .val (.int ((XT.ushr x4 (2 : Int32)) &&& (3 : Int32))), .val (.int (1 : Int32)), .val (.long y13), .second, .val (.ref b), .val (.ref ia), .val (.int (3 : Int32)), .val (.int (2 : Int32))] []))
                    refine own_go (fun tt_ kk_ => XS.aload XN49.here hx rfl (hb hby at_260) rfl rfl kk_) ?_
                    show Go p.tables e below _ (T49.setTop (mkF m 262 #[.val (.long x1), .second, .val (.long x2), .second, .val (.long x3), .second, .val (.int x4), .val (.long y7), .second, .val (.long y9), .second, .val (.int ((XT.ushr x4 (2 : Int32)) &&& (3 : Int32))), .val (.int (1 : Int32)), .val (.long y13), .second, .val (.ref b), .val (.ref ia), .val (.int (3 : Int32)), .val (.int (2 : Int32))] [(.ref ia)]))
                    refine own_go (fun tt_ kk_ => XS.iconst XN49.here hx rfl (hb hby at_262) kk_) ?_
                    show Go p.tables e below _ (T49.setTop (mkF m 263 #[.val (.long x1), .second, .val (.long x2), .second, .val (.long x3), .second, .val (.int x4), .val (.long y7), .second, .val (.long y9), .second, .val (.int ((XT.ushr x4 (2 : Int32)) &&& (3 : Int32))), .val (.int (1 : Int32)), .val (.long y13), .second, .val (.ref b), .val (.ref ia), .val (.int (3 : Int32)), .val (.int (2 : Int32))] [(.int (0 : Int32)), (.ref ia)]))
                    refine own_go (fun tt_ kk_ => XN49.laload hx (j := (0 : Int32)) (v := (.long (out 0))) Ai.1 (State.isArrayOf_alike hZ47.alike Ai.2.1) Ai.2.2 (by rw [szi, hnk]; decide) (hati 0 (by omega)) (g := (mkF m 263 #[.val (.long x1), .second, .val (.long x2), .second, .val (.long x3), .second, .val (.int x4), .val (.long y7), .second, .val (.long y9), .second, .val (.int ((XT.ushr x4 (2 : Int32)) &&& (3 : Int32))), .val (.int (1 : Int32)), .val (.long y13), .second, .val (.ref b), .val (.ref ia), .val (.int (3 : Int32)), .val (.int (2 : Int32))] [(.int (0 : Int32)), (.ref ia)])) rfl rfl (hb hby at_263) tt_ kk_) ?_
                    show Go p.tables e below _ (T49.setTop (mkF m 264 #[.val (.long x1), .second, .val (.long x2), .second, .val (.long x3), .second, .val (.int x4), .val (.long y7), .second, .val (.long y9), .second, .val (.int ((XT.ushr x4 (2 : Int32)) &&& (3 : Int32))), .val (.int (1 : Int32)), .val (.long y13), .second, .val (.ref b), .val (.ref ia), .val (.int (3 : Int32)), .val (.int (2 : Int32))] [(.long (out 0))]))
                    refine own_go (fun tt_ kk_ => XT.lloadN XN49.here hx rfl (hb hby at_264) rfl kk_) ?_
                    show Go p.tables e below _ (T49.setTop (mkF m 265 #[.val (.long x1), .second, .val (.long x2), .second, .val (.long x3), .second, .val (.int x4), .val (.long y7), .second, .val (.long y9), .second, .val (.int ((XT.ushr x4 (2 : Int32)) &&& (3 : Int32))), .val (.int (1 : Int32)), .val (.long y13), .second, .val (.ref b), .val (.ref ia), .val (.int (3 : Int32)), .val (.int (2 : Int32))] [(.long x1), (.long (out 0))]))
                    refine own_go (fun tt_ kk_ => XT.lload XN49.here hx rfl (hb hby at_265) rfl kk_) ?_
                    show Go p.tables e below _ (T49.setTop (mkF m 267 #[.val (.long x1), .second, .val (.long x2), .second, .val (.long x3), .second, .val (.int x4), .val (.long y7), .second, .val (.long y9), .second, .val (.int ((XT.ushr x4 (2 : Int32)) &&& (3 : Int32))), .val (.int (1 : Int32)), .val (.long y13), .second, .val (.ref b), .val (.ref ia), .val (.int (3 : Int32)), .val (.int (2 : Int32))] [(.long y7), (.long x1), (.long (out 0))]))
                    refine own_go (fun tt_ kk_ => XT.lload XN49.here hx rfl (hb hby at_267) rfl kk_) ?_
                    show Go p.tables e below _ (T49.setTop (mkF m 269 #[.val (.long x1), .second, .val (.long x2), .second, .val (.long x3), .second, .val (.int x4), .val (.long y7), .second, .val (.long y9), .second, .val (.int ((XT.ushr x4 (2 : Int32)) &&& (3 : Int32))), .val (.int (1 : Int32)), .val (.long y13), .second, .val (.ref b), .val (.ref ia), .val (.int (3 : Int32)), .val (.int (2 : Int32))] [(.long y9), (.long y7), (.long x1), (.long (out 0))]))
                    refine own_go (fun tt_ kk_ => XS.iload XN49.here hx rfl (hb hby at_269) rfl kk_) ?_
                    show Go p.tables e below _ (T49.setTop (mkF m 271 #[.val (.long x1), .second, .val (.long x2), .second, .val (.long x3), .second, .val (.int x4), .val (.long y7), .second, .val (.long y9), .second, .val (.int ((XT.ushr x4 (2 : Int32)) &&& (3 : Int32))), .val (.int (1 : Int32)), .val (.long y13), .second, .val (.ref b), .val (.ref ia), .val (.int (3 : Int32)), .val (.int (2 : Int32))] [(.int (1 : Int32)), (.long y9), (.long y7), (.long x1), (.long (out 0))]))
                    refine own_go (fun tt_ kk_ => XT.lload XN49.here hx rfl (hb hby at_271) rfl kk_) ?_
                    show Go p.tables e below _ (T49.setTop (mkF m 273 #[.val (.long x1), .second, .val (.long x2), .second, .val (.long x3), .second, .val (.int x4), .val (.long y7), .second, .val (.long y9), .second, .val (.int ((XT.ushr x4 (2 : Int32)) &&& (3 : Int32))), .val (.int (1 : Int32)), .val (.long y13), .second, .val (.ref b), .val (.ref ia), .val (.int (3 : Int32)), .val (.int (2 : Int32))] [(.long y13), (.int (1 : Int32)), (.long y9), (.long y7), (.long x1), (.long (out 0))]))
                    have hj61 := hout 0 (by omega)
                    rw [hG48, hG47, hG45, hG43, hG0] at hj61
                    have hs61 : (out 0) = x1 ∨ (out 0) = y7 ∨ (out 0) = y9 := Classical.byContradiction fun z => hj61 (own_gone.mpr (Or.inr (own_has3.mpr z)))
                    obtain ⟨v62, _, ⟨T62, L62, k62, n62⟩, -, X62, ⟨Lc62, hQ62, l62, y62, z62⟩, st62⟩ := Jvm.LawKit.callS XN49 hx (y := (⟨"com/example/rootlet/rootlet/IdMapIdsPinLaw", "expected", "(JJJJZJ)Z"⟩ : MethodName)) hown47 (mvT hZ47 (hw _ (List.mem_of_getElem? (i := 64) rfl))) (mvT hZ47 (hw _ (List.mem_of_getElem? (i := 65) rfl))) (mvT hZ47 (hw _ (List.mem_of_getElem? (i := 66) rfl))) (mvT hZ47 (hw _ (List.mem_of_getElem? (i := 67) rfl))) (by decide) (backOf (W := 0) (rm_expected l Z a0 hw [] (out 0) x1 y7 y9 (1 : Int32) y13 T49.heap n0) hZ47 (hw _ (List.mem_of_getElem? (i := 67) rfl)) (hw _ (List.mem_of_getElem? (i := 66) rfl)) (by decide) (by decide)) (g := (mkF m 273 #[.val (.long x1), .second, .val (.long x2), .second, .val (.long x3), .second, .val (.int x4), .val (.long y7), .second, .val (.long y9), .second, .val (.int ((XT.ushr x4 (2 : Int32)) &&& (3 : Int32))), .val (.int (1 : Int32)), .val (.long y13), .second, .val (.ref b), .val (.ref ia), .val (.int (3 : Int32)), .val (.int (2 : Int32))] [(.long y13), (.int (1 : Int32)), (.long y9), (.long y7), (.long x1), (.long (out 0))])) rfl (by rw [hml]; rfl) (argsL := [(.long (out 0)), (.long x1), (.long y7), (.long y9), (.int (1 : Int32)), (.long y13)]) (rest := []) (lenOf pd_9 rfl) rfl (by show 2 * 0 + _ ≤ _; exact Nat.le_of_eq rfl) (hb hby at_273) (fun _ _ => ⟨rfl, rfl, (by decide : 10 + 0 ≤ _), (by decide : 116 + 0 ≤ _)⟩)
                    dsimp only [Pt.U, Pt.locs, Pt.cells, Pt.slots] at X62 l62 y62 z62 st62 hQ62
                    subst y62 z62
                    have XN62 : Stand p l e room_1 (s.setVm T47.vm) m #[(.long x1), (.long x2), (.long x3), (.int x4)] below meth c T62 _ 10 116 := X62
                    obtain ⟨hv62, N62q, e62⟩ := hQ62
                    rw [show ((.int (own_expd (out 0) x1 y7 y9 (1 : Int32) y13)) : Value) = (.int (1 : Int32)) from congrArg Value.int (own_expd_one hs61 (Or.inr (fun z => hj61 (own_gone.mpr (Or.inl z)))))] at hv62
                    subst hv62
                    have N62 : Fr n0 L62 := by rw [l62]; exact Fr.app N49 N62q
                    refine own_go (fun tt_ kk_ => st62 tt_ kk_) ?_
                    show Go p.tables e below _ (T62.setTop (mkF m 276 #[.val (.long x1), .second, .val (.long x2), .second, .val (.long x3), .second, .val (.int x4), .val (.long y7), .second, .val (.long y9), .second, .val (.int ((XT.ushr x4 (2 : Int32)) &&& (3 : Int32))), .val (.int (1 : Int32)), .val (.long y13), .second, .val (.ref b), .val (.ref ia), .val (.int (3 : Int32)), .val (.int (2 : Int32))] [(.int (1 : Int32))]))
                    refine own_go (fun tt_ kk_ => XS.ifYes XN62.here hx rfl (pc0 := 276) (pc' := 281) rfl (hb hby at_276) rfl (XT.i0_ne_t (by decide)) (by decide) (by decide) kk_) ?_
                    show Go p.tables e below _ (T62.setTop (mkF m 281 #[.val (.long x1), .second, .val (.long x2), .second, .val (.long x3), .second, .val (.int x4), .val (.long y7), .second, .val (.long y9), .second, .val (.int ((XT.ushr x4 (2 : Int32)) &&& (3 : Int32))), .val (.int (1 : Int32)), .val (.long y13), .second, .val (.ref b), .val (.ref ia), .val (.int (3 : Int32)), .val (.int (2 : Int32))] []))
                    refine own_go (fun tt_ kk_ => XS.iload XN62.here hx rfl (hb hby at_281) rfl kk_) ?_
                    show Go p.tables e below _ (T62.setTop (mkF m 283 #[.val (.long x1), .second, .val (.long x2), .second, .val (.long x3), .second, .val (.int x4), .val (.long y7), .second, .val (.long y9), .second, .val (.int ((XT.ushr x4 (2 : Int32)) &&& (3 : Int32))), .val (.int (1 : Int32)), .val (.long y13), .second, .val (.ref b), .val (.ref ia), .val (.int (3 : Int32)), .val (.int (2 : Int32))] [(.int (2 : Int32))]))
                    refine own_go (fun tt_ kk_ => XS.iconst XN62.here hx rfl (hb hby at_283) kk_) ?_
                    show Go p.tables e below _ (T62.setTop (mkF m 284 #[.val (.long x1), .second, .val (.long x2), .second, .val (.long x3), .second, .val (.int x4), .val (.long y7), .second, .val (.long y9), .second, .val (.int ((XT.ushr x4 (2 : Int32)) &&& (3 : Int32))), .val (.int (1 : Int32)), .val (.long y13), .second, .val (.ref b), .val (.ref ia), .val (.int (3 : Int32)), .val (.int (2 : Int32))] [(.int (1 : Int32)), (.int (2 : Int32))]))
                    refine own_go (fun tt_ kk_ => XS.icmpNo XN62.here hx rfl (hb hby at_284) rfl (XT.ii_le_f (by decide)) kk_) ?_
                    show Go p.tables e below _ (T62.setTop (mkF m 287 #[.val (.long x1), .second, .val (.long x2), .second, .val (.long x3), .second, .val (.int x4), .val (.long y7), .second, .val (.long y9), .second, .val (.int ((XT.ushr x4 (2 : Int32)) &&& (3 : Int32))), .val (.int (1 : Int32)), .val (.long y13), .second, .val (.ref b), .val (.ref ia), .val (.int (3 : Int32)), .val (.int (2 : Int32))] []))
                    refine own_go (fun tt_ kk_ => XS.aload XN62.here hx rfl (hb hby at_287) rfl rfl kk_) ?_
                    show Go p.tables e below _ (T62.setTop (mkF m 289 #[.val (.long x1), .second, .val (.long x2), .second, .val (.long x3), .second, .val (.int x4), .val (.long y7), .second, .val (.long y9), .second, .val (.int ((XT.ushr x4 (2 : Int32)) &&& (3 : Int32))), .val (.int (1 : Int32)), .val (.long y13), .second, .val (.ref b), .val (.ref ia), .val (.int (3 : Int32)), .val (.int (2 : Int32))] [(.ref ia)]))
                    refine own_go (fun tt_ kk_ => XS.iconst XN62.here hx rfl (hb hby at_289) kk_) ?_
                    show Go p.tables e below _ (T62.setTop (mkF m 290 #[.val (.long x1), .second, .val (.long x2), .second, .val (.long x3), .second, .val (.int x4), .val (.long y7), .second, .val (.long y9), .second, .val (.int ((XT.ushr x4 (2 : Int32)) &&& (3 : Int32))), .val (.int (1 : Int32)), .val (.long y13), .second, .val (.ref b), .val (.ref ia), .val (.int (3 : Int32)), .val (.int (2 : Int32))] [(.int (1 : Int32)), (.ref ia)]))
                    refine own_go (fun tt_ kk_ => XN62.laload hx (j := (1 : Int32)) (v := (.long (out 1))) (by rw [e62]; exact Ai.1) (State.isArrayOf_alike hZ47.alike Ai.2.1) Ai.2.2 (by rw [szi, hnk]; decide) (hati 1 (by omega)) (g := (mkF m 290 #[.val (.long x1), .second, .val (.long x2), .second, .val (.long x3), .second, .val (.int x4), .val (.long y7), .second, .val (.long y9), .second, .val (.int ((XT.ushr x4 (2 : Int32)) &&& (3 : Int32))), .val (.int (1 : Int32)), .val (.long y13), .second, .val (.ref b), .val (.ref ia), .val (.int (3 : Int32)), .val (.int (2 : Int32))] [(.int (1 : Int32)), (.ref ia)])) rfl rfl (hb hby at_290) tt_ kk_) ?_
                    show Go p.tables e below _ (T62.setTop (mkF m 291 #[.val (.long x1), .second, .val (.long x2), .second, .val (.long x3), .second, .val (.int x4), .val (.long y7), .second, .val (.long y9), .second, .val (.int ((XT.ushr x4 (2 : Int32)) &&& (3 : Int32))), .val (.int (1 : Int32)), .val (.long y13), .second, .val (.ref b), .val (.ref ia), .val (.int (3 : Int32)), .val (.int (2 : Int32))] [(.long (out 1))]))
                    refine own_go (fun tt_ kk_ => XT.lloadN XN62.here hx rfl (hb hby at_291) rfl kk_) ?_
                    show Go p.tables e below _ (T62.setTop (mkF m 292 #[.val (.long x1), .second, .val (.long x2), .second, .val (.long x3), .second, .val (.int x4), .val (.long y7), .second, .val (.long y9), .second, .val (.int ((XT.ushr x4 (2 : Int32)) &&& (3 : Int32))), .val (.int (1 : Int32)), .val (.long y13), .second, .val (.ref b), .val (.ref ia), .val (.int (3 : Int32)), .val (.int (2 : Int32))] [(.long x1), (.long (out 1))]))
                    refine own_go (fun tt_ kk_ => XT.lload XN62.here hx rfl (hb hby at_292) rfl kk_) ?_
                    show Go p.tables e below _ (T62.setTop (mkF m 294 #[.val (.long x1), .second, .val (.long x2), .second, .val (.long x3), .second, .val (.int x4), .val (.long y7), .second, .val (.long y9), .second, .val (.int ((XT.ushr x4 (2 : Int32)) &&& (3 : Int32))), .val (.int (1 : Int32)), .val (.long y13), .second, .val (.ref b), .val (.ref ia), .val (.int (3 : Int32)), .val (.int (2 : Int32))] [(.long y7), (.long x1), (.long (out 1))]))
                    refine own_go (fun tt_ kk_ => XT.lload XN62.here hx rfl (hb hby at_294) rfl kk_) ?_
                    show Go p.tables e below _ (T62.setTop (mkF m 296 #[.val (.long x1), .second, .val (.long x2), .second, .val (.long x3), .second, .val (.int x4), .val (.long y7), .second, .val (.long y9), .second, .val (.int ((XT.ushr x4 (2 : Int32)) &&& (3 : Int32))), .val (.int (1 : Int32)), .val (.long y13), .second, .val (.ref b), .val (.ref ia), .val (.int (3 : Int32)), .val (.int (2 : Int32))] [(.long y9), (.long y7), (.long x1), (.long (out 1))]))
                    refine own_go (fun tt_ kk_ => XS.iload XN62.here hx rfl (hb hby at_296) rfl kk_) ?_
                    show Go p.tables e below _ (T62.setTop (mkF m 298 #[.val (.long x1), .second, .val (.long x2), .second, .val (.long x3), .second, .val (.int x4), .val (.long y7), .second, .val (.long y9), .second, .val (.int ((XT.ushr x4 (2 : Int32)) &&& (3 : Int32))), .val (.int (1 : Int32)), .val (.long y13), .second, .val (.ref b), .val (.ref ia), .val (.int (3 : Int32)), .val (.int (2 : Int32))] [(.int (1 : Int32)), (.long y9), (.long y7), (.long x1), (.long (out 1))]))
                    refine own_go (fun tt_ kk_ => XT.lload XN62.here hx rfl (hb hby at_298) rfl kk_) ?_
                    show Go p.tables e below _ (T62.setTop (mkF m 300 #[.val (.long x1), .second, .val (.long x2), .second, .val (.long x3), .second, .val (.int x4), .val (.long y7), .second, .val (.long y9), .second, .val (.int ((XT.ushr x4 (2 : Int32)) &&& (3 : Int32))), .val (.int (1 : Int32)), .val (.long y13), .second, .val (.ref b), .val (.ref ia), .val (.int (3 : Int32)), .val (.int (2 : Int32))] [(.long y13), (.int (1 : Int32)), (.long y9), (.long y7), (.long x1), (.long (out 1))]))
                    have hj63 := hout 1 (by omega)
                    rw [hG48, hG47, hG45, hG43, hG0] at hj63
                    have hs63 : (out 1) = x1 ∨ (out 1) = y7 ∨ (out 1) = y9 := Classical.byContradiction fun z => hj63 (own_gone.mpr (Or.inr (own_has3.mpr z)))
                    obtain ⟨v64, _, ⟨T64, L64, k64, n64⟩, -, X64, ⟨Lc64, hQ64, l64, y64, z64⟩, st64⟩ := Jvm.LawKit.callS XN62 hx (y := (⟨"com/example/rootlet/rootlet/IdMapIdsPinLaw", "expected", "(JJJJZJ)Z"⟩ : MethodName)) hown47 (mvT hZ47 (hw _ (List.mem_of_getElem? (i := 64) rfl))) (mvT hZ47 (hw _ (List.mem_of_getElem? (i := 65) rfl))) (mvT hZ47 (hw _ (List.mem_of_getElem? (i := 66) rfl))) (mvT hZ47 (hw _ (List.mem_of_getElem? (i := 67) rfl))) (by decide) (backOf (W := 0) (rm_expected l Z a0 hw [] (out 1) x1 y7 y9 (1 : Int32) y13 T49.heap n0) hZ47 (hw _ (List.mem_of_getElem? (i := 67) rfl)) (hw _ (List.mem_of_getElem? (i := 66) rfl)) (by decide) (by decide)) (g := (mkF m 300 #[.val (.long x1), .second, .val (.long x2), .second, .val (.long x3), .second, .val (.int x4), .val (.long y7), .second, .val (.long y9), .second, .val (.int ((XT.ushr x4 (2 : Int32)) &&& (3 : Int32))), .val (.int (1 : Int32)), .val (.long y13), .second, .val (.ref b), .val (.ref ia), .val (.int (3 : Int32)), .val (.int (2 : Int32))] [(.long y13), (.int (1 : Int32)), (.long y9), (.long y7), (.long x1), (.long (out 1))])) rfl (by rw [hml]; rfl) (argsL := [(.long (out 1)), (.long x1), (.long y7), (.long y9), (.int (1 : Int32)), (.long y13)]) (rest := []) (lenOf pd_9 rfl) rfl (by show 2 * 0 + _ ≤ _; exact Nat.le_of_eq rfl) (hb hby at_300) (fun _ _ => ⟨rfl, e62, (by decide : 10 + 0 ≤ _), (by decide : 116 + 0 ≤ _)⟩)
                    dsimp only [Pt.U, Pt.locs, Pt.cells, Pt.slots] at X64 l64 y64 z64 st64 hQ64
                    subst y64 z64
                    have XN64 : Stand p l e room_1 (s.setVm T47.vm) m #[(.long x1), (.long x2), (.long x3), (.int x4)] below meth c T64 _ 10 116 := X64
                    obtain ⟨hv64, N64q, e64⟩ := hQ64
                    rw [show ((.int (own_expd (out 1) x1 y7 y9 (1 : Int32) y13)) : Value) = (.int (1 : Int32)) from congrArg Value.int (own_expd_one hs63 (Or.inr (fun z => hj63 (own_gone.mpr (Or.inl z)))))] at hv64
                    subst hv64
                    have N64 : Fr n0 L64 := by rw [l64]; exact Fr.app N62 N64q
                    refine own_go (fun tt_ kk_ => st64 tt_ kk_) ?_
                    show Go p.tables e below _ (T64.setTop (mkF m 303 #[.val (.long x1), .second, .val (.long x2), .second, .val (.long x3), .second, .val (.int x4), .val (.long y7), .second, .val (.long y9), .second, .val (.int ((XT.ushr x4 (2 : Int32)) &&& (3 : Int32))), .val (.int (1 : Int32)), .val (.long y13), .second, .val (.ref b), .val (.ref ia), .val (.int (3 : Int32)), .val (.int (2 : Int32))] [(.int (1 : Int32))]))
                    refine own_go (fun tt_ kk_ => XS.ifYes XN64.here hx rfl (pc0 := 303) (pc' := 308) rfl (hb hby at_303) rfl (XT.i0_ne_t (by decide)) (by decide) (by decide) kk_) ?_
                    show Go p.tables e below _ (T64.setTop (mkF m 308 #[.val (.long x1), .second, .val (.long x2), .second, .val (.long x3), .second, .val (.int x4), .val (.long y7), .second, .val (.long y9), .second, .val (.int ((XT.ushr x4 (2 : Int32)) &&& (3 : Int32))), .val (.int (1 : Int32)), .val (.long y13), .second, .val (.ref b), .val (.ref ia), .val (.int (3 : Int32)), .val (.int (2 : Int32))] []))
                    refine own_go (fun tt_ kk_ => XS.iload XN64.here hx rfl (hb hby at_308) rfl kk_) ?_
                    show Go p.tables e below _ (T64.setTop (mkF m 310 #[.val (.long x1), .second, .val (.long x2), .second, .val (.long x3), .second, .val (.int x4), .val (.long y7), .second, .val (.long y9), .second, .val (.int ((XT.ushr x4 (2 : Int32)) &&& (3 : Int32))), .val (.int (1 : Int32)), .val (.long y13), .second, .val (.ref b), .val (.ref ia), .val (.int (3 : Int32)), .val (.int (2 : Int32))] [(.int (2 : Int32))]))
                    refine own_go (fun tt_ kk_ => XS.iconst XN64.here hx rfl (hb hby at_310) kk_) ?_
                    show Go p.tables e below _ (T64.setTop (mkF m 311 #[.val (.long x1), .second, .val (.long x2), .second, .val (.long x3), .second, .val (.int x4), .val (.long y7), .second, .val (.long y9), .second, .val (.int ((XT.ushr x4 (2 : Int32)) &&& (3 : Int32))), .val (.int (1 : Int32)), .val (.long y13), .second, .val (.ref b), .val (.ref ia), .val (.int (3 : Int32)), .val (.int (2 : Int32))] [(.int (2 : Int32)), (.int (2 : Int32))]))
                    refine own_go (fun tt_ kk_ => XS.icmpYes XN64.here hx rfl (pc0 := 311) (pc' := 335) rfl (hb hby at_311) rfl (XT.ii_le_t (by decide)) (by decide) (by decide) kk_) ?_
                    show Go p.tables e below _ (T64.setTop (mkF m 335 #[.val (.long x1), .second, .val (.long x2), .second, .val (.long x3), .second, .val (.int x4), .val (.long y7), .second, .val (.long y9), .second, .val (.int ((XT.ushr x4 (2 : Int32)) &&& (3 : Int32))), .val (.int (1 : Int32)), .val (.long y13), .second, .val (.ref b), .val (.ref ia), .val (.int (3 : Int32)), .val (.int (2 : Int32))] []))
                    refine own_go (fun tt_ kk_ => XS.iload XN64.here hx rfl (hb hby at_335) rfl kk_) ?_
                    show Go p.tables e below _ (T64.setTop (mkF m 337 #[.val (.long x1), .second, .val (.long x2), .second, .val (.long x3), .second, .val (.int x4), .val (.long y7), .second, .val (.long y9), .second, .val (.int ((XT.ushr x4 (2 : Int32)) &&& (3 : Int32))), .val (.int (1 : Int32)), .val (.long y13), .second, .val (.ref b), .val (.ref ia), .val (.int (3 : Int32)), .val (.int (2 : Int32))] [(.int (2 : Int32))]))
                    refine own_go (fun tt_ kk_ => XS.iconst XN64.here hx rfl (hb hby at_337) kk_) ?_
                    show Go p.tables e below _ (T64.setTop (mkF m 338 #[.val (.long x1), .second, .val (.long x2), .second, .val (.long x3), .second, .val (.int x4), .val (.long y7), .second, .val (.long y9), .second, .val (.int ((XT.ushr x4 (2 : Int32)) &&& (3 : Int32))), .val (.int (1 : Int32)), .val (.long y13), .second, .val (.ref b), .val (.ref ia), .val (.int (3 : Int32)), .val (.int (2 : Int32))] [(.int (1 : Int32)), (.int (2 : Int32))]))
                    refine own_go (fun tt_ kk_ => XS.icmpNo XN64.here hx rfl (hb hby at_338) rfl (XT.ii_le_f (by decide)) kk_) ?_
                    show Go p.tables e below _ (T64.setTop (mkF m 341 #[.val (.long x1), .second, .val (.long x2), .second, .val (.long x3), .second, .val (.int x4), .val (.long y7), .second, .val (.long y9), .second, .val (.int ((XT.ushr x4 (2 : Int32)) &&& (3 : Int32))), .val (.int (1 : Int32)), .val (.long y13), .second, .val (.ref b), .val (.ref ia), .val (.int (3 : Int32)), .val (.int (2 : Int32))] []))
                    refine own_go (fun tt_ kk_ => XS.aload XN64.here hx rfl (hb hby at_341) rfl rfl kk_) ?_
                    show Go p.tables e below _ (T64.setTop (mkF m 343 #[.val (.long x1), .second, .val (.long x2), .second, .val (.long x3), .second, .val (.int x4), .val (.long y7), .second, .val (.long y9), .second, .val (.int ((XT.ushr x4 (2 : Int32)) &&& (3 : Int32))), .val (.int (1 : Int32)), .val (.long y13), .second, .val (.ref b), .val (.ref ia), .val (.int (3 : Int32)), .val (.int (2 : Int32))] [(.ref ia)]))
                    refine own_go (fun tt_ kk_ => XS.iconst XN64.here hx rfl (hb hby at_343) kk_) ?_
                    show Go p.tables e below _ (T64.setTop (mkF m 344 #[.val (.long x1), .second, .val (.long x2), .second, .val (.long x3), .second, .val (.int x4), .val (.long y7), .second, .val (.long y9), .second, .val (.int ((XT.ushr x4 (2 : Int32)) &&& (3 : Int32))), .val (.int (1 : Int32)), .val (.long y13), .second, .val (.ref b), .val (.ref ia), .val (.int (3 : Int32)), .val (.int (2 : Int32))] [(.int (0 : Int32)), (.ref ia)]))
                    refine own_go (fun tt_ kk_ => XN64.laload hx (j := (0 : Int32)) (v := (.long (out 0))) (by rw [e64]; exact Ai.1) (State.isArrayOf_alike hZ47.alike Ai.2.1) Ai.2.2 (by rw [szi, hnk]; decide) (hati 0 (by omega)) (g := (mkF m 344 #[.val (.long x1), .second, .val (.long x2), .second, .val (.long x3), .second, .val (.int x4), .val (.long y7), .second, .val (.long y9), .second, .val (.int ((XT.ushr x4 (2 : Int32)) &&& (3 : Int32))), .val (.int (1 : Int32)), .val (.long y13), .second, .val (.ref b), .val (.ref ia), .val (.int (3 : Int32)), .val (.int (2 : Int32))] [(.int (0 : Int32)), (.ref ia)])) rfl rfl (hb hby at_344) tt_ kk_) ?_
                    show Go p.tables e below _ (T64.setTop (mkF m 345 #[.val (.long x1), .second, .val (.long x2), .second, .val (.long x3), .second, .val (.int x4), .val (.long y7), .second, .val (.long y9), .second, .val (.int ((XT.ushr x4 (2 : Int32)) &&& (3 : Int32))), .val (.int (1 : Int32)), .val (.long y13), .second, .val (.ref b), .val (.ref ia), .val (.int (3 : Int32)), .val (.int (2 : Int32))] [(.long (out 0))]))
                    refine own_go (fun tt_ kk_ => XS.aload XN64.here hx rfl (hb hby at_345) rfl rfl kk_) ?_
                    show Go p.tables e below _ (T64.setTop (mkF m 347 #[.val (.long x1), .second, .val (.long x2), .second, .val (.long x3), .second, .val (.int x4), .val (.long y7), .second, .val (.long y9), .second, .val (.int ((XT.ushr x4 (2 : Int32)) &&& (3 : Int32))), .val (.int (1 : Int32)), .val (.long y13), .second, .val (.ref b), .val (.ref ia), .val (.int (3 : Int32)), .val (.int (2 : Int32))] [(.ref ia), (.long (out 0))]))
                    refine own_go (fun tt_ kk_ => XS.iconst XN64.here hx rfl (hb hby at_347) kk_) ?_
                    show Go p.tables e below _ (T64.setTop (mkF m 348 #[.val (.long x1), .second, .val (.long x2), .second, .val (.long x3), .second, .val (.int x4), .val (.long y7), .second, .val (.long y9), .second, .val (.int ((XT.ushr x4 (2 : Int32)) &&& (3 : Int32))), .val (.int (1 : Int32)), .val (.long y13), .second, .val (.ref b), .val (.ref ia), .val (.int (3 : Int32)), .val (.int (2 : Int32))] [(.int (1 : Int32)), (.ref ia), (.long (out 0))]))
                    refine own_go (fun tt_ kk_ => XN64.laload hx (j := (1 : Int32)) (v := (.long (out 1))) (by rw [e64]; exact Ai.1) (State.isArrayOf_alike hZ47.alike Ai.2.1) Ai.2.2 (by rw [szi, hnk]; decide) (hati 1 (by omega)) (g := (mkF m 348 #[.val (.long x1), .second, .val (.long x2), .second, .val (.long x3), .second, .val (.int x4), .val (.long y7), .second, .val (.long y9), .second, .val (.int ((XT.ushr x4 (2 : Int32)) &&& (3 : Int32))), .val (.int (1 : Int32)), .val (.long y13), .second, .val (.ref b), .val (.ref ia), .val (.int (3 : Int32)), .val (.int (2 : Int32))] [(.int (1 : Int32)), (.ref ia), (.long (out 0))])) rfl rfl (hb hby at_348) tt_ kk_) ?_
                    show Go p.tables e below _ (T64.setTop (mkF m 349 #[.val (.long x1), .second, .val (.long x2), .second, .val (.long x3), .second, .val (.int x4), .val (.long y7), .second, .val (.long y9), .second, .val (.int ((XT.ushr x4 (2 : Int32)) &&& (3 : Int32))), .val (.int (1 : Int32)), .val (.long y13), .second, .val (.ref b), .val (.ref ia), .val (.int (3 : Int32)), .val (.int (2 : Int32))] [(.long (out 1)), (.long (out 0))]))
                    refine own_go (fun tt_ kk_ => XT.lcmp XN64.here hx rfl (hb hby at_349) rfl kk_) ?_
                    show Go p.tables e below _ (T64.setTop (mkF m 350 #[.val (.long x1), .second, .val (.long x2), .second, .val (.long x3), .second, .val (.int x4), .val (.long y7), .second, .val (.long y9), .second, .val (.int ((XT.ushr x4 (2 : Int32)) &&& (3 : Int32))), .val (.int (1 : Int32)), .val (.long y13), .second, .val (.ref b), .val (.ref ia), .val (.int (3 : Int32)), .val (.int (2 : Int32))] [(.int (XT.cmpL (out 0) (out 1)))]))
                    refine own_go (fun tt_ kk_ => XS.ifYes XN64.here hx rfl (pc0 := 350) (pc' := 355) rfl (hb hby at_350) rfl (XT.ll_ne_t (fun q => absurd (hinj 0 (by omega) 1 (by omega) q) (by decide))) (by decide) (by decide) kk_) ?_
                    show Go p.tables e below _ (T64.setTop (mkF m 355 #[.val (.long x1), .second, .val (.long x2), .second, .val (.long x3), .second, .val (.int x4), .val (.long y7), .second, .val (.long y9), .second, .val (.int ((XT.ushr x4 (2 : Int32)) &&& (3 : Int32))), .val (.int (1 : Int32)), .val (.long y13), .second, .val (.ref b), .val (.ref ia), .val (.int (3 : Int32)), .val (.int (2 : Int32))] []))
                    refine own_go (fun tt_ kk_ => XS.iload XN64.here hx rfl (hb hby at_355) rfl kk_) ?_
                    show Go p.tables e below _ (T64.setTop (mkF m 357 #[.val (.long x1), .second, .val (.long x2), .second, .val (.long x3), .second, .val (.int x4), .val (.long y7), .second, .val (.long y9), .second, .val (.int ((XT.ushr x4 (2 : Int32)) &&& (3 : Int32))), .val (.int (1 : Int32)), .val (.long y13), .second, .val (.ref b), .val (.ref ia), .val (.int (3 : Int32)), .val (.int (2 : Int32))] [(.int (2 : Int32))]))
                    refine own_go (fun tt_ kk_ => XS.iconst XN64.here hx rfl (hb hby at_357) kk_) ?_
                    show Go p.tables e below _ (T64.setTop (mkF m 358 #[.val (.long x1), .second, .val (.long x2), .second, .val (.long x3), .second, .val (.int x4), .val (.long y7), .second, .val (.long y9), .second, .val (.int ((XT.ushr x4 (2 : Int32)) &&& (3 : Int32))), .val (.int (1 : Int32)), .val (.long y13), .second, .val (.ref b), .val (.ref ia), .val (.int (3 : Int32)), .val (.int (2 : Int32))] [(.int (2 : Int32)), (.int (2 : Int32))]))
                    refine own_go (fun tt_ kk_ => XS.icmpYes XN64.here hx rfl (pc0 := 358) (pc' := 387) rfl (hb hby at_358) rfl (XT.ii_le_t (by decide)) (by decide) (by decide) kk_) ?_
                    show Go p.tables e below _ (T64.setTop (mkF m 387 #[.val (.long x1), .second, .val (.long x2), .second, .val (.long x3), .second, .val (.int x4), .val (.long y7), .second, .val (.long y9), .second, .val (.int ((XT.ushr x4 (2 : Int32)) &&& (3 : Int32))), .val (.int (1 : Int32)), .val (.long y13), .second, .val (.ref b), .val (.ref ia), .val (.int (3 : Int32)), .val (.int (2 : Int32))] []))
                    refine own_go (fun tt_ kk_ => XS.iconst XN64.here hx rfl (hb hby at_387) kk_) ?_
                    show Go p.tables e below _ (T64.setTop (mkF m 388 #[.val (.long x1), .second, .val (.long x2), .second, .val (.long x3), .second, .val (.int x4), .val (.long y7), .second, .val (.long y9), .second, .val (.int ((XT.ushr x4 (2 : Int32)) &&& (3 : Int32))), .val (.int (1 : Int32)), .val (.long y13), .second, .val (.ref b), .val (.ref ia), .val (.int (3 : Int32)), .val (.int (2 : Int32))] [(.int (1 : Int32))]))
                    exact own_retW XN64 sq47 (by rw [e64]; exact kz49) hx hlk Bd.returns rfl (Or.inl ⟨rfl, Or.inr (Or.inl rfl), _, rfl⟩) (hb hby at_388) ⟨rfl, N64⟩ (by decide) (by decide)
            refine own_go (fun tt_ kk_ => XS.iload X0.here hx rfl (hb hby at_104) rfl kk_) ?_
            show Go p.tables e below _ (s₁.setTop (mkF m 106 #[.val (.long x1), .second, .val (.long x2), .second, .val (.long x3), .second, .val (.int x4), .val (.long y7), .second, .val (.long y9), .second, .val (.int ((XT.ushr x4 (2 : Int32)) &&& (3 : Int32))), .val (.int (1 : Int32)), .unset, .unset, .unset, .unset, .unset, .unset] [(.int ((XT.ushr x4 (2 : Int32)) &&& (3 : Int32)))]))
            refine own_go (fun tt_ kk_ => XS.iconst X0.here hx rfl (hb hby at_106) kk_) ?_
            show Go p.tables e below _ (s₁.setTop (mkF m 107 #[.val (.long x1), .second, .val (.long x2), .second, .val (.long x3), .second, .val (.int x4), .val (.long y7), .second, .val (.long y9), .second, .val (.int ((XT.ushr x4 (2 : Int32)) &&& (3 : Int32))), .val (.int (1 : Int32)), .unset, .unset, .unset, .unset, .unset, .unset] [(.int (1 : Int32)), (.int ((XT.ushr x4 (2 : Int32)) &&& (3 : Int32)))]))
            by_cases hc65 : ((XT.ushr x4 (2 : Int32)) &&& (3 : Int32)) = (1 : Int32)
            · refine own_go (fun tt_ kk_ => XS.icmpNo X0.here hx rfl (hb hby at_107) rfl (XT.ii_ne_f hc65) kk_) ?_
              show Go p.tables e below _ (s₁.setTop (mkF m 110 #[.val (.long x1), .second, .val (.long x2), .second, .val (.long x3), .second, .val (.int x4), .val (.long y7), .second, .val (.long y9), .second, .val (.int ((XT.ushr x4 (2 : Int32)) &&& (3 : Int32))), .val (.int (1 : Int32)), .unset, .unset, .unset, .unset, .unset, .unset] []))
              refine own_go (fun tt_ kk_ => XT.lloadN X0.here hx rfl (hb hby at_110) rfl kk_) ?_
              show Go p.tables e below _ (s₁.setTop (mkF m 111 #[.val (.long x1), .second, .val (.long x2), .second, .val (.long x3), .second, .val (.int x4), .val (.long y7), .second, .val (.long y9), .second, .val (.int ((XT.ushr x4 (2 : Int32)) &&& (3 : Int32))), .val (.int (1 : Int32)), .unset, .unset, .unset, .unset, .unset, .unset] [(.long x1)]))
              refine own_go (fun tt_ kk_ => XS.goto X0.here hx rfl (pc0 := 111) (pc' := 127) rfl (hb hby at_111) (by decide) (by decide) kk_) ?_
              show Go p.tables e below _ (s₁.setTop (mkF m 127 #[.val (.long x1), .second, .val (.long x2), .second, .val (.long x3), .second, .val (.int x4), .val (.long y7), .second, .val (.long y9), .second, .val (.int ((XT.ushr x4 (2 : Int32)) &&& (3 : Int32))), .val (.int (1 : Int32)), .unset, .unset, .unset, .unset, .unset, .unset] [(.long x1)]))
              refine own_go (fun tt_ kk_ => XT.lstore X0.here hx rfl (hb hby at_127) rfl (l' := #[.val (.long x1), .second, .val (.long x2), .second, .val (.long x3), .second, .val (.int x4), .val (.long y7), .second, .val (.long y9), .second, .val (.int ((XT.ushr x4 (2 : Int32)) &&& (3 : Int32))), .val (.int (1 : Int32)), .val (.long x1), .second, .unset, .unset, .unset, .unset]) rfl kk_) ?_
              show Go p.tables e below _ (s₁.setTop (mkF m 129 #[.val (.long x1), .second, .val (.long x2), .second, .val (.long x3), .second, .val (.int x4), .val (.long y7), .second, .val (.long y9), .second, .val (.int ((XT.ushr x4 (2 : Int32)) &&& (3 : Int32))), .val (.int (1 : Int32)), .val (.long x1), .second, .unset, .unset, .unset, .unset] []))
              exact J129 _ (Or.inl rfl)
            · refine own_go (fun tt_ kk_ => XS.icmpYes X0.here hx rfl (pc0 := 107) (pc' := 114) rfl (hb hby at_107) rfl (XT.ii_ne_t hc65) (by decide) (by decide) kk_) ?_
              show Go p.tables e below _ (s₁.setTop (mkF m 114 #[.val (.long x1), .second, .val (.long x2), .second, .val (.long x3), .second, .val (.int x4), .val (.long y7), .second, .val (.long y9), .second, .val (.int ((XT.ushr x4 (2 : Int32)) &&& (3 : Int32))), .val (.int (1 : Int32)), .unset, .unset, .unset, .unset, .unset, .unset] []))
              refine own_go (fun tt_ kk_ => XS.iload X0.here hx rfl (hb hby at_114) rfl kk_) ?_
              show Go p.tables e below _ (s₁.setTop (mkF m 116 #[.val (.long x1), .second, .val (.long x2), .second, .val (.long x3), .second, .val (.int x4), .val (.long y7), .second, .val (.long y9), .second, .val (.int ((XT.ushr x4 (2 : Int32)) &&& (3 : Int32))), .val (.int (1 : Int32)), .unset, .unset, .unset, .unset, .unset, .unset] [(.int ((XT.ushr x4 (2 : Int32)) &&& (3 : Int32)))]))
              refine own_go (fun tt_ kk_ => XS.iconst X0.here hx rfl (hb hby at_116) kk_) ?_
              show Go p.tables e below _ (s₁.setTop (mkF m 117 #[.val (.long x1), .second, .val (.long x2), .second, .val (.long x3), .second, .val (.int x4), .val (.long y7), .second, .val (.long y9), .second, .val (.int ((XT.ushr x4 (2 : Int32)) &&& (3 : Int32))), .val (.int (1 : Int32)), .unset, .unset, .unset, .unset, .unset, .unset] [(.int (2 : Int32)), (.int ((XT.ushr x4 (2 : Int32)) &&& (3 : Int32)))]))
              by_cases hc66 : ((XT.ushr x4 (2 : Int32)) &&& (3 : Int32)) = (2 : Int32)
              · refine own_go (fun tt_ kk_ => XS.icmpNo X0.here hx rfl (hb hby at_117) rfl (XT.ii_ne_f hc66) kk_) ?_
                show Go p.tables e below _ (s₁.setTop (mkF m 120 #[.val (.long x1), .second, .val (.long x2), .second, .val (.long x3), .second, .val (.int x4), .val (.long y7), .second, .val (.long y9), .second, .val (.int ((XT.ushr x4 (2 : Int32)) &&& (3 : Int32))), .val (.int (1 : Int32)), .unset, .unset, .unset, .unset, .unset, .unset] []))
                refine own_go (fun tt_ kk_ => XT.lload X0.here hx rfl (hb hby at_120) rfl kk_) ?_
                show Go p.tables e below _ (s₁.setTop (mkF m 122 #[.val (.long x1), .second, .val (.long x2), .second, .val (.long x3), .second, .val (.int x4), .val (.long y7), .second, .val (.long y9), .second, .val (.int ((XT.ushr x4 (2 : Int32)) &&& (3 : Int32))), .val (.int (1 : Int32)), .unset, .unset, .unset, .unset, .unset, .unset] [(.long y7)]))
                refine own_go (fun tt_ kk_ => XS.goto X0.here hx rfl (pc0 := 122) (pc' := 127) rfl (hb hby at_122) (by decide) (by decide) kk_) ?_
                show Go p.tables e below _ (s₁.setTop (mkF m 127 #[.val (.long x1), .second, .val (.long x2), .second, .val (.long x3), .second, .val (.int x4), .val (.long y7), .second, .val (.long y9), .second, .val (.int ((XT.ushr x4 (2 : Int32)) &&& (3 : Int32))), .val (.int (1 : Int32)), .unset, .unset, .unset, .unset, .unset, .unset] [(.long y7)]))
                refine own_go (fun tt_ kk_ => XT.lstore X0.here hx rfl (hb hby at_127) rfl (l' := #[.val (.long x1), .second, .val (.long x2), .second, .val (.long x3), .second, .val (.int x4), .val (.long y7), .second, .val (.long y9), .second, .val (.int ((XT.ushr x4 (2 : Int32)) &&& (3 : Int32))), .val (.int (1 : Int32)), .val (.long y7), .second, .unset, .unset, .unset, .unset]) rfl kk_) ?_
                show Go p.tables e below _ (s₁.setTop (mkF m 129 #[.val (.long x1), .second, .val (.long x2), .second, .val (.long x3), .second, .val (.int x4), .val (.long y7), .second, .val (.long y9), .second, .val (.int ((XT.ushr x4 (2 : Int32)) &&& (3 : Int32))), .val (.int (1 : Int32)), .val (.long y7), .second, .unset, .unset, .unset, .unset] []))
                exact J129 _ (Or.inr (Or.inl rfl))
              · refine own_go (fun tt_ kk_ => XS.icmpYes X0.here hx rfl (pc0 := 117) (pc' := 125) rfl (hb hby at_117) rfl (XT.ii_ne_t hc66) (by decide) (by decide) kk_) ?_
                show Go p.tables e below _ (s₁.setTop (mkF m 125 #[.val (.long x1), .second, .val (.long x2), .second, .val (.long x3), .second, .val (.int x4), .val (.long y7), .second, .val (.long y9), .second, .val (.int ((XT.ushr x4 (2 : Int32)) &&& (3 : Int32))), .val (.int (1 : Int32)), .unset, .unset, .unset, .unset, .unset, .unset] []))
                refine own_go (fun tt_ kk_ => XT.lload X0.here hx rfl (hb hby at_125) rfl kk_) ?_
                show Go p.tables e below _ (s₁.setTop (mkF m 127 #[.val (.long x1), .second, .val (.long x2), .second, .val (.long x3), .second, .val (.int x4), .val (.long y7), .second, .val (.long y9), .second, .val (.int ((XT.ushr x4 (2 : Int32)) &&& (3 : Int32))), .val (.int (1 : Int32)), .unset, .unset, .unset, .unset, .unset, .unset] [(.long y9)]))
                refine own_go (fun tt_ kk_ => XT.lstore X0.here hx rfl (hb hby at_127) rfl (l' := #[.val (.long x1), .second, .val (.long x2), .second, .val (.long x3), .second, .val (.int x4), .val (.long y7), .second, .val (.long y9), .second, .val (.int ((XT.ushr x4 (2 : Int32)) &&& (3 : Int32))), .val (.int (1 : Int32)), .val (.long y9), .second, .unset, .unset, .unset, .unset]) rfl kk_) ?_
                show Go p.tables e below _ (s₁.setTop (mkF m 129 #[.val (.long x1), .second, .val (.long x2), .second, .val (.long x3), .second, .val (.int x4), .val (.long y7), .second, .val (.long y9), .second, .val (.int ((XT.ushr x4 (2 : Int32)) &&& (3 : Int32))), .val (.int (1 : Int32)), .val (.long y9), .second, .unset, .unset, .unset, .unset] []))
                exact J129 _ (Or.inr (Or.inr rfl))
        refine own_go (fun tt_ kk_ => XS.iload X0.here hx rfl (hb hby at_61) rfl kk_) ?_
        show Go p.tables e below _ (s₁.setTop (mkF m 63 #[.val (.long x1), .second, .val (.long x2), .second, .val (.long x3), .second, .val (.int x4), .val (.long y7), .second, .val (.long y9a), .second, .unset, .unset, .unset, .unset, .unset, .unset, .unset, .unset] [(.int x4)]))
        refine own_go (fun tt_ kk_ => XS.iconst X0.here hx rfl (hb hby at_63) kk_) ?_
        show Go p.tables e below _ (s₁.setTop (mkF m 64 #[.val (.long x1), .second, .val (.long x2), .second, .val (.long x3), .second, .val (.int x4), .val (.long y7), .second, .val (.long y9a), .second, .unset, .unset, .unset, .unset, .unset, .unset, .unset, .unset] [(.int (2 : Int32)), (.int x4)]))
        refine own_go (fun tt_ kk_ => XS.iand X0.here hx rfl (hb hby at_64) rfl kk_) ?_
        show Go p.tables e below _ (s₁.setTop (mkF m 65 #[.val (.long x1), .second, .val (.long x2), .second, .val (.long x3), .second, .val (.int x4), .val (.long y7), .second, .val (.long y9a), .second, .unset, .unset, .unset, .unset, .unset, .unset, .unset, .unset] [(.int (x4 &&& (2 : Int32)))]))
        by_cases hc67 : (x4 &&& (2 : Int32)) = 0
        · refine own_go (fun tt_ kk_ => XS.ifYes X0.here hx rfl (pc0 := 65) (pc' := 84) rfl (hb hby at_65) rfl (XT.i0_eq_t hc67) (by decide) (by decide) kk_) ?_
          show Go p.tables e below _ (s₁.setTop (mkF m 84 #[.val (.long x1), .second, .val (.long x2), .second, .val (.long x3), .second, .val (.int x4), .val (.long y7), .second, .val (.long y9a), .second, .unset, .unset, .unset, .unset, .unset, .unset, .unset, .unset] []))
          exact J84 _
        · refine own_go (fun tt_ kk_ => XS.ifNo X0.here hx rfl (hb hby at_65) rfl (XT.i0_eq_f hc67) kk_) ?_
          show Go p.tables e below _ (s₁.setTop (mkF m 68 #[.val (.long x1), .second, .val (.long x2), .second, .val (.long x3), .second, .val (.int x4), .val (.long y7), .second, .val (.long y9a), .second, .unset, .unset, .unset, .unset, .unset, .unset, .unset, .unset] []))
          refine own_go (fun tt_ kk_ => XS.iload X0.here hx rfl (hb hby at_68) rfl kk_) ?_
          show Go p.tables e below _ (s₁.setTop (mkF m 70 #[.val (.long x1), .second, .val (.long x2), .second, .val (.long x3), .second, .val (.int x4), .val (.long y7), .second, .val (.long y9a), .second, .unset, .unset, .unset, .unset, .unset, .unset, .unset, .unset] [(.int x4)]))
          refine own_go (fun tt_ kk_ => XS.bipush X0.here hx rfl (hb hby at_70) kk_) ?_
          show Go p.tables e below _ (s₁.setTop (mkF m 72 #[.val (.long x1), .second, .val (.long x2), .second, .val (.long x3), .second, .val (.int x4), .val (.long y7), .second, .val (.long y9a), .second, .unset, .unset, .unset, .unset, .unset, .unset, .unset, .unset] [(.int (64 : Int32)), (.int x4)]))
          refine own_go (fun tt_ kk_ => XS.iand X0.here hx rfl (hb hby at_72) rfl kk_) ?_
          show Go p.tables e below _ (s₁.setTop (mkF m 73 #[.val (.long x1), .second, .val (.long x2), .second, .val (.long x3), .second, .val (.int x4), .val (.long y7), .second, .val (.long y9a), .second, .unset, .unset, .unset, .unset, .unset, .unset, .unset, .unset] [(.int (x4 &&& (64 : Int32)))]))
          by_cases hc68 : (x4 &&& (64 : Int32)) = 0
          · refine own_go (fun tt_ kk_ => XS.ifYes X0.here hx rfl (pc0 := 73) (pc' := 80) rfl (hb hby at_73) rfl (XT.i0_eq_t hc68) (by decide) (by decide) kk_) ?_
            show Go p.tables e below _ (s₁.setTop (mkF m 80 #[.val (.long x1), .second, .val (.long x2), .second, .val (.long x3), .second, .val (.int x4), .val (.long y7), .second, .val (.long y9a), .second, .unset, .unset, .unset, .unset, .unset, .unset, .unset, .unset] []))
            refine own_go (fun tt_ kk_ => XT.lload X0.here hx rfl (hb hby at_80) rfl kk_) ?_
            show Go p.tables e below _ (s₁.setTop (mkF m 82 #[.val (.long x1), .second, .val (.long x2), .second, .val (.long x3), .second, .val (.int x4), .val (.long y7), .second, .val (.long y9a), .second, .unset, .unset, .unset, .unset, .unset, .unset, .unset, .unset] [(.long y7)]))
            refine own_go (fun tt_ kk_ => XT.lstore X0.here hx rfl (hb hby at_82) rfl (l' := #[.val (.long x1), .second, .val (.long x2), .second, .val (.long x3), .second, .val (.int x4), .val (.long y7), .second, .val (.long y7), .second, .unset, .unset, .unset, .unset, .unset, .unset, .unset, .unset]) rfl kk_) ?_
            show Go p.tables e below _ (s₁.setTop (mkF m 84 #[.val (.long x1), .second, .val (.long x2), .second, .val (.long x3), .second, .val (.int x4), .val (.long y7), .second, .val (.long y7), .second, .unset, .unset, .unset, .unset, .unset, .unset, .unset, .unset] []))
            exact J84 _
          · refine own_go (fun tt_ kk_ => XS.ifNo X0.here hx rfl (hb hby at_73) rfl (XT.i0_eq_f hc68) kk_) ?_
            show Go p.tables e below _ (s₁.setTop (mkF m 76 #[.val (.long x1), .second, .val (.long x2), .second, .val (.long x3), .second, .val (.int x4), .val (.long y7), .second, .val (.long y9a), .second, .unset, .unset, .unset, .unset, .unset, .unset, .unset, .unset] []))
            refine own_go (fun tt_ kk_ => XT.lloadN X0.here hx rfl (hb hby at_76) rfl kk_) ?_
            show Go p.tables e below _ (s₁.setTop (mkF m 77 #[.val (.long x1), .second, .val (.long x2), .second, .val (.long x3), .second, .val (.int x4), .val (.long y7), .second, .val (.long y9a), .second, .unset, .unset, .unset, .unset, .unset, .unset, .unset, .unset] [(.long x1)]))
            refine own_go (fun tt_ kk_ => XS.goto X0.here hx rfl (pc0 := 77) (pc' := 82) rfl (hb hby at_77) (by decide) (by decide) kk_) ?_
            show Go p.tables e below _ (s₁.setTop (mkF m 82 #[.val (.long x1), .second, .val (.long x2), .second, .val (.long x3), .second, .val (.int x4), .val (.long y7), .second, .val (.long y9a), .second, .unset, .unset, .unset, .unset, .unset, .unset, .unset, .unset] [(.long x1)]))
            refine own_go (fun tt_ kk_ => XT.lstore X0.here hx rfl (hb hby at_82) rfl (l' := #[.val (.long x1), .second, .val (.long x2), .second, .val (.long x3), .second, .val (.int x4), .val (.long y7), .second, .val (.long x1), .second, .unset, .unset, .unset, .unset, .unset, .unset, .unset, .unset]) rfl kk_) ?_
            show Go p.tables e below _ (s₁.setTop (mkF m 84 #[.val (.long x1), .second, .val (.long x2), .second, .val (.long x3), .second, .val (.int x4), .val (.long y7), .second, .val (.long x1), .second, .unset, .unset, .unset, .unset, .unset, .unset, .unset, .unset] []))
            exact J84 _
      refine own_go (fun tt_ kk_ => XS.iload X0.here hx rfl (hb hby at_51) rfl kk_) ?_
      show Go p.tables e below _ (s₁.setTop (mkF m 53 #[.val (.long x1), .second, .val (.long x2), .second, .val (.long x3), .second, .val (.int x4), .val (.long y7a), .second, .val (.long y9a), .second, .unset, .unset, .unset, .unset, .unset, .unset, .unset, .unset] [(.int x4)]))
      refine own_go (fun tt_ kk_ => XS.iconst X0.here hx rfl (hb hby at_53) kk_) ?_
      show Go p.tables e below _ (s₁.setTop (mkF m 54 #[.val (.long x1), .second, .val (.long x2), .second, .val (.long x3), .second, .val (.int x4), .val (.long y7a), .second, .val (.long y9a), .second, .unset, .unset, .unset, .unset, .unset, .unset, .unset, .unset] [(.int (1 : Int32)), (.int x4)]))
      refine own_go (fun tt_ kk_ => XS.iand X0.here hx rfl (hb hby at_54) rfl kk_) ?_
      show Go p.tables e below _ (s₁.setTop (mkF m 55 #[.val (.long x1), .second, .val (.long x2), .second, .val (.long x3), .second, .val (.int x4), .val (.long y7a), .second, .val (.long y9a), .second, .unset, .unset, .unset, .unset, .unset, .unset, .unset, .unset] [(.int (x4 &&& (1 : Int32)))]))
      by_cases hc69 : (x4 &&& (1 : Int32)) = 0
      · refine own_go (fun tt_ kk_ => XS.ifYes X0.here hx rfl (pc0 := 55) (pc' := 61) rfl (hb hby at_55) rfl (XT.i0_eq_t hc69) (by decide) (by decide) kk_) ?_
        show Go p.tables e below _ (s₁.setTop (mkF m 61 #[.val (.long x1), .second, .val (.long x2), .second, .val (.long x3), .second, .val (.int x4), .val (.long y7a), .second, .val (.long y9a), .second, .unset, .unset, .unset, .unset, .unset, .unset, .unset, .unset] []))
        exact J61 _
      · refine own_go (fun tt_ kk_ => XS.ifNo X0.here hx rfl (hb hby at_55) rfl (XT.i0_eq_f hc69) kk_) ?_
        show Go p.tables e below _ (s₁.setTop (mkF m 58 #[.val (.long x1), .second, .val (.long x2), .second, .val (.long x3), .second, .val (.int x4), .val (.long y7a), .second, .val (.long y9a), .second, .unset, .unset, .unset, .unset, .unset, .unset, .unset, .unset] []))
        refine own_go (fun tt_ kk_ => XT.lloadN X0.here hx rfl (hb hby at_58) rfl kk_) ?_
        show Go p.tables e below _ (s₁.setTop (mkF m 59 #[.val (.long x1), .second, .val (.long x2), .second, .val (.long x3), .second, .val (.int x4), .val (.long y7a), .second, .val (.long y9a), .second, .unset, .unset, .unset, .unset, .unset, .unset, .unset, .unset] [(.long x1)]))
        refine own_go (fun tt_ kk_ => XT.lstore X0.here hx rfl (hb hby at_59) rfl (l' := #[.val (.long x1), .second, .val (.long x2), .second, .val (.long x3), .second, .val (.int x4), .val (.long x1), .second, .val (.long y9a), .second, .unset, .unset, .unset, .unset, .unset, .unset, .unset, .unset]) rfl kk_) ?_
        show Go p.tables e below _ (s₁.setTop (mkF m 61 #[.val (.long x1), .second, .val (.long x2), .second, .val (.long x3), .second, .val (.int x4), .val (.long x1), .second, .val (.long y9a), .second, .unset, .unset, .unset, .unset, .unset, .unset, .unset, .unset] []))
        exact J61 _
    refine own_go (fun tt_ kk_ => XS.iload X0.here hx rfl (hb hby at_29) rfl kk_) ?_
    show Go p.tables e below _ (s₁.setTop (mkF m 31 #[.val (.long x1), .second, .val (.long x2), .second, .val (.long x3), .second, .val (.int x4), .val (.long y7a), .second, .val (.long x3), .second, .unset, .unset, .unset, .unset, .unset, .unset, .unset, .unset] [(.int x4)]))
    refine own_go (fun tt_ kk_ => XS.bipush X0.here hx rfl (hb hby at_31) kk_) ?_
    show Go p.tables e below _ (s₁.setTop (mkF m 33 #[.val (.long x1), .second, .val (.long x2), .second, .val (.long x3), .second, .val (.int x4), .val (.long y7a), .second, .val (.long x3), .second, .unset, .unset, .unset, .unset, .unset, .unset, .unset, .unset] [(.int (32 : Int32)), (.int x4)]))
    refine own_go (fun tt_ kk_ => XS.iand X0.here hx rfl (hb hby at_33) rfl kk_) ?_
    show Go p.tables e below _ (s₁.setTop (mkF m 34 #[.val (.long x1), .second, .val (.long x2), .second, .val (.long x3), .second, .val (.int x4), .val (.long y7a), .second, .val (.long x3), .second, .unset, .unset, .unset, .unset, .unset, .unset, .unset, .unset] [(.int (x4 &&& (32 : Int32)))]))
    by_cases hc70 : (x4 &&& (32 : Int32)) = 0
    · refine own_go (fun tt_ kk_ => XS.ifYes X0.here hx rfl (pc0 := 34) (pc' := 51) rfl (hb hby at_34) rfl (XT.i0_eq_t hc70) (by decide) (by decide) kk_) ?_
      show Go p.tables e below _ (s₁.setTop (mkF m 51 #[.val (.long x1), .second, .val (.long x2), .second, .val (.long x3), .second, .val (.int x4), .val (.long y7a), .second, .val (.long x3), .second, .unset, .unset, .unset, .unset, .unset, .unset, .unset, .unset] []))
      exact J51 _
    · refine own_go (fun tt_ kk_ => XS.ifNo X0.here hx rfl (hb hby at_34) rfl (XT.i0_eq_f hc70) kk_) ?_
      show Go p.tables e below _ (s₁.setTop (mkF m 37 #[.val (.long x1), .second, .val (.long x2), .second, .val (.long x3), .second, .val (.int x4), .val (.long y7a), .second, .val (.long x3), .second, .unset, .unset, .unset, .unset, .unset, .unset, .unset, .unset] []))
      refine own_go (fun tt_ kk_ => XT.lload X0.here hx rfl (hb hby at_37) rfl kk_) ?_
      show Go p.tables e below _ (s₁.setTop (mkF m 39 #[.val (.long x1), .second, .val (.long x2), .second, .val (.long x3), .second, .val (.int x4), .val (.long y7a), .second, .val (.long x3), .second, .unset, .unset, .unset, .unset, .unset, .unset, .unset, .unset] [(.long x3)]))
      refine own_go (fun tt_ kk_ => Jvm.Stand.ldc2J X0 hx hown (mvT hZ (hw _ (List.mem_of_getElem? (i := 68) rfl))) rfl (hb hby at_39) kk_) ?_
      show Go p.tables e below _ (s₁.setTop (mkF m 42 #[.val (.long x1), .second, .val (.long x2), .second, .val (.long x3), .second, .val (.int x4), .val (.long y7a), .second, .val (.long x3), .second, .unset, .unset, .unset, .unset, .unset, .unset, .unset, .unset] [(.long ((-16) : Int64)), (.long x3)]))
      refine own_go (fun tt_ kk_ => XT.land X0.here hx rfl (hb hby at_42) rfl kk_) ?_
      show Go p.tables e below _ (s₁.setTop (mkF m 43 #[.val (.long x1), .second, .val (.long x2), .second, .val (.long x3), .second, .val (.int x4), .val (.long y7a), .second, .val (.long x3), .second, .unset, .unset, .unset, .unset, .unset, .unset, .unset, .unset] [(.long (x3 &&& ((-16) : Int64)))]))
      refine own_go (fun tt_ kk_ => XT.lloadN X0.here hx rfl (hb hby at_43) rfl kk_) ?_
      show Go p.tables e below _ (s₁.setTop (mkF m 44 #[.val (.long x1), .second, .val (.long x2), .second, .val (.long x3), .second, .val (.int x4), .val (.long y7a), .second, .val (.long x3), .second, .unset, .unset, .unset, .unset, .unset, .unset, .unset, .unset] [(.long x1), (.long (x3 &&& ((-16) : Int64)))]))
      refine own_go (fun tt_ kk_ => Jvm.Stand.ldc2J X0 hx hown (mvT hZ (hw _ (List.mem_of_getElem? (i := 69) rfl))) rfl (hb hby at_44) kk_) ?_
      show Go p.tables e below _ (s₁.setTop (mkF m 47 #[.val (.long x1), .second, .val (.long x2), .second, .val (.long x3), .second, .val (.int x4), .val (.long y7a), .second, .val (.long x3), .second, .unset, .unset, .unset, .unset, .unset, .unset, .unset, .unset] [(.long (15 : Int64)), (.long x1), (.long (x3 &&& ((-16) : Int64)))]))
      refine own_go (fun tt_ kk_ => XT.land X0.here hx rfl (hb hby at_47) rfl kk_) ?_
      show Go p.tables e below _ (s₁.setTop (mkF m 48 #[.val (.long x1), .second, .val (.long x2), .second, .val (.long x3), .second, .val (.int x4), .val (.long y7a), .second, .val (.long x3), .second, .unset, .unset, .unset, .unset, .unset, .unset, .unset, .unset] [(.long (x1 &&& (15 : Int64))), (.long (x3 &&& ((-16) : Int64)))]))
      refine own_go (fun tt_ kk_ => XT.lor X0.here hx rfl (hb hby at_48) rfl kk_) ?_
      show Go p.tables e below _ (s₁.setTop (mkF m 49 #[.val (.long x1), .second, .val (.long x2), .second, .val (.long x3), .second, .val (.int x4), .val (.long y7a), .second, .val (.long x3), .second, .unset, .unset, .unset, .unset, .unset, .unset, .unset, .unset] [(.long ((x3 &&& ((-16) : Int64)) ||| (x1 &&& (15 : Int64))))]))
      refine own_go (fun tt_ kk_ => XT.lstore X0.here hx rfl (hb hby at_49) rfl (l' := #[.val (.long x1), .second, .val (.long x2), .second, .val (.long x3), .second, .val (.int x4), .val (.long y7a), .second, .val (.long ((x3 &&& ((-16) : Int64)) ||| (x1 &&& (15 : Int64)))), .second, .unset, .unset, .unset, .unset, .unset, .unset, .unset, .unset]) rfl kk_) ?_
      show Go p.tables e below _ (s₁.setTop (mkF m 51 #[.val (.long x1), .second, .val (.long x2), .second, .val (.long x3), .second, .val (.int x4), .val (.long y7a), .second, .val (.long ((x3 &&& ((-16) : Int64)) ||| (x1 &&& (15 : Int64)))), .second, .unset, .unset, .unset, .unset, .unset, .unset, .unset, .unset] []))
      exact J51 _
  refine own_go (fun tt_ kk_ => XS.iload X0.here hx rfl (hb hby at_7) rfl kk_) ?_
  show Go p.tables e below _ (s₁.setTop (mkF m 9 #[.val (.long x1), .second, .val (.long x2), .second, .val (.long x3), .second, .val (.int x4), .val (.long x2), .second, .val (.long x3), .second, .unset, .unset, .unset, .unset, .unset, .unset, .unset, .unset] [(.int x4)]))
  refine own_go (fun tt_ kk_ => XS.bipush X0.here hx rfl (hb hby at_9) kk_) ?_
  show Go p.tables e below _ (s₁.setTop (mkF m 11 #[.val (.long x1), .second, .val (.long x2), .second, .val (.long x3), .second, .val (.int x4), .val (.long x2), .second, .val (.long x3), .second, .unset, .unset, .unset, .unset, .unset, .unset, .unset, .unset] [(.int (16 : Int32)), (.int x4)]))
  refine own_go (fun tt_ kk_ => XS.iand X0.here hx rfl (hb hby at_11) rfl kk_) ?_
  show Go p.tables e below _ (s₁.setTop (mkF m 12 #[.val (.long x1), .second, .val (.long x2), .second, .val (.long x3), .second, .val (.int x4), .val (.long x2), .second, .val (.long x3), .second, .unset, .unset, .unset, .unset, .unset, .unset, .unset, .unset] [(.int (x4 &&& (16 : Int32)))]))
  by_cases hc71 : (x4 &&& (16 : Int32)) = 0
  · refine own_go (fun tt_ kk_ => XS.ifYes X0.here hx rfl (pc0 := 12) (pc' := 29) rfl (hb hby at_12) rfl (XT.i0_eq_t hc71) (by decide) (by decide) kk_) ?_
    show Go p.tables e below _ (s₁.setTop (mkF m 29 #[.val (.long x1), .second, .val (.long x2), .second, .val (.long x3), .second, .val (.int x4), .val (.long x2), .second, .val (.long x3), .second, .unset, .unset, .unset, .unset, .unset, .unset, .unset, .unset] []))
    exact J29 _
  · refine own_go (fun tt_ kk_ => XS.ifNo X0.here hx rfl (hb hby at_12) rfl (XT.i0_eq_f hc71) kk_) ?_
    show Go p.tables e below _ (s₁.setTop (mkF m 15 #[.val (.long x1), .second, .val (.long x2), .second, .val (.long x3), .second, .val (.int x4), .val (.long x2), .second, .val (.long x3), .second, .unset, .unset, .unset, .unset, .unset, .unset, .unset, .unset] []))
    refine own_go (fun tt_ kk_ => XT.lload X0.here hx rfl (hb hby at_15) rfl kk_) ?_
    show Go p.tables e below _ (s₁.setTop (mkF m 17 #[.val (.long x1), .second, .val (.long x2), .second, .val (.long x3), .second, .val (.int x4), .val (.long x2), .second, .val (.long x3), .second, .unset, .unset, .unset, .unset, .unset, .unset, .unset, .unset] [(.long x2)]))
    refine own_go (fun tt_ kk_ => Jvm.Stand.ldc2J X0 hx hown (mvT hZ (hw _ (List.mem_of_getElem? (i := 68) rfl))) rfl (hb hby at_17) kk_) ?_
    show Go p.tables e below _ (s₁.setTop (mkF m 20 #[.val (.long x1), .second, .val (.long x2), .second, .val (.long x3), .second, .val (.int x4), .val (.long x2), .second, .val (.long x3), .second, .unset, .unset, .unset, .unset, .unset, .unset, .unset, .unset] [(.long ((-16) : Int64)), (.long x2)]))
    refine own_go (fun tt_ kk_ => XT.land X0.here hx rfl (hb hby at_20) rfl kk_) ?_
    show Go p.tables e below _ (s₁.setTop (mkF m 21 #[.val (.long x1), .second, .val (.long x2), .second, .val (.long x3), .second, .val (.int x4), .val (.long x2), .second, .val (.long x3), .second, .unset, .unset, .unset, .unset, .unset, .unset, .unset, .unset] [(.long (x2 &&& ((-16) : Int64)))]))
    refine own_go (fun tt_ kk_ => XT.lloadN X0.here hx rfl (hb hby at_21) rfl kk_) ?_
    show Go p.tables e below _ (s₁.setTop (mkF m 22 #[.val (.long x1), .second, .val (.long x2), .second, .val (.long x3), .second, .val (.int x4), .val (.long x2), .second, .val (.long x3), .second, .unset, .unset, .unset, .unset, .unset, .unset, .unset, .unset] [(.long x1), (.long (x2 &&& ((-16) : Int64)))]))
    refine own_go (fun tt_ kk_ => Jvm.Stand.ldc2J X0 hx hown (mvT hZ (hw _ (List.mem_of_getElem? (i := 69) rfl))) rfl (hb hby at_22) kk_) ?_
    show Go p.tables e below _ (s₁.setTop (mkF m 25 #[.val (.long x1), .second, .val (.long x2), .second, .val (.long x3), .second, .val (.int x4), .val (.long x2), .second, .val (.long x3), .second, .unset, .unset, .unset, .unset, .unset, .unset, .unset, .unset] [(.long (15 : Int64)), (.long x1), (.long (x2 &&& ((-16) : Int64)))]))
    refine own_go (fun tt_ kk_ => XT.land X0.here hx rfl (hb hby at_25) rfl kk_) ?_
    show Go p.tables e below _ (s₁.setTop (mkF m 26 #[.val (.long x1), .second, .val (.long x2), .second, .val (.long x3), .second, .val (.int x4), .val (.long x2), .second, .val (.long x3), .second, .unset, .unset, .unset, .unset, .unset, .unset, .unset, .unset] [(.long (x1 &&& (15 : Int64))), (.long (x2 &&& ((-16) : Int64)))]))
    refine own_go (fun tt_ kk_ => XT.lor X0.here hx rfl (hb hby at_26) rfl kk_) ?_
    show Go p.tables e below _ (s₁.setTop (mkF m 27 #[.val (.long x1), .second, .val (.long x2), .second, .val (.long x3), .second, .val (.int x4), .val (.long x2), .second, .val (.long x3), .second, .unset, .unset, .unset, .unset, .unset, .unset, .unset, .unset] [(.long ((x2 &&& ((-16) : Int64)) ||| (x1 &&& (15 : Int64))))]))
    refine own_go (fun tt_ kk_ => XT.lstore X0.here hx rfl (hb hby at_27) rfl (l' := #[.val (.long x1), .second, .val (.long x2), .second, .val (.long x3), .second, .val (.int x4), .val (.long ((x2 &&& ((-16) : Int64)) ||| (x1 &&& (15 : Int64)))), .second, .val (.long x3), .second, .unset, .unset, .unset, .unset, .unset, .unset, .unset, .unset]) rfl kk_) ?_
    show Go p.tables e below _ (s₁.setTop (mkF m 29 #[.val (.long x1), .second, .val (.long x2), .second, .val (.long x3), .second, .val (.int x4), .val (.long ((x2 &&& ((-16) : Int64)) ||| (x1 &&& (15 : Int64)))), .second, .val (.long x3), .second, .unset, .unset, .unset, .unset, .unset, .unset, .unset, .unset] []))
    exact J29 _
set_option maxRecDepth 65536 in
set_option maxHeartbeats 40000000 in
theorem comes_1 {Post : Tables → Env → Array Value → State → Outcome → State → Prop} (hpost : ∀ tb e args s v u, (limb_1_1.after args s (.returned v) u = true ∧ limb_1_2.after args s (.returned v) u = true ∧ True) → ReturnedEndW s (.returned v) u (Jvm.fieldLocs frame_1_writes args s ++ Jvm.arrayLocs frame_1_arrays args s ++ Jvm.staticLocs frame_1_statics s) 24 1216 → Post tb e args s (.returned v) u) :
    ArmFor flags0 classFile x code maxLocals ret World_1 tables_1 room_1 Calls_1 rest_1 Pre_1 Post := by
  intro l hfl _ _ p e ha hc hk s m args below hf hA hF happ hP
  obtain ⟨hcalls, hrest, hpre⟩ := hP
  obtain ⟨-, -, -, hnamed, -, -, -, hat⟩ := (Spec.applies_iff hf).mp happ
  obtain ⟨hg, -⟩ := and_e (Cond.before_iff.mp (show (Jvm.Cond.and given_1 narrow_1).before args s = true from hpre))
  obtain ⟨gc, ga0⟩ := and_e hg
  obtain ⟨gi0, ga1⟩ := and_e ga0
  obtain ⟨gi1, ga2⟩ := and_e ga1
  obtain ⟨gi2, ga3⟩ := and_e ga2
  have gi3 := ga3
  obtain ⟨w0, w1, w2, w3, rfl⟩ : ∃ w0 w1 w2 w3 : Value, args = #[w0, w1, w2, w3] := by
    have hs : args.size = 4 := by simpa [Cond.value, given_1] using gc
    obtain ⟨L⟩ := args
    match L, hs with
    | [w0, w1, w2, w3], _ => exact ⟨w0, w1, w2, w3, rfl⟩
  have hw := fun d (hd : d ∈ tables_1) => atoms_spec (ws := Jvm.Cond.code x code maxLocals ret :: tables_1) hat d (List.mem_cons_of_mem _ hd)
  obtain ⟨i0, ei0⟩ := isL_v gi0
  obtain rfl : w0 = (.long i0) := Option.some.inj ei0
  obtain ⟨i1, ei1⟩ := isL_v gi1
  obtain rfl : w1 = (.long i1) := Option.some.inj ei1
  obtain ⟨i2, ei2⟩ := isL_v gi2
  obtain rfl : w2 = (.long i2) := Option.some.inj ei2
  obtain ⟨i3, ei3⟩ := is_v gi3
  obtain rfl : w3 = (.int i3) := Option.some.inj ei3
  have hr := Cond.before_iff.mp (show rest_1_c.before #[(.long i0), (.long i1), (.long i2), (.int i3)] s = true from hrest)
  obtain ⟨j0, r0⟩ := and_e hr
  obtain ⟨j1, r1⟩ := and_e r0
  obtain ⟨j2, r2⟩ := and_e r1
  obtain ⟨j3, r3⟩ := and_e r2
  obtain ⟨j4, r4⟩ := and_e r3
  obtain ⟨j5, r5⟩ := and_e r4
  obtain ⟨j6, r6⟩ := and_e r5
  obtain ⟨j7, r7⟩ := and_e r6
  obtain ⟨hx, hy, b1, b2, b3, b4⟩ := cmp_v (Or.inl j3)
  have b5 : (Term.int 127).eval #[(.long i0), (.long i1), (.long i2), (.int i3)] s none [] s = some (.int 127) := Term.int_eval 127
  cases b5.symm.trans b2
  obtain ⟨hz, rfl⟩ := b4
  have b6 := gotT (u := (Jvm.Cond.eq (.static ICC "high" "I") (.int 127)).value #[(.long i0), (.long i1), (.long i2), (.int i3)] s none s []) (P := hz = 127) (by rw [Cond.value, b1, b5]) j3
  subst b6
  have S_high : Sta s s.heap ICC "high" "I" (.int 127) := Sta.start b1 (Or.inl (Cond.before_iff.mpr j1))
  obtain ⟨ca, evc⟩ := arr_v j4
  obtain ⟨ccl, Arc⟩ := Arr.start evc j4
  have S_cache := Sta.start evc (Or.inr ⟨(hw _ (List.mem_of_getElem? (i := 27) rfl)), Cond.before_iff.mpr j2⟩)
  have hcl : ccl.slots.size = 256 := (own_len evc Arc j6).1
  have evs : ∀ idx, CACHE.eval #[(.long i0), (.long i1), (.long i2), (.int i3)] s none idx s = some (.ref ca) := fun idx => evc
  obtain ⟨w_1, Bx_1, Ew_1, Vw_1⟩ := own_box evs Arc hcl j7 ((1 : Int32) + 128) (by decide) (by decide)
  obtain ⟨w_2, Bx_2, Ew_2, Vw_2⟩ := own_box evs Arc hcl j7 ((2 : Int32) + 128) (by decide) (by decide)
  obtain ⟨w_3, Bx_3, Ew_3, Vw_3⟩ := own_box evs Arc hcl j7 ((3 : Int32) + 128) (by decide) (by decide)
  obtain ⟨n, o, h1, h2, h3, _, L, rfl, ⟨rfl, N⟩, hq⟩ := rm_law l s _ hw tables_1 i0 i1 i2 i3 ca ccl w_1 w_2 w_3 s.heap s.heap.size (Nat.le_refl _) (Old.start s) S_high S_cache Arc hcl Bx_1 Ew_1 Bx_2 Ew_2 Bx_3 Ew_3 p e ha hc hk s m _ below hf ((Spec.applies_iff_loose hf).mp happ).1 ⟨rfl, State.Warmed39.refl s, rfl⟩ trivial
  refine ⟨n, _, h1, h2, h3, hpost _ _ _ _ _ _ ⟨Cond.after_iff.mpr rfl, Cond.after_iff.mpr (eq_i res_at (Term.int_eval (1)) rfl), trivial⟩ ⟨hq.1, hq.2.1, hq.2.2.1, (hq.2.2.2.sift fun y hy => Or.inr (N y hy)).mono (by decide) (by decide)⟩⟩
theorem main_1_1 : Claimed_1_1 := comes_1 fun _ _ _ _ _ _ h hF => ⟨h.1, hF⟩
theorem main_1_2 : Claimed_1_2 := comes_1 fun _ _ _ _ _ _ h hF => ⟨h.2.1, hF⟩
end Jvm.Pilot.@@N@@
namespace Jvm.Pilot.@@N@@
open Jvm Jvm.ClassFile Sem Op Lib Jvm.Free Jvm.Stand Jvm.Pilot.@@N@@.Jvm.D
/-! MADE BY PROGRAM (witnessworld.py) out of the Statement's table words and the real class files: 22 classes; the members and pool entries that the words name. The judged class is class 1, her method 2. -/
namespace start1
open Jvm.ClassFile
def u (s : String) : CpInfo := .utf8 (stringToUtf16 s)
/-- a pool by its gaps: so many unusable entries, then the entry; so many at the end -/
def gap : Nat → List CpInfo → List CpInfo
  | 0, r => r
  | n + 1, r => .unusable :: gap n r
def poolList (es : List (Nat × CpInfo)) (last : Nat) : List CpInfo := es.foldr (fun e r => gap e.1 (e.2 :: r)) (gap last [])
def pool (es : List (Nat × CpInfo)) (last : Nat) : Array CpInfo := ⟨poolList es last⟩
def fileOf (pool : Array CpInfo) (this : Nat) (attrs : Array Attribute := #[]) (ms : Array MethodInfo := #[]) (fl : Nat := 33) (sup : Nat := 0) (ifs : Array Nat := #[]) (fds : Array FieldInfo := #[]) : ClassFile where
  minorVersion := 0
  majorVersion := 65
  constantPool := pool
  accessFlags := fl
  thisClass := this
  superClass := sup
  interfaces := ifs
  fields := fds
  methods := ms
  attributes := attrs
def plain (name : String) (sup : Option ClassId) : Class where
  name := name
  kind := .ordinary
  loader := none
  accessFlags := 33
  super := sup
  interfaces := #[]
  cf := none
  fields := #[]
  methods := #[]
  instanceTypes := #[]
  staticTypes := #[]
  resolved := #[]
  callSites := []
  init := .initialized
  statics := none
  mirror := none

def pool0 : Array CpInfo := pool [(5, u "<init>"), (0, u "()V"), (1, .class_ 10), (1, u "java/lang/Object")] 113

def k0c0 : Code := { maxStack := 0, maxLocals := 1, code := object_method_1_code, exceptionTable := #[], attributes := #[] }
def k0m0 : Method := { name := "<init>", desc := "()V", sig := { parameters := [], returnType := none }, accessFlags := 1, code := some k0c0 }
/-- java/lang/Object -/
def k0 : Class := { plain "java/lang/Object" none with
  accessFlags := 33
  interfaces := #[]
  cf := some (fileOf pool0 8 #[] #[{ accessFlags := 1, nameIndex := 5, descriptorIndex := 6, attributes := #[] }] 33 0 #[] #[])
  fields := #[]
  methods := #[k0m0]
  instanceTypes := #[]
  staticTypes := #[]
  resolved := Array.replicate 124 none
  statics := none }

def pool1 : Array CpInfo := pool [(2, .class_ 4), (0, .nameAndType 5 6), (0, u "java/lang/Object"), (0, u "<init>"), (0, u "()V"), (0, .long 18446744073709551600), (1, .long 15), (1, .class_ 12), (0, u "com/example/rootlet/rootlet/IdMap"), (0, .methodref 11 3), (0, .methodref 15 16), (0, .class_ 17), (0, .nameAndType 18 19), (0, u "java/lang/Integer"), (0, u "valueOf"), (0, u "(I)Ljava/lang/Integer;"), (0, .methodref 11 21), (0, .nameAndType 22 23), (0, u "put"), (0, u "(JLjava/lang/Object;)Ljava/lang/Object;"), (0, .methodref 11 25), (0, .nameAndType 26 27), (0, u "remove"), (0, u "(J)Ljava/lang/Object;"), (0, .methodref 11 29), (0, .nameAndType 30 31), (0, u "ids"), (0, u "()[J"), (0, .methodref 33 34), (0, .class_ 35), (0, .nameAndType 36 37), (0, u "com/example/rootlet/rootlet/IdMapIdsPinLaw"), (0, u "expected"), (0, u "(JJJJZJ)Z"), (3, u "law"), (0, u "(JJJI)Z")] 4

def k1m0 : Method := { name := "<init>", desc := "()V", sig := { parameters := [], returnType := none }, accessFlags := 1, code := none }
def k1c1 : Code := { maxStack := 4, maxLocals := 11, code := method_2_code, exceptionTable := #[], attributes := #[] }
def k1m1 : Method := { name := "expected", desc := "(JJJJZJ)Z", sig := { parameters := [.long, .long, .long, .long, .boolean, .long], returnType := some .boolean }, accessFlags := 10, code := some k1c1 }
def k1c2 : Code := { maxStack := 11, maxLocals := 19, code := code, exceptionTable := #[], attributes := #[] }
def k1m2 : Method := { name := "law", desc := "(JJJI)Z", sig := { parameters := [.long, .long, .long, .int], returnType := some .boolean }, accessFlags := 9, code := some k1c2 }
/-- com/example/rootlet/rootlet/IdMapIdsPinLaw -/
def k1 : Class := { plain "com/example/rootlet/rootlet/IdMapIdsPinLaw" (some 0) with
  accessFlags := 49
  interfaces := #[]
  cf := some (fileOf pool1 33 #[] #[{ accessFlags := 1, nameIndex := 5, descriptorIndex := 6, attributes := #[] }, { accessFlags := 10, nameIndex := 36, descriptorIndex := 37, attributes := #[] }, { accessFlags := 9, nameIndex := 41, descriptorIndex := 42, attributes := #[] }] 49 2 #[] #[])
  fields := #[]
  methods := #[k1m0, k1m1, k1m2]
  instanceTypes := #[]
  staticTypes := #[]
  resolved := Array.replicate 47 none
  statics := none }

def pool2 : Array CpInfo := pool [(1, .methodref 2 3), (0, .class_ 4), (0, .nameAndType 5 6), (0, u "java/lang/Object"), (0, u "<init>"), (0, u "()V"), (0, .class_ 8), (0, u "com/example/rootlet/rootlet/IdMap"), (0, .methodref 7 10), (0, .nameAndType 11 12), (0, u "allocate"), (0, u "(I)V"), (0, .fieldref 7 14), (0, .nameAndType 15 16), (0, u "size"), (0, u "I"), (0, .methodref 7 18), (0, .nameAndType 19 20), (0, u "find"), (0, u "(J)I"), (0, .methodref 7 22), (0, .nameAndType 23 24), (0, u "value"), (0, u "(I)Ljava/lang/Object;"), (0, .string 23), (0, .methodref 27 28), (0, .class_ 29), (0, .nameAndType 30 31), (0, u "java/util/Objects"), (0, u "requireNonNull"), (0, u "(Ljava/lang/Object;Ljava/lang/String;)Ljava/lang/Object;"), (0, .methodref 7 33), (0, .nameAndType 34 20), (0, u "home"), (0, .fieldref 7 36), (0, .nameAndType 37 38), (0, u "values"), (0, u "[Ljava/lang/Object;"), (0, .fieldref 7 40), (0, .nameAndType 41 42), (0, u "keys"), (0, u "[J"), (0, .fieldref 7 44), (0, .nameAndType 45 16), (0, u "mask"), (9, .integer 1073741824), (1, .class_ 59), (1, u "com/example/rootlet/rootlet/IdMap$EntryVisitor"), (6, .long 11400714819323198485), (1, .long 15), (1, .class_ 71), (0, u "com/example/rootlet/rootlet/IdMap$1"), (3, u "MIN_SLOTS"), (2, u "MAX_SLOTS"), (4, u "(J)Ljava/lang/Object;"), (5, u "put"), (0, u "(JLjava/lang/Object;)Ljava/lang/Object;"), (1, u "remove"), (3, u "ids"), (0, u "()[J")] 40

def k2c0 : Code := { maxStack := 2, maxLocals := 1, code := prog_24_method_1_code, exceptionTable := #[], attributes := #[] }
def k2m0 : Method := { name := "<init>", desc := "()V", sig := { parameters := [], returnType := none }, accessFlags := 0, code := some k2c0 }
def k2c1 : Code := { maxStack := 4, maxLocals := 6, code := prog_24_method_5_code, exceptionTable := #[], attributes := #[] }
def k2m1 : Method := { name := "put", desc := "(JLjava/lang/Object;)Ljava/lang/Object;", sig := { parameters := [.long, (.object "java/lang/Object")], returnType := some (.object "java/lang/Object") }, accessFlags := 0, code := some k2c1 }
def k2c2 : Code := { maxStack := 4, maxLocals := 7, code := prog_24_method_6_code, exceptionTable := #[], attributes := #[] }
def k2m2 : Method := { name := "remove", desc := "(J)Ljava/lang/Object;", sig := { parameters := [.long], returnType := some (.object "java/lang/Object") }, accessFlags := 0, code := some k2c2 }
def k2c3 : Code := { maxStack := 4, maxLocals := 4, code := prog_24_method_8_code, exceptionTable := #[], attributes := #[] }
def k2m3 : Method := { name := "ids", desc := "()[J", sig := { parameters := [], returnType := some (.array .long) }, accessFlags := 0, code := some k2c3 }
def k2c4 : Code := { maxStack := 4, maxLocals := 4, code := prog_24_method_11_code, exceptionTable := #[], attributes := #[] }
def k2m4 : Method := { name := "find", desc := "(J)I", sig := { parameters := [.long], returnType := some .int }, accessFlags := 2, code := some k2c4 }
def k2c5 : Code := { maxStack := 6, maxLocals := 5, code := prog_24_method_12_code, exceptionTable := #[], attributes := #[] }
def k2m5 : Method := { name := "home", desc := "(J)I", sig := { parameters := [.long], returnType := some .int }, accessFlags := 2, code := some k2c5 }
def k2c6 : Code := { maxStack := 2, maxLocals := 2, code := prog_24_method_13_code, exceptionTable := #[], attributes := #[] }
def k2m6 : Method := { name := "value", desc := "(I)Ljava/lang/Object;", sig := { parameters := [.int], returnType := some (.object "java/lang/Object") }, accessFlags := 2, code := some k2c6 }
def k2c7 : Code := { maxStack := 4, maxLocals := 6, code := prog_24_method_14_code, exceptionTable := #[], attributes := #[] }
def k2m7 : Method := { name := "allocate", desc := "(I)V", sig := { parameters := [.int], returnType := none }, accessFlags := 2, code := some k2c7 }
/-- com/example/rootlet/rootlet/IdMap -/
def k2 : Class := { plain "com/example/rootlet/rootlet/IdMap" (some 0) with
  accessFlags := 48
  interfaces := #[]
  cf := some (fileOf pool2 7 #[.nestMembers #[57, 70]] #[{ accessFlags := 0, nameIndex := 5, descriptorIndex := 6, attributes := #[] }, { accessFlags := 0, nameIndex := 89, descriptorIndex := 90, attributes := #[] }, { accessFlags := 0, nameIndex := 92, descriptorIndex := 83, attributes := #[] }, { accessFlags := 0, nameIndex := 96, descriptorIndex := 97, attributes := #[] }, { accessFlags := 2, nameIndex := 19, descriptorIndex := 20, attributes := #[] }, { accessFlags := 2, nameIndex := 34, descriptorIndex := 20, attributes := #[] }, { accessFlags := 2, nameIndex := 23, descriptorIndex := 24, attributes := #[] }, { accessFlags := 2, nameIndex := 11, descriptorIndex := 12, attributes := #[] }] 48 2 #[] #[{ accessFlags := 26, nameIndex := 75, descriptorIndex := 16, attributes := #[] }, { accessFlags := 26, nameIndex := 78, descriptorIndex := 16, attributes := #[] }, { accessFlags := 2, nameIndex := 41, descriptorIndex := 42, attributes := #[] }, { accessFlags := 2, nameIndex := 37, descriptorIndex := 38, attributes := #[] }, { accessFlags := 2, nameIndex := 45, descriptorIndex := 16, attributes := #[] }, { accessFlags := 2, nameIndex := 15, descriptorIndex := 16, attributes := #[] }])
  fields := #[{ name := "MIN_SLOTS", type := .int, accessFlags := 26, slot := 0, constantValue := 0 }, { name := "MAX_SLOTS", type := .int, accessFlags := 26, slot := 1, constantValue := 0 }, { name := "keys", type := (.array .long), accessFlags := 2, slot := 0, constantValue := 0 }, { name := "values", type := (.array (.object "java/lang/Object")), accessFlags := 2, slot := 1, constantValue := 0 }, { name := "mask", type := .int, accessFlags := 2, slot := 2, constantValue := 0 }, { name := "size", type := .int, accessFlags := 2, slot := 3, constantValue := 0 }]
  methods := #[k2m0, k2m1, k2m2, k2m3, k2m4, k2m5, k2m6, k2m7]
  instanceTypes := #[(.array .long), (.array (.object "java/lang/Object")), .int, .int]
  staticTypes := #[.int, .int]
  resolved := Array.replicate 138 none
  statics := none }

def pool3 : Array CpInfo := pool [(1, .class_ 2), (0, u "java/io/Serializable"), (0, .class_ 4), (0, u "java/lang/Object")] 2

/-- java/io/Serializable -/
def k3 : Class := { plain "java/io/Serializable" (some 0) with
  accessFlags := 1537
  interfaces := #[]
  cf := some (fileOf pool3 1 #[] #[] 1537 3 #[] #[])
  fields := #[]
  methods := #[]
  instanceTypes := #[]
  staticTypes := #[]
  resolved := Array.replicate 7 none
  statics := none }

def pool4 : Array CpInfo := pool [(2, .class_ 4), (1, u "java/lang/Object"), (0, u "<init>"), (0, u "()V"), (1, .class_ 10), (1, u "java/lang/Number"), (2, .class_ 14), (0, u "java/io/Serializable"), (0, u "serialVersionUID"), (0, u "J")] 20

def k4m0 : Method := { name := "<init>", desc := "()V", sig := { parameters := [], returnType := none }, accessFlags := 1, code := none }
/-- java/lang/Number -/
def k4 : Class := { plain "java/lang/Number" (some 0) with
  accessFlags := 1057
  interfaces := #[3]
  cf := some (fileOf pool4 8 #[] #[{ accessFlags := 1, nameIndex := 5, descriptorIndex := 6, attributes := #[] }] 1057 2 #[13] #[{ accessFlags := 26, nameIndex := 15, descriptorIndex := 16, attributes := #[] }])
  fields := #[{ name := "serialVersionUID", type := .long, accessFlags := 26, slot := 0, constantValue := 0 }]
  methods := #[k4m0]
  instanceTypes := #[]
  staticTypes := #[.long]
  resolved := Array.replicate 37 none
  statics := none }

def pool5 : Array CpInfo := pool [(1, .class_ 2), (0, u "java/lang/Comparable"), (0, .class_ 4), (0, u "java/lang/Object")] 7

/-- java/lang/Comparable -/
def k5 : Class := { plain "java/lang/Comparable" (some 0) with
  accessFlags := 1537
  interfaces := #[]
  cf := some (fileOf pool5 1 #[] #[] 1537 3 #[] #[])
  fields := #[]
  methods := #[]
  instanceTypes := #[]
  staticTypes := #[]
  resolved := Array.replicate 12 none
  statics := none }

def pool6 : Array CpInfo := pool [(1, .class_ 2), (0, u "java/lang/constant/Constable"), (0, .class_ 4), (0, u "java/lang/Object")] 6

/-- java/lang/constant/Constable -/
def k6 : Class := { plain "java/lang/constant/Constable" (some 0) with
  accessFlags := 1537
  interfaces := #[]
  cf := some (fileOf pool6 1 #[] #[] 1537 3 #[] #[])
  fields := #[]
  methods := #[]
  instanceTypes := #[]
  staticTypes := #[]
  resolved := Array.replicate 11 none
  statics := none }

def pool7 : Array CpInfo := pool [(1, .class_ 2), (0, u "java/lang/constant/ConstantDesc"), (0, .class_ 4), (0, u "java/lang/Object")] 32

/-- java/lang/constant/ConstantDesc -/
def k7 : Class := { plain "java/lang/constant/ConstantDesc" (some 0) with
  accessFlags := 1537
  interfaces := #[]
  cf := some (fileOf pool7 1 #[] #[] 1537 3 #[] #[])
  fields := #[]
  methods := #[]
  instanceTypes := #[]
  staticTypes := #[]
  resolved := Array.replicate 37 none
  statics := none }

def pool8 : Array CpInfo := pool [(1, .class_ 2), (0, u "java/lang/Integer"), (16, u "digits"), (0, u "[C"), (64, u "DigitOnes"), (0, u "[B"), (2, u "DigitTens"), (97, u "valueOf"), (0, u "(I)Ljava/lang/Integer;"), (0, .class_ 190), (0, u "java/lang/Integer$IntegerCache"), (0, .fieldref 189 192), (0, .nameAndType 193 194), (0, u "high"), (0, u "I"), (0, .fieldref 189 196), (0, .nameAndType 197 198), (0, u "cache"), (0, u "[Ljava/lang/Integer;"), (4, .class_ 204), (0, u "java/lang/Number"), (2, u "value"), (94, u "TYPE"), (0, u "Ljava/lang/Class;"), (0, .class_ 305), (0, u "java/lang/Comparable"), (0, .class_ 307), (0, u "java/lang/constant/Constable"), (0, .class_ 309), (0, u "java/lang/constant/ConstantDesc"), (0, u "MIN_VALUE"), (1, u "MAX_VALUE"), (3, u "SIZE"), (1, u "BYTES"), (1, u "serialVersionUID"), (0, u "J")] 131

def k8c0 : Code := { maxStack := 3, maxLocals := 1, code := jdk_33_method_22_code, exceptionTable := #[], attributes := #[] }
def k8m0 : Method := { name := "valueOf", desc := "(I)Ljava/lang/Integer;", sig := { parameters := [.int], returnType := some (.object "java/lang/Integer") }, accessFlags := 9, code := some k8c0 }
/-- java/lang/Integer -/
def k8 : Class := { plain "java/lang/Integer" (some 4) with
  accessFlags := 49
  interfaces := #[5, 6, 7]
  cf := some (fileOf pool8 1 #[.nestMembers #[189]] #[{ accessFlags := 9, nameIndex := 187, descriptorIndex := 188, attributes := #[] }] 49 203 #[304, 306, 308] #[{ accessFlags := 25, nameIndex := 310, descriptorIndex := 194, attributes := #[] }, { accessFlags := 25, nameIndex := 312, descriptorIndex := 194, attributes := #[] }, { accessFlags := 25, nameIndex := 302, descriptorIndex := 303, attributes := #[] }, { accessFlags := 24, nameIndex := 19, descriptorIndex := 20, attributes := #[] }, { accessFlags := 24, nameIndex := 89, descriptorIndex := 86, attributes := #[] }, { accessFlags := 24, nameIndex := 85, descriptorIndex := 86, attributes := #[] }, { accessFlags := 18, nameIndex := 207, descriptorIndex := 194, attributes := #[] }, { accessFlags := 25, nameIndex := 316, descriptorIndex := 194, attributes := #[] }, { accessFlags := 25, nameIndex := 318, descriptorIndex := 194, attributes := #[] }, { accessFlags := 26, nameIndex := 320, descriptorIndex := 321, attributes := #[] }])
  fields := #[{ name := "MIN_VALUE", type := .int, accessFlags := 25, slot := 0, constantValue := 0 }, { name := "MAX_VALUE", type := .int, accessFlags := 25, slot := 1, constantValue := 0 }, { name := "TYPE", type := (.object "java/lang/Class"), accessFlags := 25, slot := 2, constantValue := 0 }, { name := "digits", type := (.array .char), accessFlags := 24, slot := 3, constantValue := 0 }, { name := "DigitTens", type := (.array .byte), accessFlags := 24, slot := 4, constantValue := 0 }, { name := "DigitOnes", type := (.array .byte), accessFlags := 24, slot := 5, constantValue := 0 }, { name := "value", type := .int, accessFlags := 18, slot := 0, constantValue := 0 }, { name := "SIZE", type := .int, accessFlags := 25, slot := 6, constantValue := 0 }, { name := "BYTES", type := .int, accessFlags := 25, slot := 7, constantValue := 0 }, { name := "serialVersionUID", type := .long, accessFlags := 26, slot := 8, constantValue := 0 }]
  methods := #[k8m0]
  instanceTypes := #[.int]
  staticTypes := #[.int, .int, (.object "java/lang/Class"), (.array .char), (.array .byte), (.array .byte), .int, .int, .long]
  resolved := Array.replicate 453 none
  statics := none }

def pool9 : Array CpInfo := pool [(2, .class_ 4), (1, u "java/lang/Object"), (0, u "<init>"), (0, u "()V"), (0, .class_ 8), (0, u "java/lang/Integer"), (7, .class_ 18), (1, u "java/lang/Integer$IntegerCache"), (0, u "$assertionsDisabled"), (0, u "Z"), (26, u "high"), (0, u "I"), (8, u "archivedCache"), (0, u "[Ljava/lang/Integer;"), (12, u "cache"), (0, u "low")] 27

def k9m0 : Method := { name := "<init>", desc := "()V", sig := { parameters := [], returnType := none }, accessFlags := 2, code := none }
/-- java/lang/Integer$IntegerCache -/
def k9 : Class := { plain "java/lang/Integer$IntegerCache" (some 0) with
  accessFlags := 48
  interfaces := #[]
  cf := some (fileOf pool9 16 #[.nestHost 7] #[{ accessFlags := 2, nameIndex := 5, descriptorIndex := 6, attributes := #[] }] 48 2 #[] #[{ accessFlags := 24, nameIndex := 72, descriptorIndex := 48, attributes := #[] }, { accessFlags := 24, nameIndex := 47, descriptorIndex := 48, attributes := #[] }, { accessFlags := 24, nameIndex := 71, descriptorIndex := 58, attributes := #[] }, { accessFlags := 8, nameIndex := 57, descriptorIndex := 58, attributes := #[] }, { accessFlags := 4120, nameIndex := 19, descriptorIndex := 20, attributes := #[] }])
  fields := #[{ name := "low", type := .int, accessFlags := 24, slot := 0, constantValue := 0 }, { name := "high", type := .int, accessFlags := 24, slot := 1, constantValue := 0 }, { name := "cache", type := (.array (.object "java/lang/Integer")), accessFlags := 24, slot := 2, constantValue := 0 }, { name := "archivedCache", type := (.array (.object "java/lang/Integer")), accessFlags := 8, slot := 3, constantValue := 0 }, { name := "$assertionsDisabled", type := .boolean, accessFlags := 4120, slot := 4, constantValue := 0 }]
  methods := #[k9m0]
  instanceTypes := #[]
  staticTypes := #[.int, .int, (.array (.object "java/lang/Integer")), (.array (.object "java/lang/Integer")), .boolean]
  resolved := Array.replicate 100 none
  statics := some 0 }

def pool10 : Array CpInfo := pool [(2, .class_ 4), (1, u "java/lang/CharSequence"), (42, .class_ 48), (0, u "java/lang/CharSequence$1CodePointIterator"), (10, .class_ 60), (0, u "java/lang/CharSequence$1CharIterator"), (5, .class_ 67), (0, u "java/lang/Object")] 63

/-- java/lang/CharSequence -/
def k10 : Class := { plain "java/lang/CharSequence" (some 0) with
  accessFlags := 1537
  interfaces := #[]
  cf := some (fileOf pool10 2 #[.nestMembers #[47, 59]] #[] 1537 66 #[] #[])
  fields := #[]
  methods := #[]
  instanceTypes := #[]
  staticTypes := #[]
  resolved := Array.replicate 131 none
  statics := none }

def pool11 : Array CpInfo := pool [(2, .class_ 4), (1, u "java/lang/Object"), (0, u "<init>"), (0, u "()V"), (3, .class_ 12), (1, u "java/lang/String"), (0, u "value"), (0, u "[B"), (2, u "coder"), (0, u "B"), (2, u "hash"), (0, u "I"), (2, u "hashIsZero"), (0, u "Z"), (13, u "COMPACT_STRINGS"), (534, .class_ 576), (0, u "java/lang/CharSequence"), (22, u "CASE_INSENSITIVE_ORDER"), (0, u "Ljava/util/Comparator;"), (500, u "serialPersistentFields"), (0, u "[Ljava/io/ObjectStreamField;"), (0, .class_ 1104), (0, u "java/lang/String$CaseInsensitiveComparator"), (1, .class_ 1107), (0, u "java/io/Serializable"), (0, .class_ 1109), (0, u "java/lang/Comparable"), (0, .class_ 1111), (0, u "java/lang/constant/Constable"), (0, .class_ 1113), (0, u "java/lang/constant/ConstantDesc"), (2, u "serialVersionUID"), (0, u "J"), (3, u "REPL"), (0, u "C"), (2, u "LATIN1"), (1, u "UTF16")] 323

def k11m0 : Method := { name := "<init>", desc := "()V", sig := { parameters := [], returnType := none }, accessFlags := 1, code := none }
/-- java/lang/String -/
def k11 : Class := { plain "java/lang/String" (some 0) with
  accessFlags := 49
  interfaces := #[3, 5, 10, 6, 7]
  cf := some (fileOf pool11 10 #[.nestMembers #[1103]] #[{ accessFlags := 1, nameIndex := 5, descriptorIndex := 6, attributes := #[] }] 49 2 #[1106, 1108, 575, 1110, 1112] #[{ accessFlags := 18, nameIndex := 13, descriptorIndex := 14, attributes := #[] }, { accessFlags := 18, nameIndex := 17, descriptorIndex := 18, attributes := #[] }, { accessFlags := 2, nameIndex := 21, descriptorIndex := 22, attributes := #[] }, { accessFlags := 2, nameIndex := 25, descriptorIndex := 26, attributes := #[] }, { accessFlags := 26, nameIndex := 1116, descriptorIndex := 1117, attributes := #[] }, { accessFlags := 24, nameIndex := 40, descriptorIndex := 26, attributes := #[] }, { accessFlags := 26, nameIndex := 1101, descriptorIndex := 1102, attributes := #[] }, { accessFlags := 26, nameIndex := 1121, descriptorIndex := 1122, attributes := #[] }, { accessFlags := 25, nameIndex := 599, descriptorIndex := 600, attributes := #[] }, { accessFlags := 24, nameIndex := 1125, descriptorIndex := 18, attributes := #[] }, { accessFlags := 24, nameIndex := 1127, descriptorIndex := 18, attributes := #[] }])
  fields := #[{ name := "value", type := (.array .byte), accessFlags := 18, slot := 0, constantValue := 0 }, { name := "coder", type := .byte, accessFlags := 18, slot := 1, constantValue := 0 }, { name := "hash", type := .int, accessFlags := 2, slot := 2, constantValue := 0 }, { name := "hashIsZero", type := .boolean, accessFlags := 2, slot := 3, constantValue := 0 }, { name := "serialVersionUID", type := .long, accessFlags := 26, slot := 0, constantValue := 0 }, { name := "COMPACT_STRINGS", type := .boolean, accessFlags := 24, slot := 1, constantValue := 0 }, { name := "serialPersistentFields", type := (.array (.object "java/io/ObjectStreamField")), accessFlags := 26, slot := 2, constantValue := 0 }, { name := "REPL", type := .char, accessFlags := 26, slot := 3, constantValue := 0 }, { name := "CASE_INSENSITIVE_ORDER", type := (.object "java/util/Comparator"), accessFlags := 25, slot := 4, constantValue := 0 }, { name := "LATIN1", type := .byte, accessFlags := 24, slot := 5, constantValue := 0 }, { name := "UTF16", type := .byte, accessFlags := 24, slot := 6, constantValue := 0 }]
  methods := #[k11m0]
  instanceTypes := #[(.array .byte), .byte, .int, .boolean]
  staticTypes := #[.long, .boolean, (.array (.object "java/io/ObjectStreamField")), .char, (.object "java/util/Comparator"), .byte, .byte]
  resolved := Array.replicate 1451 none
  statics := none }

def pool12 : Array CpInfo := pool [(2, .class_ 4), (1, u "java/lang/Object"), (0, u "<init>"), (0, u "()V"), (35, .class_ 44), (1, u "java/util/Objects"), (0, u "requireNonNull"), (48, u "(Ljava/lang/Object;Ljava/lang/String;)Ljava/lang/Object;")] 89

def k12m0 : Method := { name := "<init>", desc := "()V", sig := { parameters := [], returnType := none }, accessFlags := 2, code := none }
def k12c1 : Code := { maxStack := 3, maxLocals := 2, code := jdk_31_method_11_code, exceptionTable := #[], attributes := #[] }
def k12m1 : Method := { name := "requireNonNull", desc := "(Ljava/lang/Object;Ljava/lang/String;)Ljava/lang/Object;", sig := { parameters := [(.object "java/lang/Object"), (.object "java/lang/String")], returnType := some (.object "java/lang/Object") }, accessFlags := 9, code := some k12c1 }
/-- java/util/Objects -/
def k12 : Class := { plain "java/util/Objects" (some 0) with
  accessFlags := 49
  interfaces := #[]
  cf := some (fileOf pool12 42 #[] #[{ accessFlags := 2, nameIndex := 5, descriptorIndex := 6, attributes := #[] }, { accessFlags := 9, nameIndex := 45, descriptorIndex := 94, attributes := #[] }] 49 2 #[] #[])
  fields := #[]
  methods := #[k12m0, k12m1]
  instanceTypes := #[]
  staticTypes := #[]
  resolved := Array.replicate 184 none
  statics := none }

def pool13 : Array CpInfo := pool [(1, u "java/lang/Cloneable"), (0, .class_ 1), (0, u "java/lang/Object"), (0, .class_ 3)] 3

/-- java/lang/Cloneable -/
def k13 : Class := { plain "java/lang/Cloneable" (some 0) with
  accessFlags := 1537
  interfaces := #[]
  cf := some (fileOf pool13 2 #[] #[] 1537 4 #[] #[])
  fields := #[]
  methods := #[]
  instanceTypes := #[]
  staticTypes := #[]
  resolved := Array.replicate 8 none
  statics := none }

/-- the primitive byte -/
def k14 : Class := { plain "byte" none with kind := .primitive 'B', accessFlags := 0x411 }
/-- [B -/
def k15 : Class := { plain "[B" (some 0) with kind := .array 14 .byte, interfaces := #[13, 3], accessFlags := 1041 }

/-- the primitive int -/
def k16 : Class := { plain "int" none with kind := .primitive 'I', accessFlags := 0x411 }
/-- [I -/
def k17 : Class := { plain "[I" (some 0) with kind := .array 16 .int, interfaces := #[13, 3], accessFlags := 1041 }

/-- the primitive long -/
def k18 : Class := { plain "long" none with kind := .primitive 'J', accessFlags := 0x411 }
/-- [J -/
def k19 : Class := { plain "[J" (some 0) with kind := .array 18 .long, interfaces := #[13, 3], accessFlags := 1041 }

/-- [Ljava/lang/Integer; -/
def k20 : Class := { plain "[Ljava/lang/Integer;" (some 0) with kind := .array 8 (.object "java/lang/Integer"), interfaces := #[13, 3], accessFlags := 1041 }

/-- [Ljava/lang/Object; -/
def k21 : Class := { plain "[Ljava/lang/Object;" (some 0) with kind := .array 0 (.object "java/lang/Object"), interfaces := #[13, 3], accessFlags := 1041 }

def heap : Heap := #[{ cls := 9, slots := #[.int 0, .int 127, .ref 1, .null, .int 0], vm := .statics 9 },
  { cls := 20, slots := #[.ref 2, .ref 3, .ref 4, .ref 5, .ref 6, .ref 7, .ref 8, .ref 9, .ref 10, .ref 11, .ref 12, .ref 13, .ref 14, .ref 15, .ref 16, .ref 17, .ref 18, .ref 19, .ref 20, .ref 21, .ref 22, .ref 23, .ref 24, .ref 25, .ref 26, .ref 27, .ref 28, .ref 29, .ref 30, .ref 31, .ref 32, .ref 33, .ref 34, .ref 35, .ref 36, .ref 37, .ref 38, .ref 39, .ref 40, .ref 41, .ref 42, .ref 43, .ref 44, .ref 45, .ref 46, .ref 47, .ref 48, .ref 49, .ref 50, .ref 51, .ref 52, .ref 53, .ref 54, .ref 55, .ref 56, .ref 57, .ref 58, .ref 59, .ref 60, .ref 61, .ref 62, .ref 63, .ref 64, .ref 65, .ref 66, .ref 67, .ref 68, .ref 69, .ref 70, .ref 71, .ref 72, .ref 73, .ref 74, .ref 75, .ref 76, .ref 77, .ref 78, .ref 79, .ref 80, .ref 81, .ref 82, .ref 83, .ref 84, .ref 85, .ref 86, .ref 87, .ref 88, .ref 89, .ref 90, .ref 91, .ref 92, .ref 93, .ref 94, .ref 95, .ref 96, .ref 97, .ref 98, .ref 99, .ref 100, .ref 101, .ref 102, .ref 103, .ref 104, .ref 105, .ref 106, .ref 107, .ref 108, .ref 109, .ref 110, .ref 111, .ref 112, .ref 113, .ref 114, .ref 115, .ref 116, .ref 117, .ref 118, .ref 119, .ref 120, .ref 121, .ref 122, .ref 123, .ref 124, .ref 125, .ref 126, .ref 127, .ref 128, .ref 129, .ref 130, .ref 131, .ref 132, .ref 133, .ref 134, .ref 135, .ref 136, .ref 137, .ref 138, .ref 139, .ref 140, .ref 141, .ref 142, .ref 143, .ref 144, .ref 145, .ref 146, .ref 147, .ref 148, .ref 149, .ref 150, .ref 151, .ref 152, .ref 153, .ref 154, .ref 155, .ref 156, .ref 157, .ref 158, .ref 159, .ref 160, .ref 161, .ref 162, .ref 163, .ref 164, .ref 165, .ref 166, .ref 167, .ref 168, .ref 169, .ref 170, .ref 171, .ref 172, .ref 173, .ref 174, .ref 175, .ref 176, .ref 177, .ref 178, .ref 179, .ref 180, .ref 181, .ref 182, .ref 183, .ref 184, .ref 185, .ref 186, .ref 187, .ref 188, .ref 189, .ref 190, .ref 191, .ref 192, .ref 193, .ref 194, .ref 195, .ref 196, .ref 197, .ref 198, .ref 199, .ref 200, .ref 201, .ref 202, .ref 203, .ref 204, .ref 205, .ref 206, .ref 207, .ref 208, .ref 209, .ref 210, .ref 211, .ref 212, .ref 213, .ref 214, .ref 215, .ref 216, .ref 217, .ref 218, .ref 219, .ref 220, .ref 221, .ref 222, .ref 223, .ref 224, .ref 225, .ref 226, .ref 227, .ref 228, .ref 229, .ref 230, .ref 231, .ref 232, .ref 233, .ref 234, .ref 235, .ref 236, .ref 237, .ref 238, .ref 239, .ref 240, .ref 241, .ref 242, .ref 243, .ref 244, .ref 245, .ref 246, .ref 247, .ref 248, .ref 249, .ref 250, .ref 251, .ref 252, .ref 253, .ref 254, .ref 255, .ref 256, .ref 257], vm := .none },
  { cls := 8, slots := #[.int (-128)], vm := .none },
  { cls := 8, slots := #[.int (-127)], vm := .none },
  { cls := 8, slots := #[.int (-126)], vm := .none },
  { cls := 8, slots := #[.int (-125)], vm := .none },
  { cls := 8, slots := #[.int (-124)], vm := .none },
  { cls := 8, slots := #[.int (-123)], vm := .none },
  { cls := 8, slots := #[.int (-122)], vm := .none },
  { cls := 8, slots := #[.int (-121)], vm := .none },
  { cls := 8, slots := #[.int (-120)], vm := .none },
  { cls := 8, slots := #[.int (-119)], vm := .none },
  { cls := 8, slots := #[.int (-118)], vm := .none },
  { cls := 8, slots := #[.int (-117)], vm := .none },
  { cls := 8, slots := #[.int (-116)], vm := .none },
  { cls := 8, slots := #[.int (-115)], vm := .none },
  { cls := 8, slots := #[.int (-114)], vm := .none },
  { cls := 8, slots := #[.int (-113)], vm := .none },
  { cls := 8, slots := #[.int (-112)], vm := .none },
  { cls := 8, slots := #[.int (-111)], vm := .none },
  { cls := 8, slots := #[.int (-110)], vm := .none },
  { cls := 8, slots := #[.int (-109)], vm := .none },
  { cls := 8, slots := #[.int (-108)], vm := .none },
  { cls := 8, slots := #[.int (-107)], vm := .none },
  { cls := 8, slots := #[.int (-106)], vm := .none },
  { cls := 8, slots := #[.int (-105)], vm := .none },
  { cls := 8, slots := #[.int (-104)], vm := .none },
  { cls := 8, slots := #[.int (-103)], vm := .none },
  { cls := 8, slots := #[.int (-102)], vm := .none },
  { cls := 8, slots := #[.int (-101)], vm := .none },
  { cls := 8, slots := #[.int (-100)], vm := .none },
  { cls := 8, slots := #[.int (-99)], vm := .none },
  { cls := 8, slots := #[.int (-98)], vm := .none },
  { cls := 8, slots := #[.int (-97)], vm := .none },
  { cls := 8, slots := #[.int (-96)], vm := .none },
  { cls := 8, slots := #[.int (-95)], vm := .none },
  { cls := 8, slots := #[.int (-94)], vm := .none },
  { cls := 8, slots := #[.int (-93)], vm := .none },
  { cls := 8, slots := #[.int (-92)], vm := .none },
  { cls := 8, slots := #[.int (-91)], vm := .none },
  { cls := 8, slots := #[.int (-90)], vm := .none },
  { cls := 8, slots := #[.int (-89)], vm := .none },
  { cls := 8, slots := #[.int (-88)], vm := .none },
  { cls := 8, slots := #[.int (-87)], vm := .none },
  { cls := 8, slots := #[.int (-86)], vm := .none },
  { cls := 8, slots := #[.int (-85)], vm := .none },
  { cls := 8, slots := #[.int (-84)], vm := .none },
  { cls := 8, slots := #[.int (-83)], vm := .none },
  { cls := 8, slots := #[.int (-82)], vm := .none },
  { cls := 8, slots := #[.int (-81)], vm := .none },
  { cls := 8, slots := #[.int (-80)], vm := .none },
  { cls := 8, slots := #[.int (-79)], vm := .none },
  { cls := 8, slots := #[.int (-78)], vm := .none },
  { cls := 8, slots := #[.int (-77)], vm := .none },
  { cls := 8, slots := #[.int (-76)], vm := .none },
  { cls := 8, slots := #[.int (-75)], vm := .none },
  { cls := 8, slots := #[.int (-74)], vm := .none },
  { cls := 8, slots := #[.int (-73)], vm := .none },
  { cls := 8, slots := #[.int (-72)], vm := .none },
  { cls := 8, slots := #[.int (-71)], vm := .none },
  { cls := 8, slots := #[.int (-70)], vm := .none },
  { cls := 8, slots := #[.int (-69)], vm := .none },
  { cls := 8, slots := #[.int (-68)], vm := .none },
  { cls := 8, slots := #[.int (-67)], vm := .none },
  { cls := 8, slots := #[.int (-66)], vm := .none },
  { cls := 8, slots := #[.int (-65)], vm := .none },
  { cls := 8, slots := #[.int (-64)], vm := .none },
  { cls := 8, slots := #[.int (-63)], vm := .none },
  { cls := 8, slots := #[.int (-62)], vm := .none },
  { cls := 8, slots := #[.int (-61)], vm := .none },
  { cls := 8, slots := #[.int (-60)], vm := .none },
  { cls := 8, slots := #[.int (-59)], vm := .none },
  { cls := 8, slots := #[.int (-58)], vm := .none },
  { cls := 8, slots := #[.int (-57)], vm := .none },
  { cls := 8, slots := #[.int (-56)], vm := .none },
  { cls := 8, slots := #[.int (-55)], vm := .none },
  { cls := 8, slots := #[.int (-54)], vm := .none },
  { cls := 8, slots := #[.int (-53)], vm := .none },
  { cls := 8, slots := #[.int (-52)], vm := .none },
  { cls := 8, slots := #[.int (-51)], vm := .none },
  { cls := 8, slots := #[.int (-50)], vm := .none },
  { cls := 8, slots := #[.int (-49)], vm := .none },
  { cls := 8, slots := #[.int (-48)], vm := .none },
  { cls := 8, slots := #[.int (-47)], vm := .none },
  { cls := 8, slots := #[.int (-46)], vm := .none },
  { cls := 8, slots := #[.int (-45)], vm := .none },
  { cls := 8, slots := #[.int (-44)], vm := .none },
  { cls := 8, slots := #[.int (-43)], vm := .none },
  { cls := 8, slots := #[.int (-42)], vm := .none },
  { cls := 8, slots := #[.int (-41)], vm := .none },
  { cls := 8, slots := #[.int (-40)], vm := .none },
  { cls := 8, slots := #[.int (-39)], vm := .none },
  { cls := 8, slots := #[.int (-38)], vm := .none },
  { cls := 8, slots := #[.int (-37)], vm := .none },
  { cls := 8, slots := #[.int (-36)], vm := .none },
  { cls := 8, slots := #[.int (-35)], vm := .none },
  { cls := 8, slots := #[.int (-34)], vm := .none },
  { cls := 8, slots := #[.int (-33)], vm := .none },
  { cls := 8, slots := #[.int (-32)], vm := .none },
  { cls := 8, slots := #[.int (-31)], vm := .none },
  { cls := 8, slots := #[.int (-30)], vm := .none },
  { cls := 8, slots := #[.int (-29)], vm := .none },
  { cls := 8, slots := #[.int (-28)], vm := .none },
  { cls := 8, slots := #[.int (-27)], vm := .none },
  { cls := 8, slots := #[.int (-26)], vm := .none },
  { cls := 8, slots := #[.int (-25)], vm := .none },
  { cls := 8, slots := #[.int (-24)], vm := .none },
  { cls := 8, slots := #[.int (-23)], vm := .none },
  { cls := 8, slots := #[.int (-22)], vm := .none },
  { cls := 8, slots := #[.int (-21)], vm := .none },
  { cls := 8, slots := #[.int (-20)], vm := .none },
  { cls := 8, slots := #[.int (-19)], vm := .none },
  { cls := 8, slots := #[.int (-18)], vm := .none },
  { cls := 8, slots := #[.int (-17)], vm := .none },
  { cls := 8, slots := #[.int (-16)], vm := .none },
  { cls := 8, slots := #[.int (-15)], vm := .none },
  { cls := 8, slots := #[.int (-14)], vm := .none },
  { cls := 8, slots := #[.int (-13)], vm := .none },
  { cls := 8, slots := #[.int (-12)], vm := .none },
  { cls := 8, slots := #[.int (-11)], vm := .none },
  { cls := 8, slots := #[.int (-10)], vm := .none },
  { cls := 8, slots := #[.int (-9)], vm := .none },
  { cls := 8, slots := #[.int (-8)], vm := .none },
  { cls := 8, slots := #[.int (-7)], vm := .none },
  { cls := 8, slots := #[.int (-6)], vm := .none },
  { cls := 8, slots := #[.int (-5)], vm := .none },
  { cls := 8, slots := #[.int (-4)], vm := .none },
  { cls := 8, slots := #[.int (-3)], vm := .none },
  { cls := 8, slots := #[.int (-2)], vm := .none },
  { cls := 8, slots := #[.int (-1)], vm := .none },
  { cls := 8, slots := #[.int 0], vm := .none },
  { cls := 8, slots := #[.int 1], vm := .none },
  { cls := 8, slots := #[.int 2], vm := .none },
  { cls := 8, slots := #[.int 3], vm := .none },
  { cls := 8, slots := #[.int 4], vm := .none },
  { cls := 8, slots := #[.int 5], vm := .none },
  { cls := 8, slots := #[.int 6], vm := .none },
  { cls := 8, slots := #[.int 7], vm := .none },
  { cls := 8, slots := #[.int 8], vm := .none },
  { cls := 8, slots := #[.int 9], vm := .none },
  { cls := 8, slots := #[.int 10], vm := .none },
  { cls := 8, slots := #[.int 11], vm := .none },
  { cls := 8, slots := #[.int 12], vm := .none },
  { cls := 8, slots := #[.int 13], vm := .none },
  { cls := 8, slots := #[.int 14], vm := .none },
  { cls := 8, slots := #[.int 15], vm := .none },
  { cls := 8, slots := #[.int 16], vm := .none },
  { cls := 8, slots := #[.int 17], vm := .none },
  { cls := 8, slots := #[.int 18], vm := .none },
  { cls := 8, slots := #[.int 19], vm := .none },
  { cls := 8, slots := #[.int 20], vm := .none },
  { cls := 8, slots := #[.int 21], vm := .none },
  { cls := 8, slots := #[.int 22], vm := .none },
  { cls := 8, slots := #[.int 23], vm := .none },
  { cls := 8, slots := #[.int 24], vm := .none },
  { cls := 8, slots := #[.int 25], vm := .none },
  { cls := 8, slots := #[.int 26], vm := .none },
  { cls := 8, slots := #[.int 27], vm := .none },
  { cls := 8, slots := #[.int 28], vm := .none },
  { cls := 8, slots := #[.int 29], vm := .none },
  { cls := 8, slots := #[.int 30], vm := .none },
  { cls := 8, slots := #[.int 31], vm := .none },
  { cls := 8, slots := #[.int 32], vm := .none },
  { cls := 8, slots := #[.int 33], vm := .none },
  { cls := 8, slots := #[.int 34], vm := .none },
  { cls := 8, slots := #[.int 35], vm := .none },
  { cls := 8, slots := #[.int 36], vm := .none },
  { cls := 8, slots := #[.int 37], vm := .none },
  { cls := 8, slots := #[.int 38], vm := .none },
  { cls := 8, slots := #[.int 39], vm := .none },
  { cls := 8, slots := #[.int 40], vm := .none },
  { cls := 8, slots := #[.int 41], vm := .none },
  { cls := 8, slots := #[.int 42], vm := .none },
  { cls := 8, slots := #[.int 43], vm := .none },
  { cls := 8, slots := #[.int 44], vm := .none },
  { cls := 8, slots := #[.int 45], vm := .none },
  { cls := 8, slots := #[.int 46], vm := .none },
  { cls := 8, slots := #[.int 47], vm := .none },
  { cls := 8, slots := #[.int 48], vm := .none },
  { cls := 8, slots := #[.int 49], vm := .none },
  { cls := 8, slots := #[.int 50], vm := .none },
  { cls := 8, slots := #[.int 51], vm := .none },
  { cls := 8, slots := #[.int 52], vm := .none },
  { cls := 8, slots := #[.int 53], vm := .none },
  { cls := 8, slots := #[.int 54], vm := .none },
  { cls := 8, slots := #[.int 55], vm := .none },
  { cls := 8, slots := #[.int 56], vm := .none },
  { cls := 8, slots := #[.int 57], vm := .none },
  { cls := 8, slots := #[.int 58], vm := .none },
  { cls := 8, slots := #[.int 59], vm := .none },
  { cls := 8, slots := #[.int 60], vm := .none },
  { cls := 8, slots := #[.int 61], vm := .none },
  { cls := 8, slots := #[.int 62], vm := .none },
  { cls := 8, slots := #[.int 63], vm := .none },
  { cls := 8, slots := #[.int 64], vm := .none },
  { cls := 8, slots := #[.int 65], vm := .none },
  { cls := 8, slots := #[.int 66], vm := .none },
  { cls := 8, slots := #[.int 67], vm := .none },
  { cls := 8, slots := #[.int 68], vm := .none },
  { cls := 8, slots := #[.int 69], vm := .none },
  { cls := 8, slots := #[.int 70], vm := .none },
  { cls := 8, slots := #[.int 71], vm := .none },
  { cls := 8, slots := #[.int 72], vm := .none },
  { cls := 8, slots := #[.int 73], vm := .none },
  { cls := 8, slots := #[.int 74], vm := .none },
  { cls := 8, slots := #[.int 75], vm := .none },
  { cls := 8, slots := #[.int 76], vm := .none },
  { cls := 8, slots := #[.int 77], vm := .none },
  { cls := 8, slots := #[.int 78], vm := .none },
  { cls := 8, slots := #[.int 79], vm := .none },
  { cls := 8, slots := #[.int 80], vm := .none },
  { cls := 8, slots := #[.int 81], vm := .none },
  { cls := 8, slots := #[.int 82], vm := .none },
  { cls := 8, slots := #[.int 83], vm := .none },
  { cls := 8, slots := #[.int 84], vm := .none },
  { cls := 8, slots := #[.int 85], vm := .none },
  { cls := 8, slots := #[.int 86], vm := .none },
  { cls := 8, slots := #[.int 87], vm := .none },
  { cls := 8, slots := #[.int 88], vm := .none },
  { cls := 8, slots := #[.int 89], vm := .none },
  { cls := 8, slots := #[.int 90], vm := .none },
  { cls := 8, slots := #[.int 91], vm := .none },
  { cls := 8, slots := #[.int 92], vm := .none },
  { cls := 8, slots := #[.int 93], vm := .none },
  { cls := 8, slots := #[.int 94], vm := .none },
  { cls := 8, slots := #[.int 95], vm := .none },
  { cls := 8, slots := #[.int 96], vm := .none },
  { cls := 8, slots := #[.int 97], vm := .none },
  { cls := 8, slots := #[.int 98], vm := .none },
  { cls := 8, slots := #[.int 99], vm := .none },
  { cls := 8, slots := #[.int 100], vm := .none },
  { cls := 8, slots := #[.int 101], vm := .none },
  { cls := 8, slots := #[.int 102], vm := .none },
  { cls := 8, slots := #[.int 103], vm := .none },
  { cls := 8, slots := #[.int 104], vm := .none },
  { cls := 8, slots := #[.int 105], vm := .none },
  { cls := 8, slots := #[.int 106], vm := .none },
  { cls := 8, slots := #[.int 107], vm := .none },
  { cls := 8, slots := #[.int 108], vm := .none },
  { cls := 8, slots := #[.int 109], vm := .none },
  { cls := 8, slots := #[.int 110], vm := .none },
  { cls := 8, slots := #[.int 111], vm := .none },
  { cls := 8, slots := #[.int 112], vm := .none },
  { cls := 8, slots := #[.int 113], vm := .none },
  { cls := 8, slots := #[.int 114], vm := .none },
  { cls := 8, slots := #[.int 115], vm := .none },
  { cls := 8, slots := #[.int 116], vm := .none },
  { cls := 8, slots := #[.int 117], vm := .none },
  { cls := 8, slots := #[.int 118], vm := .none },
  { cls := 8, slots := #[.int 119], vm := .none },
  { cls := 8, slots := #[.int 120], vm := .none },
  { cls := 8, slots := #[.int 121], vm := .none },
  { cls := 8, slots := #[.int 122], vm := .none },
  { cls := 8, slots := #[.int 123], vm := .none },
  { cls := 8, slots := #[.int 124], vm := .none },
  { cls := 8, slots := #[.int 125], vm := .none },
  { cls := 8, slots := #[.int 126], vm := .none },
  { cls := 8, slots := #[.int 127], vm := .none }]
def classes : Array Class := #[k0, k1, k2, k3, k4, k5, k6, k7, k8, k9, k10, k11, k12, k13, k14, k15, k16, k17, k18, k19, k20, k21]
def interned : List (Array UInt16 × Addr) := []
def slotsUsed : Nat := 517
def theMethod : MethodId := ⟨1, 2⟩
def args0 : Array Value := #[.long 5, .long 6, .long 7, .int 3]
def aboutOver (below : List Frame) : State where
  vm := { classes := classes, interned := interned.toArray }
  heap := heap
  slotsUsed := slotsUsed
  threads := #[{ frames := .invoking theMethod args0 :: below }]
def below0 : List Frame := [.native { method := ⟨0, 0⟩, args := #[] }]
def about1 : State := aboutOver below0
def p0 : Program := .bare "" "" ""
def e0 : Env := launch0.env 0 0 0
theorem w_frames : about1.frames = Frame.invoking theMethod args0 :: below0 := rfl
set_option maxRecDepth 65536 in
theorem w_args : argsFit about1.vm theMethod args0 = true := by decide +kernel
set_option maxRecDepth 65536 in
theorem w_heap : heapFits about1 = true := by decide +kernel
set_option maxRecDepth 65536 in
theorem w_runnable : about1.curStatus? = some .runnable := by decide +kernel
set_option maxRecDepth 65536 in
theorem w_alone : about1.alone = true := by decide +kernel
set_option maxRecDepth 65536 in
theorem w_named : about1.methodNamed? x = some theMethod := by decide +kernel
set_option maxRecDepth 65536 in
theorem w_hears : about1.hears theMethod below0 = true := by decide +kernel
set_option maxRecDepth 65536 in
theorem w_ripe : about1.ripe theMethod args0 below0 = true := by decide +kernel
theorem w_running : about1.status = .running := rfl
set_option maxRecDepth 65536 in
theorem w_room : about1.hasRoom e0.platform room_1 = true :=
  launch0.hasRoom_least _ room_1 (by decide +kernel) (by decide +kernel) (by decide +kernel) (by decide +kernel) (by decide +kernel) (by decide +kernel)
theorem allAtoms_all (ts : List Jvm.Cond) (a : Array Jvm.Value) (st : Jvm.State) : (allAtoms ts).before a st = ts.all (fun c => c.before a st) := by
  induction ts with
  | nil => rfl
  | cons c t ih =>
    show (Jvm.Cond.and c (allAtoms t)).before a st = _
    rw [Jvm.Cond.before_and, ih, List.all_cons]
def words1 : List Jvm.Cond := Jvm.Cond.code x code maxLocals ret :: tables_1
/-- a 'code' word, met by the world's own term for the bytes: nothing is compared byte by byte -/
theorem code_word {y : MethodName} {bytes : ByteArray} {mx : Nat} {rt : Option FieldType} {a : Array Value} {s : State} {m : MethodId} {meth : Method} {c : Code} (h1 : s.methodNamed? y = some m) (h2 : s.vm.method? m = some meth) (h3 : meth.code = some c) (h4 : c.code = bytes)
    (h5 : (c.maxLocals == mx && c.exceptionTable.isEmpty && decide (c.maxStack ≤ mostOperands) && decide (meth.sig.returnType = rt) && !meth.locks && decide (parseMethodDescriptor y.desc = some meth.sig)) = true) : (Jvm.Cond.code y bytes mx rt).before a s = true := by
  simp only [Bool.and_eq_true, beq_iff_eq, Bool.not_eq_true', decide_eq_true_eq] at h5
  obtain ⟨⟨⟨⟨⟨g1, g2⟩, g3⟩, g4⟩, g5⟩, g6⟩ := h5
  simp [Cond.before, Cond.holds, Cond.value, h1, h2, h3, h4, g1, g2, g3, g4, g5, g6]
def isCode : Jvm.Cond → Bool
  | .code _ _ _ _ => true
  | _ => false
theorem all_split {L : List Jvm.Cond} {P : Jvm.Cond → Bool} (h1 : L.all (fun c => isCode c || P c) = true) (h2 : ∀ c ∈ L.filter isCode, P c = true) : L.all P = true := by
  refine List.all_eq_true.mpr fun c hc => ?_
  have h := List.all_eq_true.mp h1 c hc
  rcases Bool.eq_false_or_eq_true (isCode c) with hi | hi
  · exact h2 c (List.mem_filter.mpr ⟨hc, hi⟩)
  · simpa [hi] using h
set_option maxRecDepth 65536 in
theorem w_c0 : (Jvm.Cond.code x code maxLocals ret).before args0 about1 = true := code_word (m := ⟨1, 2⟩) (meth := k1m2) (c := k1c2) (by decide +kernel) rfl rfl rfl (by decide +kernel)
set_option maxRecDepth 65536 in
theorem w_c1 : (Jvm.Cond.code ({ cls := "com/example/rootlet/rootlet/IdMap", name := "<init>", desc := "()V" } : Jvm.MethodName) prog_24_method_1_code (1 : Nat) (Option.none : Option Jvm.ClassFile.FieldType)).before args0 about1 = true := code_word (m := ⟨2, 0⟩) (meth := k2m0) (c := k2c0) (by decide +kernel) rfl rfl rfl (by decide +kernel)
set_option maxRecDepth 65536 in
theorem w_c2 : (Jvm.Cond.code ({ cls := "java/lang/Object", name := "<init>", desc := "()V" } : Jvm.MethodName) object_method_1_code (1 : Nat) (Option.none : Option Jvm.ClassFile.FieldType)).before args0 about1 = true := code_word (m := ⟨0, 0⟩) (meth := k0m0) (c := k0c0) (by decide +kernel) rfl rfl rfl (by decide +kernel)
set_option maxRecDepth 65536 in
theorem w_c3 : (Jvm.Cond.code ({ cls := "com/example/rootlet/rootlet/IdMap", name := "allocate", desc := "(I)V" } : Jvm.MethodName) prog_24_method_14_code (6 : Nat) (Option.none : Option Jvm.ClassFile.FieldType)).before args0 about1 = true := code_word (m := ⟨2, 7⟩) (meth := k2m7) (c := k2c7) (by decide +kernel) rfl rfl rfl (by decide +kernel)
set_option maxRecDepth 65536 in
theorem w_c4 : (Jvm.Cond.code ({ cls := "java/lang/Integer", name := "valueOf", desc := "(I)Ljava/lang/Integer;" } : Jvm.MethodName) jdk_33_method_22_code (1 : Nat) (Option.some (Jvm.ClassFile.FieldType.object "java/lang/Integer"))).before args0 about1 = true := code_word (m := ⟨8, 0⟩) (meth := k8m0) (c := k8c0) (by decide +kernel) rfl rfl rfl (by decide +kernel)
set_option maxRecDepth 65536 in
theorem w_c5 : (Jvm.Cond.code ({ cls := "com/example/rootlet/rootlet/IdMap", name := "put", desc := "(JLjava/lang/Object;)Ljava/lang/Object;" } : Jvm.MethodName) prog_24_method_5_code (6 : Nat) (Option.some (Jvm.ClassFile.FieldType.object "java/lang/Object"))).before args0 about1 = true := code_word (m := ⟨2, 1⟩) (meth := k2m1) (c := k2c1) (by decide +kernel) rfl rfl rfl (by decide +kernel)
set_option maxRecDepth 65536 in
theorem w_c6 : (Jvm.Cond.code ({ cls := "java/util/Objects", name := "requireNonNull", desc := "(Ljava/lang/Object;Ljava/lang/String;)Ljava/lang/Object;" } : Jvm.MethodName) jdk_31_method_11_code (2 : Nat) (Option.some (Jvm.ClassFile.FieldType.object "java/lang/Object"))).before args0 about1 = true := code_word (m := ⟨12, 1⟩) (meth := k12m1) (c := k12c1) (by decide +kernel) rfl rfl rfl (by decide +kernel)
set_option maxRecDepth 65536 in
theorem w_c7 : (Jvm.Cond.code ({ cls := "com/example/rootlet/rootlet/IdMap", name := "home", desc := "(J)I" } : Jvm.MethodName) prog_24_method_12_code (5 : Nat) (Option.some Jvm.ClassFile.FieldType.int)).before args0 about1 = true := code_word (m := ⟨2, 5⟩) (meth := k2m5) (c := k2c5) (by decide +kernel) rfl rfl rfl (by decide +kernel)
set_option maxRecDepth 65536 in
theorem w_c8 : (Jvm.Cond.code ({ cls := "com/example/rootlet/rootlet/IdMap", name := "value", desc := "(I)Ljava/lang/Object;" } : Jvm.MethodName) prog_24_method_13_code (2 : Nat) (Option.some (Jvm.ClassFile.FieldType.object "java/lang/Object"))).before args0 about1 = true := code_word (m := ⟨2, 6⟩) (meth := k2m6) (c := k2c6) (by decide +kernel) rfl rfl rfl (by decide +kernel)
set_option maxRecDepth 65536 in
theorem w_c9 : (Jvm.Cond.code ({ cls := "com/example/rootlet/rootlet/IdMap", name := "ids", desc := "()[J" } : Jvm.MethodName) prog_24_method_8_code (4 : Nat) (Option.some (Jvm.ClassFile.FieldType.array Jvm.ClassFile.FieldType.long))).before args0 about1 = true := code_word (m := ⟨2, 3⟩) (meth := k2m3) (c := k2c3) (by decide +kernel) rfl rfl rfl (by decide +kernel)
set_option maxRecDepth 65536 in
theorem w_c10 : (Jvm.Cond.code ({ cls := "com/example/rootlet/rootlet/IdMapIdsPinLaw", name := "expected", desc := "(JJJJZJ)Z" } : Jvm.MethodName) method_2_code (11 : Nat) (Option.some Jvm.ClassFile.FieldType.boolean)).before args0 about1 = true := code_word (m := ⟨1, 1⟩) (meth := k1m1) (c := k1c1) (by decide +kernel) rfl rfl rfl (by decide +kernel)
set_option maxRecDepth 65536 in
theorem w_c11 : (Jvm.Cond.code ({ cls := "com/example/rootlet/rootlet/IdMap", name := "remove", desc := "(J)Ljava/lang/Object;" } : Jvm.MethodName) prog_24_method_6_code (7 : Nat) (Option.some (Jvm.ClassFile.FieldType.object "java/lang/Object"))).before args0 about1 = true := code_word (m := ⟨2, 2⟩) (meth := k2m2) (c := k2c2) (by decide +kernel) rfl rfl rfl (by decide +kernel)
set_option maxRecDepth 65536 in
theorem w_c12 : (Jvm.Cond.code ({ cls := "com/example/rootlet/rootlet/IdMap", name := "find", desc := "(J)I" } : Jvm.MethodName) prog_24_method_11_code (4 : Nat) (Option.some Jvm.ClassFile.FieldType.int)).before args0 about1 = true := code_word (m := ⟨2, 4⟩) (meth := k2m4) (c := k2c4) (by decide +kernel) rfl rfl rfl (by decide +kernel)
def codes1 : List Jvm.Cond := [Jvm.Cond.code x code maxLocals ret, Jvm.Cond.code ({ cls := "com/example/rootlet/rootlet/IdMap", name := "<init>", desc := "()V" } : Jvm.MethodName) prog_24_method_1_code (1 : Nat) (Option.none : Option Jvm.ClassFile.FieldType), Jvm.Cond.code ({ cls := "java/lang/Object", name := "<init>", desc := "()V" } : Jvm.MethodName) object_method_1_code (1 : Nat) (Option.none : Option Jvm.ClassFile.FieldType), Jvm.Cond.code ({ cls := "com/example/rootlet/rootlet/IdMap", name := "allocate", desc := "(I)V" } : Jvm.MethodName) prog_24_method_14_code (6 : Nat) (Option.none : Option Jvm.ClassFile.FieldType), Jvm.Cond.code ({ cls := "java/lang/Integer", name := "valueOf", desc := "(I)Ljava/lang/Integer;" } : Jvm.MethodName) jdk_33_method_22_code (1 : Nat) (Option.some (Jvm.ClassFile.FieldType.object "java/lang/Integer")), Jvm.Cond.code ({ cls := "com/example/rootlet/rootlet/IdMap", name := "put", desc := "(JLjava/lang/Object;)Ljava/lang/Object;" } : Jvm.MethodName) prog_24_method_5_code (6 : Nat) (Option.some (Jvm.ClassFile.FieldType.object "java/lang/Object")), Jvm.Cond.code ({ cls := "java/util/Objects", name := "requireNonNull", desc := "(Ljava/lang/Object;Ljava/lang/String;)Ljava/lang/Object;" } : Jvm.MethodName) jdk_31_method_11_code (2 : Nat) (Option.some (Jvm.ClassFile.FieldType.object "java/lang/Object")), Jvm.Cond.code ({ cls := "com/example/rootlet/rootlet/IdMap", name := "home", desc := "(J)I" } : Jvm.MethodName) prog_24_method_12_code (5 : Nat) (Option.some Jvm.ClassFile.FieldType.int), Jvm.Cond.code ({ cls := "com/example/rootlet/rootlet/IdMap", name := "value", desc := "(I)Ljava/lang/Object;" } : Jvm.MethodName) prog_24_method_13_code (2 : Nat) (Option.some (Jvm.ClassFile.FieldType.object "java/lang/Object")), Jvm.Cond.code ({ cls := "com/example/rootlet/rootlet/IdMap", name := "ids", desc := "()[J" } : Jvm.MethodName) prog_24_method_8_code (4 : Nat) (Option.some (Jvm.ClassFile.FieldType.array Jvm.ClassFile.FieldType.long)), Jvm.Cond.code ({ cls := "com/example/rootlet/rootlet/IdMapIdsPinLaw", name := "expected", desc := "(JJJJZJ)Z" } : Jvm.MethodName) method_2_code (11 : Nat) (Option.some Jvm.ClassFile.FieldType.boolean), Jvm.Cond.code ({ cls := "com/example/rootlet/rootlet/IdMap", name := "remove", desc := "(J)Ljava/lang/Object;" } : Jvm.MethodName) prog_24_method_6_code (7 : Nat) (Option.some (Jvm.ClassFile.FieldType.object "java/lang/Object")), Jvm.Cond.code ({ cls := "com/example/rootlet/rootlet/IdMap", name := "find", desc := "(J)I" } : Jvm.MethodName) prog_24_method_11_code (4 : Nat) (Option.some Jvm.ClassFile.FieldType.int)]
set_option maxRecDepth 65536 in
theorem codes_eq : words1.filter isCode = codes1 := rfl
theorem w_codes : ∀ c ∈ words1.filter isCode, c.before args0 about1 = true := by
  rw [codes_eq]
  intro c hc
  simp only [codes1, List.mem_cons, List.not_mem_nil, or_false] at hc
  rcases hc with rfl | rfl | rfl | rfl | rfl | rfl | rfl | rfl | rfl | rfl | rfl | rfl | rfl
  · exact w_c0
  · exact w_c1
  · exact w_c2
  · exact w_c3
  · exact w_c4
  · exact w_c5
  · exact w_c6
  · exact w_c7
  · exact w_c8
  · exact w_c9
  · exact w_c10
  · exact w_c11
  · exact w_c12
set_option maxRecDepth 65536 in
theorem w_t1 : (words1.take 24).all (fun c => isCode c || c.before args0 about1) = true := by decide +kernel
set_option maxRecDepth 65536 in
theorem w_t2 : ((words1.drop 24).take 24).all (fun c => isCode c || c.before args0 about1) = true := by decide +kernel
set_option maxRecDepth 65536 in
theorem w_t3 : (((words1.drop 24).drop 24).take 24).all (fun c => isCode c || c.before args0 about1) = true := by decide +kernel
set_option maxRecDepth 65536 in
theorem w_t4 : (((words1.drop 24).drop 24).drop 24).all (fun c => isCode c || c.before args0 about1) = true := by decide +kernel
theorem w_tables : (allAtoms (Jvm.Cond.code x code maxLocals ret :: tables_1)).before args0 about1 = true := by
  rw [allAtoms_all]
  show words1.all (fun c => c.before args0 about1) = true
  refine all_split ?_ w_codes
  rw [← List.take_append_drop 24 words1, List.all_append, w_t1, ← List.take_append_drop 24 (words1.drop 24), List.all_append, w_t2, ← List.take_append_drop 24 ((words1.drop 24).drop 24), List.all_append, w_t3, w_t4]
  rfl
set_option maxRecDepth 65536 in
theorem w_rest : rest_1_c.before args0 about1 = true := by decide +kernel
set_option maxRecDepth 65536 in
theorem w_case : (Jvm.Cond.and given_1 narrow_1).before args0 about1 = true := by decide +kernel
theorem w_applies : (headSpec (Jvm.Cond.code x code maxLocals ret :: tables_1) room_1).applies x e0.platform about1 = true :=
  (Spec.applies_iff w_frames).mpr ⟨w_running, w_runnable, w_alone, w_named, w_hears, w_ripe, w_room, w_tables⟩
theorem atStart : AtStart classFile x code maxLocals ret World_1 tables_1 room_1 Calls_1 rest_1 Pre_1 launch0 p0 e0 about1 theMethod args0 below0 :=
  ⟨lists_1, trivial, launch0.admits_env _ _ _, launch0.least_env, fairChoices_fair.cas, fairChoices_fair.clock, w_frames, w_args, w_heap, w_applies, trivial, w_rest, w_case⟩
end start1
theorem witness_1 : WitnessClaimed_1 := ⟨start1.p0, start1.e0, start1.about1, start1.theMethod, start1.args0, start1.below0, start1.atStart⟩
end Jvm.Pilot.@@N@@
