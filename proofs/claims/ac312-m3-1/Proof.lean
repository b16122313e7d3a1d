import JvmDerived
import JvmDerived.Pilot.@@N@@Statement
import JvmDerived.Pilot.@@N@@Code
set_option linter.unusedVariables false
set_option linter.unusedSimpArgs false
namespace Jvm.Pilot.@@N@@
open Jvm Jvm.ClassFile Sem Op Lib Jvm.Free Jvm.Stand Jvm.LawKit Jvm.RoadKit Bundle Jvm.Pilot.@@N@@.Jvm.D
def Go (tb : Tables) (e : Env) (below : List Frame) (P : State → Outcome → Prop) (T : State) : Prop := ∃ s₂ o, Steps tb e below T s₂ ∧ P s₂ o
theorem own_go {tb : Tables} {e : Env} {below : List Frame} {P : State → Outcome → Prop} {T T' : State} (h : ∀ t, Steps tb e below T' t → Steps tb e below T t) (k : Go tb e below P T') : Go tb e below P T := by
  obtain ⟨a, b, c, d⟩ := k
  exact ⟨a, b, h a c, d⟩
def Fin (s : State) (below : List Frame) (Q : Option Value → Heap → List Loc → Prop) (cc ss : Nat) (s₂ : State) (o : Outcome) : Prop := s₂.status = .running ∧ Ended s₂ below o ∧ ∃ v L, o = .returned v ∧ Q v s₂.heap L ∧ FrameEnd s o s₂ L cc ss
def PQ (w : Value) (h0 : Heap) (n0 : Nat) (v : Option Value) (h : Heap) (L : List Loc) : Prop := v = some w ∧ Fr n0 L ∧ h = h0
theorem own_ret {p : Program} {l : Launch} {e : Env} {R : Room} {s : State} {m : MethodId} {args : Array Value} {below : List Frame} {meth : Method} {c : Code} {T : State} {locs : List Loc} {cells slots : Nat} (X : Stand p l e R s m args below meth c T locs cells slots) (hx : p.tables.exec = Jvm.exec) (hlk : meth.locks = false)
    {pc : Nat} {Ls : Array Slot} {w : Value} {t : FieldType} {i : Instr} {rest : List Value} (hret : meth.sig.returnType = some t) (hn : narrow t w = w)
    (hi : (i = .ireturn ∧ (t = .int ∨ t = .boolean ∨ t = .byte ∨ t = .char ∨ t = .short) ∧ ∃ z, w = .int z) ∨ (i = .lreturn ∧ t = .long ∧ ∃ z, w = .long z) ∨ (i = .dreturn ∧ t = .double ∧ ∃ z, w = .double z) ∨ (i = .freturn ∧ t = .float ∧ ∃ z, w = .float z) ∨ (i = .areturn ∧ t.isReference = true ∧ w.isRef = true))
    (hd : decode c.code pc = .ok (i, 1)) {Q : Option Value → Heap → List Loc → Prop} (hQ : Q (some w) T.heap locs) {cc ss : Nat} (hc : cells ≤ cc) (hs : slots ≤ ss) :
    Go p.tables e below (Fin s below Q cc ss) (T.setTop (mkF m pc Ls (w :: rest))) := by
  obtain ⟨fs, hr, hrun, hended, hW, hsame⟩ := X.leave (v := some w) (fun h => by rw [hret] at h; cases h) hlk
  exact ⟨_, _, retOut X hx hret hn hi hd hr, hrun, hended, _, _, rfl, hQ, ⟨_, rfl⟩, hW, hsame.mono hc hs⟩
theorem own_fld {Z : State} {args : Array Value} {t : Term} {a : Addr} {C n d : String} {k : Int32} (ev : t.eval args Z none [] Z = some (.ref a)) (h : (Jvm.Cond.eq (.field t C n d) (.int k)).value args Z none Z [] = some true) : Fld Z Z.heap a C n d (.int k) := by
  have e1 : (Term.field t C n d).eval args Z none [] Z = Z.fieldOf? a C n d := fld_at ev
  obtain ⟨x, y, h1, h2, h3, h4⟩ := cmp_v (Or.inl h)
  have e2 : (Term.int k).eval args Z none [] Z = some (.int k) := Term.int_eval k
  cases e2.symm.trans h2
  obtain ⟨z, rfl⟩ := h4
  have q := gotT (u := (Jvm.Cond.eq (.field t C n d) (.int k)).value args Z none Z []) (P := z = k) (by simp [Cond.value, h1, e2]) h
  subst q
  exact Fld.start (e1 ▸ h1)
theorem own_ne {Z : State} {h : Heap} {a b : Addr} {C n d : String} {v w : Value} (F : Fld Z h a C n d v) (G : Fld Z h b C n d w) (hn : v ≠ w) : a ≠ b := by
  rintro rfl
  obtain ⟨c1, cf1, k1, i1, f1, a1, a2, a3, a4, a5, a6, a7⟩ := F
  obtain ⟨c2, cf2, k2, i2, f2, b1, b2, b3, b4, b5, b6, b7⟩ := G
  cases a1.symm.trans b1
  cases a2.symm.trans b2
  exact hn (Option.some.inj (a7.symm.trans b7))
theorem own_len {Z : State} {args : Array Value} {t : Term} {a : Addr} {cl : Cell} {ty : FieldType} {k : Int32} (ev : t.eval args Z none [] Z = some (.ref a)) (Ar : Arr Z Z.heap a cl ty) (h : (Jvm.Cond.eq (.length t) (.int k)).value args Z none Z [] = some true) : cl.slots.size = k.toInt.toNat ∧ cl.slots.size.toInt32 = k := by
  have ha := Arr.fin (Vm.Alike.refl _) Ar
  obtain ⟨x, y, h1, h2, h3, h4⟩ := cmp_v (Or.inl h)
  have e2 : (Term.int k).eval args Z none [] Z = some (.int k) := Term.int_eval k
  by_cases hl : cl.slots.size < 2 ^ 31
  · have e := len_f ev ha hl
    have q := gotT (u := (Jvm.Cond.eq (.length t) (.int k)).value args Z none Z []) (P := cl.slots.size.toInt32 = k) (by simp [Cond.value, e, e2]) h
    refine ⟨?_, q⟩
    rw [← q, len_toInt hl]
    rfl
  · simp [Term.eval, ev, ha, hl] at h1
theorem own_at {Z : State} {args : Array Value} {t t2 : Term} {a b : Addr} {cl : Cell} {ty : FieldType} {j : Int32} (ev : t.eval args Z none [] Z = some (.ref a)) (Ar : Arr Z Z.heap a cl ty) (ev2 : t2.eval args Z none [] Z = some (.ref b)) (h : (Jvm.Cond.eq (.elem t (.int j)) t2).value args Z none Z [] = some true) : ¬ (j < 0 ∨ cl.slots.size ≤ j.toNatClampNeg) ∧ cl.slots[j.toNatClampNeg]? = some (.ref b) := by
  obtain ⟨x, y, h1, h2, h3, h4⟩ := cmp_v (Or.inl h)
  cases ev2.symm.trans h2
  have h5 : x.isRef = true := h4.2
  have q := gotT (eq_R h1 h2 h5 rfl) h
  subst q
  exact elem_in h1 ev (Term.int_eval j) Ar.1
theorem own_lt {x k : Int32} {n : Int} (hk : k.toInt = n) : x < k ↔ x.toInt < n := by rw [Int32.lt_iff_toInt_lt, hk]
theorem own_gt {x k : Int32} {n : Int} (hk : k.toInt = n) : k < x ↔ n < x.toInt := by rw [Int32.lt_iff_toInt_lt, hk]
theorem own_eq {x k : Int32} {n : Int} (hk : k.toInt = n) : x = k ↔ x.toInt = n := by rw [← Int32.toInt_inj, hk]
/-! ### the plain law: sixteen slots, linear probing -/
def own_dist (a b : Nat) : Nat := (b + 16 - a) % 16
def own_upd {α β : Type} [DecidableEq α] (f : α → β) (i : α) (x : β) : α → β := fun j => if j = i then x else f j
theorem own_upd_same {α β : Type} [DecidableEq α] (f : α → β) (i : α) (x : β) : own_upd f i x i = x := by simp [own_upd]
theorem own_upd_ne {α β : Type} [DecidableEq α] (f : α → β) {i j : α} (x : β) (h : j ≠ i) : own_upd f i x j = f j := by simp [own_upd, h]
def own_cnt (vs : Nat → Value) : Nat → Nat
  | 0 => 0
  | n + 1 => own_cnt vs n + (if vs n = .null then 0 else 1)
theorem own_cnt_full {vs : Nat → Value} : ∀ n, (∀ i, i < n → vs i ≠ .null) → own_cnt vs n = n
  | 0, _ => rfl
  | n + 1, h => by
    show own_cnt vs n + _ = _
    rw [own_cnt_full n (fun i hi => h i (by omega)), if_neg (h n (by omega))]
theorem own_cnt_same {vs us : Nat → Value} : ∀ n, (∀ i, i < n → (vs i = .null ↔ us i = .null)) → own_cnt vs n = own_cnt us n
  | 0, _ => rfl
  | n + 1, h => by
    show own_cnt vs n + _ = own_cnt us n + _
    rw [own_cnt_same n (fun i hi => h i (by omega))]
    by_cases q : vs n = .null
    · rw [if_pos q, if_pos ((h n (by omega)).mp q)]
    · rw [if_neg q, if_neg (fun z => q ((h n (by omega)).mpr z))]
theorem own_cnt_add {vs : Nat → Value} {i : Nat} {v : Value} (hv : v ≠ .null) (hi : vs i = .null) : ∀ n, own_cnt (own_upd vs i v) n = own_cnt vs n + (if i < n then 1 else 0)
  | 0 => by simp [own_cnt]
  | n + 1 => by
    show own_cnt (own_upd vs i v) n + _ = own_cnt vs n + _ + _
    rw [own_cnt_add hv hi n]
    by_cases q : n = i
    · subst q
      rw [own_upd_same, if_neg hv, hi]
      simp
    · rw [own_upd_ne _ _ q]
      by_cases r : i < n
      · rw [if_pos r, if_pos (show i < n + 1 by omega)]; omega
      · rw [if_neg r, if_neg (show ¬ i < n + 1 by omega)]
        omega
theorem own_cnt_sub {vs : Nat → Value} {i : Nat} (hi : vs i ≠ .null) : ∀ n, own_cnt (own_upd vs i .null) n + (if i < n then 1 else 0) = own_cnt vs n
  | 0 => by simp [own_cnt]
  | n + 1 => by
    have ih := own_cnt_sub hi n
    show own_cnt (own_upd vs i .null) n + _ + _ = own_cnt vs n + _
    by_cases q : n = i
    · subst q
      rw [own_upd_same, if_neg hi]
      simp at ih ⊢
      omega
    · rw [own_upd_ne _ _ q]
      by_cases r : i < n
      · rw [if_pos r] at ih
        rw [if_pos (show i < n + 1 by omega)]
        omega
      · rw [if_neg r] at ih
        rw [if_neg (show ¬ i < n + 1 by omega)]
        omega
/-- what the arrays say: G is what get answers, n how many -/
def own_Inv (hm : Int64 → Nat) (ks : Nat → Int64) (vs : Nat → Value) : Prop :=
  (∀ i, i < 16 → vs i ≠ .null → ∀ d, d < own_dist (hm (ks i)) i → vs ((hm (ks i) + d) % 16) ≠ .null) ∧
  (∀ i j, i < 16 → j < 16 → vs i ≠ .null → vs j ≠ .null → ks i = ks j → i = j)
def own_Rep (hm : Int64 → Nat) (ks : Nat → Int64) (vs : Nat → Value) (G : Int64 → Value) (n : Nat) : Prop :=
  own_Inv hm ks vs ∧ (∀ i, i < 16 → vs i ≠ .null → G (ks i) = vs i) ∧ (∀ k, G k ≠ .null → ∃ i, i < 16 ∧ ks i = k ∧ vs i = G k) ∧ own_cnt vs 16 = n
theorem own_Rep_empty (hm : Int64 → Nat) : own_Rep hm (fun _ => 0) (fun _ => .null) (fun _ => .null) 0 :=
  ⟨⟨fun _ _ h => absurd rfl h, fun _ _ _ _ h => absurd rfl h⟩, fun _ _ h => absurd rfl h, fun _ h => absurd rfl h, by simp [own_cnt]⟩
/-- the first t places behind the home are occupied, by other keys -/
def own_Run (ks : Nat → Int64) (vs : Nat → Value) (k : Int64) (a t : Nat) : Prop := ∀ d, d < t → vs ((a + d) % 16) ≠ .null ∧ ks ((a + d) % 16) ≠ k
theorem own_Run.zero (ks : Nat → Int64) (vs : Nat → Value) (k : Int64) (a : Nat) : own_Run ks vs k a 0 := fun d h => absurd h (Nat.not_lt_zero d)
theorem own_Run.succ {ks : Nat → Int64} {vs : Nat → Value} {k : Int64} {a t : Nat} (R : own_Run ks vs k a t) (h1 : vs ((a + t) % 16) ≠ .null) (h2 : ks ((a + t) % 16) ≠ k) : own_Run ks vs k a (t + 1) := fun d hd => by
  by_cases q : d = t
  · subst q; exact ⟨h1, h2⟩
  · exact R d (by omega)
theorem own_Run.lt {ks : Nat → Int64} {vs : Nat → Value} {k : Int64} {a t n : Nat} (R : own_Run ks vs k a t) (hc : own_cnt vs 16 = n) (hn : n < 16) : t < 16 := by
  apply Nat.lt_of_not_le
  intro q
  have : own_cnt vs 16 = 16 := own_cnt_full 16 fun i hi => by
    have := (R (own_dist (a % 16) i) (by have : own_dist (a % 16) i < 16 := Nat.mod_lt _ (by decide); omega)).1
    have e : (a + own_dist (a % 16) i) % 16 = i := by unfold own_dist; omega
    rwa [e] at this
  omega
theorem own_absent {hm : Int64 → Nat} {ks : Nat → Int64} {vs : Nat → Value} {G : Int64 → Value} {n t : Nat} {k : Int64} (R : own_Rep hm ks vs G n) (hh : hm k < 16) (W : own_Run ks vs k (hm k) t) (h0 : vs ((hm k + t) % 16) = .null) : G k = .null := by
  apply Classical.byContradiction
  intro q
  obtain ⟨i, hi, e1, e2⟩ := R.2.2.1 k q
  have hv : vs i ≠ .null := by rw [e2]; exact q
  have P := R.1.1 i hi hv
  rw [e1] at P
  have ei : (hm k + own_dist (hm k) i) % 16 = i := by unfold own_dist; omega
  rcases Nat.lt_trichotomy t (own_dist (hm k) i) with h | h | h
  · exact P t h h0
  · rw [h, ei] at h0; exact hv h0
  · have := (W _ h).2
    rw [ei] at this
    exact this e1
theorem own_found {hm : Int64 → Nat} {ks : Nat → Int64} {vs : Nat → Value} {G : Int64 → Value} {n i : Nat} {k : Int64} (R : own_Rep hm ks vs G n) (hi : i < 16) (h0 : vs i ≠ .null) (hk : ks i = k) : G k = vs i := by rw [← hk]; exact R.2.1 i hi h0
/-- put, a new key -/
theorem own_put_new {hm : Int64 → Nat} {ks : Nat → Int64} {vs : Nat → Value} {G : Int64 → Value} {n t : Nat} {k : Int64} {v : Value} (R : own_Rep hm ks vs G n) (hh : hm k < 16) (ht : t < 16) (W : own_Run ks vs k (hm k) t) (h0 : vs ((hm k + t) % 16) = .null) (hv : v ≠ .null) :
    own_Rep hm (own_upd ks ((hm k + t) % 16) k) (own_upd vs ((hm k + t) % 16) v) (own_upd G k v) (n + 1) := by
  have hG := own_absent R hh W h0
  obtain ⟨⟨I1, I2⟩, R1, R2, R3⟩ := R
  have hs : (hm k + t) % 16 < 16 := Nat.mod_lt _ (by decide)
  generalize hq : (hm k + t) % 16 = s at *
  have ed : own_dist (hm k) s = t := by unfold own_dist; omega
  have nk : ∀ i, i < 16 → vs i ≠ .null → ks i ≠ k := fun i hi h e => h (by rw [← R1 i hi h, e, hG])
  refine ⟨⟨fun i hi hoc d hd => ?_, fun i j hi hj h1 h2 e => ?_⟩, fun i hi hoc => ?_, fun k' h => ?_, ?_⟩
  · by_cases q : i = s
    · subst q
      rw [own_upd_same] at hd ⊢
      rw [ed] at hd
      have := (W d hd).1
      by_cases r : (hm k + d) % 16 = i
      · rw [r, own_upd_same]; exact hv
      · rw [own_upd_ne _ _ r]; exact this
    · rw [own_upd_ne _ _ q] at hoc
      rw [own_upd_ne _ _ q] at hd ⊢
      have := I1 i hi hoc d hd
      by_cases r : (hm (ks i) + d) % 16 = s
      · rw [r, own_upd_same]; exact hv
      · rw [own_upd_ne _ _ r]; exact this
  · by_cases q : i = s <;> by_cases r : j = s
    · omega
    · subst q
      rw [own_upd_same, own_upd_ne _ _ r] at e
      rw [own_upd_ne _ _ r] at h2
      exact absurd e.symm (nk j hj h2)
    · subst r
      rw [own_upd_same, own_upd_ne _ _ q] at e
      rw [own_upd_ne _ _ q] at h1
      exact absurd e (nk i hi h1)
    · rw [own_upd_ne _ _ q, own_upd_ne _ _ r] at e
      rw [own_upd_ne _ _ q] at h1
      rw [own_upd_ne _ _ r] at h2
      exact I2 i j hi hj h1 h2 e
  · by_cases q : i = s
    · subst q; rw [own_upd_same, own_upd_same, own_upd_same]
    · rw [own_upd_ne _ _ q] at hoc
      rw [own_upd_ne _ _ q, own_upd_ne _ _ q, own_upd_ne _ _ (nk i hi hoc)]
      exact R1 i hi hoc
  · by_cases q : k' = k
    · subst q
      exact ⟨s, hs, own_upd_same _ _ _, by rw [own_upd_same, own_upd_same]⟩
    · rw [own_upd_ne _ _ q] at h
      obtain ⟨i, hi, e1, e2⟩ := R2 k' h
      have r : i ≠ s := fun z => h (by rw [← e2, z]; exact h0)
      exact ⟨i, hi, by rw [own_upd_ne _ _ r]; exact e1, by rw [own_upd_ne _ _ r, own_upd_ne _ _ q]; exact e2⟩
  · rw [own_cnt_add hv h0, R3, if_pos hs]
/-- put, a key that is there -/
theorem own_put_old {hm : Int64 → Nat} {ks : Nat → Int64} {vs : Nat → Value} {G : Int64 → Value} {n i : Nat} {k : Int64} {v : Value} (R : own_Rep hm ks vs G n) (hi : i < 16) (h0 : vs i ≠ .null) (hk : ks i = k) (hv : v ≠ .null) :
    own_Rep hm ks (own_upd vs i v) (own_upd G k v) n := by
  obtain ⟨⟨I1, I2⟩, R1, R2, R3⟩ := R
  have oc : ∀ j, own_upd vs i v j = .null ↔ vs j = .null := fun j => by
    by_cases q : j = i
    · subst q; rw [own_upd_same]; exact ⟨fun z => absurd z hv, fun z => absurd z h0⟩
    · rw [own_upd_ne _ _ q]
  have oc' : ∀ j, own_upd vs i v j ≠ .null ↔ vs j ≠ .null := fun j => not_congr (oc j)
  refine ⟨⟨fun j hj h d hd => (oc' _).mpr (I1 j hj ((oc' j).mp h) d hd), fun a b ha hb h1 h2 e => I2 a b ha hb ((oc' a).mp h1) ((oc' b).mp h2) e⟩, fun j hj h => ?_, fun k' h => ?_, ?_⟩
  · by_cases q : j = i
    · subst q; rw [own_upd_same, hk, own_upd_same]
    · rw [own_upd_ne _ _ q] at h ⊢
      rw [own_upd_ne _ _ (fun e => q (I2 j i hj hi h h0 (e.trans hk.symm)))]
      exact R1 j hj h
  · by_cases q : k' = k
    · subst q; exact ⟨i, hi, hk, by rw [own_upd_same, own_upd_same]⟩
    · rw [own_upd_ne _ _ q] at h
      obtain ⟨j, hj, e1, e2⟩ := R2 k' h
      have r : j ≠ i := fun z => q (by rw [← e1, z, hk])
      exact ⟨j, hj, e1, by rw [own_upd_ne _ _ r, own_upd_ne _ _ q]; exact e2⟩
  · rw [← R3]; exact own_cnt_same 16 fun j _ => oc j
theorem own_hole {vs : Nat → Value} {n : Nat} (hc : own_cnt vs 16 = n) (hn : n < 16) : ∃ z, z < 16 ∧ vs z = .null := by
  apply Classical.byContradiction
  intro q
  have := own_cnt_full (vs := vs) 16 fun i hi h => q ⟨i, hi, h⟩
  omega
/-- remove: the gap g wanders; the places from g to i are occupied; those behind g that have been looked at don't lean on g -/
def own_Gap (hm : Int64 → Nat) (ks : Nat → Int64) (vs : Nat → Value) (G : Int64 → Value) (n g i : Nat) : Prop :=
  (g < 16 ∧ i < 16 ∧ vs g ≠ .null ∧ 0 < own_dist g i) ∧
  (∀ j, j < 16 → j ≠ g → vs j ≠ .null → ∀ d, d < own_dist (hm (ks j)) j → vs ((hm (ks j) + d) % 16) ≠ .null) ∧
  (∀ j, j < 16 → j ≠ g → vs j ≠ .null → own_dist g j < own_dist g i → ∀ d, d < own_dist (hm (ks j)) j → (hm (ks j) + d) % 16 ≠ g) ∧
  (∀ a b, a < 16 → b < 16 → a ≠ g → b ≠ g → vs a ≠ .null → vs b ≠ .null → ks a = ks b → a = b) ∧
  (∀ j, j < 16 → j ≠ g → vs j ≠ .null → G (ks j) = vs j) ∧
  (∀ k, G k ≠ .null → ∃ j, j < 16 ∧ j ≠ g ∧ ks j = k ∧ vs j = G k) ∧
  own_cnt vs 16 = n ∧ (∀ d, d < own_dist g i → vs ((g + d) % 16) ≠ .null)
theorem own_gap_start {hm : Int64 → Nat} {ks : Nat → Int64} {vs : Nat → Value} {G : Int64 → Value} {n p : Nat} {k : Int64} (R : own_Rep hm ks vs G n) (hp : p < 16) (h0 : vs p ≠ .null) (hk : ks p = k) : own_Gap hm ks vs (own_upd G k .null) n p ((p + 1) % 16) := by
  obtain ⟨⟨I1, I2⟩, R1, R2, R3⟩ := R
  have e1 : own_dist p ((p + 1) % 16) = 1 := by unfold own_dist; omega
  have nk : ∀ j, j < 16 → j ≠ p → vs j ≠ .null → ks j ≠ k := fun j hj q h e => q (I2 j p hj hp h h0 (e.trans hk.symm))
  refine ⟨⟨hp, Nat.mod_lt _ (by decide), h0, by omega⟩, fun j hj _ h d hd => I1 j hj h d hd, fun j hj q h hd => ?_, fun a b ha hb _ _ h1 h2 e => I2 a b ha hb h1 h2 e, fun j hj q h => ?_, fun k' h => ?_, R3, fun d hd => ?_⟩
  · exfalso; rw [e1] at hd; unfold own_dist at hd; omega
  · rw [own_upd_ne _ _ (nk j hj q h)]; exact R1 j hj h
  · have q : k' ≠ k := fun z => h (by rw [z, own_upd_same])
    rw [own_upd_ne _ _ q] at h ⊢
    obtain ⟨j, hj, e1, e2⟩ := R2 k' h
    exact ⟨j, hj, fun z => q (by rw [← e1, z, hk]), e1, e2⟩
  · have : d = 0 := by omega
    subst this
    have : (p + 0) % 16 = p := by omega
    rw [this]; exact h0
theorem own_gap_move {hm : Int64 → Nat} {ks : Nat → Int64} {vs : Nat → Value} {G : Int64 → Value} {n g i : Nat} (hh : ∀ k, hm k < 16) (R : own_Gap hm ks vs G n g i) (h0 : vs i ≠ .null) (hd : own_dist g i ≤ own_dist (hm (ks i)) i) :
    own_Gap hm (own_upd ks g (ks i)) (own_upd vs g (vs i)) G n i ((i + 1) % 16) := by
  obtain ⟨⟨hg, hi, hvg, hp⟩, B, C, D, E, F, N, I⟩ := R
  have gi : i ≠ g := fun z => by subst z; unfold own_dist at hp; omega
  have oc : ∀ j, own_upd vs g (vs i) j = .null ↔ vs j = .null := fun j => by
    by_cases q : j = g
    · subst q; rw [own_upd_same]; exact ⟨fun z => absurd z h0, fun z => absurd z hvg⟩
    · rw [own_upd_ne _ _ q]
  have oc' : ∀ j, own_upd vs g (vs i) j ≠ .null ↔ vs j ≠ .null := fun j => not_congr (oc j)
  have ed1 : own_dist i ((i + 1) % 16) = 1 := by unfold own_dist; omega
  refine ⟨⟨hi, Nat.mod_lt _ (by decide), by rw [own_upd_ne _ _ gi]; exact h0, by omega⟩, fun j hj q h d hd' => ?_, fun j hj q h hd' => ?_, fun a b ha hb qa qb h1 h2 e => ?_, fun j hj q h => ?_, fun k h => ?_, ?_, fun d hd' => ?_⟩
  · by_cases r : j = g
    · subst r
      rw [own_upd_same] at hd' ⊢
      refine (oc' _).mpr (B i hi gi h0 d ?_)
      have := hh (ks i)
      unfold own_dist at *
      omega
    · rw [own_upd_ne _ _ r] at hd' ⊢
      exact (oc' _).mpr (B j hj r ((oc' j).mp h) d hd')
  · exfalso; rw [ed1] at hd'; unfold own_dist at hd'; omega
  · have v1 := (oc' a).mp h1
    have v2 := (oc' b).mp h2
    by_cases ra : a = g <;> by_cases rb : b = g
    · omega
    · subst ra
      rw [own_upd_same, own_upd_ne _ _ rb] at e
      exact absurd (D i b hi hb gi rb h0 v2 e).symm qb
    · subst rb
      rw [own_upd_same, own_upd_ne _ _ ra] at e
      exact absurd (D a i ha hi ra gi v1 h0 e) qa
    · rw [own_upd_ne _ _ ra, own_upd_ne _ _ rb] at e
      exact D a b ha hb ra rb v1 v2 e
  · by_cases r : j = g
    · subst r; rw [own_upd_same, own_upd_same]; exact E i hi gi h0
    · rw [own_upd_ne _ _ r, own_upd_ne _ _ r]
      rw [own_upd_ne _ _ r] at h
      exact E j hj r h
  · obtain ⟨j, hj, q, e1, e2⟩ := F k h
    by_cases r : j = i
    · subst r
      exact ⟨g, hg, fun z => gi z.symm, by rw [own_upd_same]; exact e1, by rw [own_upd_same]; exact e2⟩
    · exact ⟨j, hj, r, by rw [own_upd_ne _ _ q]; exact e1, by rw [own_upd_ne _ _ q]; exact e2⟩
  · rw [← N]; exact own_cnt_same 16 fun j _ => oc j
  · have : d = 0 := by omega
    subst this
    have : (i + 0) % 16 = i := by omega
    rw [this, own_upd_ne _ _ gi]; exact h0
theorem own_gap_skip {hm : Int64 → Nat} {ks : Nat → Int64} {vs : Nat → Value} {G : Int64 → Value} {n g i : Nat} (hh : ∀ k, hm k < 16) (hn : n < 16) (R : own_Gap hm ks vs G n g i) (h0 : vs i ≠ .null) (hd : own_dist (hm (ks i)) i < own_dist g i) :
    own_Gap hm ks vs G n g ((i + 1) % 16) := by
  obtain ⟨⟨hg, hi, hvg, hp⟩, B, C, D, E, F, N, I⟩ := R
  have ei : (g + own_dist g i) % 16 = i := by unfold own_dist; omega
  have I' : ∀ d, d < own_dist g i + 1 → vs ((g + d) % 16) ≠ .null := fun d hd' => by
    by_cases q : d = own_dist g i
    · rw [q, ei]; exact h0
    · exact I d (by omega)
  have small : own_dist g i < 15 := by
    apply Nat.lt_of_not_le
    intro q
    have : own_cnt vs 16 = 16 := own_cnt_full 16 fun j hj => by
      have := I' (own_dist g j) (by unfold own_dist at *; omega)
      have e : (g + own_dist g j) % 16 = j := by unfold own_dist; omega
      rwa [e] at this
    omega
  have e1 : own_dist g ((i + 1) % 16) = own_dist g i + 1 := by unfold own_dist at *; omega
  refine ⟨⟨hg, Nat.mod_lt _ (by decide), hvg, by omega⟩, B, fun j hj q h hd' d hdd => ?_, D, E, F, N, fun d hd' => I' d (by omega)⟩
  rw [e1] at hd'
  by_cases r : own_dist g j < own_dist g i
  · exact C j hj q h r d hdd
  · have : j = i := by unfold own_dist at *; omega
    subst this
    have := hh (ks j)
    unfold own_dist at *
    omega
theorem own_gap_end {hm : Int64 → Nat} {ks : Nat → Int64} {vs : Nat → Value} {G : Int64 → Value} {n g i : Nat} (hh : ∀ k, hm k < 16) (R : own_Gap hm ks vs G n g i) (h0 : vs i = .null) :
    own_Rep hm ks (own_upd vs g .null) G (n - 1) := by
  obtain ⟨⟨hg, hi, hvg, hp⟩, B, C, D, E, F, N, I⟩ := R
  have nz : ∀ j, own_upd vs g .null j ≠ .null → j ≠ g ∧ vs j ≠ .null := fun j h => by
    by_cases q : j = g
    · subst q; exact absurd (own_upd_same _ _ _) h
    · rw [own_upd_ne _ _ q] at h; exact ⟨q, h⟩
  refine ⟨⟨fun j hj h d hd => ?_, fun a b ha hb h1 h2 e => D a b ha hb (nz a h1).1 (nz b h2).1 (nz a h1).2 (nz b h2).2 e⟩, fun j hj h => ?_, fun k h => ?_, ?_⟩
  · obtain ⟨q, hv⟩ := nz j h
    have hB := B j hj q hv
    have ng : (hm (ks j) + d) % 16 ≠ g := by
      by_cases r : own_dist g j < own_dist g i
      · exact C j hj q hv r d hd
      · intro z
        have ji : j ≠ i := fun z => hv (z ▸ h0)
        have hk := hh (ks j)
        have lt : d + own_dist g i < own_dist (hm (ks j)) j := by unfold own_dist at *; omega
        have := hB _ lt
        have e : (hm (ks j) + (d + own_dist g i)) % 16 = i := by unfold own_dist at *; omega
        rw [e] at this
        exact this h0
    rw [own_upd_ne _ _ ng]
    exact hB d hd
  · obtain ⟨q, hv⟩ := nz j h
    rw [own_upd_ne _ _ q]
    exact E j hj q hv
  · obtain ⟨j, hj, q, e1, e2⟩ := F k h
    exact ⟨j, hj, e1, by rw [own_upd_ne _ _ q]; exact e2⟩
  · have := own_cnt_sub hvg 16
    rw [if_pos hg] at this
    omega
/-! ### the map in the heap -/
abbrev IDM : String := "com/example/rootlet/rootlet/IdMap"
abbrev OBJ : FieldType := .object "java/lang/Object"
def ix (n : Nat) : Int32 := Int32.ofNat n
theorem ix_clamp {n : Nat} (h : n < 16) : (ix n).toNatClampNeg = n := clamp_of rfl (by omega)
theorem ix_in {n : Nat} {c : Cell} (h : n < 16) (hs : c.slots.size = 16) : ¬ (ix n < 0 ∨ c.slots.size ≤ (ix n).toNatClampNeg) := by rw [hs]; exact within rfl h (by decide)
theorem ix_next : ∀ n, n < 16 → (ix n + 1) &&& 15 = ix ((n + 1) % 16) := by decide
theorem ix_sub : ∀ a, a < 16 → ∀ b, b < 16 → (ix a - ix b) &&& 15 = ix (own_dist b a) := by decide
theorem ix_lt : ∀ a, a < 16 → ∀ b, b < 16 → (ix a < ix b ↔ a < b) := by decide
theorem ix_nn : ∀ a, a < 16 → ¬ ix a < 0 := by decide
def own_hmI (k : Int64) : Int32 := ((((XT.ushrL k 4 * (-7046029254386353131)) ^^^ XT.ushrL (XT.ushrL k 4 * (-7046029254386353131)) 32) <<< ((4 : Int32).toInt64 &&& 63)) ||| (k &&& 15)).toInt32 &&& 15
def own_hm (k : Int64) : Nat := (own_hmI k).toNatClampNeg
theorem own_and15n (x : Int32) : (x &&& 15).toBitVec.toNat < 16 := by
  rw [Int32.toBitVec_and, BitVec.toNat_and]
  exact Nat.lt_of_le_of_lt Nat.and_le_right (by decide)
theorem own_and15i (x : Int32) : (x &&& 15).toInt = ((x &&& 15).toBitVec.toNat : Int) := by
  show (x &&& 15).toBitVec.toInt = _
  rw [BitVec.toInt_eq_toNat_of_lt (by have := own_and15n x; omega)]
theorem own_hm_lt (k : Int64) : own_hm k < 16 := by
  have h1 : ∀ x : Int32, (x &&& 15).toNatClampNeg < 16 := fun x => by
    have := own_and15n x
    show (x &&& 15).toInt.toNat < 16
    rw [own_and15i]; omega
  exact h1 _
theorem own_hm_ix (k : Int64) : own_hmI k = ix (own_hm k) := by
  have h1 : ∀ x : Int32, x &&& 15 = ix ((x &&& 15).toNatClampNeg) := fun x => by
    have := own_and15n x
    apply Int32.toInt_inj.mp
    have e : (x &&& 15).toNatClampNeg = (x &&& 15).toBitVec.toNat := by
      show (x &&& 15).toInt.toNat = _
      rw [own_and15i]; omega
    rw [e, own_and15i]
    exact (toInt_of (n := ix _) rfl (by omega)).symm
  exact h1 _
def own_Map (Z : State) (h : Heap) (n0 : Nat) (b ka va : Addr) (ks : Nat → Int64) (vs : Nat → Value) (n : Nat) : Prop :=
  (n0 ≤ b ∧ n0 ≤ ka ∧ n0 ≤ va ∧ b ≠ ka ∧ b ≠ va ∧ ka ≠ va) ∧ Exa Z h b IDM ∧
  (Fld Z h b IDM "keys" "[J" (.ref ka) ∧ Fld Z h b IDM "values" "[Ljava/lang/Object;" (.ref va) ∧ Fld Z h b IDM "mask" "I" (.int 15) ∧ Fld Z h b IDM "size" "I" (.int (ix n))) ∧
  (∃ ck : Cell, Arr Z h ka ck .long ∧ ck.slots.size = 16 ∧ ∀ i, i < 16 → ck.slots[i]? = some (.long (ks i))) ∧
  (∃ cv : Cell, Arr Z h va cv OBJ ∧ cv.slots.size = 16 ∧ Ovr Z cv.cls "java/lang/Object" ∧ ∀ i, i < 16 → cv.slots[i]? = some (vs i)) ∧
  (∀ i, i < 16 → vs i = .null ∨ ∃ w, vs i = .ref w ∧ Exa Z h w "java/lang/Integer")
section MapFacts
variable {Z : State} {h h' : Heap} {n0 : Nat} {b ka va : Addr} {ks : Nat → Int64} {vs : Nat → Value} {n : Nat}
theorem own_Map.isRef (M : own_Map Z h n0 b ka va ks vs n) {i : Nat} (hi : i < 16) : (vs i).isRef = true := by
  rcases M.2.2.2.2.2 i hi with q | ⟨w, q, -⟩ <;> rw [q] <;> rfl
theorem own_Map.ext (M : own_Map Z h n0 b ka va ks vs n) (E : Ext h h') : own_Map Z h' n0 b ka va ks vs n := by
  obtain ⟨A, B, ⟨F1, F2, F3, F4⟩, ⟨ck, K1, K2⟩, ⟨cv, V1, V2⟩, D⟩ := M
  exact ⟨A, B.ext E, ⟨F1.ext E, F2.ext E, F3.ext E, F4.ext E⟩, ⟨ck, K1.ext E, K2⟩, ⟨cv, V1.ext E, V2⟩, fun i hi => (D i hi).imp id fun ⟨w, q, r⟩ => ⟨w, q, r.ext E⟩⟩
theorem own_slots {c : Cell} {f : Nat → Value} {i : Nat} {v : Value} (hs : c.slots.size = 16) (H : ∀ j, j < 16 → c.slots[j]? = some (f j)) (hi : i < 16) : (c.setSlot i v).slots.size = 16 ∧ ∀ j, j < 16 → (c.setSlot i v).slots[j]? = some (own_upd f i v j) := by
  refine ⟨by rw [sz_set]; exact hs, fun j hj => ?_⟩
  by_cases q : j = i
  · subst q
    rw [own_upd_same]
    simp [Cell.setSlot, hs, hj]
  · rw [own_upd_ne _ _ q]
    show (c.slots.setIfInBounds i v)[j]? = _
    rw [Array.getElem?_setIfInBounds_ne (Ne.symm q)]
    exact H j hj
theorem own_Map.keys (M : own_Map Z h n0 b ka va ks vs n) {i : Nat} {x : Int64} (hi : i < 16) (W : Wr h h' ka (ix i).toNatClampNeg (.long x)) : own_Map Z h' n0 b ka va (own_upd ks i x) vs n := by
  rw [ix_clamp hi] at W
  obtain ⟨A, B, ⟨F1, F2, F3, F4⟩, ⟨ck, K1, K2, K3⟩, ⟨cv, V1, V2⟩, D⟩ := M
  obtain ⟨a1, a2, a3, a4, a5, a6⟩ := A
  have S := own_slots (f := fun j => .long (ks j)) (v := .long x) K2 K3 hi
  refine ⟨⟨a1, a2, a3, a4, a5, a6⟩, B.wr W, ⟨F1.other W (Or.inl a4), F2.other W (Or.inl a4), F3.other W (Or.inl a4), F4.other W (Or.inl a4)⟩, ⟨_, K1.same W, S.1, fun j hj => ?_⟩, ⟨cv, V1.other W (Ne.symm a6), V2⟩, fun j hj => (D j hj).imp id fun ⟨w, q, r⟩ => ⟨w, q, r.wr W⟩⟩
  rw [S.2 j hj]
  by_cases q : j = i
  · subst q; rw [own_upd_same, own_upd_same]
  · rw [own_upd_ne _ _ q, own_upd_ne _ _ q]
theorem own_Map.vals (M : own_Map Z h n0 b ka va ks vs n) {i : Nat} {v : Value} (hi : i < 16) (hv : v = .null ∨ ∃ w, v = .ref w ∧ Exa Z h w "java/lang/Integer") (W : Wr h h' va (ix i).toNatClampNeg v) : own_Map Z h' n0 b ka va ks (own_upd vs i v) n := by
  rw [ix_clamp hi] at W
  obtain ⟨A, B, ⟨F1, F2, F3, F4⟩, ⟨ck, K1, K2, K3⟩, ⟨cv, V1, V2, V3, V4⟩, D⟩ := M
  obtain ⟨a1, a2, a3, a4, a5, a6⟩ := A
  have S := own_slots (v := v) V2 V4 hi
  refine ⟨⟨a1, a2, a3, a4, a5, a6⟩, B.wr W, ⟨F1.other W (Or.inl a5), F2.other W (Or.inl a5), F3.other W (Or.inl a5), F4.other W (Or.inl a5)⟩, ⟨ck, K1.other W a6, K2, K3⟩, ⟨_, V1.same W, S.1, V3, S.2⟩, fun j hj => ?_⟩
  by_cases q : j = i
  · subst q; rw [own_upd_same]; exact hv.imp id fun ⟨w, q, r⟩ => ⟨w, q, r.wr W⟩
  · rw [own_upd_ne _ _ q]; exact (D j hj).imp id fun ⟨w, q, r⟩ => ⟨w, q, r.wr W⟩
theorem own_Map.sized {a0 : Array Value} (hk : (Cond.lays IDM IDM "keys" "[J").before a0 Z = true) (hv : (Cond.lays IDM IDM "values" "[Ljava/lang/Object;").before a0 Z = true) (hm : (Cond.lays IDM IDM "mask" "I").before a0 Z = true) (hs : (Cond.lays IDM IDM "size" "I").before a0 Z = true)
    (M : own_Map Z h n0 b ka va ks vs n) {n' : Nat} (W : Wr h h' b (RoadKit.slotOf Z IDM "size" "I") (.int (ix n'))) : own_Map Z h' n0 b ka va ks vs n' := by
  obtain ⟨A, B, ⟨F1, F2, F3, F4⟩, ⟨ck, K1, K2⟩, ⟨cv, V1, V2⟩, D⟩ := M
  refine ⟨A, B.wr W, ⟨F1.other W (Or.inr (RoadKit.slot_ne (Or.inl hk) (Or.inl hs) (by decide) (t := .array .long) (t' := .int) (by decide) (by decide))), F2.other W (Or.inr (RoadKit.slot_ne (Or.inl hv) (Or.inl hs) (by decide) (t := .array OBJ) (t' := .int) (by decide) (by decide))), F3.other W (Or.inr (RoadKit.slot_ne (Or.inl hm) (Or.inl hs) (by decide) (t := .int) (t' := .int) (by decide) (by decide))), F4.same W⟩, ⟨ck, K1.other W (Ne.symm A.2.2.2.1), K2⟩, ⟨cv, V1.other W (Ne.symm A.2.2.2.2.1), V2⟩, fun j hj => (D j hj).imp id fun ⟨w, q, r⟩ => ⟨w, q, r.wr W⟩⟩
end MapFacts
theorem own_Map.sto {Z : State} {h : Heap} {n0 : Nat} {b ka va : Addr} {ks : Nat → Int64} {vs : Nat → Value} {n : Nat} {a0 : Array Value} (M : own_Map Z h n0 b ka va ks vs n) (hc : (Jvm.Cond.castable "java/lang/Integer" "java/lang/Object").before a0 Z = true) {v : Value} (hv : v = .null ∨ ∃ w, v = .ref w ∧ Exa Z h w "java/lang/Integer") : Sto Z h va v := by
  rcases hv with rfl | ⟨w, rfl, E⟩
  · exact Or.inl rfl
  · obtain ⟨A, B, F, K, ⟨cv, V1, V2, V3, V4⟩, D⟩ := M
    exact Sto.of V1 V3 (Ins.of_exa E hc)
theorem own_selp {s : State} {args : Array Value} {y z : MethodName} (hz : (Jvm.Cond.selects z.cls z z).before args s = true) (e : y.cls = z.cls) (hp : (Jvm.Cond.privateMethod y).before args s = true) (hi : (Jvm.Cond.instanceMethod y).before args s = true) (hy : y.cls ≠ "java/lang/invoke/MethodHandle" ∧ y.cls ≠ "java/lang/invoke/VarHandle") : (Jvm.Cond.selects y.cls y y).before args s = true := by
  obtain ⟨c, r, m, h1, h2, h3, h4, mk, h5, h6⟩ := Cond.selects_spec hz
  have hc := findClass_of_methodNamed h3
  rw [← e] at hc
  exact Jvm.Stand.selects_self_of_private hc h5 h6 (Cond.privateMethod_at hp) hi hy
/-- what find answers -/
def own_QF (ks : Nat → Int64) (vs : Nat → Value) (G : Int64 → Value) (k : Int64) (h0 : Heap) (n0 : Nat) (v : Option Value) (h : Heap) (L : List Loc) : Prop :=
  (∃ r : Int32, v = some (.int r) ∧ ((∃ i, i < 16 ∧ r = ix i ∧ vs i ≠ .null ∧ ks i = k) ∨ (r = -1 ∧ G k = .null))) ∧ Fr n0 L ∧ h = h0
/-- what put and remove leave -/
def own_QM (Z : State) (n0 hs : Nat) (b ka va : Addr) (G : Int64 → Value) (n : Nat) (r : Value) (v : Option Value) (h : Heap) (L : List Loc) : Prop :=
  v = some r ∧ Fr n0 L ∧ (Old Z n0 h ∧ hs ≤ h.size) ∧ ∃ ks vs, own_Map Z h n0 b ka va ks vs n ∧ own_Rep own_hm ks vs G n
def FinW (s : State) (below : List Frame) (Q : Option Value → Heap → List Loc → Prop) (cc ss : Nat) (s₂ : State) (o : Outcome) : Prop := s₂.status = .running ∧ Ended s₂ below o ∧ ∃ v L, o = .returned v ∧ Q v s₂.heap L ∧ ReturnedEndW s o s₂ L cc ss
theorem own_endW {s t : State} {o : Outcome} {L : List Loc} {k n k' n' : Nat} (h : ReturnedEndW s o t L k n) (hk : k ≤ k') (hn : n ≤ n') : ReturnedEndW s o t L k' n' := ⟨h.1, h.2.1, h.2.2.1, h.2.2.2.mono hk hn⟩
section Rets
variable {p : Program} {l : Launch} {e : Env} {R : Room} {s : State} {m : MethodId} {args : Array Value} {below : List Frame} {meth : Method} {c : Code} {T : State} {locs : List Loc} {cells slots : Nat}
theorem own_retW {vm₁ : Vm} (X : Stand p l e R (s.setVm vm₁) m args below meth c T locs cells slots) {k : Nat} (hS : s.Since vm₁ k) (hk : k ≤ T.heap.size) (hx : p.tables.exec = Jvm.exec) (hlk : meth.locks = false)
    {pc : Nat} {Ls : Array Slot} {w : Value} {t : FieldType} {i : Instr} {rest : List Value} (hret : meth.sig.returnType = some t) (hn : narrow t w = w)
    (hi : (i = .ireturn ∧ (t = .int ∨ t = .boolean ∨ t = .byte ∨ t = .char ∨ t = .short) ∧ ∃ z, w = .int z) ∨ (i = .lreturn ∧ t = .long ∧ ∃ z, w = .long z) ∨ (i = .dreturn ∧ t = .double ∧ ∃ z, w = .double z) ∨ (i = .freturn ∧ t = .float ∧ ∃ z, w = .float z) ∨ (i = .areturn ∧ t.isReference = true ∧ w.isRef = true))
    (hd : decode c.code pc = .ok (i, 1)) {Q : Option Value → Heap → List Loc → Prop} (hQ : Q (some w) T.heap locs) {cc ss : Nat} (hc : cells ≤ cc) (hs : slots ≤ ss) :
    Go p.tables e below (FinW s below Q cc ss) (T.setTop (mkF m pc Ls (w :: rest))) := by
  obtain ⟨fs, hr, hrun, hended, hW⟩ := X.leaveW hS hk (v := some w) (fun h => by rw [hret] at h; cases h) hlk
  exact ⟨_, _, retOut X hx hret hn hi hd hr, hrun, hended, _, _, rfl, hQ, own_endW hW hc hs⟩
theorem own_retv (X : Stand p l e R s m args below meth c T locs cells slots) (hx : p.tables.exec = Jvm.exec) (hlk : meth.locks = false)
    {pc : Nat} {Ls : Array Slot} (hret : meth.sig.returnType = none)
    (hd : decode c.code pc = .ok (.return_, 1)) {Q : Option Value → Heap → List Loc → Prop} (hQ : Q none T.heap locs) {cc ss : Nat} (hc : cells ≤ cc) (hs : slots ≤ ss) :
    Go p.tables e below (Fin s below Q cc ss) (T.setTop (mkF m pc Ls [])) := by
  obtain ⟨fs, hr, hrun, hended, hW, hsame⟩ := X.leave (v := none) (fun _ => rfl) hlk
  exact ⟨_, _, X.returnOut hx hret hd hr, hrun, hended, _, _, rfl, hQ, ⟨_, rfl⟩, hW, hsame.mono hc hs⟩
end Rets
theorem ix_succ (n : Nat) : ix n + 1 = ix (n + 1) := (inc_ofNat n).symm
theorem ix_pred : ∀ n, 0 < n → ix n - 1 = ix (n - 1) := fun n h => by
  obtain ⟨k, rfl⟩ : ∃ k, n = k + 1 := ⟨n - 1, by omega⟩
  exact dec_ofNat k
theorem ix_ne15 : ∀ n, n < 8 → ¬ ix n = 15 := by decide
theorem ix_le8 : ∀ n, n < 8 → ¬ (16 : Int32) < (2 : Int32) * ix (n + 1) := by decide
theorem own_upd_id {α β : Type} [DecidableEq α] {f : α → β} {i : α} {x : β} (h : f i = x) : own_upd f i x = f := by
  funext j
  by_cases q : j = i
  · subst q; rw [own_upd_same, h]
  · rw [own_upd_ne _ _ q]
theorem own_dist_lt (a b : Nat) : own_dist a b < 16 := Nat.mod_lt _ (by decide)
theorem own_dist_next {i z : Nat} (hi : i < 16) (hz : z < 16) (h : i ≠ z) : own_dist ((i + 1) % 16) z + 1 = own_dist i z := by unfold own_dist; omega
theorem own_cnt_pos {vs : Nat → Value} {i n : Nat} (hi : i < 16) (h : vs i ≠ .null) (hc : own_cnt vs 16 = n) : 0 < n := by
  have := own_cnt_sub h 16
  rw [if_pos hi] at this
  omega
/-- what the constructor leaves -/
def own_QI (Z : State) (n0 : Nat) (b : Addr) (v : Option Value) (h : Heap) (L : List Loc) : Prop :=
  v = none ∧ Fr n0 L ∧ Old Z n0 h ∧ ∃ ka va, own_Map Z h n0 b ka va (fun _ => 0) (fun _ => .null) 0

def LQ (n0 : Nat) (v : Option Value) (h : Heap) (L : List Loc) : Prop := v = some (.int 1) ∧ Fr n0 L
theorem own_gone {G : Int64 → Value} {r q : Int64} : own_upd G r .null q = .null ↔ (q = r ∨ G q = .null) := by
  by_cases h : q = r
  · subst h; simp [own_upd_same]
  · simp [own_upd_ne _ _ h, h]
theorem own_come {G : Int64 → Value} {k q : Int64} {w : Addr} : own_upd G k (.ref w) q = .null ↔ (¬ q = k ∧ G q = .null) := by
  by_cases h : q = k
  · subst h; simp [own_upd_same]
  · simp [own_upd_ne _ _ h, h]
abbrev ICC : String := "java/lang/Integer$IntegerCache"
abbrev CACHE : Term := .static "java/lang/Integer$IntegerCache" "cache" "[Ljava/lang/Integer;"
theorem own_box {Z : State} {args : Array Value} {ca : Addr} {cl : Cell} (ev : ∀ idx, CACHE.eval args Z none idx Z = some (.ref ca)) (Ar : Arr Z Z.heap ca cl (.object "java/lang/Integer")) (hl : cl.slots.size = 256)
    (h : (Jvm.Cond.all CACHE (.and (.exactly (.elem CACHE (.index 0)) "java/lang/Integer") (.eq (.field (.elem CACHE (.index 0)) "java/lang/Integer" "value" "I") (.sub (.index 0) (.int 128))))).value args Z none Z [] = some true)
    (j : Int32) (hj : ¬ j < 0) (hj2 : j.toNatClampNeg < 256) : ∃ w, cl.slots[j.toNatClampNeg]? = some (.ref w) ∧ Exa Z Z.heap w "java/lang/Integer" ∧ Fld Z Z.heap w "java/lang/Integer" "value" "I" (.int (j - 128)) := by
  have ha := Arr.fin (Vm.Alike.refl _) Ar
  have q := Cond.all_elim (ev []) ha h j.toNatClampNeg (by omega)
  obtain ⟨q1, q2⟩ := and_e q
  obtain ⟨w, e1⟩ := exa_v q1
  have i1 := elem_in e1 (ev _) (idx_at hj) Ar.1
  refine ⟨w, i1.2, exa_at e1 q1, ?_⟩
  have f1 : (Term.field (.elem CACHE (.index 0)) "java/lang/Integer" "value" "I").eval args Z none [j.toNatClampNeg] Z = Z.fieldOf? w "java/lang/Integer" "value" "I" := fld_at e1
  obtain ⟨x, y, h1, h2, h3, h4⟩ := cmp_v (Or.inl q2)
  have e0 : (Term.index 0).eval args Z none [j.toNatClampNeg] Z = some (.int j) := idx_at hj
  have e2 : (Term.sub (.index 0) (.int 128)).eval args Z none [j.toNatClampNeg] Z = some (.int (j - 128)) := by
    have e3 : (Term.int 128).eval args Z none [j.toNatClampNeg] Z = some (.int 128) := Term.int_eval 128
    rw [Term.eval, e0, e3]; rfl
  cases e2.symm.trans h2
  obtain ⟨z, rfl⟩ := h4
  have q := gotT (u := (Jvm.Cond.eq (.field (.elem CACHE (.index 0)) "java/lang/Integer" "value" "I") (.sub (.index 0) (.int 128))).value args Z none Z [j.toNatClampNeg]) (P := z = j - 128) (by rw [Cond.value, h1, e2]) q2
  subst q
  exact Fld.start (f1 ▸ h1)
theorem own_gref {Z : State} {h : Heap} {n0 : Nat} {b ka va : Addr} {ks : Nat → Int64} {vs : Nat → Value} {n : Nat} {G : Int64 → Value} (M : own_Map Z h n0 b ka va ks vs n) (R : own_Rep own_hm ks vs G n) (q : Int64) : (G q).isRef = true := by
  by_cases hq : G q = .null
  · rw [hq]; rfl
  · obtain ⟨i, hi, -, e⟩ := R.2.2.1 q hq
    rw [← e]; exact M.isRef hi
theorem d7_0 : decode prog_24_method_12_code 0 = .ok (.lload_n 1, 1) := by decide +kernel
theorem d7_1 : decode prog_24_method_12_code 1 = .ok (.iconst 4, 1) := by decide +kernel
theorem d7_2 : decode prog_24_method_12_code 2 = .ok (.lushr, 1) := by decide +kernel
theorem d7_3 : decode prog_24_method_12_code 3 = .ok (.ldc2_w 66, 3) := by decide +kernel
theorem d7_6 : decode prog_24_method_12_code 6 = .ok (.lmul, 1) := by decide +kernel
theorem d7_7 : decode prog_24_method_12_code 7 = .ok (.lstore_n 3, 1) := by decide +kernel
theorem d7_8 : decode prog_24_method_12_code 8 = .ok (.lload_n 3, 1) := by decide +kernel
theorem d7_9 : decode prog_24_method_12_code 9 = .ok (.lload_n 3, 1) := by decide +kernel
theorem d7_10 : decode prog_24_method_12_code 10 = .ok (.bipush 32, 2) := by decide +kernel
theorem d7_12 : decode prog_24_method_12_code 12 = .ok (.lushr, 1) := by decide +kernel
theorem d7_13 : decode prog_24_method_12_code 13 = .ok (.lxor, 1) := by decide +kernel
theorem d7_14 : decode prog_24_method_12_code 14 = .ok (.iconst 4, 1) := by decide +kernel
theorem d7_15 : decode prog_24_method_12_code 15 = .ok (.lshl, 1) := by decide +kernel
theorem d7_16 : decode prog_24_method_12_code 16 = .ok (.lload_n 1, 1) := by decide +kernel
theorem d7_17 : decode prog_24_method_12_code 17 = .ok (.ldc2_w 68, 3) := by decide +kernel
theorem d7_20 : decode prog_24_method_12_code 20 = .ok (.land, 1) := by decide +kernel
theorem d7_21 : decode prog_24_method_12_code 21 = .ok (.lor, 1) := by decide +kernel
theorem d7_22 : decode prog_24_method_12_code 22 = .ok (.l2i, 1) := by decide +kernel
theorem d7_23 : decode prog_24_method_12_code 23 = .ok (.aload_n 0, 1) := by decide +kernel
theorem d7_24 : decode prog_24_method_12_code 24 = .ok (.getfield 43, 3) := by decide +kernel
theorem d7_27 : decode prog_24_method_12_code 27 = .ok (.iand, 1) := by decide +kernel
theorem d7_28 : decode prog_24_method_12_code 28 = .ok (.ireturn, 1) := by decide +kernel
theorem pn_0 : plainName "com/example/rootlet/rootlet/IdMap" = true := by first | (simp [plainName, overriddenIn]; done) | decide +kernel
theorem ef_rm_home (m : MethodId) (x0 : Addr) (x1 : Int64) : entryFrame m #[(.ref x0), (.long x1)] 5 = mkF m 0 #[.val (.ref x0), .val (.long x1), .second, .unset, .unset] [] := by first | (simp [entryFrame, mkF, argsToLocals, Value.category]; done) | rfl
set_option maxRecDepth 65536 in
set_option maxHeartbeats 40000000 in
theorem rm_home (l : Launch) (Z : State) (a0 : Array Value) (hw : ∀ d ∈ tables_1, d.before a0 Z = true) (ws : List Jvm.Cond) (b : Addr) (q : Int64) (h0 : Heap) (n0 : Nat) (Fm : Fld Z h0 b IDM "mask" "I" (.int 15)) :
    MetFree l (⟨"com/example/rootlet/rootlet/IdMap", "home", "(J)I"⟩ : MethodName) (head1 (Jvm.Cond.code (⟨"com/example/rootlet/rootlet/IdMap", "home", "(J)I"⟩ : MethodName) prog_24_method_12_code 5 (some .int) :: ws) ({ frames := 0, cells := 0, slots := 0, locals := 0 } : Room)) (fun aa U => aa = #[(.ref b), (.long q)] ∧ Z.Warmed39 U.vm ∧ U.heap = h0) (fun _ _ _ _ _ => True) (fun _ U o U' => ∃ v_ L_, o = .returned v_ ∧ PQ (.int (own_hmI q)) h0 n0 v_ U'.heap L_ ∧ FrameEnd U o U' L_ ({ frames := 0, cells := 0, slots := 0, locals := 0 } : Room).cells ({ frames := 0, cells := 0, slots := 0, locals := 0 } : Room).slots) := by
  refine MetFree.of_bodySF (plainFor_of_name pn_0) hisR ?_
  intro p e s m args below meth c s₁ Bd hml0 hP hK
  obtain ⟨rfl, hZ, hh⟩ := hP
  have hx := Bd.exec
  have hby := Bd.bytes
  have hlk := Bd.notSynchronized
  have hml : c.maxLocals = 5 := hml0
  have hown : s.vm.findClass "com/example/rootlet/rootlet/IdMap" = some m.cls := by have q := findClass_of_methodNamed Bd.named; exact q
  have X0 : Stand p l e ({ frames := 0, cells := 0, slots := 0, locals := 0 } : Room) s m #[(.ref b), (.long q)] below meth c s₁ [] 0 0 := Stand.of_body Bd
  have e0 : s₁.heap = h0 := by rw [← hh, Bd.state]; rfl
  have N0 := Fr.nil n0
  show Go p.tables e below (Fin s below (PQ (.int (own_hmI q)) h0 n0) ({ frames := 0, cells := 0, slots := 0, locals := 0 } : Room).cells ({ frames := 0, cells := 0, slots := 0, locals := 0 } : Room).slots) (s₁.setTop (entryFrame m #[(.ref b), (.long q)] 5))
  refine own_go (fun tt_ kk_ => castTop (ef_rm_home m b q) kk_) ?_
  show Go p.tables e below _ (s₁.setTop (mkF m 0 #[.val (.ref b), .val (.long q), .second, .unset, .unset] []))
  refine own_go (fun tt_ kk_ => XT.lloadN X0.here hx rfl (hb hby d7_0) rfl kk_) ?_
  show Go p.tables e below _ (s₁.setTop (mkF m 1 #[.val (.ref b), .val (.long q), .second, .unset, .unset] [(.long q)]))
  refine own_go (fun tt_ kk_ => XS.iconst X0.here hx rfl (hb hby d7_1) kk_) ?_
  show Go p.tables e below _ (s₁.setTop (mkF m 2 #[.val (.ref b), .val (.long q), .second, .unset, .unset] [(.int (4 : Int32)), (.long q)]))
  refine own_go (fun tt_ kk_ => XT.lushr X0.here hx rfl (hb hby d7_2) rfl kk_) ?_
  show Go p.tables e below _ (s₁.setTop (mkF m 3 #[.val (.ref b), .val (.long q), .second, .unset, .unset] [(.long (XT.ushrL q (4 : Int32)))]))
  refine own_go (fun tt_ kk_ => Jvm.Stand.ldc2J X0 hx hown (mvT hZ (hw _ (List.mem_of_getElem? (i := 50) rfl))) rfl (hb hby d7_3) kk_) ?_
  show Go p.tables e below _ (s₁.setTop (mkF m 6 #[.val (.ref b), .val (.long q), .second, .unset, .unset] [(.long ((-7046029254386353131) : Int64)), (.long (XT.ushrL q (4 : Int32)))]))
  refine own_go (fun tt_ kk_ => XT.lmul X0.here hx rfl (hb hby d7_6) rfl kk_) ?_
  show Go p.tables e below _ (s₁.setTop (mkF m 7 #[.val (.ref b), .val (.long q), .second, .unset, .unset] [(.long ((XT.ushrL q (4 : Int32)) * ((-7046029254386353131) : Int64)))]))
  refine own_go (fun tt_ kk_ => XT.lstoreN X0.here hx rfl (hb hby d7_7) rfl (l' := #[.val (.ref b), .val (.long q), .second, .val (.long ((XT.ushrL q (4 : Int32)) * ((-7046029254386353131) : Int64))), .second]) rfl kk_) ?_
  show Go p.tables e below _ (s₁.setTop (mkF m 8 #[.val (.ref b), .val (.long q), .second, .val (.long ((XT.ushrL q (4 : Int32)) * ((-7046029254386353131) : Int64))), .second] []))
  refine own_go (fun tt_ kk_ => XT.lloadN X0.here hx rfl (hb hby d7_8) rfl kk_) ?_
  show Go p.tables e below _ (s₁.setTop (mkF m 9 #[.val (.ref b), .val (.long q), .second, .val (.long ((XT.ushrL q (4 : Int32)) * ((-7046029254386353131) : Int64))), .second] [(.long ((XT.ushrL q (4 : Int32)) * ((-7046029254386353131) : Int64)))]))
  refine own_go (fun tt_ kk_ => XT.lloadN X0.here hx rfl (hb hby d7_9) rfl kk_) ?_
  show Go p.tables e below _ (s₁.setTop (mkF m 10 #[.val (.ref b), .val (.long q), .second, .val (.long ((XT.ushrL q (4 : Int32)) * ((-7046029254386353131) : Int64))), .second] [(.long ((XT.ushrL q (4 : Int32)) * ((-7046029254386353131) : Int64))), (.long ((XT.ushrL q (4 : Int32)) * ((-7046029254386353131) : Int64)))]))
  refine own_go (fun tt_ kk_ => XS.bipush X0.here hx rfl (hb hby d7_10) kk_) ?_
  show Go p.tables e below _ (s₁.setTop (mkF m 12 #[.val (.ref b), .val (.long q), .second, .val (.long ((XT.ushrL q (4 : Int32)) * ((-7046029254386353131) : Int64))), .second] [(.int (32 : Int32)), (.long ((XT.ushrL q (4 : Int32)) * ((-7046029254386353131) : Int64))), (.long ((XT.ushrL q (4 : Int32)) * ((-7046029254386353131) : Int64)))]))
  refine own_go (fun tt_ kk_ => XT.lushr X0.here hx rfl (hb hby d7_12) rfl kk_) ?_
  show Go p.tables e below _ (s₁.setTop (mkF m 13 #[.val (.ref b), .val (.long q), .second, .val (.long ((XT.ushrL q (4 : Int32)) * ((-7046029254386353131) : Int64))), .second] [(.long (XT.ushrL ((XT.ushrL q (4 : Int32)) * ((-7046029254386353131) : Int64)) (32 : Int32))), (.long ((XT.ushrL q (4 : Int32)) * ((-7046029254386353131) : Int64)))]))
  refine own_go (fun tt_ kk_ => XT.lxor X0.here hx rfl (hb hby d7_13) rfl kk_) ?_
  show Go p.tables e below _ (s₁.setTop (mkF m 14 #[.val (.ref b), .val (.long q), .second, .val (.long ((XT.ushrL q (4 : Int32)) * ((-7046029254386353131) : Int64))), .second] [(.long (((XT.ushrL q (4 : Int32)) * ((-7046029254386353131) : Int64)) ^^^ (XT.ushrL ((XT.ushrL q (4 : Int32)) * ((-7046029254386353131) : Int64)) (32 : Int32))))]))
  refine own_go (fun tt_ kk_ => XS.iconst X0.here hx rfl (hb hby d7_14) kk_) ?_
  show Go p.tables e below _ (s₁.setTop (mkF m 15 #[.val (.ref b), .val (.long q), .second, .val (.long ((XT.ushrL q (4 : Int32)) * ((-7046029254386353131) : Int64))), .second] [(.int (4 : Int32)), (.long (((XT.ushrL q (4 : Int32)) * ((-7046029254386353131) : Int64)) ^^^ (XT.ushrL ((XT.ushrL q (4 : Int32)) * ((-7046029254386353131) : Int64)) (32 : Int32))))]))
  refine own_go (fun tt_ kk_ => XT.lshl X0.here hx rfl (hb hby d7_15) rfl kk_) ?_
  show Go p.tables e below _ (s₁.setTop (mkF m 16 #[.val (.ref b), .val (.long q), .second, .val (.long ((XT.ushrL q (4 : Int32)) * ((-7046029254386353131) : Int64))), .second] [(.long ((((XT.ushrL q (4 : Int32)) * ((-7046029254386353131) : Int64)) ^^^ (XT.ushrL ((XT.ushrL q (4 : Int32)) * ((-7046029254386353131) : Int64)) (32 : Int32))) <<< ((4 : Int32).toInt64 &&& 63)))]))
  refine own_go (fun tt_ kk_ => XT.lloadN X0.here hx rfl (hb hby d7_16) rfl kk_) ?_
  show Go p.tables e below _ (s₁.setTop (mkF m 17 #[.val (.ref b), .val (.long q), .second, .val (.long ((XT.ushrL q (4 : Int32)) * ((-7046029254386353131) : Int64))), .second] [(.long q), (.long ((((XT.ushrL q (4 : Int32)) * ((-7046029254386353131) : Int64)) ^^^ (XT.ushrL ((XT.ushrL q (4 : Int32)) * ((-7046029254386353131) : Int64)) (32 : Int32))) <<< ((4 : Int32).toInt64 &&& 63)))]))
  refine own_go (fun tt_ kk_ => Jvm.Stand.ldc2J X0 hx hown (mvT hZ (hw _ (List.mem_of_getElem? (i := 51) rfl))) rfl (hb hby d7_17) kk_) ?_
  show Go p.tables e below _ (s₁.setTop (mkF m 20 #[.val (.ref b), .val (.long q), .second, .val (.long ((XT.ushrL q (4 : Int32)) * ((-7046029254386353131) : Int64))), .second] [(.long (15 : Int64)), (.long q), (.long ((((XT.ushrL q (4 : Int32)) * ((-7046029254386353131) : Int64)) ^^^ (XT.ushrL ((XT.ushrL q (4 : Int32)) * ((-7046029254386353131) : Int64)) (32 : Int32))) <<< ((4 : Int32).toInt64 &&& 63)))]))
  refine own_go (fun tt_ kk_ => XT.land X0.here hx rfl (hb hby d7_20) rfl kk_) ?_
  show Go p.tables e below _ (s₁.setTop (mkF m 21 #[.val (.ref b), .val (.long q), .second, .val (.long ((XT.ushrL q (4 : Int32)) * ((-7046029254386353131) : Int64))), .second] [(.long (q &&& (15 : Int64))), (.long ((((XT.ushrL q (4 : Int32)) * ((-7046029254386353131) : Int64)) ^^^ (XT.ushrL ((XT.ushrL q (4 : Int32)) * ((-7046029254386353131) : Int64)) (32 : Int32))) <<< ((4 : Int32).toInt64 &&& 63)))]))
  refine own_go (fun tt_ kk_ => XT.lor X0.here hx rfl (hb hby d7_21) rfl kk_) ?_
  show Go p.tables e below _ (s₁.setTop (mkF m 22 #[.val (.ref b), .val (.long q), .second, .val (.long ((XT.ushrL q (4 : Int32)) * ((-7046029254386353131) : Int64))), .second] [(.long (((((XT.ushrL q (4 : Int32)) * ((-7046029254386353131) : Int64)) ^^^ (XT.ushrL ((XT.ushrL q (4 : Int32)) * ((-7046029254386353131) : Int64)) (32 : Int32))) <<< ((4 : Int32).toInt64 &&& 63)) ||| (q &&& (15 : Int64))))]))
  refine own_go (fun tt_ kk_ => XT.l2i X0.here hx rfl (hb hby d7_22) rfl kk_) ?_
  show Go p.tables e below _ (s₁.setTop (mkF m 23 #[.val (.ref b), .val (.long q), .second, .val (.long ((XT.ushrL q (4 : Int32)) * ((-7046029254386353131) : Int64))), .second] [(.int (((((XT.ushrL q (4 : Int32)) * ((-7046029254386353131) : Int64)) ^^^ (XT.ushrL ((XT.ushrL q (4 : Int32)) * ((-7046029254386353131) : Int64)) (32 : Int32))) <<< ((4 : Int32).toInt64 &&& 63)) ||| (q &&& (15 : Int64))).toInt32)]))
  refine own_go (fun tt_ kk_ => XS.aloadN X0.here hx rfl (hb hby d7_23) rfl rfl kk_) ?_
  show Go p.tables e below _ (s₁.setTop (mkF m 24 #[.val (.ref b), .val (.long q), .second, .val (.long ((XT.ushrL q (4 : Int32)) * ((-7046029254386353131) : Int64))), .second] [(.ref b), (.int (((((XT.ushrL q (4 : Int32)) * ((-7046029254386353131) : Int64)) ^^^ (XT.ushrL ((XT.ushrL q (4 : Int32)) * ((-7046029254386353131) : Int64)) (32 : Int32))) <<< ((4 : Int32).toInt64 &&& 63)) ||| (q &&& (15 : Int64))).toInt32)]))
  obtain ⟨T1, X1, e1, st1⟩ := getF X0 hx hZ hown (host := "") (Or.inl (hw _ (List.mem_of_getElem? (i := 20) rfl))) Via.refl e0 Fm (g := (mkF m 24 #[.val (.ref b), .val (.long q), .second, .val (.long ((XT.ushrL q (4 : Int32)) * ((-7046029254386353131) : Int64))), .second] [(.ref b), (.int (((((XT.ushrL q (4 : Int32)) * ((-7046029254386353131) : Int64)) ^^^ (XT.ushrL ((XT.ushrL q (4 : Int32)) * ((-7046029254386353131) : Int64)) (32 : Int32))) <<< ((4 : Int32).toInt64 &&& 63)) ||| (q &&& (15 : Int64))).toInt32)])) rfl rfl (hb hby d7_24)
  refine own_go (fun tt_ kk_ => st1 tt_ kk_) ?_
  show Go p.tables e below _ (T1.setTop (mkF m 27 #[.val (.ref b), .val (.long q), .second, .val (.long ((XT.ushrL q (4 : Int32)) * ((-7046029254386353131) : Int64))), .second] [(.int (15 : Int32)), (.int (((((XT.ushrL q (4 : Int32)) * ((-7046029254386353131) : Int64)) ^^^ (XT.ushrL ((XT.ushrL q (4 : Int32)) * ((-7046029254386353131) : Int64)) (32 : Int32))) <<< ((4 : Int32).toInt64 &&& 63)) ||| (q &&& (15 : Int64))).toInt32)]))
  refine own_go (fun tt_ kk_ => XS.iand X1.here hx rfl (hb hby d7_27) rfl kk_) ?_
  show Go p.tables e below _ (T1.setTop (mkF m 28 #[.val (.ref b), .val (.long q), .second, .val (.long ((XT.ushrL q (4 : Int32)) * ((-7046029254386353131) : Int64))), .second] [(.int ((((((XT.ushrL q (4 : Int32)) * ((-7046029254386353131) : Int64)) ^^^ (XT.ushrL ((XT.ushrL q (4 : Int32)) * ((-7046029254386353131) : Int64)) (32 : Int32))) <<< ((4 : Int32).toInt64 &&& 63)) ||| (q &&& (15 : Int64))).toInt32 &&& (15 : Int32)))]))
  exact own_ret X1 hx hlk Bd.returns rfl (Or.inl ⟨rfl, Or.inl rfl, _, rfl⟩) (hb hby d7_28) ⟨rfl, N0, e1⟩ (by decide) (by decide)
theorem d8_0 : decode prog_24_method_13_code 0 = .ok (.aload_n 0, 1) := by decide +kernel
theorem d8_1 : decode prog_24_method_13_code 1 = .ok (.getfield 35, 3) := by decide +kernel
theorem d8_4 : decode prog_24_method_13_code 4 = .ok (.iload_n 1, 1) := by decide +kernel
theorem d8_5 : decode prog_24_method_13_code 5 = .ok (.aaload, 1) := by decide +kernel
theorem d8_6 : decode prog_24_method_13_code 6 = .ok (.areturn, 1) := by decide +kernel
theorem ef_rm_value (m : MethodId) (x0 : Addr) (x1 : Int32) : entryFrame m #[(.ref x0), (.int x1)] 2 = mkF m 0 #[.val (.ref x0), .val (.int x1)] [] := by first | (simp [entryFrame, mkF, argsToLocals, Value.category]; done) | rfl
set_option maxRecDepth 65536 in
set_option maxHeartbeats 40000000 in
theorem rm_value (l : Launch) (Z : State) (a0 : Array Value) (hw : ∀ d ∈ tables_1, d.before a0 Z = true) (ws : List Jvm.Cond) (b ka va : Addr) (ks : Nat → Int64) (vs : Nat → Value) (G : Int64 → Value) (n : Nat) (i : Nat) (h0 : Heap) (n0 : Nat) (M : own_Map Z h0 n0 b ka va ks vs n) (RR : own_Rep own_hm ks vs G n) (hi : i < 16) :
    MetFree l (⟨"com/example/rootlet/rootlet/IdMap", "value", "(I)Ljava/lang/Object;"⟩ : MethodName) (head1 (Jvm.Cond.code (⟨"com/example/rootlet/rootlet/IdMap", "value", "(I)Ljava/lang/Object;"⟩ : MethodName) prog_24_method_13_code 2 (some (.object "java/lang/Object")) :: ws) ({ frames := 0, cells := 0, slots := 0, locals := 0 } : Room)) (fun aa U => aa = #[(.ref b), (.int (ix i))] ∧ Z.Warmed39 U.vm ∧ U.heap = h0) (fun _ _ _ _ _ => True) (fun _ U o U' => ∃ v_ L_, o = .returned v_ ∧ PQ (vs i) h0 n0 v_ U'.heap L_ ∧ FrameEnd U o U' L_ ({ frames := 0, cells := 0, slots := 0, locals := 0 } : Room).cells ({ frames := 0, cells := 0, slots := 0, locals := 0 } : Room).slots) := by
  refine MetFree.of_bodySF (plainFor_of_name pn_0) hisR ?_
  intro p e s m args below meth c s₁ Bd hml0 hP hK
  obtain ⟨rfl, hZ, hh⟩ := hP
  have hx := Bd.exec
  have hby := Bd.bytes
  have hlk := Bd.notSynchronized
  have hml : c.maxLocals = 2 := hml0
  have hown : s.vm.findClass "com/example/rootlet/rootlet/IdMap" = some m.cls := by have q := findClass_of_methodNamed Bd.named; exact q
  have X0 : Stand p l e ({ frames := 0, cells := 0, slots := 0, locals := 0 } : Room) s m #[(.ref b), (.int (ix i))] below meth c s₁ [] 0 0 := Stand.of_body Bd
  have e0 : s₁.heap = h0 := by rw [← hh, Bd.state]; rfl
  have N0 := Fr.nil n0
  show Go p.tables e below (Fin s below (PQ (vs i) h0 n0) ({ frames := 0, cells := 0, slots := 0, locals := 0 } : Room).cells ({ frames := 0, cells := 0, slots := 0, locals := 0 } : Room).slots) (s₁.setTop (entryFrame m #[(.ref b), (.int (ix i))] 2))
  refine own_go (fun tt_ kk_ => castTop (ef_rm_value m b (ix i)) kk_) ?_
  show Go p.tables e below _ (s₁.setTop (mkF m 0 #[.val (.ref b), .val (.int (ix i))] []))
  have MM := M
  obtain ⟨AA, EX, ⟨Fk, Fv, Fm, Fs⟩, ⟨ck, K1, K2, K3⟩, ⟨cv, V1, V2, V3, V4⟩, DD⟩ := MM
  refine own_go (fun tt_ kk_ => XS.aloadN X0.here hx rfl (hb hby d8_0) rfl rfl kk_) ?_
  show Go p.tables e below _ (s₁.setTop (mkF m 1 #[.val (.ref b), .val (.int (ix i))] [(.ref b)]))
  obtain ⟨T1, X1, e1, st1⟩ := getF X0 hx hZ hown (host := "") (Or.inl (hw _ (List.mem_of_getElem? (i := 15) rfl))) Via.refl e0 Fv (g := (mkF m 1 #[.val (.ref b), .val (.int (ix i))] [(.ref b)])) rfl rfl (hb hby d8_1)
  refine own_go (fun tt_ kk_ => st1 tt_ kk_) ?_
  show Go p.tables e below _ (T1.setTop (mkF m 4 #[.val (.ref b), .val (.int (ix i))] [(.ref va)]))
  refine own_go (fun tt_ kk_ => XS.iloadN X1.here hx rfl (hb hby d8_4) rfl kk_) ?_
  show Go p.tables e below _ (T1.setTop (mkF m 5 #[.val (.ref b), .val (.int (ix i))] [(.int (ix i)), (.ref va)]))
  refine own_go (fun tt_ kk_ => X1.aaload hx (j := (ix i)) (v := (vs i)) (by rw [e1]; exact V1.1) (State.isArrayOf_alike hZ.alike V1.2.1) rfl V1.2.2 (ix_in hi V2) (by rw [ix_clamp hi]; exact V4 _ hi) (g := (mkF m 5 #[.val (.ref b), .val (.int (ix i))] [(.int (ix i)), (.ref va)])) rfl rfl (hb hby d8_5) tt_ kk_) ?_
  show Go p.tables e below _ (T1.setTop (mkF m 6 #[.val (.ref b), .val (.int (ix i))] [(vs i)]))
  exact own_ret X1 hx hlk Bd.returns rfl (Or.inr (Or.inr (Or.inr (Or.inr ⟨rfl, rfl, (M.isRef hi)⟩)))) (hb hby d8_6) ⟨rfl, N0, e1⟩ (by decide) (by decide)
theorem pd_0 : parseMethodDescriptor "(J)I" = some ⟨[.long], some .int⟩ := by decide +kernel
theorem d12_0 : decode prog_24_method_11_code 0 = .ok (.aload_n 0, 1) := by decide +kernel
theorem d12_1 : decode prog_24_method_11_code 1 = .ok (.lload_n 1, 1) := by decide +kernel
theorem d12_2 : decode prog_24_method_11_code 2 = .ok (.invokevirtual 32, 3) := by decide +kernel
theorem d12_5 : decode prog_24_method_11_code 5 = .ok (.istore_n 3, 1) := by decide +kernel
theorem d12_6 : decode prog_24_method_11_code 6 = .ok (.aload_n 0, 1) := by decide +kernel
theorem d12_7 : decode prog_24_method_11_code 7 = .ok (.getfield 35, 3) := by decide +kernel
theorem d12_10 : decode prog_24_method_11_code 10 = .ok (.iload_n 3, 1) := by decide +kernel
theorem d12_11 : decode prog_24_method_11_code 11 = .ok (.aaload, 1) := by decide +kernel
theorem d12_12 : decode prog_24_method_11_code 12 = .ok (.ifnull 28, 3) := by decide +kernel
theorem d12_15 : decode prog_24_method_11_code 15 = .ok (.aload_n 0, 1) := by decide +kernel
theorem d12_16 : decode prog_24_method_11_code 16 = .ok (.getfield 39, 3) := by decide +kernel
theorem d12_19 : decode prog_24_method_11_code 19 = .ok (.iload_n 3, 1) := by decide +kernel
theorem d12_20 : decode prog_24_method_11_code 20 = .ok (.laload, 1) := by decide +kernel
theorem d12_21 : decode prog_24_method_11_code 21 = .ok (.lload_n 1, 1) := by decide +kernel
theorem d12_22 : decode prog_24_method_11_code 22 = .ok (.lcmp, 1) := by decide +kernel
theorem d12_23 : decode prog_24_method_11_code 23 = .ok (.ifCond .ne 5, 3) := by decide +kernel
theorem d12_26 : decode prog_24_method_11_code 26 = .ok (.iload_n 3, 1) := by decide +kernel
theorem d12_27 : decode prog_24_method_11_code 27 = .ok (.ireturn, 1) := by decide +kernel
theorem d12_28 : decode prog_24_method_11_code 28 = .ok (.iload_n 3, 1) := by decide +kernel
theorem d12_29 : decode prog_24_method_11_code 29 = .ok (.iconst 1, 1) := by decide +kernel
theorem d12_30 : decode prog_24_method_11_code 30 = .ok (.iadd, 1) := by decide +kernel
theorem d12_31 : decode prog_24_method_11_code 31 = .ok (.aload_n 0, 1) := by decide +kernel
theorem d12_32 : decode prog_24_method_11_code 32 = .ok (.getfield 43, 3) := by decide +kernel
theorem d12_35 : decode prog_24_method_11_code 35 = .ok (.iand, 1) := by decide +kernel
theorem d12_36 : decode prog_24_method_11_code 36 = .ok (.istore_n 3, 1) := by decide +kernel
theorem d12_37 : decode prog_24_method_11_code 37 = .ok (.goto (-31), 3) := by decide +kernel
theorem d12_40 : decode prog_24_method_11_code 40 = .ok (.iconst (-1), 1) := by decide +kernel
theorem d12_41 : decode prog_24_method_11_code 41 = .ok (.ireturn, 1) := by decide +kernel
theorem ef_rm_find (m : MethodId) (x0 : Addr) (x1 : Int64) : entryFrame m #[(.ref x0), (.long x1)] 4 = mkF m 0 #[.val (.ref x0), .val (.long x1), .second, .unset] [] := by first | (simp [entryFrame, mkF, argsToLocals, Value.category]; done) | rfl
set_option maxRecDepth 65536 in
set_option maxHeartbeats 40000000 in
theorem rm_find (l : Launch) (Z : State) (a0 : Array Value) (hw : ∀ d ∈ tables_1, d.before a0 Z = true) (ws : List Jvm.Cond) (b ka va : Addr) (ks : Nat → Int64) (vs : Nat → Value) (G : Int64 → Value) (n : Nat) (q : Int64) (h0 : Heap) (n0 : Nat) (M : own_Map Z h0 n0 b ka va ks vs n) (RR : own_Rep own_hm ks vs G n) (hn : n < 16) :
    MetFree l (⟨"com/example/rootlet/rootlet/IdMap", "find", "(J)I"⟩ : MethodName) (head1 (Jvm.Cond.code (⟨"com/example/rootlet/rootlet/IdMap", "find", "(J)I"⟩ : MethodName) prog_24_method_11_code 4 (some .int) :: ws) ({ frames := 1, cells := 0, slots := 0, locals := 16 } : Room)) (fun aa U => aa = #[(.ref b), (.long q)] ∧ Z.Warmed39 U.vm ∧ U.heap = h0) (fun _ _ _ _ _ => True) (fun _ U o U' => ∃ v_ L_, o = .returned v_ ∧ own_QF ks vs G q h0 n0 v_ U'.heap L_ ∧ FrameEnd U o U' L_ ({ frames := 1, cells := 0, slots := 0, locals := 16 } : Room).cells ({ frames := 1, cells := 0, slots := 0, locals := 16 } : Room).slots) := by
  refine MetFree.of_bodySF (plainFor_of_name pn_0) hisR ?_
  intro p e s m args below meth c s₁ Bd hml0 hP hK
  obtain ⟨rfl, hZ, hh⟩ := hP
  have hx := Bd.exec
  have hby := Bd.bytes
  have hlk := Bd.notSynchronized
  have hml : c.maxLocals = 4 := hml0
  have hown : s.vm.findClass "com/example/rootlet/rootlet/IdMap" = some m.cls := by have q := findClass_of_methodNamed Bd.named; exact q
  have X0 : Stand p l e ({ frames := 1, cells := 0, slots := 0, locals := 16 } : Room) s m #[(.ref b), (.long q)] below meth c s₁ [] 0 0 := Stand.of_body Bd
  have e0 : s₁.heap = h0 := by rw [← hh, Bd.state]; rfl
  have N0 := Fr.nil n0
  show Go p.tables e below (Fin s below (own_QF ks vs G q h0 n0) ({ frames := 1, cells := 0, slots := 0, locals := 16 } : Room).cells ({ frames := 1, cells := 0, slots := 0, locals := 16 } : Room).slots) (s₁.setTop (entryFrame m #[(.ref b), (.long q)] 4))
  refine own_go (fun tt_ kk_ => castTop (ef_rm_find m b q) kk_) ?_
  show Go p.tables e below _ (s₁.setTop (mkF m 0 #[.val (.ref b), .val (.long q), .second, .unset] []))
  have MM := M
  obtain ⟨AA, EX, ⟨Fk, Fv, Fm, Fs⟩, ⟨ck, K1, K2, K3⟩, ⟨cv, V1, V2, V3, V4⟩, DD⟩ := MM
  refine own_go (fun tt_ kk_ => XS.aloadN X0.here hx rfl (hb hby d12_0) rfl rfl kk_) ?_
  show Go p.tables e below _ (s₁.setTop (mkF m 1 #[.val (.ref b), .val (.long q), .second, .unset] [(.ref b)]))
  refine own_go (fun tt_ kk_ => XT.lloadN X0.here hx rfl (hb hby d12_1) rfl kk_) ?_
  show Go p.tables e below _ (s₁.setTop (mkF m 2 #[.val (.ref b), .val (.long q), .second, .unset] [(.long q), (.ref b)]))
  obtain ⟨cq1, q1a, q1b⟩ := (EX).cell
  obtain ⟨v1, _, ⟨T1, L1, k1, n1⟩, -, X1, ⟨Lc1, hQ1, l1, y1, z1⟩, st1⟩ := X0.privateBack hx (y := (⟨"com/example/rootlet/rootlet/IdMap", "home", "(J)I"⟩ : MethodName)) hown (mvT hZ (hw _ (List.mem_of_getElem? (i := 46) rfl))) (mvT hZ (hw _ (List.mem_of_getElem? (i := 47) rfl))) (own_selp (z := (⟨"com/example/rootlet/rootlet/IdMap", "put", "(JLjava/lang/Object;)Ljava/lang/Object;"⟩ : MethodName)) (mvT hZ (hw _ (List.mem_of_getElem? (i := 32) rfl))) rfl (mvP hZ (hw _ (List.mem_of_getElem? (i := 48) rfl))) (mvT hZ (hw _ (List.mem_of_getElem? (i := 47) rfl))) (by decide)) (Cond.privateMethod_at (mvP hZ (hw _ (List.mem_of_getElem? (i := 48) rfl)) (args := #[]))) (mvT hZ (hw _ (List.mem_of_getElem? (i := 49) rfl))) (by decide) (backOf (W := 0) (rm_home l Z a0 hw [] b q h0 n0 Fm) hZ (hw _ (List.mem_of_getElem? (i := 49) rfl)) (hw _ (List.mem_of_getElem? (i := 2) rfl)) (by decide) (by decide)) (g := (mkF m 2 #[.val (.ref b), .val (.long q), .second, .unset] [(.long q), (.ref b)])) rfl (by rw [hml]; rfl) (Steps.refl _) (a := b) (by rw [e0]; exact q1a) q1b (argsL := [(.long q)]) (rest := []) (lenOf pd_0 rfl) rfl (by show 2 * 0 + _ ≤ _; exact Nat.le_of_eq rfl) (hb hby d12_2) (fun _ _ => ⟨rfl, e0, (by decide : 0 + 0 ≤ _), (by decide : 0 + 0 ≤ _)⟩)
  dsimp only [Pt.U, Pt.locs, Pt.cells, Pt.slots] at X1 l1 y1 z1 st1 hQ1
  subst y1 z1
  obtain ⟨hv1, N1q, e1⟩ := hQ1
  rw [show ((.int (own_hmI q)) : Value) = (.int (ix (own_hm q))) from congrArg Value.int (own_hm_ix q)] at hv1
  subst hv1
  have N1 : Fr n0 L1 := by rw [l1]; exact Fr.app N0 N1q
  refine own_go (fun tt_ kk_ => st1.trans kk_) ?_
  show Go p.tables e below _ (T1.setTop (mkF m 5 #[.val (.ref b), .val (.long q), .second, .unset] [(.int (ix (own_hm q)))]))
  refine own_go (fun tt_ kk_ => XS.istoreN X1.here hx rfl (hb hby d12_5) rfl (l' := #[.val (.ref b), .val (.long q), .second, .val (.int (ix (own_hm q)))]) rfl kk_) ?_
  show Go p.tables e below _ (T1.setTop (mkF m 6 #[.val (.ref b), .val (.long q), .second, .val (.int (ix (own_hm q)))] []))
  have loop : ∀ f t, t + f = 16 → own_Run ks vs q (own_hm q) t → ∀ T L, Stand p l e ({ frames := 1, cells := 0, slots := 0, locals := 16 } : Room) s m #[(.ref b), (.long q)] below meth c T L 0 0 → Fr n0 L → T.heap = h0 → Go p.tables e below (Fin s below (own_QF ks vs G q h0 n0) ({ frames := 1, cells := 0, slots := 0, locals := 16 } : Room).cells ({ frames := 1, cells := 0, slots := 0, locals := 16 } : Room).slots) (T.setTop (mkF m 6 #[.val (.ref b), .val (.long q), .second, .val (.int (ix ((own_hm q + t) % 16)))] [])) := by
    intro f
    induction f with
    | zero => intro t ht R; exact absurd (R.lt RR.2.2.2 hn) (by omega)
    | succ f ih =>
      intro t ht R T L X N e'
      have ht16 : t < 16 := by omega
      have hI : ((own_hm q + t) % 16) < 16 := Nat.mod_lt _ (by decide)
      show Go p.tables e below _ (T.setTop (mkF m 6 #[.val (.ref b), .val (.long q), .second, .val (.int (ix ((own_hm q + t) % 16)))] []))
      refine own_go (fun tt_ kk_ => XS.aloadN X.here hx rfl (hb hby d12_6) rfl rfl kk_) ?_
      show Go p.tables e below _ (T.setTop (mkF m 7 #[.val (.ref b), .val (.long q), .second, .val (.int (ix ((own_hm q + t) % 16)))] [(.ref b)]))
      obtain ⟨T2, X2, e2, st2⟩ := getF X hx hZ hown (host := "") (Or.inl (hw _ (List.mem_of_getElem? (i := 15) rfl))) Via.refl e' Fv (g := (mkF m 7 #[.val (.ref b), .val (.long q), .second, .val (.int (ix ((own_hm q + t) % 16)))] [(.ref b)])) rfl rfl (hb hby d12_7)
      refine own_go (fun tt_ kk_ => st2 tt_ kk_) ?_
      show Go p.tables e below _ (T2.setTop (mkF m 10 #[.val (.ref b), .val (.long q), .second, .val (.int (ix ((own_hm q + t) % 16)))] [(.ref va)]))
      refine own_go (fun tt_ kk_ => XS.iloadN X2.here hx rfl (hb hby d12_10) rfl kk_) ?_
      show Go p.tables e below _ (T2.setTop (mkF m 11 #[.val (.ref b), .val (.long q), .second, .val (.int (ix ((own_hm q + t) % 16)))] [(.int (ix ((own_hm q + t) % 16))), (.ref va)]))
      refine own_go (fun tt_ kk_ => X2.aaload hx (j := (ix ((own_hm q + t) % 16))) (v := (vs ((own_hm q + t) % 16))) (by rw [e2]; exact V1.1) (State.isArrayOf_alike hZ.alike V1.2.1) rfl V1.2.2 (ix_in hI V2) (by rw [ix_clamp hI]; exact V4 _ hI) (g := (mkF m 11 #[.val (.ref b), .val (.long q), .second, .val (.int (ix ((own_hm q + t) % 16)))] [(.int (ix ((own_hm q + t) % 16))), (.ref va)])) rfl rfl (hb hby d12_11) tt_ kk_) ?_
      show Go p.tables e below _ (T2.setTop (mkF m 12 #[.val (.ref b), .val (.long q), .second, .val (.int (ix ((own_hm q + t) % 16)))] [(vs ((own_hm q + t) % 16))]))
      by_cases hc3 : (vs ((own_hm q + t) % 16)) = .null
      · refine own_go (fun tt_ kk_ => XT.nullYes X2.here hx rfl (pc0 := 12) (pc' := 40) rfl (hb hby d12_12) rfl hc3 (by decide) (by decide) kk_) ?_
        show Go p.tables e below _ (T2.setTop (mkF m 40 #[.val (.ref b), .val (.long q), .second, .val (.int (ix ((own_hm q + t) % 16)))] []))
        refine own_go (fun tt_ kk_ => XS.iconst X2.here hx rfl (hb hby d12_40) kk_) ?_
        show Go p.tables e below _ (T2.setTop (mkF m 41 #[.val (.ref b), .val (.long q), .second, .val (.int (ix ((own_hm q + t) % 16)))] [(.int ((-1) : Int32))]))
        exact own_ret X2 hx hlk Bd.returns rfl (Or.inl ⟨rfl, Or.inl rfl, _, rfl⟩) (hb hby d12_41) ⟨⟨_, rfl, Or.inr ⟨rfl, own_absent RR (own_hm_lt q) R hc3⟩⟩, N, e2⟩ (by decide) (by decide)
      · refine own_go (fun tt_ kk_ => XT.nullNo X2.here hx rfl (hb hby d12_12) rfl (M.isRef hI) hc3 kk_) ?_
        show Go p.tables e below _ (T2.setTop (mkF m 15 #[.val (.ref b), .val (.long q), .second, .val (.int (ix ((own_hm q + t) % 16)))] []))
        refine own_go (fun tt_ kk_ => XS.aloadN X2.here hx rfl (hb hby d12_15) rfl rfl kk_) ?_
        show Go p.tables e below _ (T2.setTop (mkF m 16 #[.val (.ref b), .val (.long q), .second, .val (.int (ix ((own_hm q + t) % 16)))] [(.ref b)]))
        obtain ⟨T4, X4, e4, st4⟩ := getF X2 hx hZ hown (host := "") (Or.inl (hw _ (List.mem_of_getElem? (i := 13) rfl))) Via.refl e2 Fk (g := (mkF m 16 #[.val (.ref b), .val (.long q), .second, .val (.int (ix ((own_hm q + t) % 16)))] [(.ref b)])) rfl rfl (hb hby d12_16)
        refine own_go (fun tt_ kk_ => st4 tt_ kk_) ?_
        show Go p.tables e below _ (T4.setTop (mkF m 19 #[.val (.ref b), .val (.long q), .second, .val (.int (ix ((own_hm q + t) % 16)))] [(.ref ka)]))
        refine own_go (fun tt_ kk_ => XS.iloadN X4.here hx rfl (hb hby d12_19) rfl kk_) ?_
        show Go p.tables e below _ (T4.setTop (mkF m 20 #[.val (.ref b), .val (.long q), .second, .val (.int (ix ((own_hm q + t) % 16)))] [(.int (ix ((own_hm q + t) % 16))), (.ref ka)]))
        refine own_go (fun tt_ kk_ => X4.laload hx (j := (ix ((own_hm q + t) % 16))) (v := (.long (ks ((own_hm q + t) % 16)))) (by rw [e4]; exact K1.1) (State.isArrayOf_alike hZ.alike K1.2.1) K1.2.2 (ix_in hI K2) (by rw [ix_clamp hI]; exact K3 _ hI) (g := (mkF m 20 #[.val (.ref b), .val (.long q), .second, .val (.int (ix ((own_hm q + t) % 16)))] [(.int (ix ((own_hm q + t) % 16))), (.ref ka)])) rfl rfl (hb hby d12_20) tt_ kk_) ?_
        show Go p.tables e below _ (T4.setTop (mkF m 21 #[.val (.ref b), .val (.long q), .second, .val (.int (ix ((own_hm q + t) % 16)))] [(.long (ks ((own_hm q + t) % 16)))]))
        refine own_go (fun tt_ kk_ => XT.lloadN X4.here hx rfl (hb hby d12_21) rfl kk_) ?_
        show Go p.tables e below _ (T4.setTop (mkF m 22 #[.val (.ref b), .val (.long q), .second, .val (.int (ix ((own_hm q + t) % 16)))] [(.long q), (.long (ks ((own_hm q + t) % 16)))]))
        refine own_go (fun tt_ kk_ => XT.lcmp X4.here hx rfl (hb hby d12_22) rfl kk_) ?_
        show Go p.tables e below _ (T4.setTop (mkF m 23 #[.val (.ref b), .val (.long q), .second, .val (.int (ix ((own_hm q + t) % 16)))] [(.int (XT.cmpL (ks ((own_hm q + t) % 16)) q))]))
        by_cases hc5 : (ks ((own_hm q + t) % 16)) = q
        · refine own_go (fun tt_ kk_ => XS.ifNo X4.here hx rfl (hb hby d12_23) rfl (XT.ll_ne_f hc5) kk_) ?_
          show Go p.tables e below _ (T4.setTop (mkF m 26 #[.val (.ref b), .val (.long q), .second, .val (.int (ix ((own_hm q + t) % 16)))] []))
          refine own_go (fun tt_ kk_ => XS.iloadN X4.here hx rfl (hb hby d12_26) rfl kk_) ?_
          show Go p.tables e below _ (T4.setTop (mkF m 27 #[.val (.ref b), .val (.long q), .second, .val (.int (ix ((own_hm q + t) % 16)))] [(.int (ix ((own_hm q + t) % 16)))]))
          exact own_ret X4 hx hlk Bd.returns rfl (Or.inl ⟨rfl, Or.inl rfl, _, rfl⟩) (hb hby d12_27) ⟨⟨_, rfl, Or.inl ⟨_, hI, rfl, hc3, hc5⟩⟩, N, e4⟩ (by decide) (by decide)
        · refine own_go (fun tt_ kk_ => XS.ifYes X4.here hx rfl (pc0 := 23) (pc' := 28) rfl (hb hby d12_23) rfl (XT.ll_ne_t hc5) (by decide) (by decide) kk_) ?_
          show Go p.tables e below _ (T4.setTop (mkF m 28 #[.val (.ref b), .val (.long q), .second, .val (.int (ix ((own_hm q + t) % 16)))] []))
          refine own_go (fun tt_ kk_ => XS.iloadN X4.here hx rfl (hb hby d12_28) rfl kk_) ?_
          show Go p.tables e below _ (T4.setTop (mkF m 29 #[.val (.ref b), .val (.long q), .second, .val (.int (ix ((own_hm q + t) % 16)))] [(.int (ix ((own_hm q + t) % 16)))]))
          refine own_go (fun tt_ kk_ => XS.iconst X4.here hx rfl (hb hby d12_29) kk_) ?_
          show Go p.tables e below _ (T4.setTop (mkF m 30 #[.val (.ref b), .val (.long q), .second, .val (.int (ix ((own_hm q + t) % 16)))] [(.int (1 : Int32)), (.int (ix ((own_hm q + t) % 16)))]))
          refine own_go (fun tt_ kk_ => XS.iadd X4.here hx rfl (hb hby d12_30) rfl kk_) ?_
          show Go p.tables e below _ (T4.setTop (mkF m 31 #[.val (.ref b), .val (.long q), .second, .val (.int (ix ((own_hm q + t) % 16)))] [(.int ((ix ((own_hm q + t) % 16)) + (1 : Int32)))]))
          refine own_go (fun tt_ kk_ => XS.aloadN X4.here hx rfl (hb hby d12_31) rfl rfl kk_) ?_
          show Go p.tables e below _ (T4.setTop (mkF m 32 #[.val (.ref b), .val (.long q), .second, .val (.int (ix ((own_hm q + t) % 16)))] [(.ref b), (.int ((ix ((own_hm q + t) % 16)) + (1 : Int32)))]))
          obtain ⟨T6, X6, e6, st6⟩ := getF X4 hx hZ hown (host := "") (Or.inl (hw _ (List.mem_of_getElem? (i := 20) rfl))) Via.refl e4 Fm (g := (mkF m 32 #[.val (.ref b), .val (.long q), .second, .val (.int (ix ((own_hm q + t) % 16)))] [(.ref b), (.int ((ix ((own_hm q + t) % 16)) + (1 : Int32)))])) rfl rfl (hb hby d12_32)
          refine own_go (fun tt_ kk_ => st6 tt_ kk_) ?_
          show Go p.tables e below _ (T6.setTop (mkF m 35 #[.val (.ref b), .val (.long q), .second, .val (.int (ix ((own_hm q + t) % 16)))] [(.int (15 : Int32)), (.int ((ix ((own_hm q + t) % 16)) + (1 : Int32)))]))
          refine own_go (fun tt_ kk_ => XS.iand X6.here hx rfl (hb hby d12_35) rfl kk_) ?_
          show Go p.tables e below _ (T6.setTop (mkF m 36 #[.val (.ref b), .val (.long q), .second, .val (.int (ix ((own_hm q + t) % 16)))] [(.int (((ix ((own_hm q + t) % 16)) + (1 : Int32)) &&& (15 : Int32)))]))
          rw [ix_next _ hI, show ((own_hm q + t) % 16 + 1) % 16 = (own_hm q + (t + 1)) % 16 by omega]
          show Go p.tables e below _ (T6.setTop (mkF m 36 #[.val (.ref b), .val (.long q), .second, .val (.int (ix ((own_hm q + t) % 16)))] [(.int (ix ((own_hm q + (t + 1)) % 16)))]))
          refine own_go (fun tt_ kk_ => XS.istoreN X6.here hx rfl (hb hby d12_36) rfl (l' := #[.val (.ref b), .val (.long q), .second, .val (.int (ix ((own_hm q + (t + 1)) % 16)))]) rfl kk_) ?_
          show Go p.tables e below _ (T6.setTop (mkF m 37 #[.val (.ref b), .val (.long q), .second, .val (.int (ix ((own_hm q + (t + 1)) % 16)))] []))
          refine own_go (fun tt_ kk_ => XS.goto X6.here hx rfl (pc0 := 37) (pc' := 6) rfl (hb hby d12_37) (by decide) (by decide) kk_) ?_
          show Go p.tables e below _ (T6.setTop (mkF m 6 #[.val (.ref b), .val (.long q), .second, .val (.int (ix ((own_hm q + (t + 1)) % 16)))] []))
          exact ih (t + 1) (by omega) (R.succ hc3 hc5) T6 _ X6 N e6
  rw [show own_hm q = (own_hm q + 0) % 16 by have := own_hm_lt q; omega]
  exact loop 16 0 (by omega) (own_Run.zero _ _ _ _) T1 _ X1 N1 e1
theorem d6_0 : decode jdk_31_method_11_code 0 = .ok (.aload_n 0, 1) := by decide +kernel
theorem d6_1 : decode jdk_31_method_11_code 1 = .ok (.ifnonnull 12, 3) := by decide +kernel
theorem d6_4 : decode jdk_31_method_11_code 4 = .ok (.new 84, 3) := by decide +kernel
theorem d6_7 : decode jdk_31_method_11_code 7 = .ok (.dup, 1) := by decide +kernel
theorem d6_8 : decode jdk_31_method_11_code 8 = .ok (.aload_n 1, 1) := by decide +kernel
theorem d6_9 : decode jdk_31_method_11_code 9 = .ok (.invokespecial 87, 3) := by decide +kernel
theorem d6_12 : decode jdk_31_method_11_code 12 = .ok (.athrow, 1) := by decide +kernel
theorem d6_13 : decode jdk_31_method_11_code 13 = .ok (.aload_n 0, 1) := by decide +kernel
theorem d6_14 : decode jdk_31_method_11_code 14 = .ok (.areturn, 1) := by decide +kernel
theorem pn_1 : plainName "java/util/Objects" = true := by first | (simp [plainName, overriddenIn]; done) | decide +kernel
theorem ef_rm_rnn (m : MethodId) (x0 : Addr) (x1 : Addr) : entryFrame m #[(.ref x0), (.ref x1)] 2 = mkF m 0 #[.val (.ref x0), .val (.ref x1)] [] := by first | (simp [entryFrame, mkF, argsToLocals, Value.category]; done) | rfl
set_option maxRecDepth 65536 in
set_option maxHeartbeats 40000000 in
theorem rm_rnn (l : Launch) (Z : State) (a0 : Array Value) (hw : ∀ d ∈ tables_1, d.before a0 Z = true) (ws : List Jvm.Cond) (v z : Addr) (h0 : Heap) (n0 : Nat)  :
    MetFree l (⟨"java/util/Objects", "requireNonNull", "(Ljava/lang/Object;Ljava/lang/String;)Ljava/lang/Object;"⟩ : MethodName) (head1 (Jvm.Cond.code (⟨"java/util/Objects", "requireNonNull", "(Ljava/lang/Object;Ljava/lang/String;)Ljava/lang/Object;"⟩ : MethodName) jdk_31_method_11_code 2 (some (.object "java/lang/Object")) :: ws) ({ frames := 0, cells := 0, slots := 0, locals := 0 } : Room)) (fun aa U => aa = #[(.ref v), (.ref z)] ∧ Z.Warmed39 U.vm ∧ U.heap = h0) (fun _ _ _ _ _ => True) (fun _ U o U' => ∃ v_ L_, o = .returned v_ ∧ PQ (.ref v) h0 n0 v_ U'.heap L_ ∧ FrameEnd U o U' L_ ({ frames := 0, cells := 0, slots := 0, locals := 0 } : Room).cells ({ frames := 0, cells := 0, slots := 0, locals := 0 } : Room).slots) := by
  refine MetFree.of_bodySF (plainFor_of_name pn_1) hisR ?_
  intro p e s m args below meth c s₁ Bd hml0 hP hK
  obtain ⟨rfl, hZ, hh⟩ := hP
  have hx := Bd.exec
  have hby := Bd.bytes
  have hlk := Bd.notSynchronized
  have hml : c.maxLocals = 2 := hml0
  have hown : s.vm.findClass "java/util/Objects" = some m.cls := by have q := findClass_of_methodNamed Bd.named; exact q
  have X0 : Stand p l e ({ frames := 0, cells := 0, slots := 0, locals := 0 } : Room) s m #[(.ref v), (.ref z)] below meth c s₁ [] 0 0 := Stand.of_body Bd
  have e0 : s₁.heap = h0 := by rw [← hh, Bd.state]; rfl
  have N0 := Fr.nil n0
  show Go p.tables e below (Fin s below (PQ (.ref v) h0 n0) ({ frames := 0, cells := 0, slots := 0, locals := 0 } : Room).cells ({ frames := 0, cells := 0, slots := 0, locals := 0 } : Room).slots) (s₁.setTop (entryFrame m #[(.ref v), (.ref z)] 2))
  refine own_go (fun tt_ kk_ => castTop (ef_rm_rnn m v z) kk_) ?_
  show Go p.tables e below _ (s₁.setTop (mkF m 0 #[.val (.ref v), .val (.ref z)] []))
  refine own_go (fun tt_ kk_ => XS.aloadN X0.here hx rfl (hb hby d6_0) rfl rfl kk_) ?_
  show Go p.tables e below _ (s₁.setTop (mkF m 1 #[.val (.ref v), .val (.ref z)] [(.ref v)]))
  refine own_go (fun tt_ kk_ => XT.ifnonnullYes X0.here hx rfl (pc0 := 1) (pc' := 13) rfl (hb hby d6_1) rfl (by decide) (by decide) kk_) ?_
  show Go p.tables e below _ (s₁.setTop (mkF m 13 #[.val (.ref v), .val (.ref z)] []))
  refine own_go (fun tt_ kk_ => XS.aloadN X0.here hx rfl (hb hby d6_13) rfl rfl kk_) ?_
  show Go p.tables e below _ (s₁.setTop (mkF m 14 #[.val (.ref v), .val (.ref z)] [(.ref v)]))
  exact own_ret X0 hx hlk Bd.returns rfl (Or.inr (Or.inr (Or.inr (Or.inr ⟨rfl, rfl, rfl⟩)))) (hb hby d6_14) ⟨rfl, N0, e0⟩ (by decide) (by decide)
theorem pd_1 : parseMethodDescriptor "(Ljava/lang/Object;Ljava/lang/String;)Ljava/lang/Object;" = some ⟨[(.object "java/lang/Object"), (.object "java/lang/String")], some (.object "java/lang/Object")⟩ := by decide +kernel
theorem pd_2 : parseMethodDescriptor "(I)Ljava/lang/Object;" = some ⟨[.int], some (.object "java/lang/Object")⟩ := by decide +kernel
theorem pd_3 : parseMethodDescriptor "(I)V" = some ⟨[.int], none⟩ := by decide +kernel
theorem d5_0 : decode prog_24_method_5_code 0 = .ok (.aload_n 3, 1) := by decide +kernel
theorem d5_1 : decode prog_24_method_5_code 1 = .ok (.ldc 25, 2) := by decide +kernel
theorem d5_3 : decode prog_24_method_5_code 3 = .ok (.invokestatic 26, 3) := by decide +kernel
theorem d5_6 : decode prog_24_method_5_code 6 = .ok (.pop, 1) := by decide +kernel
theorem d5_7 : decode prog_24_method_5_code 7 = .ok (.aload_n 0, 1) := by decide +kernel
theorem d5_8 : decode prog_24_method_5_code 8 = .ok (.lload_n 1, 1) := by decide +kernel
theorem d5_9 : decode prog_24_method_5_code 9 = .ok (.invokevirtual 32, 3) := by decide +kernel
theorem d5_12 : decode prog_24_method_5_code 12 = .ok (.istore 4, 2) := by decide +kernel
theorem d5_14 : decode prog_24_method_5_code 14 = .ok (.aload_n 0, 1) := by decide +kernel
theorem d5_15 : decode prog_24_method_5_code 15 = .ok (.getfield 35, 3) := by decide +kernel
theorem d5_18 : decode prog_24_method_5_code 18 = .ok (.iload 4, 2) := by decide +kernel
theorem d5_20 : decode prog_24_method_5_code 20 = .ok (.aaload, 1) := by decide +kernel
theorem d5_21 : decode prog_24_method_5_code 21 = .ok (.ifnull 48, 3) := by decide +kernel
theorem d5_24 : decode prog_24_method_5_code 24 = .ok (.aload_n 0, 1) := by decide +kernel
theorem d5_25 : decode prog_24_method_5_code 25 = .ok (.getfield 39, 3) := by decide +kernel
theorem d5_28 : decode prog_24_method_5_code 28 = .ok (.iload 4, 2) := by decide +kernel
theorem d5_30 : decode prog_24_method_5_code 30 = .ok (.laload, 1) := by decide +kernel
theorem d5_31 : decode prog_24_method_5_code 31 = .ok (.lload_n 1, 1) := by decide +kernel
theorem d5_32 : decode prog_24_method_5_code 32 = .ok (.lcmp, 1) := by decide +kernel
theorem d5_33 : decode prog_24_method_5_code 33 = .ok (.ifCond .ne 22, 3) := by decide +kernel
theorem d5_36 : decode prog_24_method_5_code 36 = .ok (.aload_n 0, 1) := by decide +kernel
theorem d5_37 : decode prog_24_method_5_code 37 = .ok (.iload 4, 2) := by decide +kernel
theorem d5_39 : decode prog_24_method_5_code 39 = .ok (.invokevirtual 21, 3) := by decide +kernel
theorem d5_42 : decode prog_24_method_5_code 42 = .ok (.astore 5, 2) := by decide +kernel
theorem d5_44 : decode prog_24_method_5_code 44 = .ok (.aload_n 0, 1) := by decide +kernel
theorem d5_45 : decode prog_24_method_5_code 45 = .ok (.getfield 35, 3) := by decide +kernel
theorem d5_48 : decode prog_24_method_5_code 48 = .ok (.iload 4, 2) := by decide +kernel
theorem d5_50 : decode prog_24_method_5_code 50 = .ok (.aload_n 3, 1) := by decide +kernel
theorem d5_51 : decode prog_24_method_5_code 51 = .ok (.aastore, 1) := by decide +kernel
theorem d5_52 : decode prog_24_method_5_code 52 = .ok (.aload 5, 2) := by decide +kernel
theorem d5_54 : decode prog_24_method_5_code 54 = .ok (.areturn, 1) := by decide +kernel
theorem d5_55 : decode prog_24_method_5_code 55 = .ok (.iload 4, 2) := by decide +kernel
theorem d5_57 : decode prog_24_method_5_code 57 = .ok (.iconst 1, 1) := by decide +kernel
theorem d5_58 : decode prog_24_method_5_code 58 = .ok (.iadd, 1) := by decide +kernel
theorem d5_59 : decode prog_24_method_5_code 59 = .ok (.aload_n 0, 1) := by decide +kernel
theorem d5_60 : decode prog_24_method_5_code 60 = .ok (.getfield 43, 3) := by decide +kernel
theorem d5_63 : decode prog_24_method_5_code 63 = .ok (.iand, 1) := by decide +kernel
theorem d5_64 : decode prog_24_method_5_code 64 = .ok (.istore 4, 2) := by decide +kernel
theorem d5_66 : decode prog_24_method_5_code 66 = .ok (.goto (-52), 3) := by decide +kernel
theorem d5_69 : decode prog_24_method_5_code 69 = .ok (.aload_n 0, 1) := by decide +kernel
theorem d5_70 : decode prog_24_method_5_code 70 = .ok (.getfield 13, 3) := by decide +kernel
theorem d5_73 : decode prog_24_method_5_code 73 = .ok (.aload_n 0, 1) := by decide +kernel
theorem d5_74 : decode prog_24_method_5_code 74 = .ok (.getfield 35, 3) := by decide +kernel
theorem d5_77 : decode prog_24_method_5_code 77 = .ok (.arraylength, 1) := by decide +kernel
theorem d5_78 : decode prog_24_method_5_code 78 = .ok (.iconst 1, 1) := by decide +kernel
theorem d5_79 : decode prog_24_method_5_code 79 = .ok (.isub, 1) := by decide +kernel
theorem d5_80 : decode prog_24_method_5_code 80 = .ok (.if_icmp .ne 20, 3) := by decide +kernel
theorem d5_83 : decode prog_24_method_5_code 83 = .ok (.new 46, 3) := by decide +kernel
theorem d5_86 : decode prog_24_method_5_code 86 = .ok (.dup, 1) := by decide +kernel
theorem d5_87 : decode prog_24_method_5_code 87 = .ok (.aload_n 0, 1) := by decide +kernel
theorem d5_88 : decode prog_24_method_5_code 88 = .ok (.getfield 13, 3) := by decide +kernel
theorem d5_91 : decode prog_24_method_5_code 91 = .ok (.invokedynamic 48, 5) := by decide +kernel
theorem d5_96 : decode prog_24_method_5_code 96 = .ok (.invokespecial 52, 3) := by decide +kernel
theorem d5_99 : decode prog_24_method_5_code 99 = .ok (.athrow, 1) := by decide +kernel
theorem d5_100 : decode prog_24_method_5_code 100 = .ok (.aload_n 0, 1) := by decide +kernel
theorem d5_101 : decode prog_24_method_5_code 101 = .ok (.getfield 39, 3) := by decide +kernel
theorem d5_104 : decode prog_24_method_5_code 104 = .ok (.iload 4, 2) := by decide +kernel
theorem d5_106 : decode prog_24_method_5_code 106 = .ok (.lload_n 1, 1) := by decide +kernel
theorem d5_107 : decode prog_24_method_5_code 107 = .ok (.lastore, 1) := by decide +kernel
theorem d5_108 : decode prog_24_method_5_code 108 = .ok (.aload_n 0, 1) := by decide +kernel
theorem d5_109 : decode prog_24_method_5_code 109 = .ok (.getfield 35, 3) := by decide +kernel
theorem d5_112 : decode prog_24_method_5_code 112 = .ok (.iload 4, 2) := by decide +kernel
theorem d5_114 : decode prog_24_method_5_code 114 = .ok (.aload_n 3, 1) := by decide +kernel
theorem d5_115 : decode prog_24_method_5_code 115 = .ok (.aastore, 1) := by decide +kernel
theorem d5_116 : decode prog_24_method_5_code 116 = .ok (.aload_n 0, 1) := by decide +kernel
theorem d5_117 : decode prog_24_method_5_code 117 = .ok (.dup, 1) := by decide +kernel
theorem d5_118 : decode prog_24_method_5_code 118 = .ok (.getfield 13, 3) := by decide +kernel
theorem d5_121 : decode prog_24_method_5_code 121 = .ok (.iconst 1, 1) := by decide +kernel
theorem d5_122 : decode prog_24_method_5_code 122 = .ok (.iadd, 1) := by decide +kernel
theorem d5_123 : decode prog_24_method_5_code 123 = .ok (.putfield 13, 3) := by decide +kernel
theorem d5_126 : decode prog_24_method_5_code 126 = .ok (.iconst 2, 1) := by decide +kernel
theorem d5_127 : decode prog_24_method_5_code 127 = .ok (.aload_n 0, 1) := by decide +kernel
theorem d5_128 : decode prog_24_method_5_code 128 = .ok (.getfield 13, 3) := by decide +kernel
theorem d5_131 : decode prog_24_method_5_code 131 = .ok (.imul, 1) := by decide +kernel
theorem d5_132 : decode prog_24_method_5_code 132 = .ok (.aload_n 0, 1) := by decide +kernel
theorem d5_133 : decode prog_24_method_5_code 133 = .ok (.getfield 35, 3) := by decide +kernel
theorem d5_136 : decode prog_24_method_5_code 136 = .ok (.arraylength, 1) := by decide +kernel
theorem d5_137 : decode prog_24_method_5_code 137 = .ok (.if_icmp .le 24, 3) := by decide +kernel
theorem d5_140 : decode prog_24_method_5_code 140 = .ok (.aload_n 0, 1) := by decide +kernel
theorem d5_141 : decode prog_24_method_5_code 141 = .ok (.getfield 35, 3) := by decide +kernel
theorem d5_144 : decode prog_24_method_5_code 144 = .ok (.arraylength, 1) := by decide +kernel
theorem d5_145 : decode prog_24_method_5_code 145 = .ok (.ldc 55, 2) := by decide +kernel
theorem d5_147 : decode prog_24_method_5_code 147 = .ok (.if_icmp .ge 14, 3) := by decide +kernel
theorem d5_150 : decode prog_24_method_5_code 150 = .ok (.aload_n 0, 1) := by decide +kernel
theorem d5_151 : decode prog_24_method_5_code 151 = .ok (.iconst 2, 1) := by decide +kernel
theorem d5_152 : decode prog_24_method_5_code 152 = .ok (.aload_n 0, 1) := by decide +kernel
theorem d5_153 : decode prog_24_method_5_code 153 = .ok (.getfield 35, 3) := by decide +kernel
theorem d5_156 : decode prog_24_method_5_code 156 = .ok (.arraylength, 1) := by decide +kernel
theorem d5_157 : decode prog_24_method_5_code 157 = .ok (.imul, 1) := by decide +kernel
theorem d5_158 : decode prog_24_method_5_code 158 = .ok (.invokevirtual 9, 3) := by decide +kernel
theorem d5_161 : decode prog_24_method_5_code 161 = .ok (.aconst_null, 1) := by decide +kernel
theorem d5_162 : decode prog_24_method_5_code 162 = .ok (.areturn, 1) := by decide +kernel
theorem ef_rm_put (m : MethodId) (x0 : Addr) (x1 : Int64) (x2 : Addr) : entryFrame m #[(.ref x0), (.long x1), (.ref x2)] 6 = mkF m 0 #[.val (.ref x0), .val (.long x1), .second, .val (.ref x2), .unset, .unset] [] := by first | (simp [entryFrame, mkF, argsToLocals, Value.category]; done) | rfl
set_option maxRecDepth 65536 in
set_option maxHeartbeats 40000000 in
theorem rm_put (l : Launch) (Z : State) (a0 : Array Value) (hw : ∀ d ∈ tables_1, d.before a0 Z = true) (ws : List Jvm.Cond) (b ka va : Addr) (ks : Nat → Int64) (vs : Nat → Value) (G : Int64 → Value) (n : Nat) (q : Int64) (v : Addr) (h0 : Heap) (n0 : Nat) (M : own_Map Z h0 n0 b ka va ks vs n) (RR : own_Rep own_hm ks vs G n) (hn : n < 8) (OO : Old Z n0 h0) (Ev : Exa Z h0 v "java/lang/Integer") :
    MetFree l (⟨"com/example/rootlet/rootlet/IdMap", "put", "(JLjava/lang/Object;)Ljava/lang/Object;"⟩ : MethodName) (head1 (Jvm.Cond.code (⟨"com/example/rootlet/rootlet/IdMap", "put", "(JLjava/lang/Object;)Ljava/lang/Object;"⟩ : MethodName) prog_24_method_5_code 6 (some (.object "java/lang/Object")) :: ws) ({ frames := 1, cells := 2, slots := 24, locals := 16 } : Room)) (fun aa U => aa = #[(.ref b), (.long q), (.ref v)] ∧ Z.Warmed39 U.vm ∧ U.heap = h0) (fun _ _ _ _ _ => True) (fun _ U o U' => ∃ v_ L_, o = .returned v_ ∧ own_QM Z n0 h0.size b ka va (own_upd G q (.ref v)) (if G q = .null then n + 1 else n) (G q) v_ U'.heap L_ ∧ ReturnedEndW U o U' L_ ({ frames := 1, cells := 2, slots := 24, locals := 16 } : Room).cells ({ frames := 1, cells := 2, slots := 24, locals := 16 } : Room).slots) := by
  refine MetFree.of_bodySF (plainFor_of_name pn_0) hisR ?_
  intro p e s m args below meth c s₁ Bd hml0 hP hK
  obtain ⟨rfl, hZ, hh⟩ := hP
  have hx := Bd.exec
  have hby := Bd.bytes
  have hlk := Bd.notSynchronized
  have hml : c.maxLocals = 6 := hml0
  have hown : s.vm.findClass "com/example/rootlet/rootlet/IdMap" = some m.cls := by have q := findClass_of_methodNamed Bd.named; exact q
  have X0 : Stand p l e ({ frames := 1, cells := 2, slots := 24, locals := 16 } : Room) s m #[(.ref b), (.long q), (.ref v)] below meth c s₁ [] 0 0 := Stand.of_body Bd
  have e0 : s₁.heap = h0 := by rw [← hh, Bd.state]; rfl
  have N0 := Fr.nil n0
  show Go p.tables e below (FinW s below (own_QM Z n0 h0.size b ka va (own_upd G q (.ref v)) (if G q = .null then n + 1 else n) (G q)) ({ frames := 1, cells := 2, slots := 24, locals := 16 } : Room).cells ({ frames := 1, cells := 2, slots := 24, locals := 16 } : Room).slots) (s₁.setTop (entryFrame m #[(.ref b), (.long q), (.ref v)] 6))
  refine own_go (fun tt_ kk_ => castTop (ef_rm_put m b q v) kk_) ?_
  show Go p.tables e below _ (s₁.setTop (mkF m 0 #[.val (.ref b), .val (.long q), .second, .val (.ref v), .unset, .unset] []))
  have wS : ∀ d ∈ Bundle.stringAtoms, d.before a0 Z = true := by
    intro d hd
    simp only [Bundle.stringAtoms, List.mem_cons, List.not_mem_nil, or_false] at hd
    rcases hd with rfl | rfl | rfl | rfl | rfl | rfl | rfl
    · exact (hw _ (List.mem_of_getElem? (i := 35) rfl))
    · exact (hw _ (List.mem_of_getElem? (i := 36) rfl))
    · exact (hw _ (List.mem_of_getElem? (i := 37) rfl))
    · exact (hw _ (List.mem_of_getElem? (i := 38) rfl))
    · exact (hw _ (List.mem_of_getElem? (i := 39) rfl))
    · exact (hw _ (List.mem_of_getElem? (i := 40) rfl))
    · exact (hw _ (List.mem_of_getElem? (i := 41) rfl))
  refine own_go (fun tt_ kk_ => XS.aloadN X0.here hx rfl (hb hby d5_0) rfl rfl kk_) ?_
  show Go p.tables e below _ (s₁.setTop (mkF m 1 #[.val (.ref b), .val (.long q), .second, .val (.ref v), .unset, .unset] [(.ref v)]))
  obtain ⟨sa, T1, h1, k1, X1, e1, Ex1, sn1, kz1, hZ1, hown1, st1⟩ := ldcS (vm0 := s.vm) X0 hx hZ hown (hw _ (List.mem_of_getElem? (i := 34) rfl)) wS e0 ((State.WarmedH.refl s).since h0.size) (Nat.le_refl _) (g := (mkF m 1 #[.val (.ref b), .val (.long q), .second, .val (.ref v), .unset, .unset] [(.ref v)])) rfl (hb hby d5_1) (n := 20) (by decide) (by decide) (by decide) (by decide)
  have M1 := M.ext Ex1
  have O1 := OO.ext Ex1
  have E_v_1 := Ev.ext Ex1
  have MM1 := M1
  obtain ⟨AA1, EX1, ⟨Fk1, Fv1, Fm1, Fs1⟩, ⟨ck1, K11, K21, K31⟩, ⟨cv1, V11, V21, V31, V41⟩, DD1⟩ := MM1
  refine own_go (fun tt_ kk_ => st1 tt_ kk_) ?_
  show Go p.tables e below _ (T1.setTop (mkF m 3 #[.val (.ref b), .val (.long q), .second, .val (.ref v), .unset, .unset] [(.ref sa), (.ref v)]))
  obtain ⟨v2, _, ⟨T2, L2, k2, n2⟩, -, X2, ⟨Lc2, hQ2, l2, y2, z2⟩, st2⟩ := Jvm.LawKit.callS X1 hx (y := (⟨"java/util/Objects", "requireNonNull", "(Ljava/lang/Object;Ljava/lang/String;)Ljava/lang/Object;"⟩ : MethodName)) hown1 (mvT hZ1 (hw _ (List.mem_of_getElem? (i := 42) rfl))) (mvT hZ1 (hw _ (List.mem_of_getElem? (i := 43) rfl))) (mvT hZ1 (hw _ (List.mem_of_getElem? (i := 44) rfl))) (mvT hZ1 (hw _ (List.mem_of_getElem? (i := 45) rfl))) (by decide) (backOf (W := 0) (rm_rnn l Z a0 hw [] v sa h1 n0) hZ1 (hw _ (List.mem_of_getElem? (i := 45) rfl)) (hw _ (List.mem_of_getElem? (i := 44) rfl)) (by decide) (by decide)) (g := (mkF m 3 #[.val (.ref b), .val (.long q), .second, .val (.ref v), .unset, .unset] [(.ref sa), (.ref v)])) rfl (by rw [hml]; rfl) (argsL := [(.ref v), (.ref sa)]) (rest := []) (lenOf pd_1 rfl) rfl (by show 2 * 0 + _ ≤ _; exact Nat.le_of_eq rfl) (hb hby d5_3) (fun _ _ => ⟨rfl, e1, (by decide : (0 + 2) + 0 ≤ _), (by decide : (0 + 24) + 0 ≤ _)⟩)
  dsimp only [Pt.U, Pt.locs, Pt.cells, Pt.slots] at X2 l2 y2 z2 st2 hQ2
  subst y2 z2
  obtain ⟨hv2, N2q, e2⟩ := hQ2
  subst hv2
  have N2 : Fr n0 L2 := by rw [l2]; exact Fr.app N0 N2q
  refine own_go (fun tt_ kk_ => st2 tt_ kk_) ?_
  show Go p.tables e below _ (T2.setTop (mkF m 6 #[.val (.ref b), .val (.long q), .second, .val (.ref v), .unset, .unset] [(.ref v)]))
  refine own_go (fun tt_ kk_ => XT.pop X2.here hx rfl (hb hby d5_6) rfl rfl kk_) ?_
  show Go p.tables e below _ (T2.setTop (mkF m 7 #[.val (.ref b), .val (.long q), .second, .val (.ref v), .unset, .unset] []))
  refine own_go (fun tt_ kk_ => XS.aloadN X2.here hx rfl (hb hby d5_7) rfl rfl kk_) ?_
  show Go p.tables e below _ (T2.setTop (mkF m 8 #[.val (.ref b), .val (.long q), .second, .val (.ref v), .unset, .unset] [(.ref b)]))
  refine own_go (fun tt_ kk_ => XT.lloadN X2.here hx rfl (hb hby d5_8) rfl kk_) ?_
  show Go p.tables e below _ (T2.setTop (mkF m 9 #[.val (.ref b), .val (.long q), .second, .val (.ref v), .unset, .unset] [(.long q), (.ref b)]))
  obtain ⟨cq3, q3a, q3b⟩ := (EX1).cell
  obtain ⟨v3, _, ⟨T3, L3, k3, n3⟩, -, X3, ⟨Lc3, hQ3, l3, y3, z3⟩, st3⟩ := X2.privateBack hx (y := (⟨"com/example/rootlet/rootlet/IdMap", "home", "(J)I"⟩ : MethodName)) hown1 (mvT hZ1 (hw _ (List.mem_of_getElem? (i := 46) rfl))) (mvT hZ1 (hw _ (List.mem_of_getElem? (i := 47) rfl))) (own_selp (z := (⟨"com/example/rootlet/rootlet/IdMap", "put", "(JLjava/lang/Object;)Ljava/lang/Object;"⟩ : MethodName)) (mvT hZ1 (hw _ (List.mem_of_getElem? (i := 32) rfl))) rfl (mvP hZ1 (hw _ (List.mem_of_getElem? (i := 48) rfl))) (mvT hZ1 (hw _ (List.mem_of_getElem? (i := 47) rfl))) (by decide)) (Cond.privateMethod_at (mvP hZ1 (hw _ (List.mem_of_getElem? (i := 48) rfl)) (args := #[]))) (mvT hZ1 (hw _ (List.mem_of_getElem? (i := 49) rfl))) (by decide) (backOf (W := 0) (rm_home l Z a0 hw [] b q h1 n0 Fm1) hZ1 (hw _ (List.mem_of_getElem? (i := 49) rfl)) (hw _ (List.mem_of_getElem? (i := 2) rfl)) (by decide) (by decide)) (g := (mkF m 9 #[.val (.ref b), .val (.long q), .second, .val (.ref v), .unset, .unset] [(.long q), (.ref b)])) rfl (by rw [hml]; rfl) (Steps.refl _) (a := b) (by rw [e2]; exact q3a) q3b (argsL := [(.long q)]) (rest := []) (lenOf pd_0 rfl) rfl (by show 2 * 0 + _ ≤ _; exact Nat.le_of_eq rfl) (hb hby d5_9) (fun _ _ => ⟨rfl, e2, (by decide : (0 + 2) + 0 ≤ _), (by decide : (0 + 24) + 0 ≤ _)⟩)
  dsimp only [Pt.U, Pt.locs, Pt.cells, Pt.slots] at X3 l3 y3 z3 st3 hQ3
  subst y3 z3
  obtain ⟨hv3, N3q, e3⟩ := hQ3
  rw [show ((.int (own_hmI q)) : Value) = (.int (ix (own_hm q))) from congrArg Value.int (own_hm_ix q)] at hv3
  subst hv3
  have N3 : Fr n0 L3 := by rw [l3]; exact Fr.app N2 N3q
  refine own_go (fun tt_ kk_ => st3.trans kk_) ?_
  show Go p.tables e below _ (T3.setTop (mkF m 12 #[.val (.ref b), .val (.long q), .second, .val (.ref v), .unset, .unset] [(.int (ix (own_hm q)))]))
  refine own_go (fun tt_ kk_ => XS.istore X3.here hx rfl (hb hby d5_12) rfl (l' := #[.val (.ref b), .val (.long q), .second, .val (.ref v), .val (.int (ix (own_hm q))), .unset]) rfl kk_) ?_
  show Go p.tables e below _ (T3.setTop (mkF m 14 #[.val (.ref b), .val (.long q), .second, .val (.ref v), .val (.int (ix (own_hm q))), .unset] []))
  have loop : ∀ f t, t + f = 16 → own_Run ks vs q (own_hm q) t → ∀ T L, Stand p l e ({ frames := 1, cells := 2, slots := 24, locals := 16 } : Room) (s.setVm T1.vm) m #[(.ref b), (.long q), (.ref v)] below meth c T L (0 + 2) (0 + 24) → Fr n0 L → T.heap = h1 → Go p.tables e below (FinW s below (own_QM Z n0 h0.size b ka va (own_upd G q (.ref v)) (if G q = .null then n + 1 else n) (G q)) ({ frames := 1, cells := 2, slots := 24, locals := 16 } : Room).cells ({ frames := 1, cells := 2, slots := 24, locals := 16 } : Room).slots) (T.setTop (mkF m 14 #[.val (.ref b), .val (.long q), .second, .val (.ref v), .val (.int (ix ((own_hm q + t) % 16))), .unset] [])) := by
    intro f
    induction f with
    | zero => intro t ht R; exact absurd (R.lt RR.2.2.2 (by omega)) (by omega)
    | succ f ih =>
      intro t ht R T L X N e'
      have ht16 : t < 16 := by omega
      have hI : ((own_hm q + t) % 16) < 16 := Nat.mod_lt _ (by decide)
      show Go p.tables e below _ (T.setTop (mkF m 14 #[.val (.ref b), .val (.long q), .second, .val (.ref v), .val (.int (ix ((own_hm q + t) % 16))), .unset] []))
      refine own_go (fun tt_ kk_ => XS.aloadN X.here hx rfl (hb hby d5_14) rfl rfl kk_) ?_
      show Go p.tables e below _ (T.setTop (mkF m 15 #[.val (.ref b), .val (.long q), .second, .val (.ref v), .val (.int (ix ((own_hm q + t) % 16))), .unset] [(.ref b)]))
      obtain ⟨T4, X4, e4, st4⟩ := getF X hx hZ1 hown1 (host := "") (Or.inl (hw _ (List.mem_of_getElem? (i := 15) rfl))) Via.refl e' Fv1 (g := (mkF m 15 #[.val (.ref b), .val (.long q), .second, .val (.ref v), .val (.int (ix ((own_hm q + t) % 16))), .unset] [(.ref b)])) rfl rfl (hb hby d5_15)
      refine own_go (fun tt_ kk_ => st4 tt_ kk_) ?_
      show Go p.tables e below _ (T4.setTop (mkF m 18 #[.val (.ref b), .val (.long q), .second, .val (.ref v), .val (.int (ix ((own_hm q + t) % 16))), .unset] [(.ref va)]))
      refine own_go (fun tt_ kk_ => XS.iload X4.here hx rfl (hb hby d5_18) rfl kk_) ?_
      show Go p.tables e below _ (T4.setTop (mkF m 20 #[.val (.ref b), .val (.long q), .second, .val (.ref v), .val (.int (ix ((own_hm q + t) % 16))), .unset] [(.int (ix ((own_hm q + t) % 16))), (.ref va)]))
      refine own_go (fun tt_ kk_ => X4.aaload hx (j := (ix ((own_hm q + t) % 16))) (v := (vs ((own_hm q + t) % 16))) (by rw [e4]; exact V11.1) (State.isArrayOf_alike hZ1.alike V11.2.1) rfl V11.2.2 (ix_in hI V21) (by rw [ix_clamp hI]; exact V41 _ hI) (g := (mkF m 20 #[.val (.ref b), .val (.long q), .second, .val (.ref v), .val (.int (ix ((own_hm q + t) % 16))), .unset] [(.int (ix ((own_hm q + t) % 16))), (.ref va)])) rfl rfl (hb hby d5_20) tt_ kk_) ?_
      show Go p.tables e below _ (T4.setTop (mkF m 21 #[.val (.ref b), .val (.long q), .second, .val (.ref v), .val (.int (ix ((own_hm q + t) % 16))), .unset] [(vs ((own_hm q + t) % 16))]))
      by_cases hc5 : (vs ((own_hm q + t) % 16)) = .null
      · refine own_go (fun tt_ kk_ => XT.nullYes X4.here hx rfl (pc0 := 21) (pc' := 69) rfl (hb hby d5_21) rfl hc5 (by decide) (by decide) kk_) ?_
        show Go p.tables e below _ (T4.setTop (mkF m 69 #[.val (.ref b), .val (.long q), .second, .val (.ref v), .val (.int (ix ((own_hm q + t) % 16))), .unset] []))
        refine own_go (fun tt_ kk_ => XS.aloadN X4.here hx rfl (hb hby d5_69) rfl rfl kk_) ?_
        show Go p.tables e below _ (T4.setTop (mkF m 70 #[.val (.ref b), .val (.long q), .second, .val (.ref v), .val (.int (ix ((own_hm q + t) % 16))), .unset] [(.ref b)]))
        obtain ⟨T6, X6, e6, st6⟩ := getF X4 hx hZ1 hown1 (host := "") (Or.inl (hw _ (List.mem_of_getElem? (i := 52) rfl))) Via.refl e4 Fs1 (g := (mkF m 70 #[.val (.ref b), .val (.long q), .second, .val (.ref v), .val (.int (ix ((own_hm q + t) % 16))), .unset] [(.ref b)])) rfl rfl (hb hby d5_70)
        refine own_go (fun tt_ kk_ => st6 tt_ kk_) ?_
        show Go p.tables e below _ (T6.setTop (mkF m 73 #[.val (.ref b), .val (.long q), .second, .val (.ref v), .val (.int (ix ((own_hm q + t) % 16))), .unset] [(.int (ix n))]))
        refine own_go (fun tt_ kk_ => XS.aloadN X6.here hx rfl (hb hby d5_73) rfl rfl kk_) ?_
        show Go p.tables e below _ (T6.setTop (mkF m 74 #[.val (.ref b), .val (.long q), .second, .val (.ref v), .val (.int (ix ((own_hm q + t) % 16))), .unset] [(.ref b), (.int (ix n))]))
        obtain ⟨T7, X7, e7, st7⟩ := getF X6 hx hZ1 hown1 (host := "") (Or.inl (hw _ (List.mem_of_getElem? (i := 15) rfl))) Via.refl e6 Fv1 (g := (mkF m 74 #[.val (.ref b), .val (.long q), .second, .val (.ref v), .val (.int (ix ((own_hm q + t) % 16))), .unset] [(.ref b), (.int (ix n))])) rfl rfl (hb hby d5_74)
        refine own_go (fun tt_ kk_ => st7 tt_ kk_) ?_
        show Go p.tables e below _ (T7.setTop (mkF m 77 #[.val (.ref b), .val (.long q), .second, .val (.ref v), .val (.int (ix ((own_hm q + t) % 16))), .unset] [(.ref va), (.int (ix n))]))
        refine own_go (fun tt_ kk_ => X7.arraylength hx (by rw [e7]; exact V11.1) (State.isArrayOf_alike hZ1.alike V11.2.1) (g := (mkF m 77 #[.val (.ref b), .val (.long q), .second, .val (.ref v), .val (.int (ix ((own_hm q + t) % 16))), .unset] [(.ref va), (.int (ix n))])) rfl rfl (hb hby d5_77) tt_ (by rw [(show cv1.slots.size.toInt32 = 16 by rw [V21]; rfl)]; exact kk_)) ?_
        show Go p.tables e below _ (T7.setTop (mkF m 78 #[.val (.ref b), .val (.long q), .second, .val (.ref v), .val (.int (ix ((own_hm q + t) % 16))), .unset] [(.int (16 : Int32)), (.int (ix n))]))
        refine own_go (fun tt_ kk_ => XS.iconst X7.here hx rfl (hb hby d5_78) kk_) ?_
        show Go p.tables e below _ (T7.setTop (mkF m 79 #[.val (.ref b), .val (.long q), .second, .val (.ref v), .val (.int (ix ((own_hm q + t) % 16))), .unset] [(.int (1 : Int32)), (.int (16 : Int32)), (.int (ix n))]))
        refine own_go (fun tt_ kk_ => XS.isub X7.here hx rfl (hb hby d5_79) rfl kk_) ?_
        show Go p.tables e below _ (T7.setTop (mkF m 80 #[.val (.ref b), .val (.long q), .second, .val (.ref v), .val (.int (ix ((own_hm q + t) % 16))), .unset] [(.int (15 : Int32)), (.int (ix n))]))
        refine own_go (fun tt_ kk_ => XS.icmpYes X7.here hx rfl (pc0 := 80) (pc' := 100) rfl (hb hby d5_80) rfl (XT.ii_ne_t (ix_ne15 n hn)) (by decide) (by decide) kk_) ?_
        show Go p.tables e below _ (T7.setTop (mkF m 100 #[.val (.ref b), .val (.long q), .second, .val (.ref v), .val (.int (ix ((own_hm q + t) % 16))), .unset] []))
        refine own_go (fun tt_ kk_ => XS.aloadN X7.here hx rfl (hb hby d5_100) rfl rfl kk_) ?_
        show Go p.tables e below _ (T7.setTop (mkF m 101 #[.val (.ref b), .val (.long q), .second, .val (.ref v), .val (.int (ix ((own_hm q + t) % 16))), .unset] [(.ref b)]))
        obtain ⟨T8, X8, e8, st8⟩ := getF X7 hx hZ1 hown1 (host := "") (Or.inl (hw _ (List.mem_of_getElem? (i := 13) rfl))) Via.refl e7 Fk1 (g := (mkF m 101 #[.val (.ref b), .val (.long q), .second, .val (.ref v), .val (.int (ix ((own_hm q + t) % 16))), .unset] [(.ref b)])) rfl rfl (hb hby d5_101)
        refine own_go (fun tt_ kk_ => st8 tt_ kk_) ?_
        show Go p.tables e below _ (T8.setTop (mkF m 104 #[.val (.ref b), .val (.long q), .second, .val (.ref v), .val (.int (ix ((own_hm q + t) % 16))), .unset] [(.ref ka)]))
        refine own_go (fun tt_ kk_ => XS.iload X8.here hx rfl (hb hby d5_104) rfl kk_) ?_
        show Go p.tables e below _ (T8.setTop (mkF m 106 #[.val (.ref b), .val (.long q), .second, .val (.ref v), .val (.int (ix ((own_hm q + t) % 16))), .unset] [(.int (ix ((own_hm q + t) % 16))), (.ref ka)]))
        refine own_go (fun tt_ kk_ => XT.lloadN X8.here hx rfl (hb hby d5_106) rfl kk_) ?_
        show Go p.tables e below _ (T8.setTop (mkF m 107 #[.val (.ref b), .val (.long q), .second, .val (.ref v), .val (.int (ix ((own_hm q + t) % 16))), .unset] [(.long q), (.int (ix ((own_hm q + t) % 16))), (.ref ka)]))
        obtain ⟨T9, h9, X9, e9, W9, st9⟩ := stJ X8 hx hZ1 e8 K11 (j := (ix ((own_hm q + t) % 16))) (ix_in hI K21) (g := (mkF m 107 #[.val (.ref b), .val (.long q), .second, .val (.ref v), .val (.int (ix ((own_hm q + t) % 16))), .unset] [(.long q), (.int (ix ((own_hm q + t) % 16))), (.ref ka)])) rfl rfl (hb hby d5_107)
        have N9 := Fr.snoc X9 N AA1.2.1
        have M9 := M1.keys hI W9
        have O9 := O1.wr W9 AA1.2.1
        have kz9 : k1 ≤ h9.size := by rw [W9.size]; exact kz1
        have sz9 : h0.size ≤ h9.size := by rw [W9.size]; exact Ex1.1
        have E_v_9 := E_v_1.wr W9
        have MM9 := M9
        obtain ⟨AA9, EX9, ⟨Fk9, Fv9, Fm9, Fs9⟩, ⟨ck9, K19, K29, K39⟩, ⟨cv9, V19, V29, V39, V49⟩, DD9⟩ := MM9
        refine own_go (fun tt_ kk_ => st9 tt_ kk_) ?_
        show Go p.tables e below _ (T9.setTop (mkF m 108 #[.val (.ref b), .val (.long q), .second, .val (.ref v), .val (.int (ix ((own_hm q + t) % 16))), .unset] []))
        refine own_go (fun tt_ kk_ => XS.aloadN X9.here hx rfl (hb hby d5_108) rfl rfl kk_) ?_
        show Go p.tables e below _ (T9.setTop (mkF m 109 #[.val (.ref b), .val (.long q), .second, .val (.ref v), .val (.int (ix ((own_hm q + t) % 16))), .unset] [(.ref b)]))
        obtain ⟨T10, X10, e10, st10⟩ := getF X9 hx hZ1 hown1 (host := "") (Or.inl (hw _ (List.mem_of_getElem? (i := 15) rfl))) Via.refl e9 Fv9 (g := (mkF m 109 #[.val (.ref b), .val (.long q), .second, .val (.ref v), .val (.int (ix ((own_hm q + t) % 16))), .unset] [(.ref b)])) rfl rfl (hb hby d5_109)
        refine own_go (fun tt_ kk_ => st10 tt_ kk_) ?_
        show Go p.tables e below _ (T10.setTop (mkF m 112 #[.val (.ref b), .val (.long q), .second, .val (.ref v), .val (.int (ix ((own_hm q + t) % 16))), .unset] [(.ref va)]))
        refine own_go (fun tt_ kk_ => XS.iload X10.here hx rfl (hb hby d5_112) rfl kk_) ?_
        show Go p.tables e below _ (T10.setTop (mkF m 114 #[.val (.ref b), .val (.long q), .second, .val (.ref v), .val (.int (ix ((own_hm q + t) % 16))), .unset] [(.int (ix ((own_hm q + t) % 16))), (.ref va)]))
        refine own_go (fun tt_ kk_ => XS.aloadN X10.here hx rfl (hb hby d5_114) rfl rfl kk_) ?_
        show Go p.tables e below _ (T10.setTop (mkF m 115 #[.val (.ref b), .val (.long q), .second, .val (.ref v), .val (.int (ix ((own_hm q + t) % 16))), .unset] [(.ref v), (.int (ix ((own_hm q + t) % 16))), (.ref va)]))
        obtain ⟨T11, h11, X11, e11, W11, st11⟩ := stR X10 hx hZ1 e10 V19 (j := (ix ((own_hm q + t) % 16))) (ix_in hI V29) rfl (M9.sto (hw _ (List.mem_of_getElem? (i := 54) rfl)) (Or.inr ⟨_, rfl, E_v_9⟩)) (g := (mkF m 115 #[.val (.ref b), .val (.long q), .second, .val (.ref v), .val (.int (ix ((own_hm q + t) % 16))), .unset] [(.ref v), (.int (ix ((own_hm q + t) % 16))), (.ref va)])) rfl rfl (hb hby d5_115)
        have N11 := Fr.snoc X11 N9 AA9.2.2.1
        have M11 := M9.vals hI (Or.inr ⟨_, rfl, E_v_9⟩) W11
        have O11 := O9.wr W11 AA9.2.2.1
        have kz11 : k1 ≤ h11.size := by rw [W11.size]; exact kz9
        have sz11 : h0.size ≤ h11.size := by rw [W11.size]; exact sz9
        have E_v_11 := E_v_9.wr W11
        have MM11 := M11
        obtain ⟨AA11, EX11, ⟨Fk11, Fv11, Fm11, Fs11⟩, ⟨ck11, K111, K211, K311⟩, ⟨cv11, V111, V211, V311, V411⟩, DD11⟩ := MM11
        refine own_go (fun tt_ kk_ => st11 tt_ kk_) ?_
        show Go p.tables e below _ (T11.setTop (mkF m 116 #[.val (.ref b), .val (.long q), .second, .val (.ref v), .val (.int (ix ((own_hm q + t) % 16))), .unset] []))
        refine own_go (fun tt_ kk_ => XS.aloadN X11.here hx rfl (hb hby d5_116) rfl rfl kk_) ?_
        show Go p.tables e below _ (T11.setTop (mkF m 117 #[.val (.ref b), .val (.long q), .second, .val (.ref v), .val (.int (ix ((own_hm q + t) % 16))), .unset] [(.ref b)]))
        refine own_go (fun tt_ kk_ => XS.dup X11.here hx rfl (hb hby d5_117) rfl rfl kk_) ?_
        show Go p.tables e below _ (T11.setTop (mkF m 118 #[.val (.ref b), .val (.long q), .second, .val (.ref v), .val (.int (ix ((own_hm q + t) % 16))), .unset] [(.ref b), (.ref b)]))
        obtain ⟨T12, X12, e12, st12⟩ := getF X11 hx hZ1 hown1 (host := "") (Or.inl (hw _ (List.mem_of_getElem? (i := 52) rfl))) Via.refl e11 Fs11 (g := (mkF m 118 #[.val (.ref b), .val (.long q), .second, .val (.ref v), .val (.int (ix ((own_hm q + t) % 16))), .unset] [(.ref b), (.ref b)])) rfl rfl (hb hby d5_118)
        refine own_go (fun tt_ kk_ => st12 tt_ kk_) ?_
        show Go p.tables e below _ (T12.setTop (mkF m 121 #[.val (.ref b), .val (.long q), .second, .val (.ref v), .val (.int (ix ((own_hm q + t) % 16))), .unset] [(.int (ix n)), (.ref b)]))
        refine own_go (fun tt_ kk_ => XS.iconst X12.here hx rfl (hb hby d5_121) kk_) ?_
        show Go p.tables e below _ (T12.setTop (mkF m 122 #[.val (.ref b), .val (.long q), .second, .val (.ref v), .val (.int (ix ((own_hm q + t) % 16))), .unset] [(.int (1 : Int32)), (.int (ix n)), (.ref b)]))
        refine own_go (fun tt_ kk_ => XS.iadd X12.here hx rfl (hb hby d5_122) rfl kk_) ?_
        show Go p.tables e below _ (T12.setTop (mkF m 123 #[.val (.ref b), .val (.long q), .second, .val (.ref v), .val (.int (ix ((own_hm q + t) % 16))), .unset] [(.int ((ix n) + (1 : Int32))), (.ref b)]))
        rw [ix_succ n]
        show Go p.tables e below _ (T12.setTop (mkF m 123 #[.val (.ref b), .val (.long q), .second, .val (.ref v), .val (.int (ix ((own_hm q + t) % 16))), .unset] [(.int (ix (n + 1))), (.ref b)]))
        obtain ⟨T13, h13, X13, e13, W13, st13⟩ := putF X12 hx hZ1 hown1 (host := "") (Or.inl (hw _ (List.mem_of_getElem? (i := 52) rfl))) Via.refl e12 Fs11 EX11 (Or.inl (hw _ (List.mem_of_getElem? (i := 53) rfl))) (hw _ (List.mem_of_getElem? (i := 1) rfl)) (ty := .int) (by decide) rfl rfl (g := (mkF m 123 #[.val (.ref b), .val (.long q), .second, .val (.ref v), .val (.int (ix ((own_hm q + t) % 16))), .unset] [(.int (ix (n + 1))), (.ref b)])) rfl rfl (hb hby d5_123)
        have N13 := Fr.snoc X13 N11 AA11.1
        have M13 := own_Map.sized (hw _ (List.mem_of_getElem? (i := 14) rfl)) (hw _ (List.mem_of_getElem? (i := 16) rfl)) (hw _ (List.mem_of_getElem? (i := 21) rfl)) (hw _ (List.mem_of_getElem? (i := 53) rfl)) M11 W13
        have O13 := O11.wr W13 AA11.1
        have kz13 : k1 ≤ h13.size := by rw [W13.size]; exact kz11
        have sz13 : h0.size ≤ h13.size := by rw [W13.size]; exact sz11
        have E_v_13 := E_v_11.wr W13
        have MM13 := M13
        obtain ⟨AA13, EX13, ⟨Fk13, Fv13, Fm13, Fs13⟩, ⟨ck13, K113, K213, K313⟩, ⟨cv13, V113, V213, V313, V413⟩, DD13⟩ := MM13
        refine own_go (fun tt_ kk_ => st13 tt_ kk_) ?_
        show Go p.tables e below _ (T13.setTop (mkF m 126 #[.val (.ref b), .val (.long q), .second, .val (.ref v), .val (.int (ix ((own_hm q + t) % 16))), .unset] []))
        refine own_go (fun tt_ kk_ => XS.iconst X13.here hx rfl (hb hby d5_126) kk_) ?_
        show Go p.tables e below _ (T13.setTop (mkF m 127 #[.val (.ref b), .val (.long q), .second, .val (.ref v), .val (.int (ix ((own_hm q + t) % 16))), .unset] [(.int (2 : Int32))]))
        refine own_go (fun tt_ kk_ => XS.aloadN X13.here hx rfl (hb hby d5_127) rfl rfl kk_) ?_
        show Go p.tables e below _ (T13.setTop (mkF m 128 #[.val (.ref b), .val (.long q), .second, .val (.ref v), .val (.int (ix ((own_hm q + t) % 16))), .unset] [(.ref b), (.int (2 : Int32))]))
        obtain ⟨T14, X14, e14, st14⟩ := getF X13 hx hZ1 hown1 (host := "") (Or.inl (hw _ (List.mem_of_getElem? (i := 52) rfl))) Via.refl e13 Fs13 (g := (mkF m 128 #[.val (.ref b), .val (.long q), .second, .val (.ref v), .val (.int (ix ((own_hm q + t) % 16))), .unset] [(.ref b), (.int (2 : Int32))])) rfl rfl (hb hby d5_128)
        refine own_go (fun tt_ kk_ => st14 tt_ kk_) ?_
        show Go p.tables e below _ (T14.setTop (mkF m 131 #[.val (.ref b), .val (.long q), .second, .val (.ref v), .val (.int (ix ((own_hm q + t) % 16))), .unset] [(.int (ix (n + 1))), (.int (2 : Int32))]))
        refine own_go (fun tt_ kk_ => XS.imul X14.here hx rfl (hb hby d5_131) rfl kk_) ?_
        show Go p.tables e below _ (T14.setTop (mkF m 132 #[.val (.ref b), .val (.long q), .second, .val (.ref v), .val (.int (ix ((own_hm q + t) % 16))), .unset] [(.int ((2 : Int32) * (ix (n + 1))))]))
        refine own_go (fun tt_ kk_ => XS.aloadN X14.here hx rfl (hb hby d5_132) rfl rfl kk_) ?_
        show Go p.tables e below _ (T14.setTop (mkF m 133 #[.val (.ref b), .val (.long q), .second, .val (.ref v), .val (.int (ix ((own_hm q + t) % 16))), .unset] [(.ref b), (.int ((2 : Int32) * (ix (n + 1))))]))
        obtain ⟨T15, X15, e15, st15⟩ := getF X14 hx hZ1 hown1 (host := "") (Or.inl (hw _ (List.mem_of_getElem? (i := 15) rfl))) Via.refl e14 Fv13 (g := (mkF m 133 #[.val (.ref b), .val (.long q), .second, .val (.ref v), .val (.int (ix ((own_hm q + t) % 16))), .unset] [(.ref b), (.int ((2 : Int32) * (ix (n + 1))))])) rfl rfl (hb hby d5_133)
        refine own_go (fun tt_ kk_ => st15 tt_ kk_) ?_
        show Go p.tables e below _ (T15.setTop (mkF m 136 #[.val (.ref b), .val (.long q), .second, .val (.ref v), .val (.int (ix ((own_hm q + t) % 16))), .unset] [(.ref va), (.int ((2 : Int32) * (ix (n + 1))))]))
        refine own_go (fun tt_ kk_ => X15.arraylength hx (by rw [e15]; exact V113.1) (State.isArrayOf_alike hZ1.alike V113.2.1) (g := (mkF m 136 #[.val (.ref b), .val (.long q), .second, .val (.ref v), .val (.int (ix ((own_hm q + t) % 16))), .unset] [(.ref va), (.int ((2 : Int32) * (ix (n + 1))))])) rfl rfl (hb hby d5_136) tt_ (by rw [(show cv13.slots.size.toInt32 = 16 by rw [V213]; rfl)]; exact kk_)) ?_
        show Go p.tables e below _ (T15.setTop (mkF m 137 #[.val (.ref b), .val (.long q), .second, .val (.ref v), .val (.int (ix ((own_hm q + t) % 16))), .unset] [(.int (16 : Int32)), (.int ((2 : Int32) * (ix (n + 1))))]))
        refine own_go (fun tt_ kk_ => XS.icmpYes X15.here hx rfl (pc0 := 137) (pc' := 161) rfl (hb hby d5_137) rfl (XT.ii_le_t (ix_le8 n hn)) (by decide) (by decide) kk_) ?_
        show Go p.tables e below _ (T15.setTop (mkF m 161 #[.val (.ref b), .val (.long q), .second, .val (.ref v), .val (.int (ix ((own_hm q + t) % 16))), .unset] []))
        refine own_go (fun tt_ kk_ => XS.aconstNull X15.here hx rfl (hb hby d5_161) kk_) ?_
        show Go p.tables e below _ (T15.setTop (mkF m 162 #[.val (.ref b), .val (.long q), .second, .val (.ref v), .val (.int (ix ((own_hm q + t) % 16))), .unset] [.null]))
        exact own_retW X15 sn1 (by rw [e15]; exact kz13) hx hlk Bd.returns rfl (Or.inr (Or.inr (Or.inr (Or.inr ⟨rfl, rfl, rfl⟩)))) (hb hby d5_162) (by have g := own_absent RR (own_hm_lt q) R hc5; exact ⟨congrArg some g.symm, N13, by rw [e15]; exact ⟨O13, sz13⟩, _, _, by rw [e15, if_pos g]; exact M13, by rw [if_pos g]; exact own_put_new RR (own_hm_lt q) ht16 R hc5 (by simp)⟩) (by decide) (by decide)
      · refine own_go (fun tt_ kk_ => XT.nullNo X4.here hx rfl (hb hby d5_21) rfl (M1.isRef hI) hc5 kk_) ?_
        show Go p.tables e below _ (T4.setTop (mkF m 24 #[.val (.ref b), .val (.long q), .second, .val (.ref v), .val (.int (ix ((own_hm q + t) % 16))), .unset] []))
        refine own_go (fun tt_ kk_ => XS.aloadN X4.here hx rfl (hb hby d5_24) rfl rfl kk_) ?_
        show Go p.tables e below _ (T4.setTop (mkF m 25 #[.val (.ref b), .val (.long q), .second, .val (.ref v), .val (.int (ix ((own_hm q + t) % 16))), .unset] [(.ref b)]))
        obtain ⟨T16, X16, e16, st16⟩ := getF X4 hx hZ1 hown1 (host := "") (Or.inl (hw _ (List.mem_of_getElem? (i := 13) rfl))) Via.refl e4 Fk1 (g := (mkF m 25 #[.val (.ref b), .val (.long q), .second, .val (.ref v), .val (.int (ix ((own_hm q + t) % 16))), .unset] [(.ref b)])) rfl rfl (hb hby d5_25)
        refine own_go (fun tt_ kk_ => st16 tt_ kk_) ?_
        show Go p.tables e below _ (T16.setTop (mkF m 28 #[.val (.ref b), .val (.long q), .second, .val (.ref v), .val (.int (ix ((own_hm q + t) % 16))), .unset] [(.ref ka)]))
        refine own_go (fun tt_ kk_ => XS.iload X16.here hx rfl (hb hby d5_28) rfl kk_) ?_
        show Go p.tables e below _ (T16.setTop (mkF m 30 #[.val (.ref b), .val (.long q), .second, .val (.ref v), .val (.int (ix ((own_hm q + t) % 16))), .unset] [(.int (ix ((own_hm q + t) % 16))), (.ref ka)]))
        refine own_go (fun tt_ kk_ => X16.laload hx (j := (ix ((own_hm q + t) % 16))) (v := (.long (ks ((own_hm q + t) % 16)))) (by rw [e16]; exact K11.1) (State.isArrayOf_alike hZ1.alike K11.2.1) K11.2.2 (ix_in hI K21) (by rw [ix_clamp hI]; exact K31 _ hI) (g := (mkF m 30 #[.val (.ref b), .val (.long q), .second, .val (.ref v), .val (.int (ix ((own_hm q + t) % 16))), .unset] [(.int (ix ((own_hm q + t) % 16))), (.ref ka)])) rfl rfl (hb hby d5_30) tt_ kk_) ?_
        show Go p.tables e below _ (T16.setTop (mkF m 31 #[.val (.ref b), .val (.long q), .second, .val (.ref v), .val (.int (ix ((own_hm q + t) % 16))), .unset] [(.long (ks ((own_hm q + t) % 16)))]))
        refine own_go (fun tt_ kk_ => XT.lloadN X16.here hx rfl (hb hby d5_31) rfl kk_) ?_
        show Go p.tables e below _ (T16.setTop (mkF m 32 #[.val (.ref b), .val (.long q), .second, .val (.ref v), .val (.int (ix ((own_hm q + t) % 16))), .unset] [(.long q), (.long (ks ((own_hm q + t) % 16)))]))
        refine own_go (fun tt_ kk_ => XT.lcmp X16.here hx rfl (hb hby d5_32) rfl kk_) ?_
        show Go p.tables e below _ (T16.setTop (mkF m 33 #[.val (.ref b), .val (.long q), .second, .val (.ref v), .val (.int (ix ((own_hm q + t) % 16))), .unset] [(.int (XT.cmpL (ks ((own_hm q + t) % 16)) q))]))
        by_cases hc17 : (ks ((own_hm q + t) % 16)) = q
        · refine own_go (fun tt_ kk_ => XS.ifNo X16.here hx rfl (hb hby d5_33) rfl (XT.ll_ne_f hc17) kk_) ?_
          show Go p.tables e below _ (T16.setTop (mkF m 36 #[.val (.ref b), .val (.long q), .second, .val (.ref v), .val (.int (ix ((own_hm q + t) % 16))), .unset] []))
          refine own_go (fun tt_ kk_ => XS.aloadN X16.here hx rfl (hb hby d5_36) rfl rfl kk_) ?_
          show Go p.tables e below _ (T16.setTop (mkF m 37 #[.val (.ref b), .val (.long q), .second, .val (.ref v), .val (.int (ix ((own_hm q + t) % 16))), .unset] [(.ref b)]))
          refine own_go (fun tt_ kk_ => XS.iload X16.here hx rfl (hb hby d5_37) rfl kk_) ?_
          show Go p.tables e below _ (T16.setTop (mkF m 39 #[.val (.ref b), .val (.long q), .second, .val (.ref v), .val (.int (ix ((own_hm q + t) % 16))), .unset] [(.int (ix ((own_hm q + t) % 16))), (.ref b)]))
          obtain ⟨cq18, q18a, q18b⟩ := (EX1).cell
          obtain ⟨v18, _, ⟨T18, L18, k18, n18⟩, -, X18, ⟨Lc18, hQ18, l18, y18, z18⟩, st18⟩ := X16.privateBack hx (y := (⟨"com/example/rootlet/rootlet/IdMap", "value", "(I)Ljava/lang/Object;"⟩ : MethodName)) hown1 (mvT hZ1 (hw _ (List.mem_of_getElem? (i := 55) rfl))) (mvT hZ1 (hw _ (List.mem_of_getElem? (i := 56) rfl))) (own_selp (z := (⟨"com/example/rootlet/rootlet/IdMap", "put", "(JLjava/lang/Object;)Ljava/lang/Object;"⟩ : MethodName)) (mvT hZ1 (hw _ (List.mem_of_getElem? (i := 32) rfl))) rfl (mvP hZ1 (hw _ (List.mem_of_getElem? (i := 57) rfl))) (mvT hZ1 (hw _ (List.mem_of_getElem? (i := 56) rfl))) (by decide)) (Cond.privateMethod_at (mvP hZ1 (hw _ (List.mem_of_getElem? (i := 57) rfl)) (args := #[]))) (mvT hZ1 (hw _ (List.mem_of_getElem? (i := 58) rfl))) (by decide) (backOf (W := 0) (rm_value l Z a0 hw [] b ka va ks vs G n ((own_hm q + t) % 16) h1 n0 M1 RR hI) hZ1 (hw _ (List.mem_of_getElem? (i := 58) rfl)) (hw _ (List.mem_of_getElem? (i := 2) rfl)) (by decide) (by decide)) (g := (mkF m 39 #[.val (.ref b), .val (.long q), .second, .val (.ref v), .val (.int (ix ((own_hm q + t) % 16))), .unset] [(.int (ix ((own_hm q + t) % 16))), (.ref b)])) rfl (by rw [hml]; rfl) (Steps.refl _) (a := b) (by rw [e16]; exact q18a) q18b (argsL := [(.int (ix ((own_hm q + t) % 16)))]) (rest := []) (lenOf pd_2 rfl) rfl (by show 2 * 0 + _ ≤ _; exact Nat.le_of_eq rfl) (hb hby d5_39) (fun _ _ => ⟨rfl, e16, (by decide : (0 + 2) + 0 ≤ _), (by decide : (0 + 24) + 0 ≤ _)⟩)
          dsimp only [Pt.U, Pt.locs, Pt.cells, Pt.slots] at X18 l18 y18 z18 st18 hQ18
          subst y18 z18
          obtain ⟨hv18, N18q, e18⟩ := hQ18
          subst hv18
          have N18 : Fr n0 L18 := by rw [l18]; exact Fr.app N N18q
          refine own_go (fun tt_ kk_ => st18.trans kk_) ?_
          show Go p.tables e below _ (T18.setTop (mkF m 42 #[.val (.ref b), .val (.long q), .second, .val (.ref v), .val (.int (ix ((own_hm q + t) % 16))), .unset] [(vs ((own_hm q + t) % 16))]))
          refine own_go (fun tt_ kk_ => XS.astoreS X18.here hx rfl (hb hby d5_42) rfl (M1.isRef hI) (XT.cat1 (M1.isRef hI)) rfl (Or.inl rfl) kk_) ?_
          show Go p.tables e below _ (T18.setTop (mkF m 44 #[.val (.ref b), .val (.long q), .second, .val (.ref v), .val (.int (ix ((own_hm q + t) % 16))), .val (vs ((own_hm q + t) % 16))] []))
          refine own_go (fun tt_ kk_ => XS.aloadN X18.here hx rfl (hb hby d5_44) rfl rfl kk_) ?_
          show Go p.tables e below _ (T18.setTop (mkF m 45 #[.val (.ref b), .val (.long q), .second, .val (.ref v), .val (.int (ix ((own_hm q + t) % 16))), .val (vs ((own_hm q + t) % 16))] [(.ref b)]))
          obtain ⟨T19, X19, e19, st19⟩ := getF X18 hx hZ1 hown1 (host := "") (Or.inl (hw _ (List.mem_of_getElem? (i := 15) rfl))) Via.refl e18 Fv1 (g := (mkF m 45 #[.val (.ref b), .val (.long q), .second, .val (.ref v), .val (.int (ix ((own_hm q + t) % 16))), .val (vs ((own_hm q + t) % 16))] [(.ref b)])) rfl rfl (hb hby d5_45)
          refine own_go (fun tt_ kk_ => st19 tt_ kk_) ?_
          show Go p.tables e below _ (T19.setTop (mkF m 48 #[.val (.ref b), .val (.long q), .second, .val (.ref v), .val (.int (ix ((own_hm q + t) % 16))), .val (vs ((own_hm q + t) % 16))] [(.ref va)]))
          refine own_go (fun tt_ kk_ => XS.iload X19.here hx rfl (hb hby d5_48) rfl kk_) ?_
          show Go p.tables e below _ (T19.setTop (mkF m 50 #[.val (.ref b), .val (.long q), .second, .val (.ref v), .val (.int (ix ((own_hm q + t) % 16))), .val (vs ((own_hm q + t) % 16))] [(.int (ix ((own_hm q + t) % 16))), (.ref va)]))
          refine own_go (fun tt_ kk_ => XS.aloadN X19.here hx rfl (hb hby d5_50) rfl rfl kk_) ?_
          show Go p.tables e below _ (T19.setTop (mkF m 51 #[.val (.ref b), .val (.long q), .second, .val (.ref v), .val (.int (ix ((own_hm q + t) % 16))), .val (vs ((own_hm q + t) % 16))] [(.ref v), (.int (ix ((own_hm q + t) % 16))), (.ref va)]))
          obtain ⟨T20, h20, X20, e20, W20, st20⟩ := stR X19 hx hZ1 e19 V11 (j := (ix ((own_hm q + t) % 16))) (ix_in hI V21) rfl (M1.sto (hw _ (List.mem_of_getElem? (i := 54) rfl)) (Or.inr ⟨_, rfl, E_v_1⟩)) (g := (mkF m 51 #[.val (.ref b), .val (.long q), .second, .val (.ref v), .val (.int (ix ((own_hm q + t) % 16))), .val (vs ((own_hm q + t) % 16))] [(.ref v), (.int (ix ((own_hm q + t) % 16))), (.ref va)])) rfl rfl (hb hby d5_51)
          have N20 := Fr.snoc X20 N18 AA1.2.2.1
          have M20 := M1.vals hI (Or.inr ⟨_, rfl, E_v_1⟩) W20
          have O20 := O1.wr W20 AA1.2.2.1
          have kz20 : k1 ≤ h20.size := by rw [W20.size]; exact kz1
          have sz20 : h0.size ≤ h20.size := by rw [W20.size]; exact Ex1.1
          have E_v_20 := E_v_1.wr W20
          have MM20 := M20
          obtain ⟨AA20, EX20, ⟨Fk20, Fv20, Fm20, Fs20⟩, ⟨ck20, K120, K220, K320⟩, ⟨cv20, V120, V220, V320, V420⟩, DD20⟩ := MM20
          refine own_go (fun tt_ kk_ => st20 tt_ kk_) ?_
          show Go p.tables e below _ (T20.setTop (mkF m 52 #[.val (.ref b), .val (.long q), .second, .val (.ref v), .val (.int (ix ((own_hm q + t) % 16))), .val (vs ((own_hm q + t) % 16))] []))
          refine own_go (fun tt_ kk_ => XS.aload X20.here hx rfl (hb hby d5_52) rfl (M1.isRef hI) kk_) ?_
          show Go p.tables e below _ (T20.setTop (mkF m 54 #[.val (.ref b), .val (.long q), .second, .val (.ref v), .val (.int (ix ((own_hm q + t) % 16))), .val (vs ((own_hm q + t) % 16))] [(vs ((own_hm q + t) % 16))]))
          exact own_retW X20 sn1 (by rw [e20]; exact kz20) hx hlk Bd.returns rfl (Or.inr (Or.inr (Or.inr (Or.inr ⟨rfl, rfl, (M1.isRef hI)⟩)))) (hb hby d5_54) (by have g := own_found RR hI hc5 hc17; have g2 : G q ≠ .null := (by rw [g]; exact hc5); exact ⟨congrArg some g.symm, N20, by rw [e20]; exact ⟨O20, sz20⟩, _, _, by rw [e20, if_neg g2]; exact M20, by rw [if_neg g2]; exact own_put_old RR hI hc5 hc17 (by simp)⟩) (by decide) (by decide)
        · refine own_go (fun tt_ kk_ => XS.ifYes X16.here hx rfl (pc0 := 33) (pc' := 55) rfl (hb hby d5_33) rfl (XT.ll_ne_t hc17) (by decide) (by decide) kk_) ?_
          show Go p.tables e below _ (T16.setTop (mkF m 55 #[.val (.ref b), .val (.long q), .second, .val (.ref v), .val (.int (ix ((own_hm q + t) % 16))), .unset] []))
          refine own_go (fun tt_ kk_ => XS.iload X16.here hx rfl (hb hby d5_55) rfl kk_) ?_
          show Go p.tables e below _ (T16.setTop (mkF m 57 #[.val (.ref b), .val (.long q), .second, .val (.ref v), .val (.int (ix ((own_hm q + t) % 16))), .unset] [(.int (ix ((own_hm q + t) % 16)))]))
          refine own_go (fun tt_ kk_ => XS.iconst X16.here hx rfl (hb hby d5_57) kk_) ?_
          show Go p.tables e below _ (T16.setTop (mkF m 58 #[.val (.ref b), .val (.long q), .second, .val (.ref v), .val (.int (ix ((own_hm q + t) % 16))), .unset] [(.int (1 : Int32)), (.int (ix ((own_hm q + t) % 16)))]))
          refine own_go (fun tt_ kk_ => XS.iadd X16.here hx rfl (hb hby d5_58) rfl kk_) ?_
          show Go p.tables e below _ (T16.setTop (mkF m 59 #[.val (.ref b), .val (.long q), .second, .val (.ref v), .val (.int (ix ((own_hm q + t) % 16))), .unset] [(.int ((ix ((own_hm q + t) % 16)) + (1 : Int32)))]))
          refine own_go (fun tt_ kk_ => XS.aloadN X16.here hx rfl (hb hby d5_59) rfl rfl kk_) ?_
          show Go p.tables e below _ (T16.setTop (mkF m 60 #[.val (.ref b), .val (.long q), .second, .val (.ref v), .val (.int (ix ((own_hm q + t) % 16))), .unset] [(.ref b), (.int ((ix ((own_hm q + t) % 16)) + (1 : Int32)))]))
          obtain ⟨T21, X21, e21, st21⟩ := getF X16 hx hZ1 hown1 (host := "") (Or.inl (hw _ (List.mem_of_getElem? (i := 20) rfl))) Via.refl e16 Fm1 (g := (mkF m 60 #[.val (.ref b), .val (.long q), .second, .val (.ref v), .val (.int (ix ((own_hm q + t) % 16))), .unset] [(.ref b), (.int ((ix ((own_hm q + t) % 16)) + (1 : Int32)))])) rfl rfl (hb hby d5_60)
          refine own_go (fun tt_ kk_ => st21 tt_ kk_) ?_
          show Go p.tables e below _ (T21.setTop (mkF m 63 #[.val (.ref b), .val (.long q), .second, .val (.ref v), .val (.int (ix ((own_hm q + t) % 16))), .unset] [(.int (15 : Int32)), (.int ((ix ((own_hm q + t) % 16)) + (1 : Int32)))]))
          refine own_go (fun tt_ kk_ => XS.iand X21.here hx rfl (hb hby d5_63) rfl kk_) ?_
          show Go p.tables e below _ (T21.setTop (mkF m 64 #[.val (.ref b), .val (.long q), .second, .val (.ref v), .val (.int (ix ((own_hm q + t) % 16))), .unset] [(.int (((ix ((own_hm q + t) % 16)) + (1 : Int32)) &&& (15 : Int32)))]))
          rw [ix_next _ hI, show ((own_hm q + t) % 16 + 1) % 16 = (own_hm q + (t + 1)) % 16 by omega]
          show Go p.tables e below _ (T21.setTop (mkF m 64 #[.val (.ref b), .val (.long q), .second, .val (.ref v), .val (.int (ix ((own_hm q + t) % 16))), .unset] [(.int (ix ((own_hm q + (t + 1)) % 16)))]))
          refine own_go (fun tt_ kk_ => XS.istore X21.here hx rfl (hb hby d5_64) rfl (l' := #[.val (.ref b), .val (.long q), .second, .val (.ref v), .val (.int (ix ((own_hm q + (t + 1)) % 16))), .unset]) rfl kk_) ?_
          show Go p.tables e below _ (T21.setTop (mkF m 66 #[.val (.ref b), .val (.long q), .second, .val (.ref v), .val (.int (ix ((own_hm q + (t + 1)) % 16))), .unset] []))
          refine own_go (fun tt_ kk_ => XS.goto X21.here hx rfl (pc0 := 66) (pc' := 14) rfl (hb hby d5_66) (by decide) (by decide) kk_) ?_
          show Go p.tables e below _ (T21.setTop (mkF m 14 #[.val (.ref b), .val (.long q), .second, .val (.ref v), .val (.int (ix ((own_hm q + (t + 1)) % 16))), .unset] []))
          exact ih (t + 1) (by omega) (R.succ hc5 hc17) T21 _ X21 N e21
  rw [show own_hm q = (own_hm q + 0) % 16 by have := own_hm_lt q; omega]
  exact loop 16 0 (by omega) (own_Run.zero _ _ _ _) T3 _ X3 N3 e3
theorem d11_0 : decode prog_24_method_6_code 0 = .ok (.aload_n 0, 1) := by decide +kernel
theorem d11_1 : decode prog_24_method_6_code 1 = .ok (.lload_n 1, 1) := by decide +kernel
theorem d11_2 : decode prog_24_method_6_code 2 = .ok (.invokevirtual 17, 3) := by decide +kernel
theorem d11_5 : decode prog_24_method_6_code 5 = .ok (.istore_n 3, 1) := by decide +kernel
theorem d11_6 : decode prog_24_method_6_code 6 = .ok (.iload_n 3, 1) := by decide +kernel
theorem d11_7 : decode prog_24_method_6_code 7 = .ok (.ifCond .ge 5, 3) := by decide +kernel
theorem d11_10 : decode prog_24_method_6_code 10 = .ok (.aconst_null, 1) := by decide +kernel
theorem d11_11 : decode prog_24_method_6_code 11 = .ok (.areturn, 1) := by decide +kernel
theorem d11_12 : decode prog_24_method_6_code 12 = .ok (.aload_n 0, 1) := by decide +kernel
theorem d11_13 : decode prog_24_method_6_code 13 = .ok (.iload_n 3, 1) := by decide +kernel
theorem d11_14 : decode prog_24_method_6_code 14 = .ok (.invokevirtual 21, 3) := by decide +kernel
theorem d11_17 : decode prog_24_method_6_code 17 = .ok (.astore 4, 2) := by decide +kernel
theorem d11_19 : decode prog_24_method_6_code 19 = .ok (.iload_n 3, 1) := by decide +kernel
theorem d11_20 : decode prog_24_method_6_code 20 = .ok (.istore 5, 2) := by decide +kernel
theorem d11_22 : decode prog_24_method_6_code 22 = .ok (.iload 5, 2) := by decide +kernel
theorem d11_24 : decode prog_24_method_6_code 24 = .ok (.iconst 1, 1) := by decide +kernel
theorem d11_25 : decode prog_24_method_6_code 25 = .ok (.iadd, 1) := by decide +kernel
theorem d11_26 : decode prog_24_method_6_code 26 = .ok (.aload_n 0, 1) := by decide +kernel
theorem d11_27 : decode prog_24_method_6_code 27 = .ok (.getfield 43, 3) := by decide +kernel
theorem d11_30 : decode prog_24_method_6_code 30 = .ok (.iand, 1) := by decide +kernel
theorem d11_31 : decode prog_24_method_6_code 31 = .ok (.istore 6, 2) := by decide +kernel
theorem d11_33 : decode prog_24_method_6_code 33 = .ok (.aload_n 0, 1) := by decide +kernel
theorem d11_34 : decode prog_24_method_6_code 34 = .ok (.getfield 35, 3) := by decide +kernel
theorem d11_37 : decode prog_24_method_6_code 37 = .ok (.iload 6, 2) := by decide +kernel
theorem d11_39 : decode prog_24_method_6_code 39 = .ok (.aaload, 1) := by decide +kernel
theorem d11_40 : decode prog_24_method_6_code 40 = .ok (.ifnull 81, 3) := by decide +kernel
theorem d11_43 : decode prog_24_method_6_code 43 = .ok (.iload 6, 2) := by decide +kernel
theorem d11_45 : decode prog_24_method_6_code 45 = .ok (.aload_n 0, 1) := by decide +kernel
theorem d11_46 : decode prog_24_method_6_code 46 = .ok (.aload_n 0, 1) := by decide +kernel
theorem d11_47 : decode prog_24_method_6_code 47 = .ok (.getfield 39, 3) := by decide +kernel
theorem d11_50 : decode prog_24_method_6_code 50 = .ok (.iload 6, 2) := by decide +kernel
theorem d11_52 : decode prog_24_method_6_code 52 = .ok (.laload, 1) := by decide +kernel
theorem d11_53 : decode prog_24_method_6_code 53 = .ok (.invokevirtual 32, 3) := by decide +kernel
theorem d11_56 : decode prog_24_method_6_code 56 = .ok (.isub, 1) := by decide +kernel
theorem d11_57 : decode prog_24_method_6_code 57 = .ok (.aload_n 0, 1) := by decide +kernel
theorem d11_58 : decode prog_24_method_6_code 58 = .ok (.getfield 43, 3) := by decide +kernel
theorem d11_61 : decode prog_24_method_6_code 61 = .ok (.iand, 1) := by decide +kernel
theorem d11_62 : decode prog_24_method_6_code 62 = .ok (.iload 6, 2) := by decide +kernel
theorem d11_64 : decode prog_24_method_6_code 64 = .ok (.iload 5, 2) := by decide +kernel
theorem d11_66 : decode prog_24_method_6_code 66 = .ok (.isub, 1) := by decide +kernel
theorem d11_67 : decode prog_24_method_6_code 67 = .ok (.aload_n 0, 1) := by decide +kernel
theorem d11_68 : decode prog_24_method_6_code 68 = .ok (.getfield 43, 3) := by decide +kernel
theorem d11_71 : decode prog_24_method_6_code 71 = .ok (.iand, 1) := by decide +kernel
theorem d11_72 : decode prog_24_method_6_code 72 = .ok (.if_icmp .lt 35, 3) := by decide +kernel
theorem d11_75 : decode prog_24_method_6_code 75 = .ok (.aload_n 0, 1) := by decide +kernel
theorem d11_76 : decode prog_24_method_6_code 76 = .ok (.getfield 39, 3) := by decide +kernel
theorem d11_79 : decode prog_24_method_6_code 79 = .ok (.iload 5, 2) := by decide +kernel
theorem d11_81 : decode prog_24_method_6_code 81 = .ok (.aload_n 0, 1) := by decide +kernel
theorem d11_82 : decode prog_24_method_6_code 82 = .ok (.getfield 39, 3) := by decide +kernel
theorem d11_85 : decode prog_24_method_6_code 85 = .ok (.iload 6, 2) := by decide +kernel
theorem d11_87 : decode prog_24_method_6_code 87 = .ok (.laload, 1) := by decide +kernel
theorem d11_88 : decode prog_24_method_6_code 88 = .ok (.lastore, 1) := by decide +kernel
theorem d11_89 : decode prog_24_method_6_code 89 = .ok (.aload_n 0, 1) := by decide +kernel
theorem d11_90 : decode prog_24_method_6_code 90 = .ok (.getfield 35, 3) := by decide +kernel
theorem d11_93 : decode prog_24_method_6_code 93 = .ok (.iload 5, 2) := by decide +kernel
theorem d11_95 : decode prog_24_method_6_code 95 = .ok (.aload_n 0, 1) := by decide +kernel
theorem d11_96 : decode prog_24_method_6_code 96 = .ok (.getfield 35, 3) := by decide +kernel
theorem d11_99 : decode prog_24_method_6_code 99 = .ok (.iload 6, 2) := by decide +kernel
theorem d11_101 : decode prog_24_method_6_code 101 = .ok (.aaload, 1) := by decide +kernel
theorem d11_102 : decode prog_24_method_6_code 102 = .ok (.aastore, 1) := by decide +kernel
theorem d11_103 : decode prog_24_method_6_code 103 = .ok (.iload 6, 2) := by decide +kernel
theorem d11_105 : decode prog_24_method_6_code 105 = .ok (.istore 5, 2) := by decide +kernel
theorem d11_107 : decode prog_24_method_6_code 107 = .ok (.iload 6, 2) := by decide +kernel
theorem d11_109 : decode prog_24_method_6_code 109 = .ok (.iconst 1, 1) := by decide +kernel
theorem d11_110 : decode prog_24_method_6_code 110 = .ok (.iadd, 1) := by decide +kernel
theorem d11_111 : decode prog_24_method_6_code 111 = .ok (.aload_n 0, 1) := by decide +kernel
theorem d11_112 : decode prog_24_method_6_code 112 = .ok (.getfield 43, 3) := by decide +kernel
theorem d11_115 : decode prog_24_method_6_code 115 = .ok (.iand, 1) := by decide +kernel
theorem d11_116 : decode prog_24_method_6_code 116 = .ok (.istore 6, 2) := by decide +kernel
theorem d11_118 : decode prog_24_method_6_code 118 = .ok (.goto (-85), 3) := by decide +kernel
theorem d11_121 : decode prog_24_method_6_code 121 = .ok (.aload_n 0, 1) := by decide +kernel
theorem d11_122 : decode prog_24_method_6_code 122 = .ok (.getfield 35, 3) := by decide +kernel
theorem d11_125 : decode prog_24_method_6_code 125 = .ok (.iload 5, 2) := by decide +kernel
theorem d11_127 : decode prog_24_method_6_code 127 = .ok (.aconst_null, 1) := by decide +kernel
theorem d11_128 : decode prog_24_method_6_code 128 = .ok (.aastore, 1) := by decide +kernel
theorem d11_129 : decode prog_24_method_6_code 129 = .ok (.aload_n 0, 1) := by decide +kernel
theorem d11_130 : decode prog_24_method_6_code 130 = .ok (.dup, 1) := by decide +kernel
theorem d11_131 : decode prog_24_method_6_code 131 = .ok (.getfield 13, 3) := by decide +kernel
theorem d11_134 : decode prog_24_method_6_code 134 = .ok (.iconst 1, 1) := by decide +kernel
theorem d11_135 : decode prog_24_method_6_code 135 = .ok (.isub, 1) := by decide +kernel
theorem d11_136 : decode prog_24_method_6_code 136 = .ok (.putfield 13, 3) := by decide +kernel
theorem d11_139 : decode prog_24_method_6_code 139 = .ok (.aload 4, 2) := by decide +kernel
theorem d11_141 : decode prog_24_method_6_code 141 = .ok (.areturn, 1) := by decide +kernel
theorem ef_rm_remove (m : MethodId) (x0 : Addr) (x1 : Int64) : entryFrame m #[(.ref x0), (.long x1)] 7 = mkF m 0 #[.val (.ref x0), .val (.long x1), .second, .unset, .unset, .unset, .unset] [] := by first | (simp [entryFrame, mkF, argsToLocals, Value.category]; done) | rfl
set_option maxRecDepth 65536 in
set_option maxHeartbeats 40000000 in
theorem rm_remove (l : Launch) (Z : State) (a0 : Array Value) (hw : ∀ d ∈ tables_1, d.before a0 Z = true) (ws : List Jvm.Cond) (b ka va : Addr) (ks : Nat → Int64) (vs : Nat → Value) (G : Int64 → Value) (n : Nat) (q : Int64) (h0 : Heap) (n0 : Nat) (M : own_Map Z h0 n0 b ka va ks vs n) (RR : own_Rep own_hm ks vs G n) (hn : n < 16) (OO : Old Z n0 h0) :
    MetFree l (⟨"com/example/rootlet/rootlet/IdMap", "remove", "(J)Ljava/lang/Object;"⟩ : MethodName) (head1 (Jvm.Cond.code (⟨"com/example/rootlet/rootlet/IdMap", "remove", "(J)Ljava/lang/Object;"⟩ : MethodName) prog_24_method_6_code 7 (some (.object "java/lang/Object")) :: ws) ({ frames := 2, cells := 0, slots := 0, locals := 31 } : Room)) (fun aa U => aa = #[(.ref b), (.long q)] ∧ Z.Warmed39 U.vm ∧ U.heap = h0) (fun _ _ _ _ _ => True) (fun _ U o U' => ∃ v_ L_, o = .returned v_ ∧ own_QM Z n0 h0.size b ka va (own_upd G q .null) (if G q = .null then n else n - 1) (G q) v_ U'.heap L_ ∧ FrameEnd U o U' L_ ({ frames := 2, cells := 0, slots := 0, locals := 31 } : Room).cells ({ frames := 2, cells := 0, slots := 0, locals := 31 } : Room).slots) := by
  refine MetFree.of_bodySF (plainFor_of_name pn_0) hisR ?_
  intro p e s m args below meth c s₁ Bd hml0 hP hK
  obtain ⟨rfl, hZ, hh⟩ := hP
  have hx := Bd.exec
  have hby := Bd.bytes
  have hlk := Bd.notSynchronized
  have hml : c.maxLocals = 7 := hml0
  have hown : s.vm.findClass "com/example/rootlet/rootlet/IdMap" = some m.cls := by have q := findClass_of_methodNamed Bd.named; exact q
  have X0 : Stand p l e ({ frames := 2, cells := 0, slots := 0, locals := 31 } : Room) s m #[(.ref b), (.long q)] below meth c s₁ [] 0 0 := Stand.of_body Bd
  have e0 : s₁.heap = h0 := by rw [← hh, Bd.state]; rfl
  have N0 := Fr.nil n0
  show Go p.tables e below (Fin s below (own_QM Z n0 h0.size b ka va (own_upd G q .null) (if G q = .null then n else n - 1) (G q)) ({ frames := 2, cells := 0, slots := 0, locals := 31 } : Room).cells ({ frames := 2, cells := 0, slots := 0, locals := 31 } : Room).slots) (s₁.setTop (entryFrame m #[(.ref b), (.long q)] 7))
  refine own_go (fun tt_ kk_ => castTop (ef_rm_remove m b q) kk_) ?_
  show Go p.tables e below _ (s₁.setTop (mkF m 0 #[.val (.ref b), .val (.long q), .second, .unset, .unset, .unset, .unset] []))
  have MM := M
  obtain ⟨AA, EX, ⟨Fk, Fv, Fm, Fs⟩, ⟨ck, K1, K2, K3⟩, ⟨cv, V1, V2, V3, V4⟩, DD⟩ := MM
  refine own_go (fun tt_ kk_ => XS.aloadN X0.here hx rfl (hb hby d11_0) rfl rfl kk_) ?_
  show Go p.tables e below _ (s₁.setTop (mkF m 1 #[.val (.ref b), .val (.long q), .second, .unset, .unset, .unset, .unset] [(.ref b)]))
  refine own_go (fun tt_ kk_ => XT.lloadN X0.here hx rfl (hb hby d11_1) rfl kk_) ?_
  show Go p.tables e below _ (s₁.setTop (mkF m 2 #[.val (.ref b), .val (.long q), .second, .unset, .unset, .unset, .unset] [(.long q), (.ref b)]))
  obtain ⟨cq1, q1a, q1b⟩ := (EX).cell
  obtain ⟨v1, _, ⟨T1, L1, k1, n1⟩, -, X1, ⟨Lc1, hQ1, l1, y1, z1⟩, st1⟩ := X0.privateBack hx (y := (⟨"com/example/rootlet/rootlet/IdMap", "find", "(J)I"⟩ : MethodName)) hown (mvT hZ (hw _ (List.mem_of_getElem? (i := 71) rfl))) (mvT hZ (hw _ (List.mem_of_getElem? (i := 72) rfl))) (own_selp (z := (⟨"com/example/rootlet/rootlet/IdMap", "put", "(JLjava/lang/Object;)Ljava/lang/Object;"⟩ : MethodName)) (mvT hZ (hw _ (List.mem_of_getElem? (i := 32) rfl))) rfl (mvP hZ (hw _ (List.mem_of_getElem? (i := 73) rfl))) (mvT hZ (hw _ (List.mem_of_getElem? (i := 72) rfl))) (by decide)) (Cond.privateMethod_at (mvP hZ (hw _ (List.mem_of_getElem? (i := 73) rfl)) (args := #[]))) (mvT hZ (hw _ (List.mem_of_getElem? (i := 74) rfl))) (by decide) (backOf (W := 0) (rm_find l Z a0 hw [] b ka va ks vs G n q h0 n0 M RR (by omega)) hZ (hw _ (List.mem_of_getElem? (i := 74) rfl)) (hw _ (List.mem_of_getElem? (i := 2) rfl)) (by decide) (by decide)) (g := (mkF m 2 #[.val (.ref b), .val (.long q), .second, .unset, .unset, .unset, .unset] [(.long q), (.ref b)])) rfl (by rw [hml]; rfl) (Steps.refl _) (a := b) (by rw [e0]; exact q1a) q1b (argsL := [(.long q)]) (rest := []) (lenOf pd_0 rfl) rfl (by show 2 * 0 + _ ≤ _; exact Nat.le_of_eq rfl) (hb hby d11_2) (fun _ _ => ⟨rfl, e0, (by decide : 0 + 0 ≤ _), (by decide : 0 + 0 ≤ _)⟩)
  dsimp only [Pt.U, Pt.locs, Pt.cells, Pt.slots] at X1 l1 y1 z1 st1 hQ1
  subst y1 z1
  obtain ⟨⟨r1, hv1, hr1⟩, N1q, e1⟩ := hQ1
  subst hv1
  have N1 : Fr n0 L1 := by rw [l1]; exact Fr.app N0 N1q
  refine own_go (fun tt_ kk_ => st1.trans kk_) ?_
  show Go p.tables e below _ (T1.setTop (mkF m 5 #[.val (.ref b), .val (.long q), .second, .unset, .unset, .unset, .unset] [(.int r1)]))
  refine own_go (fun tt_ kk_ => XS.istoreN X1.here hx rfl (hb hby d11_5) rfl (l' := #[.val (.ref b), .val (.long q), .second, .val (.int r1), .unset, .unset, .unset]) rfl kk_) ?_
  show Go p.tables e below _ (T1.setTop (mkF m 6 #[.val (.ref b), .val (.long q), .second, .val (.int r1), .unset, .unset, .unset] []))
  rcases hr1 with ⟨p0, hp0, rfl, hnn, hkp⟩ | ⟨rfl, hG0⟩
  · show Go p.tables e below _ (T1.setTop (mkF m 6 #[.val (.ref b), .val (.long q), .second, .val (.int (ix p0)), .unset, .unset, .unset] []))
    refine own_go (fun tt_ kk_ => XS.iloadN X1.here hx rfl (hb hby d11_6) rfl kk_) ?_
    show Go p.tables e below _ (T1.setTop (mkF m 7 #[.val (.ref b), .val (.long q), .second, .val (.int (ix p0)), .unset, .unset, .unset] [(.int (ix p0))]))
    refine own_go (fun tt_ kk_ => XS.ifYes X1.here hx rfl (pc0 := 7) (pc' := 12) rfl (hb hby d11_7) rfl (XT.i0_ge_t (ix_nn p0 hp0)) (by decide) (by decide) kk_) ?_
    show Go p.tables e below _ (T1.setTop (mkF m 12 #[.val (.ref b), .val (.long q), .second, .val (.int (ix p0)), .unset, .unset, .unset] []))
    refine own_go (fun tt_ kk_ => XS.aloadN X1.here hx rfl (hb hby d11_12) rfl rfl kk_) ?_
    show Go p.tables e below _ (T1.setTop (mkF m 13 #[.val (.ref b), .val (.long q), .second, .val (.int (ix p0)), .unset, .unset, .unset] [(.ref b)]))
    refine own_go (fun tt_ kk_ => XS.iloadN X1.here hx rfl (hb hby d11_13) rfl kk_) ?_
    show Go p.tables e below _ (T1.setTop (mkF m 14 #[.val (.ref b), .val (.long q), .second, .val (.int (ix p0)), .unset, .unset, .unset] [(.int (ix p0)), (.ref b)]))
    obtain ⟨cq2, q2a, q2b⟩ := (EX).cell
    obtain ⟨v2, _, ⟨T2, L2, k2, n2⟩, -, X2, ⟨Lc2, hQ2, l2, y2, z2⟩, st2⟩ := X1.privateBack hx (y := (⟨"com/example/rootlet/rootlet/IdMap", "value", "(I)Ljava/lang/Object;"⟩ : MethodName)) hown (mvT hZ (hw _ (List.mem_of_getElem? (i := 55) rfl))) (mvT hZ (hw _ (List.mem_of_getElem? (i := 56) rfl))) (own_selp (z := (⟨"com/example/rootlet/rootlet/IdMap", "put", "(JLjava/lang/Object;)Ljava/lang/Object;"⟩ : MethodName)) (mvT hZ (hw _ (List.mem_of_getElem? (i := 32) rfl))) rfl (mvP hZ (hw _ (List.mem_of_getElem? (i := 57) rfl))) (mvT hZ (hw _ (List.mem_of_getElem? (i := 56) rfl))) (by decide)) (Cond.privateMethod_at (mvP hZ (hw _ (List.mem_of_getElem? (i := 57) rfl)) (args := #[]))) (mvT hZ (hw _ (List.mem_of_getElem? (i := 58) rfl))) (by decide) (backOf (W := 0) (rm_value l Z a0 hw [] b ka va ks vs G n p0 h0 n0 M RR hp0) hZ (hw _ (List.mem_of_getElem? (i := 58) rfl)) (hw _ (List.mem_of_getElem? (i := 2) rfl)) (by decide) (by decide)) (g := (mkF m 14 #[.val (.ref b), .val (.long q), .second, .val (.int (ix p0)), .unset, .unset, .unset] [(.int (ix p0)), (.ref b)])) rfl (by rw [hml]; rfl) (Steps.refl _) (a := b) (by rw [e1]; exact q2a) q2b (argsL := [(.int (ix p0))]) (rest := []) (lenOf pd_2 rfl) rfl (by show 2 * 0 + _ ≤ _; exact Nat.le_of_eq rfl) (hb hby d11_14) (fun _ _ => ⟨rfl, e1, (by decide : 0 + 0 ≤ _), (by decide : 0 + 0 ≤ _)⟩)
    dsimp only [Pt.U, Pt.locs, Pt.cells, Pt.slots] at X2 l2 y2 z2 st2 hQ2
    subst y2 z2
    obtain ⟨hv2, N2q, e2⟩ := hQ2
    subst hv2
    have N2 : Fr n0 L2 := by rw [l2]; exact Fr.app N1 N2q
    refine own_go (fun tt_ kk_ => st2.trans kk_) ?_
    show Go p.tables e below _ (T2.setTop (mkF m 17 #[.val (.ref b), .val (.long q), .second, .val (.int (ix p0)), .unset, .unset, .unset] [(vs p0)]))
    refine own_go (fun tt_ kk_ => XS.astoreS X2.here hx rfl (hb hby d11_17) rfl (M.isRef hp0) (XT.cat1 (M.isRef hp0)) rfl (Or.inl rfl) kk_) ?_
    show Go p.tables e below _ (T2.setTop (mkF m 19 #[.val (.ref b), .val (.long q), .second, .val (.int (ix p0)), .val (vs p0), .unset, .unset] []))
    refine own_go (fun tt_ kk_ => XS.iloadN X2.here hx rfl (hb hby d11_19) rfl kk_) ?_
    show Go p.tables e below _ (T2.setTop (mkF m 20 #[.val (.ref b), .val (.long q), .second, .val (.int (ix p0)), .val (vs p0), .unset, .unset] [(.int (ix p0))]))
    refine own_go (fun tt_ kk_ => XS.istore X2.here hx rfl (hb hby d11_20) rfl (l' := #[.val (.ref b), .val (.long q), .second, .val (.int (ix p0)), .val (vs p0), .val (.int (ix p0)), .unset]) rfl kk_) ?_
    show Go p.tables e below _ (T2.setTop (mkF m 22 #[.val (.ref b), .val (.long q), .second, .val (.int (ix p0)), .val (vs p0), .val (.int (ix p0)), .unset] []))
    refine own_go (fun tt_ kk_ => XS.iload X2.here hx rfl (hb hby d11_22) rfl kk_) ?_
    show Go p.tables e below _ (T2.setTop (mkF m 24 #[.val (.ref b), .val (.long q), .second, .val (.int (ix p0)), .val (vs p0), .val (.int (ix p0)), .unset] [(.int (ix p0))]))
    refine own_go (fun tt_ kk_ => XS.iconst X2.here hx rfl (hb hby d11_24) kk_) ?_
    show Go p.tables e below _ (T2.setTop (mkF m 25 #[.val (.ref b), .val (.long q), .second, .val (.int (ix p0)), .val (vs p0), .val (.int (ix p0)), .unset] [(.int (1 : Int32)), (.int (ix p0))]))
    refine own_go (fun tt_ kk_ => XS.iadd X2.here hx rfl (hb hby d11_25) rfl kk_) ?_
    show Go p.tables e below _ (T2.setTop (mkF m 26 #[.val (.ref b), .val (.long q), .second, .val (.int (ix p0)), .val (vs p0), .val (.int (ix p0)), .unset] [(.int ((ix p0) + (1 : Int32)))]))
    refine own_go (fun tt_ kk_ => XS.aloadN X2.here hx rfl (hb hby d11_26) rfl rfl kk_) ?_
    show Go p.tables e below _ (T2.setTop (mkF m 27 #[.val (.ref b), .val (.long q), .second, .val (.int (ix p0)), .val (vs p0), .val (.int (ix p0)), .unset] [(.ref b), (.int ((ix p0) + (1 : Int32)))]))
    obtain ⟨T3, X3, e3, st3⟩ := getF X2 hx hZ hown (host := "") (Or.inl (hw _ (List.mem_of_getElem? (i := 20) rfl))) Via.refl e2 Fm (g := (mkF m 27 #[.val (.ref b), .val (.long q), .second, .val (.int (ix p0)), .val (vs p0), .val (.int (ix p0)), .unset] [(.ref b), (.int ((ix p0) + (1 : Int32)))])) rfl rfl (hb hby d11_27)
    refine own_go (fun tt_ kk_ => st3 tt_ kk_) ?_
    show Go p.tables e below _ (T3.setTop (mkF m 30 #[.val (.ref b), .val (.long q), .second, .val (.int (ix p0)), .val (vs p0), .val (.int (ix p0)), .unset] [(.int (15 : Int32)), (.int ((ix p0) + (1 : Int32)))]))
    refine own_go (fun tt_ kk_ => XS.iand X3.here hx rfl (hb hby d11_30) rfl kk_) ?_
    show Go p.tables e below _ (T3.setTop (mkF m 31 #[.val (.ref b), .val (.long q), .second, .val (.int (ix p0)), .val (vs p0), .val (.int (ix p0)), .unset] [(.int (((ix p0) + (1 : Int32)) &&& (15 : Int32)))]))
    rw [ix_next _ hp0]
    show Go p.tables e below _ (T3.setTop (mkF m 31 #[.val (.ref b), .val (.long q), .second, .val (.int (ix p0)), .val (vs p0), .val (.int (ix p0)), .unset] [(.int (ix ((p0 + 1) % 16)))]))
    refine own_go (fun tt_ kk_ => XS.istore X3.here hx rfl (hb hby d11_31) rfl (l' := #[.val (.ref b), .val (.long q), .second, .val (.int (ix p0)), .val (vs p0), .val (.int (ix p0)), .val (.int (ix ((p0 + 1) % 16)))]) rfl kk_) ?_
    show Go p.tables e below _ (T3.setTop (mkF m 33 #[.val (.ref b), .val (.long q), .second, .val (.int (ix p0)), .val (vs p0), .val (.int (ix p0)), .val (.int (ix ((p0 + 1) % 16)))] []))
    obtain ⟨z, hz, hvz⟩ := own_hole RR.2.2.2 (show n < 16 by omega)
    have gG := own_found RR hp0 hnn hkp
    have gN : G q ≠ .null := by rw [gG]; exact hnn
    have loop : ∀ f ks2 vs2 gp ii, own_Gap own_hm ks2 vs2 (own_upd G q .null) n gp ii → vs2 z = .null → own_dist ii z < f → ∀ T L h, Stand p l e ({ frames := 2, cells := 0, slots := 0, locals := 31 } : Room) s m #[(.ref b), (.long q)] below meth c T L 0 0 → Fr n0 L → T.heap = h → own_Map Z h n0 b ka va ks2 vs2 n → Old Z n0 h → h0.size ≤ h.size → Go p.tables e below (Fin s below (own_QM Z n0 h0.size b ka va (own_upd G q .null) (if G q = .null then n else n - 1) (G q)) ({ frames := 2, cells := 0, slots := 0, locals := 31 } : Room).cells ({ frames := 2, cells := 0, slots := 0, locals := 31 } : Room).slots) (T.setTop (mkF m 33 #[.val (.ref b), .val (.long q), .second, .val (.int (ix p0)), .val (vs p0), .val (.int (ix gp)), .val (.int (ix ii))] [])) := by
      intro f
      induction f with
      | zero => intro ks2 vs2 gp ii R hv hd; exact absurd hd (Nat.not_lt_zero _)
      | succ f ih =>
        intro ks2 vs2 gp ii R hv hd T L h X N e' M' O' hsz
        have hg := R.1.1
        have hi := R.1.2.1
        have hvg := R.1.2.2.1
        have MMa := M'
        obtain ⟨AAa, EXa, ⟨Fka, Fva, Fma, Fsa⟩, ⟨cka, K1a, K2a, K3a⟩, ⟨cva, V1a, V2a, V3a, V4a⟩, DDa⟩ := MMa
        show Go p.tables e below _ (T.setTop (mkF m 33 #[.val (.ref b), .val (.long q), .second, .val (.int (ix p0)), .val (vs p0), .val (.int (ix gp)), .val (.int (ix ii))] []))
        refine own_go (fun tt_ kk_ => XS.aloadN X.here hx rfl (hb hby d11_33) rfl rfl kk_) ?_
        show Go p.tables e below _ (T.setTop (mkF m 34 #[.val (.ref b), .val (.long q), .second, .val (.int (ix p0)), .val (vs p0), .val (.int (ix gp)), .val (.int (ix ii))] [(.ref b)]))
        obtain ⟨T4, X4, e4, st4⟩ := getF X hx hZ hown (host := "") (Or.inl (hw _ (List.mem_of_getElem? (i := 15) rfl))) Via.refl e' Fva (g := (mkF m 34 #[.val (.ref b), .val (.long q), .second, .val (.int (ix p0)), .val (vs p0), .val (.int (ix gp)), .val (.int (ix ii))] [(.ref b)])) rfl rfl (hb hby d11_34)
        refine own_go (fun tt_ kk_ => st4 tt_ kk_) ?_
        show Go p.tables e below _ (T4.setTop (mkF m 37 #[.val (.ref b), .val (.long q), .second, .val (.int (ix p0)), .val (vs p0), .val (.int (ix gp)), .val (.int (ix ii))] [(.ref va)]))
        refine own_go (fun tt_ kk_ => XS.iload X4.here hx rfl (hb hby d11_37) rfl kk_) ?_
        show Go p.tables e below _ (T4.setTop (mkF m 39 #[.val (.ref b), .val (.long q), .second, .val (.int (ix p0)), .val (vs p0), .val (.int (ix gp)), .val (.int (ix ii))] [(.int (ix ii)), (.ref va)]))
        refine own_go (fun tt_ kk_ => X4.aaload hx (j := (ix ii)) (v := (vs2 ii)) (by rw [e4]; exact V1a.1) (State.isArrayOf_alike hZ.alike V1a.2.1) rfl V1a.2.2 (ix_in hi V2a) (by rw [ix_clamp hi]; exact V4a _ hi) (g := (mkF m 39 #[.val (.ref b), .val (.long q), .second, .val (.int (ix p0)), .val (vs p0), .val (.int (ix gp)), .val (.int (ix ii))] [(.int (ix ii)), (.ref va)])) rfl rfl (hb hby d11_39) tt_ kk_) ?_
        show Go p.tables e below _ (T4.setTop (mkF m 40 #[.val (.ref b), .val (.long q), .second, .val (.int (ix p0)), .val (vs p0), .val (.int (ix gp)), .val (.int (ix ii))] [(vs2 ii)]))
        by_cases hc5 : (vs2 ii) = .null
        · refine own_go (fun tt_ kk_ => XT.nullYes X4.here hx rfl (pc0 := 40) (pc' := 121) rfl (hb hby d11_40) rfl hc5 (by decide) (by decide) kk_) ?_
          show Go p.tables e below _ (T4.setTop (mkF m 121 #[.val (.ref b), .val (.long q), .second, .val (.int (ix p0)), .val (vs p0), .val (.int (ix gp)), .val (.int (ix ii))] []))
          refine own_go (fun tt_ kk_ => XS.aloadN X4.here hx rfl (hb hby d11_121) rfl rfl kk_) ?_
          show Go p.tables e below _ (T4.setTop (mkF m 122 #[.val (.ref b), .val (.long q), .second, .val (.int (ix p0)), .val (vs p0), .val (.int (ix gp)), .val (.int (ix ii))] [(.ref b)]))
          obtain ⟨T6, X6, e6, st6⟩ := getF X4 hx hZ hown (host := "") (Or.inl (hw _ (List.mem_of_getElem? (i := 15) rfl))) Via.refl e4 Fva (g := (mkF m 122 #[.val (.ref b), .val (.long q), .second, .val (.int (ix p0)), .val (vs p0), .val (.int (ix gp)), .val (.int (ix ii))] [(.ref b)])) rfl rfl (hb hby d11_122)
          refine own_go (fun tt_ kk_ => st6 tt_ kk_) ?_
          show Go p.tables e below _ (T6.setTop (mkF m 125 #[.val (.ref b), .val (.long q), .second, .val (.int (ix p0)), .val (vs p0), .val (.int (ix gp)), .val (.int (ix ii))] [(.ref va)]))
          refine own_go (fun tt_ kk_ => XS.iload X6.here hx rfl (hb hby d11_125) rfl kk_) ?_
          show Go p.tables e below _ (T6.setTop (mkF m 127 #[.val (.ref b), .val (.long q), .second, .val (.int (ix p0)), .val (vs p0), .val (.int (ix gp)), .val (.int (ix ii))] [(.int (ix gp)), (.ref va)]))
          refine own_go (fun tt_ kk_ => XS.aconstNull X6.here hx rfl (hb hby d11_127) kk_) ?_
          show Go p.tables e below _ (T6.setTop (mkF m 128 #[.val (.ref b), .val (.long q), .second, .val (.int (ix p0)), .val (vs p0), .val (.int (ix gp)), .val (.int (ix ii))] [.null, (.int (ix gp)), (.ref va)]))
          obtain ⟨T7, h7, X7, e7, W7, st7⟩ := stR X6 hx hZ e6 V1a (j := (ix gp)) (ix_in hg V2a) rfl (M'.sto (hw _ (List.mem_of_getElem? (i := 54) rfl)) (Or.inl rfl)) (g := (mkF m 128 #[.val (.ref b), .val (.long q), .second, .val (.int (ix p0)), .val (vs p0), .val (.int (ix gp)), .val (.int (ix ii))] [.null, (.int (ix gp)), (.ref va)])) rfl rfl (hb hby d11_128)
          have N7 := Fr.snoc X7 N AAa.2.2.1
          have M7 := M'.vals hg (Or.inl rfl) W7
          have O7 := O'.wr W7 AAa.2.2.1
          have sz7 : h0.size ≤ h7.size := by rw [W7.size]; exact hsz
          have MM7 := M7
          obtain ⟨AA7, EX7, ⟨Fk7, Fv7, Fm7, Fs7⟩, ⟨ck7, K17, K27, K37⟩, ⟨cv7, V17, V27, V37, V47⟩, DD7⟩ := MM7
          refine own_go (fun tt_ kk_ => st7 tt_ kk_) ?_
          show Go p.tables e below _ (T7.setTop (mkF m 129 #[.val (.ref b), .val (.long q), .second, .val (.int (ix p0)), .val (vs p0), .val (.int (ix gp)), .val (.int (ix ii))] []))
          refine own_go (fun tt_ kk_ => XS.aloadN X7.here hx rfl (hb hby d11_129) rfl rfl kk_) ?_
          show Go p.tables e below _ (T7.setTop (mkF m 130 #[.val (.ref b), .val (.long q), .second, .val (.int (ix p0)), .val (vs p0), .val (.int (ix gp)), .val (.int (ix ii))] [(.ref b)]))
          refine own_go (fun tt_ kk_ => XS.dup X7.here hx rfl (hb hby d11_130) rfl rfl kk_) ?_
          show Go p.tables e below _ (T7.setTop (mkF m 131 #[.val (.ref b), .val (.long q), .second, .val (.int (ix p0)), .val (vs p0), .val (.int (ix gp)), .val (.int (ix ii))] [(.ref b), (.ref b)]))
          obtain ⟨T8, X8, e8, st8⟩ := getF X7 hx hZ hown (host := "") (Or.inl (hw _ (List.mem_of_getElem? (i := 52) rfl))) Via.refl e7 Fs7 (g := (mkF m 131 #[.val (.ref b), .val (.long q), .second, .val (.int (ix p0)), .val (vs p0), .val (.int (ix gp)), .val (.int (ix ii))] [(.ref b), (.ref b)])) rfl rfl (hb hby d11_131)
          refine own_go (fun tt_ kk_ => st8 tt_ kk_) ?_
          show Go p.tables e below _ (T8.setTop (mkF m 134 #[.val (.ref b), .val (.long q), .second, .val (.int (ix p0)), .val (vs p0), .val (.int (ix gp)), .val (.int (ix ii))] [(.int (ix n)), (.ref b)]))
          refine own_go (fun tt_ kk_ => XS.iconst X8.here hx rfl (hb hby d11_134) kk_) ?_
          show Go p.tables e below _ (T8.setTop (mkF m 135 #[.val (.ref b), .val (.long q), .second, .val (.int (ix p0)), .val (vs p0), .val (.int (ix gp)), .val (.int (ix ii))] [(.int (1 : Int32)), (.int (ix n)), (.ref b)]))
          refine own_go (fun tt_ kk_ => XS.isub X8.here hx rfl (hb hby d11_135) rfl kk_) ?_
          show Go p.tables e below _ (T8.setTop (mkF m 136 #[.val (.ref b), .val (.long q), .second, .val (.int (ix p0)), .val (vs p0), .val (.int (ix gp)), .val (.int (ix ii))] [(.int ((ix n) - (1 : Int32))), (.ref b)]))
          rw [ix_pred n (own_cnt_pos hg hvg R.2.2.2.2.2.2.1)]
          show Go p.tables e below _ (T8.setTop (mkF m 136 #[.val (.ref b), .val (.long q), .second, .val (.int (ix p0)), .val (vs p0), .val (.int (ix gp)), .val (.int (ix ii))] [(.int (ix (n - 1))), (.ref b)]))
          obtain ⟨T9, h9, X9, e9, W9, st9⟩ := putF X8 hx hZ hown (host := "") (Or.inl (hw _ (List.mem_of_getElem? (i := 52) rfl))) Via.refl e8 Fs7 EX7 (Or.inl (hw _ (List.mem_of_getElem? (i := 53) rfl))) (hw _ (List.mem_of_getElem? (i := 1) rfl)) (ty := .int) (by decide) rfl rfl (g := (mkF m 136 #[.val (.ref b), .val (.long q), .second, .val (.int (ix p0)), .val (vs p0), .val (.int (ix gp)), .val (.int (ix ii))] [(.int (ix (n - 1))), (.ref b)])) rfl rfl (hb hby d11_136)
          have N9 := Fr.snoc X9 N7 AA7.1
          have M9 := own_Map.sized (hw _ (List.mem_of_getElem? (i := 14) rfl)) (hw _ (List.mem_of_getElem? (i := 16) rfl)) (hw _ (List.mem_of_getElem? (i := 21) rfl)) (hw _ (List.mem_of_getElem? (i := 53) rfl)) M7 W9
          have O9 := O7.wr W9 AA7.1
          have sz9 : h0.size ≤ h9.size := by rw [W9.size]; exact sz7
          have MM9 := M9
          obtain ⟨AA9, EX9, ⟨Fk9, Fv9, Fm9, Fs9⟩, ⟨ck9, K19, K29, K39⟩, ⟨cv9, V19, V29, V39, V49⟩, DD9⟩ := MM9
          refine own_go (fun tt_ kk_ => st9 tt_ kk_) ?_
          show Go p.tables e below _ (T9.setTop (mkF m 139 #[.val (.ref b), .val (.long q), .second, .val (.int (ix p0)), .val (vs p0), .val (.int (ix gp)), .val (.int (ix ii))] []))
          refine own_go (fun tt_ kk_ => XS.aload X9.here hx rfl (hb hby d11_139) rfl (M.isRef hp0) kk_) ?_
          show Go p.tables e below _ (T9.setTop (mkF m 141 #[.val (.ref b), .val (.long q), .second, .val (.int (ix p0)), .val (vs p0), .val (.int (ix gp)), .val (.int (ix ii))] [(vs p0)]))
          exact own_ret X9 hx hlk Bd.returns rfl (Or.inr (Or.inr (Or.inr (Or.inr ⟨rfl, rfl, (M.isRef hp0)⟩)))) (hb hby d11_141) ⟨congrArg some gG.symm, N9, by rw [e9]; exact ⟨O9, sz9⟩, _, _, by rw [e9, if_neg gN]; exact M9, by rw [if_neg gN]; exact own_gap_end own_hm_lt R hc5⟩ (by decide) (by decide)
        · refine own_go (fun tt_ kk_ => XT.nullNo X4.here hx rfl (hb hby d11_40) rfl (M'.isRef hi) hc5 kk_) ?_
          show Go p.tables e below _ (T4.setTop (mkF m 43 #[.val (.ref b), .val (.long q), .second, .val (.int (ix p0)), .val (vs p0), .val (.int (ix gp)), .val (.int (ix ii))] []))
          refine own_go (fun tt_ kk_ => XS.iload X4.here hx rfl (hb hby d11_43) rfl kk_) ?_
          show Go p.tables e below _ (T4.setTop (mkF m 45 #[.val (.ref b), .val (.long q), .second, .val (.int (ix p0)), .val (vs p0), .val (.int (ix gp)), .val (.int (ix ii))] [(.int (ix ii))]))
          refine own_go (fun tt_ kk_ => XS.aloadN X4.here hx rfl (hb hby d11_45) rfl rfl kk_) ?_
          show Go p.tables e below _ (T4.setTop (mkF m 46 #[.val (.ref b), .val (.long q), .second, .val (.int (ix p0)), .val (vs p0), .val (.int (ix gp)), .val (.int (ix ii))] [(.ref b), (.int (ix ii))]))
          refine own_go (fun tt_ kk_ => XS.aloadN X4.here hx rfl (hb hby d11_46) rfl rfl kk_) ?_
          show Go p.tables e below _ (T4.setTop (mkF m 47 #[.val (.ref b), .val (.long q), .second, .val (.int (ix p0)), .val (vs p0), .val (.int (ix gp)), .val (.int (ix ii))] [(.ref b), (.ref b), (.int (ix ii))]))
          obtain ⟨T10, X10, e10, st10⟩ := getF X4 hx hZ hown (host := "") (Or.inl (hw _ (List.mem_of_getElem? (i := 13) rfl))) Via.refl e4 Fka (g := (mkF m 47 #[.val (.ref b), .val (.long q), .second, .val (.int (ix p0)), .val (vs p0), .val (.int (ix gp)), .val (.int (ix ii))] [(.ref b), (.ref b), (.int (ix ii))])) rfl rfl (hb hby d11_47)
          refine own_go (fun tt_ kk_ => st10 tt_ kk_) ?_
          show Go p.tables e below _ (T10.setTop (mkF m 50 #[.val (.ref b), .val (.long q), .second, .val (.int (ix p0)), .val (vs p0), .val (.int (ix gp)), .val (.int (ix ii))] [(.ref ka), (.ref b), (.int (ix ii))]))
          refine own_go (fun tt_ kk_ => XS.iload X10.here hx rfl (hb hby d11_50) rfl kk_) ?_
          show Go p.tables e below _ (T10.setTop (mkF m 52 #[.val (.ref b), .val (.long q), .second, .val (.int (ix p0)), .val (vs p0), .val (.int (ix gp)), .val (.int (ix ii))] [(.int (ix ii)), (.ref ka), (.ref b), (.int (ix ii))]))
          refine own_go (fun tt_ kk_ => X10.laload hx (j := (ix ii)) (v := (.long (ks2 ii))) (by rw [e10]; exact K1a.1) (State.isArrayOf_alike hZ.alike K1a.2.1) K1a.2.2 (ix_in hi K2a) (by rw [ix_clamp hi]; exact K3a _ hi) (g := (mkF m 52 #[.val (.ref b), .val (.long q), .second, .val (.int (ix p0)), .val (vs p0), .val (.int (ix gp)), .val (.int (ix ii))] [(.int (ix ii)), (.ref ka), (.ref b), (.int (ix ii))])) rfl rfl (hb hby d11_52) tt_ kk_) ?_
          show Go p.tables e below _ (T10.setTop (mkF m 53 #[.val (.ref b), .val (.long q), .second, .val (.int (ix p0)), .val (vs p0), .val (.int (ix gp)), .val (.int (ix ii))] [(.long (ks2 ii)), (.ref b), (.int (ix ii))]))
          obtain ⟨cq11, q11a, q11b⟩ := (EXa).cell
          obtain ⟨v11, _, ⟨T11, L11, k11, n11⟩, -, X11, ⟨Lc11, hQ11, l11, y11, z11⟩, st11⟩ := X10.privateBack hx (y := (⟨"com/example/rootlet/rootlet/IdMap", "home", "(J)I"⟩ : MethodName)) hown (mvT hZ (hw _ (List.mem_of_getElem? (i := 46) rfl))) (mvT hZ (hw _ (List.mem_of_getElem? (i := 47) rfl))) (own_selp (z := (⟨"com/example/rootlet/rootlet/IdMap", "put", "(JLjava/lang/Object;)Ljava/lang/Object;"⟩ : MethodName)) (mvT hZ (hw _ (List.mem_of_getElem? (i := 32) rfl))) rfl (mvP hZ (hw _ (List.mem_of_getElem? (i := 48) rfl))) (mvT hZ (hw _ (List.mem_of_getElem? (i := 47) rfl))) (by decide)) (Cond.privateMethod_at (mvP hZ (hw _ (List.mem_of_getElem? (i := 48) rfl)) (args := #[]))) (mvT hZ (hw _ (List.mem_of_getElem? (i := 49) rfl))) (by decide) (backOf (W := 1) (rm_home l Z a0 hw [] b (ks2 ii) h n0 Fma) hZ (hw _ (List.mem_of_getElem? (i := 49) rfl)) (hw _ (List.mem_of_getElem? (i := 2) rfl)) (by decide) (by decide)) (g := (mkF m 53 #[.val (.ref b), .val (.long q), .second, .val (.int (ix p0)), .val (vs p0), .val (.int (ix gp)), .val (.int (ix ii))] [(.long (ks2 ii)), (.ref b), (.int (ix ii))])) rfl (by rw [hml]; rfl) (Steps.refl _) (a := b) (by rw [e10]; exact q11a) q11b (argsL := [(.long (ks2 ii))]) (rest := [(.int (ix ii))]) (lenOf pd_0 rfl) rfl (by show 2 * 0 + _ ≤ _; exact Nat.le_of_eq rfl) (hb hby d11_53) (fun _ _ => ⟨rfl, e10, (by decide : 0 + 0 ≤ _), (by decide : 0 + 0 ≤ _)⟩)
          dsimp only [Pt.U, Pt.locs, Pt.cells, Pt.slots] at X11 l11 y11 z11 st11 hQ11
          subst y11 z11
          obtain ⟨hv11, N11q, e11⟩ := hQ11
          rw [show ((.int (own_hmI (ks2 ii))) : Value) = (.int (ix (own_hm (ks2 ii)))) from congrArg Value.int (own_hm_ix (ks2 ii))] at hv11
          subst hv11
          have N11 : Fr n0 L11 := by rw [l11]; exact Fr.app N N11q
          refine own_go (fun tt_ kk_ => st11.trans kk_) ?_
          show Go p.tables e below _ (T11.setTop (mkF m 56 #[.val (.ref b), .val (.long q), .second, .val (.int (ix p0)), .val (vs p0), .val (.int (ix gp)), .val (.int (ix ii))] [(.int (ix (own_hm (ks2 ii)))), (.int (ix ii))]))
          refine own_go (fun tt_ kk_ => XS.isub X11.here hx rfl (hb hby d11_56) rfl kk_) ?_
          show Go p.tables e below _ (T11.setTop (mkF m 57 #[.val (.ref b), .val (.long q), .second, .val (.int (ix p0)), .val (vs p0), .val (.int (ix gp)), .val (.int (ix ii))] [(.int ((ix ii) - (ix (own_hm (ks2 ii)))))]))
          refine own_go (fun tt_ kk_ => XS.aloadN X11.here hx rfl (hb hby d11_57) rfl rfl kk_) ?_
          show Go p.tables e below _ (T11.setTop (mkF m 58 #[.val (.ref b), .val (.long q), .second, .val (.int (ix p0)), .val (vs p0), .val (.int (ix gp)), .val (.int (ix ii))] [(.ref b), (.int ((ix ii) - (ix (own_hm (ks2 ii)))))]))
          obtain ⟨T12, X12, e12, st12⟩ := getF X11 hx hZ hown (host := "") (Or.inl (hw _ (List.mem_of_getElem? (i := 20) rfl))) Via.refl e11 Fma (g := (mkF m 58 #[.val (.ref b), .val (.long q), .second, .val (.int (ix p0)), .val (vs p0), .val (.int (ix gp)), .val (.int (ix ii))] [(.ref b), (.int ((ix ii) - (ix (own_hm (ks2 ii)))))])) rfl rfl (hb hby d11_58)
          refine own_go (fun tt_ kk_ => st12 tt_ kk_) ?_
          show Go p.tables e below _ (T12.setTop (mkF m 61 #[.val (.ref b), .val (.long q), .second, .val (.int (ix p0)), .val (vs p0), .val (.int (ix gp)), .val (.int (ix ii))] [(.int (15 : Int32)), (.int ((ix ii) - (ix (own_hm (ks2 ii)))))]))
          refine own_go (fun tt_ kk_ => XS.iand X12.here hx rfl (hb hby d11_61) rfl kk_) ?_
          show Go p.tables e below _ (T12.setTop (mkF m 62 #[.val (.ref b), .val (.long q), .second, .val (.int (ix p0)), .val (vs p0), .val (.int (ix gp)), .val (.int (ix ii))] [(.int (((ix ii) - (ix (own_hm (ks2 ii)))) &&& (15 : Int32)))]))
          rw [ix_sub _ hi _ (own_hm_lt _)]
          show Go p.tables e below _ (T12.setTop (mkF m 62 #[.val (.ref b), .val (.long q), .second, .val (.int (ix p0)), .val (vs p0), .val (.int (ix gp)), .val (.int (ix ii))] [(.int (ix (own_dist (own_hm (ks2 ii)) ii)))]))
          refine own_go (fun tt_ kk_ => XS.iload X12.here hx rfl (hb hby d11_62) rfl kk_) ?_
          show Go p.tables e below _ (T12.setTop (mkF m 64 #[.val (.ref b), .val (.long q), .second, .val (.int (ix p0)), .val (vs p0), .val (.int (ix gp)), .val (.int (ix ii))] [(.int (ix ii)), (.int (ix (own_dist (own_hm (ks2 ii)) ii)))]))
          refine own_go (fun tt_ kk_ => XS.iload X12.here hx rfl (hb hby d11_64) rfl kk_) ?_
          show Go p.tables e below _ (T12.setTop (mkF m 66 #[.val (.ref b), .val (.long q), .second, .val (.int (ix p0)), .val (vs p0), .val (.int (ix gp)), .val (.int (ix ii))] [(.int (ix gp)), (.int (ix ii)), (.int (ix (own_dist (own_hm (ks2 ii)) ii)))]))
          refine own_go (fun tt_ kk_ => XS.isub X12.here hx rfl (hb hby d11_66) rfl kk_) ?_
          show Go p.tables e below _ (T12.setTop (mkF m 67 #[.val (.ref b), .val (.long q), .second, .val (.int (ix p0)), .val (vs p0), .val (.int (ix gp)), .val (.int (ix ii))] [(.int ((ix ii) - (ix gp))), (.int (ix (own_dist (own_hm (ks2 ii)) ii)))]))
          refine own_go (fun tt_ kk_ => XS.aloadN X12.here hx rfl (hb hby d11_67) rfl rfl kk_) ?_
          show Go p.tables e below _ (T12.setTop (mkF m 68 #[.val (.ref b), .val (.long q), .second, .val (.int (ix p0)), .val (vs p0), .val (.int (ix gp)), .val (.int (ix ii))] [(.ref b), (.int ((ix ii) - (ix gp))), (.int (ix (own_dist (own_hm (ks2 ii)) ii)))]))
          obtain ⟨T13, X13, e13, st13⟩ := getF X12 hx hZ hown (host := "") (Or.inl (hw _ (List.mem_of_getElem? (i := 20) rfl))) Via.refl e12 Fma (g := (mkF m 68 #[.val (.ref b), .val (.long q), .second, .val (.int (ix p0)), .val (vs p0), .val (.int (ix gp)), .val (.int (ix ii))] [(.ref b), (.int ((ix ii) - (ix gp))), (.int (ix (own_dist (own_hm (ks2 ii)) ii)))])) rfl rfl (hb hby d11_68)
          refine own_go (fun tt_ kk_ => st13 tt_ kk_) ?_
          show Go p.tables e below _ (T13.setTop (mkF m 71 #[.val (.ref b), .val (.long q), .second, .val (.int (ix p0)), .val (vs p0), .val (.int (ix gp)), .val (.int (ix ii))] [(.int (15 : Int32)), (.int ((ix ii) - (ix gp))), (.int (ix (own_dist (own_hm (ks2 ii)) ii)))]))
          refine own_go (fun tt_ kk_ => XS.iand X13.here hx rfl (hb hby d11_71) rfl kk_) ?_
          show Go p.tables e below _ (T13.setTop (mkF m 72 #[.val (.ref b), .val (.long q), .second, .val (.int (ix p0)), .val (vs p0), .val (.int (ix gp)), .val (.int (ix ii))] [(.int (((ix ii) - (ix gp)) &&& (15 : Int32))), (.int (ix (own_dist (own_hm (ks2 ii)) ii)))]))
          rw [ix_sub _ hi _ hg]
          show Go p.tables e below _ (T13.setTop (mkF m 72 #[.val (.ref b), .val (.long q), .second, .val (.int (ix p0)), .val (vs p0), .val (.int (ix gp)), .val (.int (ix ii))] [(.int (ix (own_dist gp ii))), (.int (ix (own_dist (own_hm (ks2 ii)) ii)))]))
          by_cases hc14 : (ix (own_dist (own_hm (ks2 ii)) ii)) < (ix (own_dist gp ii))
          · refine own_go (fun tt_ kk_ => XS.icmpYes X13.here hx rfl (pc0 := 72) (pc' := 107) rfl (hb hby d11_72) rfl (XT.ii_lt_t hc14) (by decide) (by decide) kk_) ?_
            show Go p.tables e below _ (T13.setTop (mkF m 107 #[.val (.ref b), .val (.long q), .second, .val (.int (ix p0)), .val (vs p0), .val (.int (ix gp)), .val (.int (ix ii))] []))
            refine own_go (fun tt_ kk_ => XS.iload X13.here hx rfl (hb hby d11_107) rfl kk_) ?_
            show Go p.tables e below _ (T13.setTop (mkF m 109 #[.val (.ref b), .val (.long q), .second, .val (.int (ix p0)), .val (vs p0), .val (.int (ix gp)), .val (.int (ix ii))] [(.int (ix ii))]))
            refine own_go (fun tt_ kk_ => XS.iconst X13.here hx rfl (hb hby d11_109) kk_) ?_
            show Go p.tables e below _ (T13.setTop (mkF m 110 #[.val (.ref b), .val (.long q), .second, .val (.int (ix p0)), .val (vs p0), .val (.int (ix gp)), .val (.int (ix ii))] [(.int (1 : Int32)), (.int (ix ii))]))
            refine own_go (fun tt_ kk_ => XS.iadd X13.here hx rfl (hb hby d11_110) rfl kk_) ?_
            show Go p.tables e below _ (T13.setTop (mkF m 111 #[.val (.ref b), .val (.long q), .second, .val (.int (ix p0)), .val (vs p0), .val (.int (ix gp)), .val (.int (ix ii))] [(.int ((ix ii) + (1 : Int32)))]))
            refine own_go (fun tt_ kk_ => XS.aloadN X13.here hx rfl (hb hby d11_111) rfl rfl kk_) ?_
            show Go p.tables e below _ (T13.setTop (mkF m 112 #[.val (.ref b), .val (.long q), .second, .val (.int (ix p0)), .val (vs p0), .val (.int (ix gp)), .val (.int (ix ii))] [(.ref b), (.int ((ix ii) + (1 : Int32)))]))
            obtain ⟨T15, X15, e15, st15⟩ := getF X13 hx hZ hown (host := "") (Or.inl (hw _ (List.mem_of_getElem? (i := 20) rfl))) Via.refl e13 Fma (g := (mkF m 112 #[.val (.ref b), .val (.long q), .second, .val (.int (ix p0)), .val (vs p0), .val (.int (ix gp)), .val (.int (ix ii))] [(.ref b), (.int ((ix ii) + (1 : Int32)))])) rfl rfl (hb hby d11_112)
            refine own_go (fun tt_ kk_ => st15 tt_ kk_) ?_
            show Go p.tables e below _ (T15.setTop (mkF m 115 #[.val (.ref b), .val (.long q), .second, .val (.int (ix p0)), .val (vs p0), .val (.int (ix gp)), .val (.int (ix ii))] [(.int (15 : Int32)), (.int ((ix ii) + (1 : Int32)))]))
            refine own_go (fun tt_ kk_ => XS.iand X15.here hx rfl (hb hby d11_115) rfl kk_) ?_
            show Go p.tables e below _ (T15.setTop (mkF m 116 #[.val (.ref b), .val (.long q), .second, .val (.int (ix p0)), .val (vs p0), .val (.int (ix gp)), .val (.int (ix ii))] [(.int (((ix ii) + (1 : Int32)) &&& (15 : Int32)))]))
            rw [ix_next _ hi]
            show Go p.tables e below _ (T15.setTop (mkF m 116 #[.val (.ref b), .val (.long q), .second, .val (.int (ix p0)), .val (vs p0), .val (.int (ix gp)), .val (.int (ix ii))] [(.int (ix ((ii + 1) % 16)))]))
            refine own_go (fun tt_ kk_ => XS.istore X15.here hx rfl (hb hby d11_116) rfl (l' := #[.val (.ref b), .val (.long q), .second, .val (.int (ix p0)), .val (vs p0), .val (.int (ix gp)), .val (.int (ix ((ii + 1) % 16)))]) rfl kk_) ?_
            show Go p.tables e below _ (T15.setTop (mkF m 118 #[.val (.ref b), .val (.long q), .second, .val (.int (ix p0)), .val (vs p0), .val (.int (ix gp)), .val (.int (ix ((ii + 1) % 16)))] []))
            refine own_go (fun tt_ kk_ => XS.goto X15.here hx rfl (pc0 := 118) (pc' := 33) rfl (hb hby d11_118) (by decide) (by decide) kk_) ?_
            show Go p.tables e below _ (T15.setTop (mkF m 33 #[.val (.ref b), .val (.long q), .second, .val (.int (ix p0)), .val (vs p0), .val (.int (ix gp)), .val (.int (ix ((ii + 1) % 16)))] []))
            have iz : ii ≠ z := fun q => hc5 (q ▸ hv)
            have dz := own_dist_next hi hz iz
            exact ih _ _ _ _ (own_gap_skip own_hm_lt (by omega) R hc5 ((ix_lt _ (own_dist_lt _ _) _ (own_dist_lt _ _)).mp hc14)) hv (by omega) T15 _ _ X15 N11 e15 M' O' hsz
          · refine own_go (fun tt_ kk_ => XS.icmpNo X13.here hx rfl (hb hby d11_72) rfl (XT.ii_lt_f hc14) kk_) ?_
            show Go p.tables e below _ (T13.setTop (mkF m 75 #[.val (.ref b), .val (.long q), .second, .val (.int (ix p0)), .val (vs p0), .val (.int (ix gp)), .val (.int (ix ii))] []))
            refine own_go (fun tt_ kk_ => XS.aloadN X13.here hx rfl (hb hby d11_75) rfl rfl kk_) ?_
            show Go p.tables e below _ (T13.setTop (mkF m 76 #[.val (.ref b), .val (.long q), .second, .val (.int (ix p0)), .val (vs p0), .val (.int (ix gp)), .val (.int (ix ii))] [(.ref b)]))
            obtain ⟨T16, X16, e16, st16⟩ := getF X13 hx hZ hown (host := "") (Or.inl (hw _ (List.mem_of_getElem? (i := 13) rfl))) Via.refl e13 Fka (g := (mkF m 76 #[.val (.ref b), .val (.long q), .second, .val (.int (ix p0)), .val (vs p0), .val (.int (ix gp)), .val (.int (ix ii))] [(.ref b)])) rfl rfl (hb hby d11_76)
            refine own_go (fun tt_ kk_ => st16 tt_ kk_) ?_
            show Go p.tables e below _ (T16.setTop (mkF m 79 #[.val (.ref b), .val (.long q), .second, .val (.int (ix p0)), .val (vs p0), .val (.int (ix gp)), .val (.int (ix ii))] [(.ref ka)]))
            refine own_go (fun tt_ kk_ => XS.iload X16.here hx rfl (hb hby d11_79) rfl kk_) ?_
            show Go p.tables e below _ (T16.setTop (mkF m 81 #[.val (.ref b), .val (.long q), .second, .val (.int (ix p0)), .val (vs p0), .val (.int (ix gp)), .val (.int (ix ii))] [(.int (ix gp)), (.ref ka)]))
            refine own_go (fun tt_ kk_ => XS.aloadN X16.here hx rfl (hb hby d11_81) rfl rfl kk_) ?_
            show Go p.tables e below _ (T16.setTop (mkF m 82 #[.val (.ref b), .val (.long q), .second, .val (.int (ix p0)), .val (vs p0), .val (.int (ix gp)), .val (.int (ix ii))] [(.ref b), (.int (ix gp)), (.ref ka)]))
            obtain ⟨T17, X17, e17, st17⟩ := getF X16 hx hZ hown (host := "") (Or.inl (hw _ (List.mem_of_getElem? (i := 13) rfl))) Via.refl e16 Fka (g := (mkF m 82 #[.val (.ref b), .val (.long q), .second, .val (.int (ix p0)), .val (vs p0), .val (.int (ix gp)), .val (.int (ix ii))] [(.ref b), (.int (ix gp)), (.ref ka)])) rfl rfl (hb hby d11_82)
            refine own_go (fun tt_ kk_ => st17 tt_ kk_) ?_
            show Go p.tables e below _ (T17.setTop (mkF m 85 #[.val (.ref b), .val (.long q), .second, .val (.int (ix p0)), .val (vs p0), .val (.int (ix gp)), .val (.int (ix ii))] [(.ref ka), (.int (ix gp)), (.ref ka)]))
            refine own_go (fun tt_ kk_ => XS.iload X17.here hx rfl (hb hby d11_85) rfl kk_) ?_
            show Go p.tables e below _ (T17.setTop (mkF m 87 #[.val (.ref b), .val (.long q), .second, .val (.int (ix p0)), .val (vs p0), .val (.int (ix gp)), .val (.int (ix ii))] [(.int (ix ii)), (.ref ka), (.int (ix gp)), (.ref ka)]))
            refine own_go (fun tt_ kk_ => X17.laload hx (j := (ix ii)) (v := (.long (ks2 ii))) (by rw [e17]; exact K1a.1) (State.isArrayOf_alike hZ.alike K1a.2.1) K1a.2.2 (ix_in hi K2a) (by rw [ix_clamp hi]; exact K3a _ hi) (g := (mkF m 87 #[.val (.ref b), .val (.long q), .second, .val (.int (ix p0)), .val (vs p0), .val (.int (ix gp)), .val (.int (ix ii))] [(.int (ix ii)), (.ref ka), (.int (ix gp)), (.ref ka)])) rfl rfl (hb hby d11_87) tt_ kk_) ?_
            show Go p.tables e below _ (T17.setTop (mkF m 88 #[.val (.ref b), .val (.long q), .second, .val (.int (ix p0)), .val (vs p0), .val (.int (ix gp)), .val (.int (ix ii))] [(.long (ks2 ii)), (.int (ix gp)), (.ref ka)]))
            obtain ⟨T18, h18, X18, e18, W18, st18⟩ := stJ X17 hx hZ e17 K1a (j := (ix gp)) (ix_in hg K2a) (g := (mkF m 88 #[.val (.ref b), .val (.long q), .second, .val (.int (ix p0)), .val (vs p0), .val (.int (ix gp)), .val (.int (ix ii))] [(.long (ks2 ii)), (.int (ix gp)), (.ref ka)])) rfl rfl (hb hby d11_88)
            have N18 := Fr.snoc X18 N11 AAa.2.1
            have M18 := M'.keys hg W18
            have O18 := O'.wr W18 AAa.2.1
            have sz18 : h0.size ≤ h18.size := by rw [W18.size]; exact hsz
            have MM18 := M18
            obtain ⟨AA18, EX18, ⟨Fk18, Fv18, Fm18, Fs18⟩, ⟨ck18, K118, K218, K318⟩, ⟨cv18, V118, V218, V318, V418⟩, DD18⟩ := MM18
            refine own_go (fun tt_ kk_ => st18 tt_ kk_) ?_
            show Go p.tables e below _ (T18.setTop (mkF m 89 #[.val (.ref b), .val (.long q), .second, .val (.int (ix p0)), .val (vs p0), .val (.int (ix gp)), .val (.int (ix ii))] []))
            refine own_go (fun tt_ kk_ => XS.aloadN X18.here hx rfl (hb hby d11_89) rfl rfl kk_) ?_
            show Go p.tables e below _ (T18.setTop (mkF m 90 #[.val (.ref b), .val (.long q), .second, .val (.int (ix p0)), .val (vs p0), .val (.int (ix gp)), .val (.int (ix ii))] [(.ref b)]))
            obtain ⟨T19, X19, e19, st19⟩ := getF X18 hx hZ hown (host := "") (Or.inl (hw _ (List.mem_of_getElem? (i := 15) rfl))) Via.refl e18 Fv18 (g := (mkF m 90 #[.val (.ref b), .val (.long q), .second, .val (.int (ix p0)), .val (vs p0), .val (.int (ix gp)), .val (.int (ix ii))] [(.ref b)])) rfl rfl (hb hby d11_90)
            refine own_go (fun tt_ kk_ => st19 tt_ kk_) ?_
            show Go p.tables e below _ (T19.setTop (mkF m 93 #[.val (.ref b), .val (.long q), .second, .val (.int (ix p0)), .val (vs p0), .val (.int (ix gp)), .val (.int (ix ii))] [(.ref va)]))
            refine own_go (fun tt_ kk_ => XS.iload X19.here hx rfl (hb hby d11_93) rfl kk_) ?_
            show Go p.tables e below _ (T19.setTop (mkF m 95 #[.val (.ref b), .val (.long q), .second, .val (.int (ix p0)), .val (vs p0), .val (.int (ix gp)), .val (.int (ix ii))] [(.int (ix gp)), (.ref va)]))
            refine own_go (fun tt_ kk_ => XS.aloadN X19.here hx rfl (hb hby d11_95) rfl rfl kk_) ?_
            show Go p.tables e below _ (T19.setTop (mkF m 96 #[.val (.ref b), .val (.long q), .second, .val (.int (ix p0)), .val (vs p0), .val (.int (ix gp)), .val (.int (ix ii))] [(.ref b), (.int (ix gp)), (.ref va)]))
            obtain ⟨T20, X20, e20, st20⟩ := getF X19 hx hZ hown (host := "") (Or.inl (hw _ (List.mem_of_getElem? (i := 15) rfl))) Via.refl e19 Fv18 (g := (mkF m 96 #[.val (.ref b), .val (.long q), .second, .val (.int (ix p0)), .val (vs p0), .val (.int (ix gp)), .val (.int (ix ii))] [(.ref b), (.int (ix gp)), (.ref va)])) rfl rfl (hb hby d11_96)
            refine own_go (fun tt_ kk_ => st20 tt_ kk_) ?_
            show Go p.tables e below _ (T20.setTop (mkF m 99 #[.val (.ref b), .val (.long q), .second, .val (.int (ix p0)), .val (vs p0), .val (.int (ix gp)), .val (.int (ix ii))] [(.ref va), (.int (ix gp)), (.ref va)]))
            refine own_go (fun tt_ kk_ => XS.iload X20.here hx rfl (hb hby d11_99) rfl kk_) ?_
            show Go p.tables e below _ (T20.setTop (mkF m 101 #[.val (.ref b), .val (.long q), .second, .val (.int (ix p0)), .val (vs p0), .val (.int (ix gp)), .val (.int (ix ii))] [(.int (ix ii)), (.ref va), (.int (ix gp)), (.ref va)]))
            refine own_go (fun tt_ kk_ => X20.aaload hx (j := (ix ii)) (v := (vs2 ii)) (by rw [e20]; exact V118.1) (State.isArrayOf_alike hZ.alike V118.2.1) rfl V118.2.2 (ix_in hi V218) (by rw [ix_clamp hi]; exact V418 _ hi) (g := (mkF m 101 #[.val (.ref b), .val (.long q), .second, .val (.int (ix p0)), .val (vs p0), .val (.int (ix gp)), .val (.int (ix ii))] [(.int (ix ii)), (.ref va), (.int (ix gp)), (.ref va)])) rfl rfl (hb hby d11_101) tt_ kk_) ?_
            show Go p.tables e below _ (T20.setTop (mkF m 102 #[.val (.ref b), .val (.long q), .second, .val (.int (ix p0)), .val (vs p0), .val (.int (ix gp)), .val (.int (ix ii))] [(vs2 ii), (.int (ix gp)), (.ref va)]))
            obtain ⟨T21, h21, X21, e21, W21, st21⟩ := stR X20 hx hZ e20 V118 (j := (ix gp)) (ix_in hg V218) rfl (M18.sto (hw _ (List.mem_of_getElem? (i := 54) rfl)) (DD18 _ hi)) (g := (mkF m 102 #[.val (.ref b), .val (.long q), .second, .val (.int (ix p0)), .val (vs p0), .val (.int (ix gp)), .val (.int (ix ii))] [(vs2 ii), (.int (ix gp)), (.ref va)])) rfl rfl (hb hby d11_102)
            have N21 := Fr.snoc X21 N18 AA18.2.2.1
            have M21 := M18.vals hg (DD18 _ hi) W21
            have O21 := O18.wr W21 AA18.2.2.1
            have sz21 : h0.size ≤ h21.size := by rw [W21.size]; exact sz18
            have MM21 := M21
            obtain ⟨AA21, EX21, ⟨Fk21, Fv21, Fm21, Fs21⟩, ⟨ck21, K121, K221, K321⟩, ⟨cv21, V121, V221, V321, V421⟩, DD21⟩ := MM21
            refine own_go (fun tt_ kk_ => st21 tt_ kk_) ?_
            show Go p.tables e below _ (T21.setTop (mkF m 103 #[.val (.ref b), .val (.long q), .second, .val (.int (ix p0)), .val (vs p0), .val (.int (ix gp)), .val (.int (ix ii))] []))
            refine own_go (fun tt_ kk_ => XS.iload X21.here hx rfl (hb hby d11_103) rfl kk_) ?_
            show Go p.tables e below _ (T21.setTop (mkF m 105 #[.val (.ref b), .val (.long q), .second, .val (.int (ix p0)), .val (vs p0), .val (.int (ix gp)), .val (.int (ix ii))] [(.int (ix ii))]))
            refine own_go (fun tt_ kk_ => XS.istore X21.here hx rfl (hb hby d11_105) rfl (l' := #[.val (.ref b), .val (.long q), .second, .val (.int (ix p0)), .val (vs p0), .val (.int (ix ii)), .val (.int (ix ii))]) rfl kk_) ?_
            show Go p.tables e below _ (T21.setTop (mkF m 107 #[.val (.ref b), .val (.long q), .second, .val (.int (ix p0)), .val (vs p0), .val (.int (ix ii)), .val (.int (ix ii))] []))
            refine own_go (fun tt_ kk_ => XS.iload X21.here hx rfl (hb hby d11_107) rfl kk_) ?_
            show Go p.tables e below _ (T21.setTop (mkF m 109 #[.val (.ref b), .val (.long q), .second, .val (.int (ix p0)), .val (vs p0), .val (.int (ix ii)), .val (.int (ix ii))] [(.int (ix ii))]))
            refine own_go (fun tt_ kk_ => XS.iconst X21.here hx rfl (hb hby d11_109) kk_) ?_
            show Go p.tables e below _ (T21.setTop (mkF m 110 #[.val (.ref b), .val (.long q), .second, .val (.int (ix p0)), .val (vs p0), .val (.int (ix ii)), .val (.int (ix ii))] [(.int (1 : Int32)), (.int (ix ii))]))
            refine own_go (fun tt_ kk_ => XS.iadd X21.here hx rfl (hb hby d11_110) rfl kk_) ?_
            show Go p.tables e below _ (T21.setTop (mkF m 111 #[.val (.ref b), .val (.long q), .second, .val (.int (ix p0)), .val (vs p0), .val (.int (ix ii)), .val (.int (ix ii))] [(.int ((ix ii) + (1 : Int32)))]))
            refine own_go (fun tt_ kk_ => XS.aloadN X21.here hx rfl (hb hby d11_111) rfl rfl kk_) ?_
            show Go p.tables e below _ (T21.setTop (mkF m 112 #[.val (.ref b), .val (.long q), .second, .val (.int (ix p0)), .val (vs p0), .val (.int (ix ii)), .val (.int (ix ii))] [(.ref b), (.int ((ix ii) + (1 : Int32)))]))
            obtain ⟨T22, X22, e22, st22⟩ := getF X21 hx hZ hown (host := "") (Or.inl (hw _ (List.mem_of_getElem? (i := 20) rfl))) Via.refl e21 Fm21 (g := (mkF m 112 #[.val (.ref b), .val (.long q), .second, .val (.int (ix p0)), .val (vs p0), .val (.int (ix ii)), .val (.int (ix ii))] [(.ref b), (.int ((ix ii) + (1 : Int32)))])) rfl rfl (hb hby d11_112)
            refine own_go (fun tt_ kk_ => st22 tt_ kk_) ?_
            show Go p.tables e below _ (T22.setTop (mkF m 115 #[.val (.ref b), .val (.long q), .second, .val (.int (ix p0)), .val (vs p0), .val (.int (ix ii)), .val (.int (ix ii))] [(.int (15 : Int32)), (.int ((ix ii) + (1 : Int32)))]))
            refine own_go (fun tt_ kk_ => XS.iand X22.here hx rfl (hb hby d11_115) rfl kk_) ?_
            show Go p.tables e below _ (T22.setTop (mkF m 116 #[.val (.ref b), .val (.long q), .second, .val (.int (ix p0)), .val (vs p0), .val (.int (ix ii)), .val (.int (ix ii))] [(.int (((ix ii) + (1 : Int32)) &&& (15 : Int32)))]))
            rw [ix_next _ hi]
            show Go p.tables e below _ (T22.setTop (mkF m 116 #[.val (.ref b), .val (.long q), .second, .val (.int (ix p0)), .val (vs p0), .val (.int (ix ii)), .val (.int (ix ii))] [(.int (ix ((ii + 1) % 16)))]))
            refine own_go (fun tt_ kk_ => XS.istore X22.here hx rfl (hb hby d11_116) rfl (l' := #[.val (.ref b), .val (.long q), .second, .val (.int (ix p0)), .val (vs p0), .val (.int (ix ii)), .val (.int (ix ((ii + 1) % 16)))]) rfl kk_) ?_
            show Go p.tables e below _ (T22.setTop (mkF m 118 #[.val (.ref b), .val (.long q), .second, .val (.int (ix p0)), .val (vs p0), .val (.int (ix ii)), .val (.int (ix ((ii + 1) % 16)))] []))
            refine own_go (fun tt_ kk_ => XS.goto X22.here hx rfl (pc0 := 118) (pc' := 33) rfl (hb hby d11_118) (by decide) (by decide) kk_) ?_
            show Go p.tables e below _ (T22.setTop (mkF m 33 #[.val (.ref b), .val (.long q), .second, .val (.int (ix p0)), .val (vs p0), .val (.int (ix ii)), .val (.int (ix ((ii + 1) % 16)))] []))
            have iz : ii ≠ z := fun q => hc5 (q ▸ hv)
            have dz := own_dist_next hi hz iz
            have gz : z ≠ gp := fun q => hvg (q ▸ hv)
            exact ih _ _ _ _ (own_gap_move own_hm_lt R hc5 (Nat.le_of_not_lt (fun q => hc14 ((ix_lt _ (own_dist_lt _ _) _ (own_dist_lt _ _)).mpr q)))) (by rw [own_upd_ne _ _ gz]; exact hv) (by omega) T22 _ _ X22 N21 e22 M21 O21 sz21
    exact loop 16 ks vs p0 ((p0 + 1) % 16) (own_gap_start RR hp0 hnn hkp) hvz (own_dist_lt _ _) T3 _ _ X3 N2 e3 M OO (Nat.le_refl _)
  · show Go p.tables e below _ (T1.setTop (mkF m 6 #[.val (.ref b), .val (.long q), .second, .val (.int ((-1) : Int32)), .unset, .unset, .unset] []))
    refine own_go (fun tt_ kk_ => XS.iloadN X1.here hx rfl (hb hby d11_6) rfl kk_) ?_
    show Go p.tables e below _ (T1.setTop (mkF m 7 #[.val (.ref b), .val (.long q), .second, .val (.int ((-1) : Int32)), .unset, .unset, .unset] [(.int ((-1) : Int32))]))
    refine own_go (fun tt_ kk_ => XS.ifNo X1.here hx rfl (hb hby d11_7) rfl (XT.i0_ge_f (by decide)) kk_) ?_
    show Go p.tables e below _ (T1.setTop (mkF m 10 #[.val (.ref b), .val (.long q), .second, .val (.int ((-1) : Int32)), .unset, .unset, .unset] []))
    refine own_go (fun tt_ kk_ => XS.aconstNull X1.here hx rfl (hb hby d11_10) kk_) ?_
    show Go p.tables e below _ (T1.setTop (mkF m 11 #[.val (.ref b), .val (.long q), .second, .val (.int ((-1) : Int32)), .unset, .unset, .unset] [.null]))
    exact own_ret X1 hx hlk Bd.returns rfl (Or.inr (Or.inr (Or.inr (Or.inr ⟨rfl, rfl, rfl⟩)))) (hb hby d11_11) ⟨congrArg some hG0.symm, N1, by rw [e1]; exact ⟨OO, Nat.le_refl _⟩, ks, vs, by rw [e1, if_pos hG0]; exact M, by rw [if_pos hG0, own_upd_id hG0]; exact RR⟩ (by decide) (by decide)
theorem d3_0 : decode prog_24_method_14_code 0 = .ok (.aload_n 0, 1) := by decide +kernel
theorem d3_1 : decode prog_24_method_14_code 1 = .ok (.getfield 39, 3) := by decide +kernel
theorem d3_4 : decode prog_24_method_14_code 4 = .ok (.astore_n 2, 1) := by decide +kernel
theorem d3_5 : decode prog_24_method_14_code 5 = .ok (.aload_n 0, 1) := by decide +kernel
theorem d3_6 : decode prog_24_method_14_code 6 = .ok (.getfield 35, 3) := by decide +kernel
theorem d3_9 : decode prog_24_method_14_code 9 = .ok (.astore_n 3, 1) := by decide +kernel
theorem d3_10 : decode prog_24_method_14_code 10 = .ok (.aload_n 0, 1) := by decide +kernel
theorem d3_11 : decode prog_24_method_14_code 11 = .ok (.iload_n 1, 1) := by decide +kernel
theorem d3_12 : decode prog_24_method_14_code 12 = .ok (.newarray .long, 2) := by decide +kernel
theorem d3_14 : decode prog_24_method_14_code 14 = .ok (.putfield 39, 3) := by decide +kernel
theorem d3_17 : decode prog_24_method_14_code 17 = .ok (.aload_n 0, 1) := by decide +kernel
theorem d3_18 : decode prog_24_method_14_code 18 = .ok (.iload_n 1, 1) := by decide +kernel
theorem d3_19 : decode prog_24_method_14_code 19 = .ok (.anewarray 2, 3) := by decide +kernel
theorem d3_22 : decode prog_24_method_14_code 22 = .ok (.putfield 35, 3) := by decide +kernel
theorem d3_25 : decode prog_24_method_14_code 25 = .ok (.aload_n 0, 1) := by decide +kernel
theorem d3_26 : decode prog_24_method_14_code 26 = .ok (.iload_n 1, 1) := by decide +kernel
theorem d3_27 : decode prog_24_method_14_code 27 = .ok (.iconst 1, 1) := by decide +kernel
theorem d3_28 : decode prog_24_method_14_code 28 = .ok (.isub, 1) := by decide +kernel
theorem d3_29 : decode prog_24_method_14_code 29 = .ok (.putfield 43, 3) := by decide +kernel
theorem d3_32 : decode prog_24_method_14_code 32 = .ok (.aload_n 3, 1) := by decide +kernel
theorem d3_33 : decode prog_24_method_14_code 33 = .ok (.ifnonnull 4, 3) := by decide +kernel
theorem d3_36 : decode prog_24_method_14_code 36 = .ok (.return_, 1) := by decide +kernel
theorem d3_37 : decode prog_24_method_14_code 37 = .ok (.iconst 0, 1) := by decide +kernel
theorem d3_38 : decode prog_24_method_14_code 38 = .ok (.istore 4, 2) := by decide +kernel
theorem d3_40 : decode prog_24_method_14_code 40 = .ok (.iload 4, 2) := by decide +kernel
theorem d3_42 : decode prog_24_method_14_code 42 = .ok (.aload_n 3, 1) := by decide +kernel
theorem d3_43 : decode prog_24_method_14_code 43 = .ok (.arraylength, 1) := by decide +kernel
theorem d3_44 : decode prog_24_method_14_code 44 = .ok (.if_icmp .ge 72, 3) := by decide +kernel
theorem d3_47 : decode prog_24_method_14_code 47 = .ok (.aload_n 3, 1) := by decide +kernel
theorem d3_48 : decode prog_24_method_14_code 48 = .ok (.iload 4, 2) := by decide +kernel
theorem d3_50 : decode prog_24_method_14_code 50 = .ok (.aaload, 1) := by decide +kernel
theorem d3_51 : decode prog_24_method_14_code 51 = .ok (.ifnull 59, 3) := by decide +kernel
theorem d3_54 : decode prog_24_method_14_code 54 = .ok (.aload_n 0, 1) := by decide +kernel
theorem d3_55 : decode prog_24_method_14_code 55 = .ok (.aload_n 2, 1) := by decide +kernel
theorem d3_56 : decode prog_24_method_14_code 56 = .ok (.iload 4, 2) := by decide +kernel
theorem d3_58 : decode prog_24_method_14_code 58 = .ok (.laload, 1) := by decide +kernel
theorem d3_59 : decode prog_24_method_14_code 59 = .ok (.invokevirtual 32, 3) := by decide +kernel
theorem d3_62 : decode prog_24_method_14_code 62 = .ok (.istore 5, 2) := by decide +kernel
theorem d3_64 : decode prog_24_method_14_code 64 = .ok (.aload_n 0, 1) := by decide +kernel
theorem d3_65 : decode prog_24_method_14_code 65 = .ok (.getfield 35, 3) := by decide +kernel
theorem d3_68 : decode prog_24_method_14_code 68 = .ok (.iload 5, 2) := by decide +kernel
theorem d3_70 : decode prog_24_method_14_code 70 = .ok (.aaload, 1) := by decide +kernel
theorem d3_71 : decode prog_24_method_14_code 71 = .ok (.ifnull 17, 3) := by decide +kernel
theorem d3_74 : decode prog_24_method_14_code 74 = .ok (.iload 5, 2) := by decide +kernel
theorem d3_76 : decode prog_24_method_14_code 76 = .ok (.iconst 1, 1) := by decide +kernel
theorem d3_77 : decode prog_24_method_14_code 77 = .ok (.iadd, 1) := by decide +kernel
theorem d3_78 : decode prog_24_method_14_code 78 = .ok (.aload_n 0, 1) := by decide +kernel
theorem d3_79 : decode prog_24_method_14_code 79 = .ok (.getfield 43, 3) := by decide +kernel
theorem d3_82 : decode prog_24_method_14_code 82 = .ok (.iand, 1) := by decide +kernel
theorem d3_83 : decode prog_24_method_14_code 83 = .ok (.istore 5, 2) := by decide +kernel
theorem d3_85 : decode prog_24_method_14_code 85 = .ok (.goto (-21), 3) := by decide +kernel
theorem d3_88 : decode prog_24_method_14_code 88 = .ok (.aload_n 0, 1) := by decide +kernel
theorem d3_89 : decode prog_24_method_14_code 89 = .ok (.getfield 39, 3) := by decide +kernel
theorem d3_92 : decode prog_24_method_14_code 92 = .ok (.iload 5, 2) := by decide +kernel
theorem d3_94 : decode prog_24_method_14_code 94 = .ok (.aload_n 2, 1) := by decide +kernel
theorem d3_95 : decode prog_24_method_14_code 95 = .ok (.iload 4, 2) := by decide +kernel
theorem d3_97 : decode prog_24_method_14_code 97 = .ok (.laload, 1) := by decide +kernel
theorem d3_98 : decode prog_24_method_14_code 98 = .ok (.lastore, 1) := by decide +kernel
theorem d3_99 : decode prog_24_method_14_code 99 = .ok (.aload_n 0, 1) := by decide +kernel
theorem d3_100 : decode prog_24_method_14_code 100 = .ok (.getfield 35, 3) := by decide +kernel
theorem d3_103 : decode prog_24_method_14_code 103 = .ok (.iload 5, 2) := by decide +kernel
theorem d3_105 : decode prog_24_method_14_code 105 = .ok (.aload_n 3, 1) := by decide +kernel
theorem d3_106 : decode prog_24_method_14_code 106 = .ok (.iload 4, 2) := by decide +kernel
theorem d3_108 : decode prog_24_method_14_code 108 = .ok (.aaload, 1) := by decide +kernel
theorem d3_109 : decode prog_24_method_14_code 109 = .ok (.aastore, 1) := by decide +kernel
theorem d3_110 : decode prog_24_method_14_code 110 = .ok (.iinc 4 1, 3) := by decide +kernel
theorem d3_113 : decode prog_24_method_14_code 113 = .ok (.goto (-73), 3) := by decide +kernel
theorem d3_116 : decode prog_24_method_14_code 116 = .ok (.return_, 1) := by decide +kernel
theorem ef_rm_alloc (m : MethodId) (x0 : Addr) (x1 : Int32) : entryFrame m #[(.ref x0), (.int x1)] 6 = mkF m 0 #[.val (.ref x0), .val (.int x1), .unset, .unset, .unset, .unset] [] := by first | (simp [entryFrame, mkF, argsToLocals, Value.category]; done) | rfl
set_option maxRecDepth 65536 in
set_option maxHeartbeats 40000000 in
theorem rm_alloc (l : Launch) (Z : State) (a0 : Array Value) (hw : ∀ d ∈ tables_1, d.before a0 Z = true) (ws : List Jvm.Cond) (b : Addr) (h0 : Heap) (n0 : Nat) (EX : Exa Z h0 b IDM) (Fk : Fld Z h0 b IDM "keys" "[J" .null) (Fv : Fld Z h0 b IDM "values" "[Ljava/lang/Object;" .null) (Fm : Fld Z h0 b IDM "mask" "I" (.int 0)) (Fs : Fld Z h0 b IDM "size" "I" (.int 0)) (gb : n0 ≤ b) (Z0 : n0 ≤ h0.size) (OO : Old Z n0 h0) :
    MetFree l (⟨"com/example/rootlet/rootlet/IdMap", "allocate", "(I)V"⟩ : MethodName) (head1 (Jvm.Cond.code (⟨"com/example/rootlet/rootlet/IdMap", "allocate", "(I)V"⟩ : MethodName) prog_24_method_14_code 6 none :: ws) ({ frames := 0, cells := 2, slots := 32, locals := 0 } : Room)) (fun aa U => aa = #[(.ref b), (.int (16 : Int32))] ∧ Z.Warmed39 U.vm ∧ U.heap = h0) (fun _ _ _ _ _ => True) (fun _ U o U' => ∃ v_ L_, o = .returned v_ ∧ own_QI Z n0 b v_ U'.heap L_ ∧ FrameEnd U o U' L_ ({ frames := 0, cells := 2, slots := 32, locals := 0 } : Room).cells ({ frames := 0, cells := 2, slots := 32, locals := 0 } : Room).slots) := by
  refine MetFree.of_bodySF (plainFor_of_name pn_0) hisR ?_
  intro p e s m args below meth c s₁ Bd hml0 hP hK
  obtain ⟨rfl, hZ, hh⟩ := hP
  have hx := Bd.exec
  have hby := Bd.bytes
  have hlk := Bd.notSynchronized
  have hml : c.maxLocals = 6 := hml0
  have hown : s.vm.findClass "com/example/rootlet/rootlet/IdMap" = some m.cls := by have q := findClass_of_methodNamed Bd.named; exact q
  have X0 : Stand p l e ({ frames := 0, cells := 2, slots := 32, locals := 0 } : Room) s m #[(.ref b), (.int (16 : Int32))] below meth c s₁ [] 0 0 := Stand.of_body Bd
  have e0 : s₁.heap = h0 := by rw [← hh, Bd.state]; rfl
  have N0 := Fr.nil n0
  show Go p.tables e below (Fin s below (own_QI Z n0 b) ({ frames := 0, cells := 2, slots := 32, locals := 0 } : Room).cells ({ frames := 0, cells := 2, slots := 32, locals := 0 } : Room).slots) (s₁.setTop (entryFrame m #[(.ref b), (.int (16 : Int32))] 6))
  refine own_go (fun tt_ kk_ => castTop (ef_rm_alloc m b (16 : Int32)) kk_) ?_
  show Go p.tables e below _ (s₁.setTop (mkF m 0 #[.val (.ref b), .val (.int (16 : Int32)), .unset, .unset, .unset, .unset] []))
  refine own_go (fun tt_ kk_ => XS.aloadN X0.here hx rfl (hb hby d3_0) rfl rfl kk_) ?_
  show Go p.tables e below _ (s₁.setTop (mkF m 1 #[.val (.ref b), .val (.int (16 : Int32)), .unset, .unset, .unset, .unset] [(.ref b)]))
  obtain ⟨T11, X11, e11, st11⟩ := getF X0 hx hZ hown (host := "") (Or.inl (hw _ (List.mem_of_getElem? (i := 13) rfl))) Via.refl e0 Fk (g := (mkF m 1 #[.val (.ref b), .val (.int (16 : Int32)), .unset, .unset, .unset, .unset] [(.ref b)])) rfl rfl (hb hby d3_1)
  refine own_go (fun tt_ kk_ => st11 tt_ kk_) ?_
  show Go p.tables e below _ (T11.setTop (mkF m 4 #[.val (.ref b), .val (.int (16 : Int32)), .unset, .unset, .unset, .unset] [.null]))
  refine own_go (fun tt_ kk_ => XS.astoreN X11.here hx rfl (hb hby d3_4) rfl rfl (l' := #[.val (.ref b), .val (.int (16 : Int32)), .val .null, .unset, .unset, .unset]) rfl kk_) ?_
  show Go p.tables e below _ (T11.setTop (mkF m 5 #[.val (.ref b), .val (.int (16 : Int32)), .val .null, .unset, .unset, .unset] []))
  refine own_go (fun tt_ kk_ => XS.aloadN X11.here hx rfl (hb hby d3_5) rfl rfl kk_) ?_
  show Go p.tables e below _ (T11.setTop (mkF m 6 #[.val (.ref b), .val (.int (16 : Int32)), .val .null, .unset, .unset, .unset] [(.ref b)]))
  obtain ⟨T12, X12, e12, st12⟩ := getF X11 hx hZ hown (host := "") (Or.inl (hw _ (List.mem_of_getElem? (i := 15) rfl))) Via.refl e11 Fv (g := (mkF m 6 #[.val (.ref b), .val (.int (16 : Int32)), .val .null, .unset, .unset, .unset] [(.ref b)])) rfl rfl (hb hby d3_6)
  refine own_go (fun tt_ kk_ => st12 tt_ kk_) ?_
  show Go p.tables e below _ (T12.setTop (mkF m 9 #[.val (.ref b), .val (.int (16 : Int32)), .val .null, .unset, .unset, .unset] [.null]))
  refine own_go (fun tt_ kk_ => XS.astoreN X12.here hx rfl (hb hby d3_9) rfl rfl (l' := #[.val (.ref b), .val (.int (16 : Int32)), .val .null, .val .null, .unset, .unset]) rfl kk_) ?_
  show Go p.tables e below _ (T12.setTop (mkF m 10 #[.val (.ref b), .val (.int (16 : Int32)), .val .null, .val .null, .unset, .unset] []))
  refine own_go (fun tt_ kk_ => XS.aloadN X12.here hx rfl (hb hby d3_10) rfl rfl kk_) ?_
  show Go p.tables e below _ (T12.setTop (mkF m 11 #[.val (.ref b), .val (.int (16 : Int32)), .val .null, .val .null, .unset, .unset] [(.ref b)]))
  refine own_go (fun tt_ kk_ => XS.iloadN X12.here hx rfl (hb hby d3_11) rfl kk_) ?_
  show Go p.tables e below _ (T12.setTop (mkF m 12 #[.val (.ref b), .val (.int (16 : Int32)), .val .null, .val .null, .unset, .unset] [(.int (16 : Int32)), (.ref b)]))
  obtain ⟨T1, h1, kk1, X1, e1, Ex1, A1, st1⟩ := newP X12 hx hZ (hw _ (List.mem_of_getElem? (i := 17) rfl)) e12 (g := (mkF m 12 #[.val (.ref b), .val (.int (16 : Int32)), .val .null, .val .null, .unset, .unset] [(.int (16 : Int32)), (.ref b)])) rfl (hb hby d3_12) rfl (by decide) (cap := 16) (by decide) (by decide) (by decide) (by decide)
  obtain ⟨ka, gka⟩ : ∃ z, z = h0.size := ⟨_, rfl⟩
  rw [← gka] at A1 st1
  refine own_go (fun tt_ kk_ => st1 tt_ kk_) ?_
  show Go p.tables e below _ (T1.setTop (mkF m 14 #[.val (.ref b), .val (.int (16 : Int32)), .val .null, .val .null, .unset, .unset] [(.ref ka), (.ref b)]))
  obtain ⟨T2, h2, X2, e2, W2, st2⟩ := putF X1 hx hZ hown (host := "") (Or.inl (hw _ (List.mem_of_getElem? (i := 13) rfl))) Via.refl e1 (Fk.ext Ex1) (EX.ext Ex1) (Or.inl (hw _ (List.mem_of_getElem? (i := 14) rfl))) (hw _ (List.mem_of_getElem? (i := 1) rfl)) (ty := (.array .long)) (by decide) rfl rfl (g := (mkF m 14 #[.val (.ref b), .val (.int (16 : Int32)), .val .null, .val .null, .unset, .unset] [(.ref ka), (.ref b)])) rfl rfl (hb hby d3_14)
  have N2 := Fr.snoc X2 N0 gb
  refine own_go (fun tt_ kk_ => st2 tt_ kk_) ?_
  show Go p.tables e below _ (T2.setTop (mkF m 17 #[.val (.ref b), .val (.int (16 : Int32)), .val .null, .val .null, .unset, .unset] []))
  refine own_go (fun tt_ kk_ => XS.aloadN X2.here hx rfl (hb hby d3_17) rfl rfl kk_) ?_
  show Go p.tables e below _ (T2.setTop (mkF m 18 #[.val (.ref b), .val (.int (16 : Int32)), .val .null, .val .null, .unset, .unset] [(.ref b)]))
  refine own_go (fun tt_ kk_ => XS.iloadN X2.here hx rfl (hb hby d3_18) rfl kk_) ?_
  show Go p.tables e below _ (T2.setTop (mkF m 19 #[.val (.ref b), .val (.int (16 : Int32)), .val .null, .val .null, .unset, .unset] [(.int (16 : Int32)), (.ref b)]))
  obtain ⟨T3, h3, kk3, X3, e3, Ex3, A3, O3, st3⟩ := newR X2 hx hZ hown (hw _ (List.mem_of_getElem? (i := 18) rfl)) (hw _ (List.mem_of_getElem? (i := 19) rfl)) e2 (g := (mkF m 19 #[.val (.ref b), .val (.int (16 : Int32)), .val .null, .val .null, .unset, .unset] [(.int (16 : Int32)), (.ref b)])) rfl (hb hby d3_19) rfl (by decide) (cap := 16) (by decide) (by decide) (by decide) (by decide)
  obtain ⟨va, gva⟩ : ∃ z, z = h2.size := ⟨_, rfl⟩
  rw [← gva] at A3 st3
  refine own_go (fun tt_ kk_ => st3 tt_ kk_) ?_
  show Go p.tables e below _ (T3.setTop (mkF m 22 #[.val (.ref b), .val (.int (16 : Int32)), .val .null, .val .null, .unset, .unset] [(.ref va), (.ref b)]))
  obtain ⟨T4, h4, X4, e4, W4, st4⟩ := putF X3 hx hZ hown (host := "") (Or.inl (hw _ (List.mem_of_getElem? (i := 15) rfl))) Via.refl e3 (((Fv.ext Ex1).other W2 (Or.inr (RoadKit.slot_ne (Or.inl (hw _ (List.mem_of_getElem? (i := 16) rfl))) (Or.inl (hw _ (List.mem_of_getElem? (i := 14) rfl))) (by decide) (t := (.array OBJ)) (t' := (.array .long)) (by decide) (by decide)))).ext Ex3) (((EX.ext Ex1).wr W2).ext Ex3) (Or.inl (hw _ (List.mem_of_getElem? (i := 16) rfl))) (hw _ (List.mem_of_getElem? (i := 1) rfl)) (ty := (.array OBJ)) (by decide) rfl rfl (g := (mkF m 22 #[.val (.ref b), .val (.int (16 : Int32)), .val .null, .val .null, .unset, .unset] [(.ref va), (.ref b)])) rfl rfl (hb hby d3_22)
  have N4 := Fr.snoc X4 N2 gb
  refine own_go (fun tt_ kk_ => st4 tt_ kk_) ?_
  show Go p.tables e below _ (T4.setTop (mkF m 25 #[.val (.ref b), .val (.int (16 : Int32)), .val .null, .val .null, .unset, .unset] []))
  refine own_go (fun tt_ kk_ => XS.aloadN X4.here hx rfl (hb hby d3_25) rfl rfl kk_) ?_
  show Go p.tables e below _ (T4.setTop (mkF m 26 #[.val (.ref b), .val (.int (16 : Int32)), .val .null, .val .null, .unset, .unset] [(.ref b)]))
  refine own_go (fun tt_ kk_ => XS.iloadN X4.here hx rfl (hb hby d3_26) rfl kk_) ?_
  show Go p.tables e below _ (T4.setTop (mkF m 27 #[.val (.ref b), .val (.int (16 : Int32)), .val .null, .val .null, .unset, .unset] [(.int (16 : Int32)), (.ref b)]))
  refine own_go (fun tt_ kk_ => XS.iconst X4.here hx rfl (hb hby d3_27) kk_) ?_
  show Go p.tables e below _ (T4.setTop (mkF m 28 #[.val (.ref b), .val (.int (16 : Int32)), .val .null, .val .null, .unset, .unset] [(.int (1 : Int32)), (.int (16 : Int32)), (.ref b)]))
  refine own_go (fun tt_ kk_ => XS.isub X4.here hx rfl (hb hby d3_28) rfl kk_) ?_
  show Go p.tables e below _ (T4.setTop (mkF m 29 #[.val (.ref b), .val (.int (16 : Int32)), .val .null, .val .null, .unset, .unset] [(.int (15 : Int32)), (.ref b)]))
  obtain ⟨T5, h5, X5, e5, W5, st5⟩ := putF X4 hx hZ hown (host := "") (Or.inl (hw _ (List.mem_of_getElem? (i := 20) rfl))) Via.refl e4 ((((Fm.ext Ex1).other W2 (Or.inr (RoadKit.slot_ne (Or.inl (hw _ (List.mem_of_getElem? (i := 21) rfl))) (Or.inl (hw _ (List.mem_of_getElem? (i := 14) rfl))) (by decide) (t := .int) (t' := (.array .long)) (by decide) (by decide)))).ext Ex3).other W4 (Or.inr (RoadKit.slot_ne (Or.inl (hw _ (List.mem_of_getElem? (i := 21) rfl))) (Or.inl (hw _ (List.mem_of_getElem? (i := 16) rfl))) (by decide) (t := .int) (t' := (.array OBJ)) (by decide) (by decide)))) ((((EX.ext Ex1).wr W2).ext Ex3).wr W4) (Or.inl (hw _ (List.mem_of_getElem? (i := 21) rfl))) (hw _ (List.mem_of_getElem? (i := 1) rfl)) (ty := .int) (by decide) rfl rfl (g := (mkF m 29 #[.val (.ref b), .val (.int (16 : Int32)), .val .null, .val .null, .unset, .unset] [(.int (15 : Int32)), (.ref b)])) rfl rfl (hb hby d3_29)
  have N5 := Fr.snoc X5 N4 gb
  refine own_go (fun tt_ kk_ => st5 tt_ kk_) ?_
  show Go p.tables e below _ (T5.setTop (mkF m 32 #[.val (.ref b), .val (.int (16 : Int32)), .val .null, .val .null, .unset, .unset] []))
  refine own_go (fun tt_ kk_ => XS.aloadN X5.here hx rfl (hb hby d3_32) rfl rfl kk_) ?_
  show Go p.tables e below _ (T5.setTop (mkF m 33 #[.val (.ref b), .val (.int (16 : Int32)), .val .null, .val .null, .unset, .unset] [.null]))
  refine own_go (fun tt_ kk_ => XT.ifnonnullNo X5.here hx rfl (hb hby d3_33) rfl kk_) ?_
  show Go p.tables e below _ (T5.setTop (mkF m 36 #[.val (.ref b), .val (.int (16 : Int32)), .val .null, .val .null, .unset, .unset] []))
  have s1 := Ex1.1
  have s2 : h2.size = h1.size := W2.size
  have s0 : b < h0.size := EX.lt
  have sk : ka < h1.size := A1.lt
  have s3 : h0.size ≤ va := by omega
  have nk : b ≠ ka := Nat.ne_of_lt (Nat.lt_of_lt_of_eq s0 gka.symm)
  have nv : b ≠ va := Nat.ne_of_lt (Nat.lt_of_lt_of_le s0 s3)
  have kv : ka ≠ va := by omega
  have MM : own_Map Z h5 n0 b ka va (fun _ => 0) (fun _ => .null) 0 := by
    refine ⟨⟨gb, by omega, by omega, nk, nv, kv⟩, ((((EX.ext Ex1).wr W2).ext Ex3).wr W4).wr W5, ⟨(((((Fk.ext Ex1).same W2).ext Ex3).other W4 (Or.inr (RoadKit.slot_ne (Or.inl (hw _ (List.mem_of_getElem? (i := 14) rfl))) (Or.inl (hw _ (List.mem_of_getElem? (i := 16) rfl))) (by decide) (t := (.array .long)) (t' := (.array OBJ)) (by decide) (by decide)))).other W5 (Or.inr (RoadKit.slot_ne (Or.inl (hw _ (List.mem_of_getElem? (i := 14) rfl))) (Or.inl (hw _ (List.mem_of_getElem? (i := 21) rfl))) (by decide) (t := (.array .long)) (t' := .int) (by decide) (by decide)))), (((((Fv.ext Ex1).other W2 (Or.inr (RoadKit.slot_ne (Or.inl (hw _ (List.mem_of_getElem? (i := 16) rfl))) (Or.inl (hw _ (List.mem_of_getElem? (i := 14) rfl))) (by decide) (t := (.array OBJ)) (t' := (.array .long)) (by decide) (by decide)))).ext Ex3).same W4).other W5 (Or.inr (RoadKit.slot_ne (Or.inl (hw _ (List.mem_of_getElem? (i := 16) rfl))) (Or.inl (hw _ (List.mem_of_getElem? (i := 21) rfl))) (by decide) (t := (.array OBJ)) (t' := .int) (by decide) (by decide)))), ((((Fm.ext Ex1).other W2 (Or.inr (RoadKit.slot_ne (Or.inl (hw _ (List.mem_of_getElem? (i := 21) rfl))) (Or.inl (hw _ (List.mem_of_getElem? (i := 14) rfl))) (by decide) (t := .int) (t' := (.array .long)) (by decide) (by decide)))).ext Ex3).other W4 (Or.inr (RoadKit.slot_ne (Or.inl (hw _ (List.mem_of_getElem? (i := 21) rfl))) (Or.inl (hw _ (List.mem_of_getElem? (i := 16) rfl))) (by decide) (t := .int) (t' := (.array OBJ)) (by decide) (by decide)))).same W5, (((((Fs.ext Ex1).other W2 (Or.inr (RoadKit.slot_ne (Or.inl (hw _ (List.mem_of_getElem? (i := 53) rfl))) (Or.inl (hw _ (List.mem_of_getElem? (i := 14) rfl))) (by decide) (t := .int) (t' := (.array .long)) (by decide) (by decide)))).ext Ex3).other W4 (Or.inr (RoadKit.slot_ne (Or.inl (hw _ (List.mem_of_getElem? (i := 53) rfl))) (Or.inl (hw _ (List.mem_of_getElem? (i := 16) rfl))) (by decide) (t := .int) (t' := (.array OBJ)) (by decide) (by decide)))).other W5 (Or.inr (RoadKit.slot_ne (Or.inl (hw _ (List.mem_of_getElem? (i := 53) rfl))) (Or.inl (hw _ (List.mem_of_getElem? (i := 21) rfl))) (by decide) (t := .int) (t' := .int) (by decide) (by decide))))⟩, ⟨_, (((A1.other W2 (Ne.symm nk)).ext Ex3).other W4 (Ne.symm nk)).other W5 (Ne.symm nk), by rw [sz_new]; rfl, fun i hi => ?_⟩, ⟨_, (A3.other W4 (Ne.symm nv)).other W5 (Ne.symm nv), by rw [sz_new]; rfl, O3, fun i hi => ?_⟩, fun i hi => Or.inl rfl⟩
    · have := hi; show (Array.replicate 16 (Value.long 0))[i]? = _; rw [Array.getElem?_replicate, if_pos hi]
    · have := hi; show (Array.replicate 16 Value.null)[i]? = _; rw [Array.getElem?_replicate, if_pos hi]
  have O5 := ((((OO.ext Ex1).wr W2 gb).ext Ex3).wr W4 gb).wr W5 gb
  exact own_retv X5 hx hlk Bd.returns (hb hby d3_36) ⟨rfl, N5, by rw [e5]; exact O5, ka, va, by rw [e5]; exact MM⟩ (by decide) (by decide)
theorem pd_4 : parseMethodDescriptor "()V" = some ⟨[], none⟩ := by decide +kernel
theorem d1_0 : decode prog_24_method_1_code 0 = .ok (.aload_n 0, 1) := by decide +kernel
theorem d1_1 : decode prog_24_method_1_code 1 = .ok (.invokespecial 1, 3) := by decide +kernel
theorem d1_4 : decode prog_24_method_1_code 4 = .ok (.aload_n 0, 1) := by decide +kernel
theorem d1_5 : decode prog_24_method_1_code 5 = .ok (.bipush 16, 2) := by decide +kernel
theorem d1_7 : decode prog_24_method_1_code 7 = .ok (.invokevirtual 9, 3) := by decide +kernel
theorem d1_10 : decode prog_24_method_1_code 10 = .ok (.return_, 1) := by decide +kernel
theorem ef_rm_init (m : MethodId) (x0 : Addr) : entryFrame m #[(.ref x0)] 1 = mkF m 0 #[.val (.ref x0)] [] := by first | (simp [entryFrame, mkF, argsToLocals, Value.category]; done) | rfl
set_option maxRecDepth 65536 in
set_option maxHeartbeats 40000000 in
theorem rm_init (l : Launch) (Z : State) (a0 : Array Value) (hw : ∀ d ∈ tables_1, d.before a0 Z = true) (ws : List Jvm.Cond) (b : Addr) (h0 : Heap) (n0 : Nat) (EX : Exa Z h0 b IDM) (Fk : Fld Z h0 b IDM "keys" "[J" .null) (Fv : Fld Z h0 b IDM "values" "[Ljava/lang/Object;" .null) (Fm : Fld Z h0 b IDM "mask" "I" (.int 0)) (Fs : Fld Z h0 b IDM "size" "I" (.int 0)) (gb : n0 ≤ b) (Z0 : n0 ≤ h0.size) (OO : Old Z n0 h0) :
    MetFree l (⟨"com/example/rootlet/rootlet/IdMap", "<init>", "()V"⟩ : MethodName) (head1 (Jvm.Cond.code (⟨"com/example/rootlet/rootlet/IdMap", "<init>", "()V"⟩ : MethodName) prog_24_method_1_code 1 none :: ws) ({ frames := 1, cells := 2, slots := 32, locals := 17 } : Room)) (fun aa U => aa = #[(.ref b)] ∧ Z.Warmed39 U.vm ∧ U.heap = h0) (fun _ _ _ _ _ => True) (fun _ U o U' => ∃ v_ L_, o = .returned v_ ∧ own_QI Z n0 b v_ U'.heap L_ ∧ FrameEnd U o U' L_ ({ frames := 1, cells := 2, slots := 32, locals := 17 } : Room).cells ({ frames := 1, cells := 2, slots := 32, locals := 17 } : Room).slots) := by
  refine MetFree.of_bodySF (plainFor_of_name pn_0) hisR ?_
  intro p e s m args below meth c s₁ Bd hml0 hP hK
  obtain ⟨rfl, hZ, hh⟩ := hP
  have hx := Bd.exec
  have hby := Bd.bytes
  have hlk := Bd.notSynchronized
  have hml : c.maxLocals = 1 := hml0
  have hown : s.vm.findClass "com/example/rootlet/rootlet/IdMap" = some m.cls := by have q := findClass_of_methodNamed Bd.named; exact q
  have X0 : Stand p l e ({ frames := 1, cells := 2, slots := 32, locals := 17 } : Room) s m #[(.ref b)] below meth c s₁ [] 0 0 := Stand.of_body Bd
  have e0 : s₁.heap = h0 := by rw [← hh, Bd.state]; rfl
  have N0 := Fr.nil n0
  show Go p.tables e below (Fin s below (own_QI Z n0 b) ({ frames := 1, cells := 2, slots := 32, locals := 17 } : Room).cells ({ frames := 1, cells := 2, slots := 32, locals := 17 } : Room).slots) (s₁.setTop (entryFrame m #[(.ref b)] 1))
  refine own_go (fun tt_ kk_ => castTop (ef_rm_init m b) kk_) ?_
  show Go p.tables e below _ (s₁.setTop (mkF m 0 #[.val (.ref b)] []))
  refine own_go (fun tt_ kk_ => XS.aloadN X0.here hx rfl (hb hby d1_0) rfl rfl kk_) ?_
  show Go p.tables e below _ (s₁.setTop (mkF m 1 #[.val (.ref b)] [(.ref b)]))
  obtain ⟨T1, X1, e1, st1⟩ := initO X0 hx hZ hown (hw _ (List.mem_of_getElem? (i := 6) rfl)) (hw _ (List.mem_of_getElem? (i := 7) rfl)) (hw _ (List.mem_of_getElem? (i := 8) rfl)) e0 (g := (mkF m 1 #[.val (.ref b)] [(.ref b)])) rfl (by rw [hml]; rfl) rfl (hb hby d1_1) (by decide) (W := 0) (by show 2 * 0 + _ ≤ _; exact Nat.le_of_eq rfl) (by decide)
  refine own_go (fun tt_ kk_ => st1 tt_ kk_) ?_
  show Go p.tables e below _ (T1.setTop (mkF m 4 #[.val (.ref b)] []))
  refine own_go (fun tt_ kk_ => XS.aloadN X1.here hx rfl (hb hby d1_4) rfl rfl kk_) ?_
  show Go p.tables e below _ (T1.setTop (mkF m 5 #[.val (.ref b)] [(.ref b)]))
  refine own_go (fun tt_ kk_ => XS.bipush X1.here hx rfl (hb hby d1_5) kk_) ?_
  show Go p.tables e below _ (T1.setTop (mkF m 7 #[.val (.ref b)] [(.int (16 : Int32)), (.ref b)]))
  obtain ⟨cq2, q2a, q2b⟩ := (EX).cell
  obtain ⟨v2, _, ⟨T2, L2, k2, n2⟩, -, X2, ⟨Lc2, hQ2, l2, y2, z2⟩, st2⟩ := X1.privateBack hx (y := (⟨"com/example/rootlet/rootlet/IdMap", "allocate", "(I)V"⟩ : MethodName)) hown (mvT hZ (hw _ (List.mem_of_getElem? (i := 9) rfl))) (mvT hZ (hw _ (List.mem_of_getElem? (i := 10) rfl))) (own_selp (z := (⟨"com/example/rootlet/rootlet/IdMap", "put", "(JLjava/lang/Object;)Ljava/lang/Object;"⟩ : MethodName)) (mvT hZ (hw _ (List.mem_of_getElem? (i := 32) rfl))) rfl (mvP hZ (hw _ (List.mem_of_getElem? (i := 11) rfl))) (mvT hZ (hw _ (List.mem_of_getElem? (i := 10) rfl))) (by decide)) (Cond.privateMethod_at (mvP hZ (hw _ (List.mem_of_getElem? (i := 11) rfl)) (args := #[]))) (mvT hZ (hw _ (List.mem_of_getElem? (i := 12) rfl))) (by decide) (backOf (W := 0) (rm_alloc l Z a0 hw [] b h0 n0 EX Fk Fv Fm Fs gb Z0 OO) hZ (hw _ (List.mem_of_getElem? (i := 12) rfl)) (hw _ (List.mem_of_getElem? (i := 2) rfl)) (by decide) (by decide)) (g := (mkF m 7 #[.val (.ref b)] [(.int (16 : Int32)), (.ref b)])) rfl (by rw [hml]; rfl) (Steps.refl _) (a := b) (by rw [e1]; exact q2a) q2b (argsL := [(.int (16 : Int32))]) (rest := []) (lenOf pd_3 rfl) rfl (by show 2 * 0 + _ ≤ _; exact Nat.le_of_eq rfl) (hb hby d1_7) (fun _ _ => ⟨rfl, e1, (by decide : 0 + 2 ≤ _), (by decide : 0 + 32 ≤ _)⟩)
  dsimp only [Pt.U, Pt.locs, Pt.cells, Pt.slots] at X2 l2 y2 z2 st2 hQ2
  subst y2 z2
  obtain ⟨hv2, N2q, O2, ka, va, M2⟩ := hQ2
  subst hv2
  have N2 : Fr n0 L2 := by rw [l2]; exact Fr.app N0 N2q
  refine own_go (fun tt_ kk_ => st2.trans kk_) ?_
  show Go p.tables e below _ (T2.setTop (mkF m 10 #[.val (.ref b)] []))
  exact own_retv X2 hx hlk Bd.returns (hb hby d1_10) ⟨rfl, N2, O2, ka, va, M2⟩ (by decide) (by decide)
theorem d4_0 : decode jdk_33_method_22_code 0 = .ok (.iload_n 0, 1) := by decide +kernel
theorem d4_1 : decode jdk_33_method_22_code 1 = .ok (.bipush (-128), 2) := by decide +kernel
theorem d4_3 : decode jdk_33_method_22_code 3 = .ok (.if_icmp .lt 20, 3) := by decide +kernel
theorem d4_6 : decode jdk_33_method_22_code 6 = .ok (.iload_n 0, 1) := by decide +kernel
theorem d4_7 : decode jdk_33_method_22_code 7 = .ok (.getstatic 191, 3) := by decide +kernel
theorem d4_10 : decode jdk_33_method_22_code 10 = .ok (.if_icmp .gt 13, 3) := by decide +kernel
theorem d4_13 : decode jdk_33_method_22_code 13 = .ok (.getstatic 195, 3) := by decide +kernel
theorem d4_16 : decode jdk_33_method_22_code 16 = .ok (.iload_n 0, 1) := by decide +kernel
theorem d4_17 : decode jdk_33_method_22_code 17 = .ok (.sipush 128, 3) := by decide +kernel
theorem d4_20 : decode jdk_33_method_22_code 20 = .ok (.iadd, 1) := by decide +kernel
theorem d4_21 : decode jdk_33_method_22_code 21 = .ok (.aaload, 1) := by decide +kernel
theorem d4_22 : decode jdk_33_method_22_code 22 = .ok (.areturn, 1) := by decide +kernel
theorem d4_23 : decode jdk_33_method_22_code 23 = .ok (.new 1, 3) := by decide +kernel
theorem d4_26 : decode jdk_33_method_22_code 26 = .ok (.dup, 1) := by decide +kernel
theorem d4_27 : decode jdk_33_method_22_code 27 = .ok (.iload_n 0, 1) := by decide +kernel
theorem d4_28 : decode jdk_33_method_22_code 28 = .ok (.invokespecial 199, 3) := by decide +kernel
theorem d4_31 : decode jdk_33_method_22_code 31 = .ok (.areturn, 1) := by decide +kernel
theorem pn_2 : plainName "java/lang/Integer" = true := by first | (simp [plainName, overriddenIn]; done) | decide +kernel
theorem ef_rm_valueOf (m : MethodId) (x0 : Int32) : entryFrame m #[(.int x0)] 1 = mkF m 0 #[.val (.int x0)] [] := by first | (simp [entryFrame, mkF, argsToLocals, Value.category]; done) | rfl
set_option maxRecDepth 65536 in
set_option maxHeartbeats 40000000 in
theorem rm_valueOf (l : Launch) (Z : State) (a0 : Array Value) (hw : ∀ d ∈ tables_1, d.before a0 Z = true) (ws : List Jvm.Cond) (i : Int32) (ca w : Addr) (cl : Cell) (h0 : Heap) (n0 : Nat) (S_high : Sta Z h0 ICC "high" "I" (.int 127)) (S_cache : Sta Z h0 ICC "cache" "[Ljava/lang/Integer;" (.ref ca)) (Ar : Arr Z h0 ca cl (.object "java/lang/Integer")) (g1 : ¬ i < (-128)) (g2 : ¬ (127 : Int32) < i) (hin : ¬ ((i + 128) < 0 ∨ cl.slots.size ≤ (i + 128).toNatClampNeg)) (hat : cl.slots[(i + 128).toNatClampNeg]? = some (.ref w)) :
    MetFree l (⟨"java/lang/Integer", "valueOf", "(I)Ljava/lang/Integer;"⟩ : MethodName) (head1 (Jvm.Cond.code (⟨"java/lang/Integer", "valueOf", "(I)Ljava/lang/Integer;"⟩ : MethodName) jdk_33_method_22_code 1 (some (.object "java/lang/Integer")) :: ws) ({ frames := 0, cells := 0, slots := 0, locals := 0 } : Room)) (fun aa U => aa = #[(.int i)] ∧ Z.Warmed39 U.vm ∧ U.heap = h0) (fun _ _ _ _ _ => True) (fun _ U o U' => ∃ v_ L_, o = .returned v_ ∧ PQ (.ref w) h0 n0 v_ U'.heap L_ ∧ FrameEnd U o U' L_ ({ frames := 0, cells := 0, slots := 0, locals := 0 } : Room).cells ({ frames := 0, cells := 0, slots := 0, locals := 0 } : Room).slots) := by
  refine MetFree.of_bodySF (plainFor_of_name pn_2) hisR ?_
  intro p e s m args below meth c s₁ Bd hml0 hP hK
  obtain ⟨rfl, hZ, hh⟩ := hP
  have hx := Bd.exec
  have hby := Bd.bytes
  have hlk := Bd.notSynchronized
  have hml : c.maxLocals = 1 := hml0
  have hown : s.vm.findClass "java/lang/Integer" = some m.cls := by have q := findClass_of_methodNamed Bd.named; exact q
  have X0 : Stand p l e ({ frames := 0, cells := 0, slots := 0, locals := 0 } : Room) s m #[(.int i)] below meth c s₁ [] 0 0 := Stand.of_body Bd
  have e0 : s₁.heap = h0 := by rw [← hh, Bd.state]; rfl
  have N0 := Fr.nil n0
  show Go p.tables e below (Fin s below (PQ (.ref w) h0 n0) ({ frames := 0, cells := 0, slots := 0, locals := 0 } : Room).cells ({ frames := 0, cells := 0, slots := 0, locals := 0 } : Room).slots) (s₁.setTop (entryFrame m #[(.int i)] 1))
  refine own_go (fun tt_ kk_ => castTop (ef_rm_valueOf m i) kk_) ?_
  show Go p.tables e below _ (s₁.setTop (mkF m 0 #[.val (.int i)] []))
  refine own_go (fun tt_ kk_ => XS.iloadN X0.here hx rfl (hb hby d4_0) rfl kk_) ?_
  show Go p.tables e below _ (s₁.setTop (mkF m 1 #[.val (.int i)] [(.int i)]))
  refine own_go (fun tt_ kk_ => XS.bipush X0.here hx rfl (hb hby d4_1) kk_) ?_
  show Go p.tables e below _ (s₁.setTop (mkF m 3 #[.val (.int i)] [(.int ((-128) : Int32)), (.int i)]))
  refine own_go (fun tt_ kk_ => XS.icmpNo X0.here hx rfl (hb hby d4_3) rfl (XT.ii_lt_f g1) kk_) ?_
  show Go p.tables e below _ (s₁.setTop (mkF m 6 #[.val (.int i)] []))
  refine own_go (fun tt_ kk_ => XS.iloadN X0.here hx rfl (hb hby d4_6) rfl kk_) ?_
  show Go p.tables e below _ (s₁.setTop (mkF m 7 #[.val (.int i)] [(.int i)]))
  obtain ⟨T1, X1, e1, st1⟩ := getS2 X0 hx hZ hown (host := "") (Or.inl (hw _ (List.mem_of_getElem? (i := 26) rfl))) Via.refl e0 S_high (g := (mkF m 7 #[.val (.int i)] [(.int i)])) rfl (hb hby d4_7)
  refine own_go (fun tt_ kk_ => st1 tt_ kk_) ?_
  show Go p.tables e below _ (T1.setTop (mkF m 10 #[.val (.int i)] [(.int (127 : Int32)), (.int i)]))
  refine own_go (fun tt_ kk_ => XS.icmpNo X1.here hx rfl (hb hby d4_10) rfl (XT.ii_gt_f g2) kk_) ?_
  show Go p.tables e below _ (T1.setTop (mkF m 13 #[.val (.int i)] []))
  obtain ⟨T2, X2, e2, st2⟩ := getS2 X1 hx hZ hown (host := "") (Or.inl (hw _ (List.mem_of_getElem? (i := 28) rfl))) Via.refl e1 S_cache (g := (mkF m 13 #[.val (.int i)] [])) rfl (hb hby d4_13)
  refine own_go (fun tt_ kk_ => st2 tt_ kk_) ?_
  show Go p.tables e below _ (T2.setTop (mkF m 16 #[.val (.int i)] [(.ref ca)]))
  refine own_go (fun tt_ kk_ => XS.iloadN X2.here hx rfl (hb hby d4_16) rfl kk_) ?_
  show Go p.tables e below _ (T2.setTop (mkF m 17 #[.val (.int i)] [(.int i), (.ref ca)]))
  refine own_go (fun tt_ kk_ => XS.sipush X2.here hx rfl (hb hby d4_17) kk_) ?_
  show Go p.tables e below _ (T2.setTop (mkF m 20 #[.val (.int i)] [(.int (128 : Int32)), (.int i), (.ref ca)]))
  refine own_go (fun tt_ kk_ => XS.iadd X2.here hx rfl (hb hby d4_20) rfl kk_) ?_
  show Go p.tables e below _ (T2.setTop (mkF m 21 #[.val (.int i)] [(.int (i + (128 : Int32))), (.ref ca)]))
  refine own_go (fun tt_ kk_ => X2.aaload hx (j := (i + (128 : Int32))) (v := (.ref w)) (by rw [e2]; exact Ar.1) (State.isArrayOf_alike hZ.alike Ar.2.1) rfl Ar.2.2 hin hat (g := (mkF m 21 #[.val (.int i)] [(.int (i + (128 : Int32))), (.ref ca)])) rfl rfl (hb hby d4_21) tt_ kk_) ?_
  show Go p.tables e below _ (T2.setTop (mkF m 22 #[.val (.int i)] [(.ref w)]))
  exact own_ret X2 hx hlk Bd.returns rfl (Or.inr (Or.inr (Or.inr (Or.inr ⟨rfl, rfl, rfl⟩)))) (hb hby d4_22) ⟨rfl, N0, e2⟩ (by decide) (by decide)
def own_last (x a b c d : Int64) : Int32 := if x = d then 4 else if x = c then 3 else if x = b then 2 else if x = a then 1 else 0
def own_after (x k a b c d : Int64) : Int32 := if x = k then 0 else own_last x a b c d
def own_dn (a b c d : Int64) : Nat := 1 + (if b = a then 0 else 1) + (if c = a then 0 else if c = b then 0 else 1) + (if d = a then 0 else if d = b then 0 else if d = c then 0 else 1)
theorem own_dn_pos (a b c d : Int64) : 0 < own_dn a b c d := by unfold own_dn; omega
/-- the number that a boxed value stands for; 0 for null -/
def own_Num (Z : State) (h : Heap) (V : Value) (z : Int32) : Prop := (V = .null ∧ z = 0) ∨ ∃ w, V = .ref w ∧ z ≠ 0 ∧ Exa Z h w "java/lang/Integer" ∧ Fld Z h w "java/lang/Integer" "value" "I" (.int z)
theorem own_Num.ins {Z : State} {h : Heap} {V : Value} {z : Int32} (N : own_Num Z h V z) : V = .null ∨ ∃ a, V = .ref a ∧ Ins Z h a "java/lang/Integer" true := N.imp (·.1) fun ⟨w, q, _, r, _⟩ => ⟨w, q, Ins.self r⟩
theorem own_Num.isRef {Z : State} {h : Heap} {V : Value} {z : Int32} (N : own_Num Z h V z) : V.isRef = true := by rcases N with ⟨rfl, -⟩ | ⟨w, rfl, -⟩ <;> rfl
abbrev own_G4 (a b c d : Int64) (w1 w2 w3 w4 : Addr) : Int64 → Value := own_upd (own_upd (own_upd (own_upd (fun _ => Value.null) a (.ref w1)) b (.ref w2)) c (.ref w3)) d (.ref w4)
theorem own_num4 {Z : State} {h : Heap} {a b c d x : Int64} {w1 w2 w3 w4 : Addr} (E1 : Exa Z h w1 "java/lang/Integer") (E2 : Exa Z h w2 "java/lang/Integer") (E3 : Exa Z h w3 "java/lang/Integer") (E4 : Exa Z h w4 "java/lang/Integer")
    (V1 : Fld Z h w1 "java/lang/Integer" "value" "I" (.int 1)) (V2 : Fld Z h w2 "java/lang/Integer" "value" "I" (.int 2)) (V3 : Fld Z h w3 "java/lang/Integer" "value" "I" (.int 3)) (V4 : Fld Z h w4 "java/lang/Integer" "value" "I" (.int 4)) :
    own_Num Z h (own_G4 a b c d w1 w2 w3 w4 x) (own_last x a b c d) := by
  unfold own_last own_G4
  by_cases hd : x = d
  · rw [if_pos hd, hd, own_upd_same]; exact Or.inr ⟨_, rfl, by decide, E4, V4⟩
  rw [if_neg hd, own_upd_ne _ _ hd]
  by_cases hc : x = c
  · rw [if_pos hc, hc, own_upd_same]; exact Or.inr ⟨_, rfl, by decide, E3, V3⟩
  rw [if_neg hc, own_upd_ne _ _ hc]
  by_cases hb : x = b
  · rw [if_pos hb, hb, own_upd_same]; exact Or.inr ⟨_, rfl, by decide, E2, V2⟩
  rw [if_neg hb, own_upd_ne _ _ hb]
  by_cases ha : x = a
  · rw [if_pos ha, ha, own_upd_same]; exact Or.inr ⟨_, rfl, by decide, E1, V1⟩
  rw [if_neg ha, own_upd_ne _ _ ha]
  exact Or.inl ⟨rfl, rfl⟩
theorem own_num5 {Z : State} {h : Heap} {a b c d x k : Int64} {G : Int64 → Value} (N : own_Num Z h (G x) (own_last x a b c d)) : own_Num Z h (own_upd G k .null x) (own_after x k a b c d) := by
  unfold own_after
  by_cases q : x = k
  · rw [if_pos q, q, own_upd_same]; exact Or.inl ⟨rfl, rfl⟩
  · rw [if_neg q, own_upd_ne _ _ q]; exact N
theorem own_Num.zero {Z : State} {h : Heap} {V : Value} {z : Int32} (N : own_Num Z h V z) : z = 0 ↔ V = .null := by
  rcases N with ⟨rfl, rfl⟩ | ⟨w, rfl, hz, -⟩
  · simp
  · simp [hz]
theorem own_count4 {a b c d : Int64} {w1 w2 w3 : Addr} {G0 G1 G2 G3 : Int64 → Value} {n1 n2 n3 n4 : Nat} (g0 : G0 = fun _ => .null) (g1 : G1 = own_upd G0 a (.ref w1)) (g2 : G2 = own_upd G1 b (.ref w2)) (g3 : G3 = own_upd G2 c (.ref w3))
    (h1 : n1 = if G0 a = .null then 0 + 1 else 0) (h2 : n2 = if G1 b = .null then n1 + 1 else n1) (h3 : n3 = if G2 c = .null then n2 + 1 else n2) (h4 : n4 = if G3 d = .null then n3 + 1 else n3) : n4 = own_dn a b c d := by
  subst g0 g1 g2 g3
  rw [if_pos rfl] at h1
  have e2 : n2 = n1 + (if b = a then 0 else 1) := by
    rw [h2]
    by_cases q : b = a
    · rw [if_pos q, if_neg (fun z => (own_come.mp z).1 q)]; rfl
    · rw [if_neg q, if_pos (own_come.mpr ⟨q, rfl⟩)]
  have e3 : n3 = n2 + (if c = a then 0 else if c = b then 0 else 1) := by
    rw [h3]
    by_cases q : c = a
    · rw [if_pos q, if_neg (fun z => (own_come.mp (own_come.mp z).2).1 q)]; rfl
    · by_cases r : c = b
      · rw [if_neg q, if_pos r, if_neg (fun z => (own_come.mp z).1 r)]; rfl
      · rw [if_neg q, if_neg r, if_pos (own_come.mpr ⟨r, own_come.mpr ⟨q, rfl⟩⟩)]
  have e4 : n4 = n3 + (if d = a then 0 else if d = b then 0 else if d = c then 0 else 1) := by
    rw [h4]
    by_cases q : d = a
    · rw [if_pos q, if_neg (fun z => (own_come.mp (own_come.mp (own_come.mp z).2).2).1 q)]; rfl
    · by_cases r : d = b
      · rw [if_neg q, if_pos r, if_neg (fun z => (own_come.mp (own_come.mp z).2).1 r)]; rfl
      · by_cases t : d = c
        · rw [if_neg q, if_neg r, if_pos t, if_neg (fun z => (own_come.mp z).1 t)]; rfl
        · rw [if_neg q, if_neg r, if_neg t, if_pos (own_come.mpr ⟨t, own_come.mpr ⟨r, own_come.mpr ⟨q, rfl⟩⟩⟩)]
  rw [e4, e3, e2, h1]
  unfold own_dn
  omega
theorem own_cast {p : Program} {l : Launch} {e : Env} {R : Room} {s : State} {m : MethodId} {args : Array Value} {below : List Frame} {meth : Method} {c : Code} {T : State} {locs : List Loc} {cells slots : Nat} {Z : State} {a0 : Array Value} {h : Heap} (X : Stand p l e R s m args below meth c T locs cells slots) (hx : p.tables.exec = Jvm.exec) (hZ : Z.Warmed39 s.vm) {own K : String} {index : Nat} (hown : s.vm.findClass own = some m.cls) (w : (Jvm.Cond.classLink own index K).before a0 Z = true) (eT : T.heap = h) {V : Value} (hV : V = .null ∨ ∃ a, V = .ref a ∧ Ins Z h a K true)
    {g : JFrame} (hg : g.method = m) {rest : List Value} (hs : g.stack = V :: rest) (hd : decode c.code g.pc = .ok (.checkcast index, 3)) : ∃ T', Stand p l e R s m args below meth c T' locs cells slots ∧ T'.heap = h ∧ ∀ target, Steps p.tables e below (T'.setTop { g with pc := g.pc + 3 }) target → Steps p.tables e below (T.setTop g) target := by
  rcases hV with rfl | ⟨a, rfl, I⟩
  · exact ⟨T, X, eT, X.checkcastNull hx hg hs hd⟩
  · exact castY X hx hZ hown w eT I hg hs hd
theorem d9_0 : decode method_2_code 0 = .ok (.lload_n 0, 1) := by decide +kernel
theorem d9_1 : decode method_2_code 1 = .ok (.lload 8, 2) := by decide +kernel
theorem d9_3 : decode method_2_code 3 = .ok (.lcmp, 1) := by decide +kernel
theorem d9_4 : decode method_2_code 4 = .ok (.ifCond .ne 5, 3) := by decide +kernel
theorem d9_7 : decode method_2_code 7 = .ok (.iconst 4, 1) := by decide +kernel
theorem d9_8 : decode method_2_code 8 = .ok (.ireturn, 1) := by decide +kernel
theorem d9_9 : decode method_2_code 9 = .ok (.lload_n 0, 1) := by decide +kernel
theorem d9_10 : decode method_2_code 10 = .ok (.lload 6, 2) := by decide +kernel
theorem d9_12 : decode method_2_code 12 = .ok (.lcmp, 1) := by decide +kernel
theorem d9_13 : decode method_2_code 13 = .ok (.ifCond .ne 5, 3) := by decide +kernel
theorem d9_16 : decode method_2_code 16 = .ok (.iconst 3, 1) := by decide +kernel
theorem d9_17 : decode method_2_code 17 = .ok (.ireturn, 1) := by decide +kernel
theorem d9_18 : decode method_2_code 18 = .ok (.lload_n 0, 1) := by decide +kernel
theorem d9_19 : decode method_2_code 19 = .ok (.lload 4, 2) := by decide +kernel
theorem d9_21 : decode method_2_code 21 = .ok (.lcmp, 1) := by decide +kernel
theorem d9_22 : decode method_2_code 22 = .ok (.ifCond .ne 5, 3) := by decide +kernel
theorem d9_25 : decode method_2_code 25 = .ok (.iconst 2, 1) := by decide +kernel
theorem d9_26 : decode method_2_code 26 = .ok (.ireturn, 1) := by decide +kernel
theorem d9_27 : decode method_2_code 27 = .ok (.lload_n 0, 1) := by decide +kernel
theorem d9_28 : decode method_2_code 28 = .ok (.lload_n 2, 1) := by decide +kernel
theorem d9_29 : decode method_2_code 29 = .ok (.lcmp, 1) := by decide +kernel
theorem d9_30 : decode method_2_code 30 = .ok (.ifCond .ne 5, 3) := by decide +kernel
theorem d9_33 : decode method_2_code 33 = .ok (.iconst 1, 1) := by decide +kernel
theorem d9_34 : decode method_2_code 34 = .ok (.ireturn, 1) := by decide +kernel
theorem d9_35 : decode method_2_code 35 = .ok (.iconst 0, 1) := by decide +kernel
theorem d9_36 : decode method_2_code 36 = .ok (.ireturn, 1) := by decide +kernel
theorem pn_3 : plainName "com/example/rootlet/rootlet/IdMapRemovePinLaw" = true := by first | (simp [plainName, overriddenIn]; done) | decide +kernel
theorem ef_rm_last (m : MethodId) (x0 : Int64) (x1 : Int64) (x2 : Int64) (x3 : Int64) (x4 : Int64) : entryFrame m #[(.long x0), (.long x1), (.long x2), (.long x3), (.long x4)] 10 = mkF m 0 #[.val (.long x0), .second, .val (.long x1), .second, .val (.long x2), .second, .val (.long x3), .second, .val (.long x4), .second] [] := by first | (simp [entryFrame, mkF, argsToLocals, Value.category]; done) | rfl
set_option maxRecDepth 65536 in
set_option maxHeartbeats 40000000 in
theorem rm_last (l : Launch) (Z : State) (a0 : Array Value) (hw : ∀ d ∈ tables_1, d.before a0 Z = true) (ws : List Jvm.Cond) (y1 y2 y3 y4 y5 : Int64) (h0 : Heap) (n0 : Nat)  :
    MetFree l (⟨"com/example/rootlet/rootlet/IdMapRemovePinLaw", "last", "(JJJJJ)I"⟩ : MethodName) (head1 (Jvm.Cond.code (⟨"com/example/rootlet/rootlet/IdMapRemovePinLaw", "last", "(JJJJJ)I"⟩ : MethodName) method_2_code 10 (some .int) :: ws) ({ frames := 0, cells := 0, slots := 0, locals := 0 } : Room)) (fun aa U => aa = #[(.long y1), (.long y2), (.long y3), (.long y4), (.long y5)] ∧ Z.Warmed39 U.vm ∧ U.heap = h0) (fun _ _ _ _ _ => True) (fun _ U o U' => ∃ v_ L_, o = .returned v_ ∧ PQ (.int (own_last y1 y2 y3 y4 y5)) h0 n0 v_ U'.heap L_ ∧ FrameEnd U o U' L_ ({ frames := 0, cells := 0, slots := 0, locals := 0 } : Room).cells ({ frames := 0, cells := 0, slots := 0, locals := 0 } : Room).slots) := by
  refine MetFree.of_bodySF (plainFor_of_name pn_3) hisR ?_
  intro p e s m args below meth c s₁ Bd hml0 hP hK
  obtain ⟨rfl, hZ, hh⟩ := hP
  have hx := Bd.exec
  have hby := Bd.bytes
  have hlk := Bd.notSynchronized
  have hml : c.maxLocals = 10 := hml0
  have hown : s.vm.findClass "com/example/rootlet/rootlet/IdMapRemovePinLaw" = some m.cls := by have q := findClass_of_methodNamed Bd.named; exact q
  have X0 : Stand p l e ({ frames := 0, cells := 0, slots := 0, locals := 0 } : Room) s m #[(.long y1), (.long y2), (.long y3), (.long y4), (.long y5)] below meth c s₁ [] 0 0 := Stand.of_body Bd
  have e0 : s₁.heap = h0 := by rw [← hh, Bd.state]; rfl
  have N0 := Fr.nil n0
  show Go p.tables e below (Fin s below (PQ (.int (own_last y1 y2 y3 y4 y5)) h0 n0) ({ frames := 0, cells := 0, slots := 0, locals := 0 } : Room).cells ({ frames := 0, cells := 0, slots := 0, locals := 0 } : Room).slots) (s₁.setTop (entryFrame m #[(.long y1), (.long y2), (.long y3), (.long y4), (.long y5)] 10))
  refine own_go (fun tt_ kk_ => castTop (ef_rm_last m y1 y2 y3 y4 y5) kk_) ?_
  show Go p.tables e below _ (s₁.setTop (mkF m 0 #[.val (.long y1), .second, .val (.long y2), .second, .val (.long y3), .second, .val (.long y4), .second, .val (.long y5), .second] []))
  refine own_go (fun tt_ kk_ => XT.lloadN X0.here hx rfl (hb hby d9_0) rfl kk_) ?_
  show Go p.tables e below _ (s₁.setTop (mkF m 1 #[.val (.long y1), .second, .val (.long y2), .second, .val (.long y3), .second, .val (.long y4), .second, .val (.long y5), .second] [(.long y1)]))
  refine own_go (fun tt_ kk_ => XT.lload X0.here hx rfl (hb hby d9_1) rfl kk_) ?_
  show Go p.tables e below _ (s₁.setTop (mkF m 3 #[.val (.long y1), .second, .val (.long y2), .second, .val (.long y3), .second, .val (.long y4), .second, .val (.long y5), .second] [(.long y5), (.long y1)]))
  refine own_go (fun tt_ kk_ => XT.lcmp X0.here hx rfl (hb hby d9_3) rfl kk_) ?_
  show Go p.tables e below _ (s₁.setTop (mkF m 4 #[.val (.long y1), .second, .val (.long y2), .second, .val (.long y3), .second, .val (.long y4), .second, .val (.long y5), .second] [(.int (XT.cmpL y1 y5))]))
  by_cases hc1 : y1 = y5
  · refine own_go (fun tt_ kk_ => XS.ifNo X0.here hx rfl (hb hby d9_4) rfl (XT.ll_ne_f hc1) kk_) ?_
    show Go p.tables e below _ (s₁.setTop (mkF m 7 #[.val (.long y1), .second, .val (.long y2), .second, .val (.long y3), .second, .val (.long y4), .second, .val (.long y5), .second] []))
    refine own_go (fun tt_ kk_ => XS.iconst X0.here hx rfl (hb hby d9_7) kk_) ?_
    show Go p.tables e below _ (s₁.setTop (mkF m 8 #[.val (.long y1), .second, .val (.long y2), .second, .val (.long y3), .second, .val (.long y4), .second, .val (.long y5), .second] [(.int (4 : Int32))]))
    exact own_ret X0 hx hlk Bd.returns rfl (Or.inl ⟨rfl, Or.inl rfl, _, rfl⟩) (hb hby d9_8) ⟨congrArg (fun z => some (Value.int z)) (by rw [own_last, if_pos hc1]), N0, e0⟩ (by decide) (by decide)
  · refine own_go (fun tt_ kk_ => XS.ifYes X0.here hx rfl (pc0 := 4) (pc' := 9) rfl (hb hby d9_4) rfl (XT.ll_ne_t hc1) (by decide) (by decide) kk_) ?_
    show Go p.tables e below _ (s₁.setTop (mkF m 9 #[.val (.long y1), .second, .val (.long y2), .second, .val (.long y3), .second, .val (.long y4), .second, .val (.long y5), .second] []))
    refine own_go (fun tt_ kk_ => XT.lloadN X0.here hx rfl (hb hby d9_9) rfl kk_) ?_
    show Go p.tables e below _ (s₁.setTop (mkF m 10 #[.val (.long y1), .second, .val (.long y2), .second, .val (.long y3), .second, .val (.long y4), .second, .val (.long y5), .second] [(.long y1)]))
    refine own_go (fun tt_ kk_ => XT.lload X0.here hx rfl (hb hby d9_10) rfl kk_) ?_
    show Go p.tables e below _ (s₁.setTop (mkF m 12 #[.val (.long y1), .second, .val (.long y2), .second, .val (.long y3), .second, .val (.long y4), .second, .val (.long y5), .second] [(.long y4), (.long y1)]))
    refine own_go (fun tt_ kk_ => XT.lcmp X0.here hx rfl (hb hby d9_12) rfl kk_) ?_
    show Go p.tables e below _ (s₁.setTop (mkF m 13 #[.val (.long y1), .second, .val (.long y2), .second, .val (.long y3), .second, .val (.long y4), .second, .val (.long y5), .second] [(.int (XT.cmpL y1 y4))]))
    by_cases hc2 : y1 = y4
    · refine own_go (fun tt_ kk_ => XS.ifNo X0.here hx rfl (hb hby d9_13) rfl (XT.ll_ne_f hc2) kk_) ?_
      show Go p.tables e below _ (s₁.setTop (mkF m 16 #[.val (.long y1), .second, .val (.long y2), .second, .val (.long y3), .second, .val (.long y4), .second, .val (.long y5), .second] []))
      refine own_go (fun tt_ kk_ => XS.iconst X0.here hx rfl (hb hby d9_16) kk_) ?_
      show Go p.tables e below _ (s₁.setTop (mkF m 17 #[.val (.long y1), .second, .val (.long y2), .second, .val (.long y3), .second, .val (.long y4), .second, .val (.long y5), .second] [(.int (3 : Int32))]))
      exact own_ret X0 hx hlk Bd.returns rfl (Or.inl ⟨rfl, Or.inl rfl, _, rfl⟩) (hb hby d9_17) ⟨congrArg (fun z => some (Value.int z)) (by rw [own_last, if_neg hc1, if_pos hc2]), N0, e0⟩ (by decide) (by decide)
    · refine own_go (fun tt_ kk_ => XS.ifYes X0.here hx rfl (pc0 := 13) (pc' := 18) rfl (hb hby d9_13) rfl (XT.ll_ne_t hc2) (by decide) (by decide) kk_) ?_
      show Go p.tables e below _ (s₁.setTop (mkF m 18 #[.val (.long y1), .second, .val (.long y2), .second, .val (.long y3), .second, .val (.long y4), .second, .val (.long y5), .second] []))
      refine own_go (fun tt_ kk_ => XT.lloadN X0.here hx rfl (hb hby d9_18) rfl kk_) ?_
      show Go p.tables e below _ (s₁.setTop (mkF m 19 #[.val (.long y1), .second, .val (.long y2), .second, .val (.long y3), .second, .val (.long y4), .second, .val (.long y5), .second] [(.long y1)]))
      refine own_go (fun tt_ kk_ => XT.lload X0.here hx rfl (hb hby d9_19) rfl kk_) ?_
      show Go p.tables e below _ (s₁.setTop (mkF m 21 #[.val (.long y1), .second, .val (.long y2), .second, .val (.long y3), .second, .val (.long y4), .second, .val (.long y5), .second] [(.long y3), (.long y1)]))
      refine own_go (fun tt_ kk_ => XT.lcmp X0.here hx rfl (hb hby d9_21) rfl kk_) ?_
      show Go p.tables e below _ (s₁.setTop (mkF m 22 #[.val (.long y1), .second, .val (.long y2), .second, .val (.long y3), .second, .val (.long y4), .second, .val (.long y5), .second] [(.int (XT.cmpL y1 y3))]))
      by_cases hc3 : y1 = y3
      · refine own_go (fun tt_ kk_ => XS.ifNo X0.here hx rfl (hb hby d9_22) rfl (XT.ll_ne_f hc3) kk_) ?_
        show Go p.tables e below _ (s₁.setTop (mkF m 25 #[.val (.long y1), .second, .val (.long y2), .second, .val (.long y3), .second, .val (.long y4), .second, .val (.long y5), .second] []))
        refine own_go (fun tt_ kk_ => XS.iconst X0.here hx rfl (hb hby d9_25) kk_) ?_
        show Go p.tables e below _ (s₁.setTop (mkF m 26 #[.val (.long y1), .second, .val (.long y2), .second, .val (.long y3), .second, .val (.long y4), .second, .val (.long y5), .second] [(.int (2 : Int32))]))
        exact own_ret X0 hx hlk Bd.returns rfl (Or.inl ⟨rfl, Or.inl rfl, _, rfl⟩) (hb hby d9_26) ⟨congrArg (fun z => some (Value.int z)) (by rw [own_last, if_neg hc1, if_neg hc2, if_pos hc3]), N0, e0⟩ (by decide) (by decide)
      · refine own_go (fun tt_ kk_ => XS.ifYes X0.here hx rfl (pc0 := 22) (pc' := 27) rfl (hb hby d9_22) rfl (XT.ll_ne_t hc3) (by decide) (by decide) kk_) ?_
        show Go p.tables e below _ (s₁.setTop (mkF m 27 #[.val (.long y1), .second, .val (.long y2), .second, .val (.long y3), .second, .val (.long y4), .second, .val (.long y5), .second] []))
        refine own_go (fun tt_ kk_ => XT.lloadN X0.here hx rfl (hb hby d9_27) rfl kk_) ?_
        show Go p.tables e below _ (s₁.setTop (mkF m 28 #[.val (.long y1), .second, .val (.long y2), .second, .val (.long y3), .second, .val (.long y4), .second, .val (.long y5), .second] [(.long y1)]))
        refine own_go (fun tt_ kk_ => XT.lloadN X0.here hx rfl (hb hby d9_28) rfl kk_) ?_
        show Go p.tables e below _ (s₁.setTop (mkF m 29 #[.val (.long y1), .second, .val (.long y2), .second, .val (.long y3), .second, .val (.long y4), .second, .val (.long y5), .second] [(.long y2), (.long y1)]))
        refine own_go (fun tt_ kk_ => XT.lcmp X0.here hx rfl (hb hby d9_29) rfl kk_) ?_
        show Go p.tables e below _ (s₁.setTop (mkF m 30 #[.val (.long y1), .second, .val (.long y2), .second, .val (.long y3), .second, .val (.long y4), .second, .val (.long y5), .second] [(.int (XT.cmpL y1 y2))]))
        by_cases hc4 : y1 = y2
        · refine own_go (fun tt_ kk_ => XS.ifNo X0.here hx rfl (hb hby d9_30) rfl (XT.ll_ne_f hc4) kk_) ?_
          show Go p.tables e below _ (s₁.setTop (mkF m 33 #[.val (.long y1), .second, .val (.long y2), .second, .val (.long y3), .second, .val (.long y4), .second, .val (.long y5), .second] []))
          refine own_go (fun tt_ kk_ => XS.iconst X0.here hx rfl (hb hby d9_33) kk_) ?_
          show Go p.tables e below _ (s₁.setTop (mkF m 34 #[.val (.long y1), .second, .val (.long y2), .second, .val (.long y3), .second, .val (.long y4), .second, .val (.long y5), .second] [(.int (1 : Int32))]))
          exact own_ret X0 hx hlk Bd.returns rfl (Or.inl ⟨rfl, Or.inl rfl, _, rfl⟩) (hb hby d9_34) ⟨congrArg (fun z => some (Value.int z)) (by rw [own_last, if_neg hc1, if_neg hc2, if_neg hc3, if_pos hc4]), N0, e0⟩ (by decide) (by decide)
        · refine own_go (fun tt_ kk_ => XS.ifYes X0.here hx rfl (pc0 := 30) (pc' := 35) rfl (hb hby d9_30) rfl (XT.ll_ne_t hc4) (by decide) (by decide) kk_) ?_
          show Go p.tables e below _ (s₁.setTop (mkF m 35 #[.val (.long y1), .second, .val (.long y2), .second, .val (.long y3), .second, .val (.long y4), .second, .val (.long y5), .second] []))
          refine own_go (fun tt_ kk_ => XS.iconst X0.here hx rfl (hb hby d9_35) kk_) ?_
          show Go p.tables e below _ (s₁.setTop (mkF m 36 #[.val (.long y1), .second, .val (.long y2), .second, .val (.long y3), .second, .val (.long y4), .second, .val (.long y5), .second] [(.int (0 : Int32))]))
          exact own_ret X0 hx hlk Bd.returns rfl (Or.inl ⟨rfl, Or.inl rfl, _, rfl⟩) (hb hby d9_36) ⟨congrArg (fun z => some (Value.int z)) (by rw [own_last, if_neg hc1, if_neg hc2, if_neg hc3, if_neg hc4]), N0, e0⟩ (by decide) (by decide)
theorem d10_0 : decode method_3_code 0 = .ok (.iconst 1, 1) := by decide +kernel
theorem d10_1 : decode method_3_code 1 = .ok (.istore 8, 2) := by decide +kernel
theorem d10_3 : decode method_3_code 3 = .ok (.lload_n 2, 1) := by decide +kernel
theorem d10_4 : decode method_3_code 4 = .ok (.lload_n 0, 1) := by decide +kernel
theorem d10_5 : decode method_3_code 5 = .ok (.lcmp, 1) := by decide +kernel
theorem d10_6 : decode method_3_code 6 = .ok (.ifCond .eq 6, 3) := by decide +kernel
theorem d10_9 : decode method_3_code 9 = .ok (.iinc 8 1, 3) := by decide +kernel
theorem d10_12 : decode method_3_code 12 = .ok (.lload 4, 2) := by decide +kernel
theorem d10_14 : decode method_3_code 14 = .ok (.lload_n 0, 1) := by decide +kernel
theorem d10_15 : decode method_3_code 15 = .ok (.lcmp, 1) := by decide +kernel
theorem d10_16 : decode method_3_code 16 = .ok (.ifCond .eq 13, 3) := by decide +kernel
theorem d10_19 : decode method_3_code 19 = .ok (.lload 4, 2) := by decide +kernel
theorem d10_21 : decode method_3_code 21 = .ok (.lload_n 2, 1) := by decide +kernel
theorem d10_22 : decode method_3_code 22 = .ok (.lcmp, 1) := by decide +kernel
theorem d10_23 : decode method_3_code 23 = .ok (.ifCond .eq 6, 3) := by decide +kernel
theorem d10_26 : decode method_3_code 26 = .ok (.iinc 8 1, 3) := by decide +kernel
theorem d10_29 : decode method_3_code 29 = .ok (.lload 6, 2) := by decide +kernel
theorem d10_31 : decode method_3_code 31 = .ok (.lload_n 0, 1) := by decide +kernel
theorem d10_32 : decode method_3_code 32 = .ok (.lcmp, 1) := by decide +kernel
theorem d10_33 : decode method_3_code 33 = .ok (.ifCond .eq 21, 3) := by decide +kernel
theorem d10_36 : decode method_3_code 36 = .ok (.lload 6, 2) := by decide +kernel
theorem d10_38 : decode method_3_code 38 = .ok (.lload_n 2, 1) := by decide +kernel
theorem d10_39 : decode method_3_code 39 = .ok (.lcmp, 1) := by decide +kernel
theorem d10_40 : decode method_3_code 40 = .ok (.ifCond .eq 14, 3) := by decide +kernel
theorem d10_43 : decode method_3_code 43 = .ok (.lload 6, 2) := by decide +kernel
theorem d10_45 : decode method_3_code 45 = .ok (.lload 4, 2) := by decide +kernel
theorem d10_47 : decode method_3_code 47 = .ok (.lcmp, 1) := by decide +kernel
theorem d10_48 : decode method_3_code 48 = .ok (.ifCond .eq 6, 3) := by decide +kernel
theorem d10_51 : decode method_3_code 51 = .ok (.iinc 8 1, 3) := by decide +kernel
theorem d10_54 : decode method_3_code 54 = .ok (.iload 8, 2) := by decide +kernel
theorem d10_56 : decode method_3_code 56 = .ok (.ireturn, 1) := by decide +kernel
theorem ef_rm_distinct (m : MethodId) (x0 : Int64) (x1 : Int64) (x2 : Int64) (x3 : Int64) : entryFrame m #[(.long x0), (.long x1), (.long x2), (.long x3)] 9 = mkF m 0 #[.val (.long x0), .second, .val (.long x1), .second, .val (.long x2), .second, .val (.long x3), .second, .unset] [] := by first | (simp [entryFrame, mkF, argsToLocals, Value.category]; done) | rfl
set_option maxRecDepth 65536 in
set_option maxHeartbeats 40000000 in
theorem rm_distinct (l : Launch) (Z : State) (a0 : Array Value) (hw : ∀ d ∈ tables_1, d.before a0 Z = true) (ws : List Jvm.Cond) (y1 y2 y3 y4 : Int64) (h0 : Heap) (n0 : Nat)  :
    MetFree l (⟨"com/example/rootlet/rootlet/IdMapRemovePinLaw", "distinct", "(JJJJ)I"⟩ : MethodName) (head1 (Jvm.Cond.code (⟨"com/example/rootlet/rootlet/IdMapRemovePinLaw", "distinct", "(JJJJ)I"⟩ : MethodName) method_3_code 9 (some .int) :: ws) ({ frames := 0, cells := 0, slots := 0, locals := 0 } : Room)) (fun aa U => aa = #[(.long y1), (.long y2), (.long y3), (.long y4)] ∧ Z.Warmed39 U.vm ∧ U.heap = h0) (fun _ _ _ _ _ => True) (fun _ U o U' => ∃ v_ L_, o = .returned v_ ∧ PQ (.int (ix (own_dn y1 y2 y3 y4))) h0 n0 v_ U'.heap L_ ∧ FrameEnd U o U' L_ ({ frames := 0, cells := 0, slots := 0, locals := 0 } : Room).cells ({ frames := 0, cells := 0, slots := 0, locals := 0 } : Room).slots) := by
  refine MetFree.of_bodySF (plainFor_of_name pn_3) hisR ?_
  intro p e s m args below meth c s₁ Bd hml0 hP hK
  obtain ⟨rfl, hZ, hh⟩ := hP
  have hx := Bd.exec
  have hby := Bd.bytes
  have hlk := Bd.notSynchronized
  have hml : c.maxLocals = 9 := hml0
  have hown : s.vm.findClass "com/example/rootlet/rootlet/IdMapRemovePinLaw" = some m.cls := by have q := findClass_of_methodNamed Bd.named; exact q
  have X0 : Stand p l e ({ frames := 0, cells := 0, slots := 0, locals := 0 } : Room) s m #[(.long y1), (.long y2), (.long y3), (.long y4)] below meth c s₁ [] 0 0 := Stand.of_body Bd
  have e0 : s₁.heap = h0 := by rw [← hh, Bd.state]; rfl
  have N0 := Fr.nil n0
  show Go p.tables e below (Fin s below (PQ (.int (ix (own_dn y1 y2 y3 y4))) h0 n0) ({ frames := 0, cells := 0, slots := 0, locals := 0 } : Room).cells ({ frames := 0, cells := 0, slots := 0, locals := 0 } : Room).slots) (s₁.setTop (entryFrame m #[(.long y1), (.long y2), (.long y3), (.long y4)] 9))
  refine own_go (fun tt_ kk_ => castTop (ef_rm_distinct m y1 y2 y3 y4) kk_) ?_
  show Go p.tables e below _ (s₁.setTop (mkF m 0 #[.val (.long y1), .second, .val (.long y2), .second, .val (.long y3), .second, .val (.long y4), .second, .unset] []))
  refine own_go (fun tt_ kk_ => XS.iconst X0.here hx rfl (hb hby d10_0) kk_) ?_
  show Go p.tables e below _ (s₁.setTop (mkF m 1 #[.val (.long y1), .second, .val (.long y2), .second, .val (.long y3), .second, .val (.long y4), .second, .unset] [(.int (1 : Int32))]))
  refine own_go (fun tt_ kk_ => XS.istore X0.here hx rfl (hb hby d10_1) rfl (l' := #[.val (.long y1), .second, .val (.long y2), .second, .val (.long y3), .second, .val (.long y4), .second, .val (.int (1 : Int32))]) rfl kk_) ?_
  show Go p.tables e below _ (s₁.setTop (mkF m 3 #[.val (.long y1), .second, .val (.long y2), .second, .val (.long y3), .second, .val (.long y4), .second, .val (.int (1 : Int32))] []))
  refine own_go (fun tt_ kk_ => XT.lloadN X0.here hx rfl (hb hby d10_3) rfl kk_) ?_
  show Go p.tables e below _ (s₁.setTop (mkF m 4 #[.val (.long y1), .second, .val (.long y2), .second, .val (.long y3), .second, .val (.long y4), .second, .val (.int (1 : Int32))] [(.long y2)]))
  refine own_go (fun tt_ kk_ => XT.lloadN X0.here hx rfl (hb hby d10_4) rfl kk_) ?_
  show Go p.tables e below _ (s₁.setTop (mkF m 5 #[.val (.long y1), .second, .val (.long y2), .second, .val (.long y3), .second, .val (.long y4), .second, .val (.int (1 : Int32))] [(.long y1), (.long y2)]))
  refine own_go (fun tt_ kk_ => XT.lcmp X0.here hx rfl (hb hby d10_5) rfl kk_) ?_
  show Go p.tables e below _ (s₁.setTop (mkF m 6 #[.val (.long y1), .second, .val (.long y2), .second, .val (.long y3), .second, .val (.long y4), .second, .val (.int (1 : Int32))] [(.int (XT.cmpL y2 y1))]))
  by_cases hc1 : y2 = y1
  · refine own_go (fun tt_ kk_ => XS.ifYes X0.here hx rfl (pc0 := 6) (pc' := 12) rfl (hb hby d10_6) rfl (XT.ll_eq_t hc1) (by decide) (by decide) kk_) ?_
    show Go p.tables e below _ (s₁.setTop (mkF m 12 #[.val (.long y1), .second, .val (.long y2), .second, .val (.long y3), .second, .val (.long y4), .second, .val (.int (1 : Int32))] []))
    refine own_go (fun tt_ kk_ => XT.lload X0.here hx rfl (hb hby d10_12) rfl kk_) ?_
    show Go p.tables e below _ (s₁.setTop (mkF m 14 #[.val (.long y1), .second, .val (.long y2), .second, .val (.long y3), .second, .val (.long y4), .second, .val (.int (1 : Int32))] [(.long y3)]))
    refine own_go (fun tt_ kk_ => XT.lloadN X0.here hx rfl (hb hby d10_14) rfl kk_) ?_
    show Go p.tables e below _ (s₁.setTop (mkF m 15 #[.val (.long y1), .second, .val (.long y2), .second, .val (.long y3), .second, .val (.long y4), .second, .val (.int (1 : Int32))] [(.long y1), (.long y3)]))
    refine own_go (fun tt_ kk_ => XT.lcmp X0.here hx rfl (hb hby d10_15) rfl kk_) ?_
    show Go p.tables e below _ (s₁.setTop (mkF m 16 #[.val (.long y1), .second, .val (.long y2), .second, .val (.long y3), .second, .val (.long y4), .second, .val (.int (1 : Int32))] [(.int (XT.cmpL y3 y1))]))
    by_cases hc2 : y3 = y1
    · refine own_go (fun tt_ kk_ => XS.ifYes X0.here hx rfl (pc0 := 16) (pc' := 29) rfl (hb hby d10_16) rfl (XT.ll_eq_t hc2) (by decide) (by decide) kk_) ?_
      show Go p.tables e below _ (s₁.setTop (mkF m 29 #[.val (.long y1), .second, .val (.long y2), .second, .val (.long y3), .second, .val (.long y4), .second, .val (.int (1 : Int32))] []))
      refine own_go (fun tt_ kk_ => XT.lload X0.here hx rfl (hb hby d10_29) rfl kk_) ?_
      show Go p.tables e below _ (s₁.setTop (mkF m 31 #[.val (.long y1), .second, .val (.long y2), .second, .val (.long y3), .second, .val (.long y4), .second, .val (.int (1 : Int32))] [(.long y4)]))
      refine own_go (fun tt_ kk_ => XT.lloadN X0.here hx rfl (hb hby d10_31) rfl kk_) ?_
      show Go p.tables e below _ (s₁.setTop (mkF m 32 #[.val (.long y1), .second, .val (.long y2), .second, .val (.long y3), .second, .val (.long y4), .second, .val (.int (1 : Int32))] [(.long y1), (.long y4)]))
      refine own_go (fun tt_ kk_ => XT.lcmp X0.here hx rfl (hb hby d10_32) rfl kk_) ?_
      show Go p.tables e below _ (s₁.setTop (mkF m 33 #[.val (.long y1), .second, .val (.long y2), .second, .val (.long y3), .second, .val (.long y4), .second, .val (.int (1 : Int32))] [(.int (XT.cmpL y4 y1))]))
      by_cases hc3 : y4 = y1
      · refine own_go (fun tt_ kk_ => XS.ifYes X0.here hx rfl (pc0 := 33) (pc' := 54) rfl (hb hby d10_33) rfl (XT.ll_eq_t hc3) (by decide) (by decide) kk_) ?_
        show Go p.tables e below _ (s₁.setTop (mkF m 54 #[.val (.long y1), .second, .val (.long y2), .second, .val (.long y3), .second, .val (.long y4), .second, .val (.int (1 : Int32))] []))
        refine own_go (fun tt_ kk_ => XS.iload X0.here hx rfl (hb hby d10_54) rfl kk_) ?_
        show Go p.tables e below _ (s₁.setTop (mkF m 56 #[.val (.long y1), .second, .val (.long y2), .second, .val (.long y3), .second, .val (.long y4), .second, .val (.int (1 : Int32))] [(.int (1 : Int32))]))
        exact own_ret X0 hx hlk Bd.returns rfl (Or.inl ⟨rfl, Or.inl rfl, _, rfl⟩) (hb hby d10_56) ⟨congrArg (fun z => some (Value.int z)) (by rw [own_dn, if_pos hc1, if_pos hc2, if_pos hc3]; rfl), N0, e0⟩ (by decide) (by decide)
      · refine own_go (fun tt_ kk_ => XS.ifNo X0.here hx rfl (hb hby d10_33) rfl (XT.ll_eq_f hc3) kk_) ?_
        show Go p.tables e below _ (s₁.setTop (mkF m 36 #[.val (.long y1), .second, .val (.long y2), .second, .val (.long y3), .second, .val (.long y4), .second, .val (.int (1 : Int32))] []))
        refine own_go (fun tt_ kk_ => XT.lload X0.here hx rfl (hb hby d10_36) rfl kk_) ?_
        show Go p.tables e below _ (s₁.setTop (mkF m 38 #[.val (.long y1), .second, .val (.long y2), .second, .val (.long y3), .second, .val (.long y4), .second, .val (.int (1 : Int32))] [(.long y4)]))
        refine own_go (fun tt_ kk_ => XT.lloadN X0.here hx rfl (hb hby d10_38) rfl kk_) ?_
        show Go p.tables e below _ (s₁.setTop (mkF m 39 #[.val (.long y1), .second, .val (.long y2), .second, .val (.long y3), .second, .val (.long y4), .second, .val (.int (1 : Int32))] [(.long y2), (.long y4)]))
        refine own_go (fun tt_ kk_ => XT.lcmp X0.here hx rfl (hb hby d10_39) rfl kk_) ?_
        show Go p.tables e below _ (s₁.setTop (mkF m 40 #[.val (.long y1), .second, .val (.long y2), .second, .val (.long y3), .second, .val (.long y4), .second, .val (.int (1 : Int32))] [(.int (XT.cmpL y4 y2))]))
        by_cases hc4 : y4 = y2
        · refine own_go (fun tt_ kk_ => XS.ifYes X0.here hx rfl (pc0 := 40) (pc' := 54) rfl (hb hby d10_40) rfl (XT.ll_eq_t hc4) (by decide) (by decide) kk_) ?_
          show Go p.tables e below _ (s₁.setTop (mkF m 54 #[.val (.long y1), .second, .val (.long y2), .second, .val (.long y3), .second, .val (.long y4), .second, .val (.int (1 : Int32))] []))
          refine own_go (fun tt_ kk_ => XS.iload X0.here hx rfl (hb hby d10_54) rfl kk_) ?_
          show Go p.tables e below _ (s₁.setTop (mkF m 56 #[.val (.long y1), .second, .val (.long y2), .second, .val (.long y3), .second, .val (.long y4), .second, .val (.int (1 : Int32))] [(.int (1 : Int32))]))
          exact own_ret X0 hx hlk Bd.returns rfl (Or.inl ⟨rfl, Or.inl rfl, _, rfl⟩) (hb hby d10_56) ⟨congrArg (fun z => some (Value.int z)) (by rw [own_dn, if_pos hc1, if_pos hc2, if_neg hc3, if_pos hc4]; rfl), N0, e0⟩ (by decide) (by decide)
        · refine own_go (fun tt_ kk_ => XS.ifNo X0.here hx rfl (hb hby d10_40) rfl (XT.ll_eq_f hc4) kk_) ?_
          show Go p.tables e below _ (s₁.setTop (mkF m 43 #[.val (.long y1), .second, .val (.long y2), .second, .val (.long y3), .second, .val (.long y4), .second, .val (.int (1 : Int32))] []))
          refine own_go (fun tt_ kk_ => XT.lload X0.here hx rfl (hb hby d10_43) rfl kk_) ?_
          show Go p.tables e below _ (s₁.setTop (mkF m 45 #[.val (.long y1), .second, .val (.long y2), .second, .val (.long y3), .second, .val (.long y4), .second, .val (.int (1 : Int32))] [(.long y4)]))
          refine own_go (fun tt_ kk_ => XT.lload X0.here hx rfl (hb hby d10_45) rfl kk_) ?_
          show Go p.tables e below _ (s₁.setTop (mkF m 47 #[.val (.long y1), .second, .val (.long y2), .second, .val (.long y3), .second, .val (.long y4), .second, .val (.int (1 : Int32))] [(.long y3), (.long y4)]))
          refine own_go (fun tt_ kk_ => XT.lcmp X0.here hx rfl (hb hby d10_47) rfl kk_) ?_
          show Go p.tables e below _ (s₁.setTop (mkF m 48 #[.val (.long y1), .second, .val (.long y2), .second, .val (.long y3), .second, .val (.long y4), .second, .val (.int (1 : Int32))] [(.int (XT.cmpL y4 y3))]))
          by_cases hc5 : y4 = y3
          · refine own_go (fun tt_ kk_ => XS.ifYes X0.here hx rfl (pc0 := 48) (pc' := 54) rfl (hb hby d10_48) rfl (XT.ll_eq_t hc5) (by decide) (by decide) kk_) ?_
            show Go p.tables e below _ (s₁.setTop (mkF m 54 #[.val (.long y1), .second, .val (.long y2), .second, .val (.long y3), .second, .val (.long y4), .second, .val (.int (1 : Int32))] []))
            refine own_go (fun tt_ kk_ => XS.iload X0.here hx rfl (hb hby d10_54) rfl kk_) ?_
            show Go p.tables e below _ (s₁.setTop (mkF m 56 #[.val (.long y1), .second, .val (.long y2), .second, .val (.long y3), .second, .val (.long y4), .second, .val (.int (1 : Int32))] [(.int (1 : Int32))]))
            exact own_ret X0 hx hlk Bd.returns rfl (Or.inl ⟨rfl, Or.inl rfl, _, rfl⟩) (hb hby d10_56) ⟨congrArg (fun z => some (Value.int z)) (by rw [own_dn, if_pos hc1, if_pos hc2, if_neg hc3, if_neg hc4, if_pos hc5]; rfl), N0, e0⟩ (by decide) (by decide)
          · refine own_go (fun tt_ kk_ => XS.ifNo X0.here hx rfl (hb hby d10_48) rfl (XT.ll_eq_f hc5) kk_) ?_
            show Go p.tables e below _ (s₁.setTop (mkF m 51 #[.val (.long y1), .second, .val (.long y2), .second, .val (.long y3), .second, .val (.long y4), .second, .val (.int (1 : Int32))] []))
            refine own_go (fun tt_ kk_ => XS.iinc X0.here hx rfl (hb hby d10_51) rfl (l' := #[.val (.long y1), .second, .val (.long y2), .second, .val (.long y3), .second, .val (.long y4), .second, .val (.int (2 : Int32))]) rfl kk_) ?_
            show Go p.tables e below _ (s₁.setTop (mkF m 54 #[.val (.long y1), .second, .val (.long y2), .second, .val (.long y3), .second, .val (.long y4), .second, .val (.int (2 : Int32))] []))
            refine own_go (fun tt_ kk_ => XS.iload X0.here hx rfl (hb hby d10_54) rfl kk_) ?_
            show Go p.tables e below _ (s₁.setTop (mkF m 56 #[.val (.long y1), .second, .val (.long y2), .second, .val (.long y3), .second, .val (.long y4), .second, .val (.int (2 : Int32))] [(.int (2 : Int32))]))
            exact own_ret X0 hx hlk Bd.returns rfl (Or.inl ⟨rfl, Or.inl rfl, _, rfl⟩) (hb hby d10_56) ⟨congrArg (fun z => some (Value.int z)) (by rw [own_dn, if_pos hc1, if_pos hc2, if_neg hc3, if_neg hc4, if_neg hc5]; rfl), N0, e0⟩ (by decide) (by decide)
    · refine own_go (fun tt_ kk_ => XS.ifNo X0.here hx rfl (hb hby d10_16) rfl (XT.ll_eq_f hc2) kk_) ?_
      show Go p.tables e below _ (s₁.setTop (mkF m 19 #[.val (.long y1), .second, .val (.long y2), .second, .val (.long y3), .second, .val (.long y4), .second, .val (.int (1 : Int32))] []))
      refine own_go (fun tt_ kk_ => XT.lload X0.here hx rfl (hb hby d10_19) rfl kk_) ?_
      show Go p.tables e below _ (s₁.setTop (mkF m 21 #[.val (.long y1), .second, .val (.long y2), .second, .val (.long y3), .second, .val (.long y4), .second, .val (.int (1 : Int32))] [(.long y3)]))
      refine own_go (fun tt_ kk_ => XT.lloadN X0.here hx rfl (hb hby d10_21) rfl kk_) ?_
      show Go p.tables e below _ (s₁.setTop (mkF m 22 #[.val (.long y1), .second, .val (.long y2), .second, .val (.long y3), .second, .val (.long y4), .second, .val (.int (1 : Int32))] [(.long y2), (.long y3)]))
      refine own_go (fun tt_ kk_ => XT.lcmp X0.here hx rfl (hb hby d10_22) rfl kk_) ?_
      show Go p.tables e below _ (s₁.setTop (mkF m 23 #[.val (.long y1), .second, .val (.long y2), .second, .val (.long y3), .second, .val (.long y4), .second, .val (.int (1 : Int32))] [(.int (XT.cmpL y3 y2))]))
      by_cases hc6 : y3 = y2
      · refine own_go (fun tt_ kk_ => XS.ifYes X0.here hx rfl (pc0 := 23) (pc' := 29) rfl (hb hby d10_23) rfl (XT.ll_eq_t hc6) (by decide) (by decide) kk_) ?_
        show Go p.tables e below _ (s₁.setTop (mkF m 29 #[.val (.long y1), .second, .val (.long y2), .second, .val (.long y3), .second, .val (.long y4), .second, .val (.int (1 : Int32))] []))
        refine own_go (fun tt_ kk_ => XT.lload X0.here hx rfl (hb hby d10_29) rfl kk_) ?_
        show Go p.tables e below _ (s₁.setTop (mkF m 31 #[.val (.long y1), .second, .val (.long y2), .second, .val (.long y3), .second, .val (.long y4), .second, .val (.int (1 : Int32))] [(.long y4)]))
        refine own_go (fun tt_ kk_ => XT.lloadN X0.here hx rfl (hb hby d10_31) rfl kk_) ?_
        show Go p.tables e below _ (s₁.setTop (mkF m 32 #[.val (.long y1), .second, .val (.long y2), .second, .val (.long y3), .second, .val (.long y4), .second, .val (.int (1 : Int32))] [(.long y1), (.long y4)]))
        refine own_go (fun tt_ kk_ => XT.lcmp X0.here hx rfl (hb hby d10_32) rfl kk_) ?_
        show Go p.tables e below _ (s₁.setTop (mkF m 33 #[.val (.long y1), .second, .val (.long y2), .second, .val (.long y3), .second, .val (.long y4), .second, .val (.int (1 : Int32))] [(.int (XT.cmpL y4 y1))]))
        by_cases hc7 : y4 = y1
        · refine own_go (fun tt_ kk_ => XS.ifYes X0.here hx rfl (pc0 := 33) (pc' := 54) rfl (hb hby d10_33) rfl (XT.ll_eq_t hc7) (by decide) (by decide) kk_) ?_
          show Go p.tables e below _ (s₁.setTop (mkF m 54 #[.val (.long y1), .second, .val (.long y2), .second, .val (.long y3), .second, .val (.long y4), .second, .val (.int (1 : Int32))] []))
          refine own_go (fun tt_ kk_ => XS.iload X0.here hx rfl (hb hby d10_54) rfl kk_) ?_
          show Go p.tables e below _ (s₁.setTop (mkF m 56 #[.val (.long y1), .second, .val (.long y2), .second, .val (.long y3), .second, .val (.long y4), .second, .val (.int (1 : Int32))] [(.int (1 : Int32))]))
          exact own_ret X0 hx hlk Bd.returns rfl (Or.inl ⟨rfl, Or.inl rfl, _, rfl⟩) (hb hby d10_56) ⟨congrArg (fun z => some (Value.int z)) (by rw [own_dn, if_pos hc1, if_neg hc2, if_pos hc6, if_pos hc7]; rfl), N0, e0⟩ (by decide) (by decide)
        · refine own_go (fun tt_ kk_ => XS.ifNo X0.here hx rfl (hb hby d10_33) rfl (XT.ll_eq_f hc7) kk_) ?_
          show Go p.tables e below _ (s₁.setTop (mkF m 36 #[.val (.long y1), .second, .val (.long y2), .second, .val (.long y3), .second, .val (.long y4), .second, .val (.int (1 : Int32))] []))
          refine own_go (fun tt_ kk_ => XT.lload X0.here hx rfl (hb hby d10_36) rfl kk_) ?_
          show Go p.tables e below _ (s₁.setTop (mkF m 38 #[.val (.long y1), .second, .val (.long y2), .second, .val (.long y3), .second, .val (.long y4), .second, .val (.int (1 : Int32))] [(.long y4)]))
          refine own_go (fun tt_ kk_ => XT.lloadN X0.here hx rfl (hb hby d10_38) rfl kk_) ?_
          show Go p.tables e below _ (s₁.setTop (mkF m 39 #[.val (.long y1), .second, .val (.long y2), .second, .val (.long y3), .second, .val (.long y4), .second, .val (.int (1 : Int32))] [(.long y2), (.long y4)]))
          refine own_go (fun tt_ kk_ => XT.lcmp X0.here hx rfl (hb hby d10_39) rfl kk_) ?_
          show Go p.tables e below _ (s₁.setTop (mkF m 40 #[.val (.long y1), .second, .val (.long y2), .second, .val (.long y3), .second, .val (.long y4), .second, .val (.int (1 : Int32))] [(.int (XT.cmpL y4 y2))]))
          by_cases hc8 : y4 = y2
          · refine own_go (fun tt_ kk_ => XS.ifYes X0.here hx rfl (pc0 := 40) (pc' := 54) rfl (hb hby d10_40) rfl (XT.ll_eq_t hc8) (by decide) (by decide) kk_) ?_
            show Go p.tables e below _ (s₁.setTop (mkF m 54 #[.val (.long y1), .second, .val (.long y2), .second, .val (.long y3), .second, .val (.long y4), .second, .val (.int (1 : Int32))] []))
            refine own_go (fun tt_ kk_ => XS.iload X0.here hx rfl (hb hby d10_54) rfl kk_) ?_
            show Go p.tables e below _ (s₁.setTop (mkF m 56 #[.val (.long y1), .second, .val (.long y2), .second, .val (.long y3), .second, .val (.long y4), .second, .val (.int (1 : Int32))] [(.int (1 : Int32))]))
            exact own_ret X0 hx hlk Bd.returns rfl (Or.inl ⟨rfl, Or.inl rfl, _, rfl⟩) (hb hby d10_56) ⟨congrArg (fun z => some (Value.int z)) (by rw [own_dn, if_pos hc1, if_neg hc2, if_pos hc6, if_neg hc7, if_pos hc8]; rfl), N0, e0⟩ (by decide) (by decide)
          · refine own_go (fun tt_ kk_ => XS.ifNo X0.here hx rfl (hb hby d10_40) rfl (XT.ll_eq_f hc8) kk_) ?_
            show Go p.tables e below _ (s₁.setTop (mkF m 43 #[.val (.long y1), .second, .val (.long y2), .second, .val (.long y3), .second, .val (.long y4), .second, .val (.int (1 : Int32))] []))
            refine own_go (fun tt_ kk_ => XT.lload X0.here hx rfl (hb hby d10_43) rfl kk_) ?_
            show Go p.tables e below _ (s₁.setTop (mkF m 45 #[.val (.long y1), .second, .val (.long y2), .second, .val (.long y3), .second, .val (.long y4), .second, .val (.int (1 : Int32))] [(.long y4)]))
            refine own_go (fun tt_ kk_ => XT.lload X0.here hx rfl (hb hby d10_45) rfl kk_) ?_
            show Go p.tables e below _ (s₁.setTop (mkF m 47 #[.val (.long y1), .second, .val (.long y2), .second, .val (.long y3), .second, .val (.long y4), .second, .val (.int (1 : Int32))] [(.long y3), (.long y4)]))
            refine own_go (fun tt_ kk_ => XT.lcmp X0.here hx rfl (hb hby d10_47) rfl kk_) ?_
            show Go p.tables e below _ (s₁.setTop (mkF m 48 #[.val (.long y1), .second, .val (.long y2), .second, .val (.long y3), .second, .val (.long y4), .second, .val (.int (1 : Int32))] [(.int (XT.cmpL y4 y3))]))
            by_cases hc9 : y4 = y3
            · refine own_go (fun tt_ kk_ => XS.ifYes X0.here hx rfl (pc0 := 48) (pc' := 54) rfl (hb hby d10_48) rfl (XT.ll_eq_t hc9) (by decide) (by decide) kk_) ?_
              show Go p.tables e below _ (s₁.setTop (mkF m 54 #[.val (.long y1), .second, .val (.long y2), .second, .val (.long y3), .second, .val (.long y4), .second, .val (.int (1 : Int32))] []))
              refine own_go (fun tt_ kk_ => XS.iload X0.here hx rfl (hb hby d10_54) rfl kk_) ?_
              show Go p.tables e below _ (s₁.setTop (mkF m 56 #[.val (.long y1), .second, .val (.long y2), .second, .val (.long y3), .second, .val (.long y4), .second, .val (.int (1 : Int32))] [(.int (1 : Int32))]))
              exact own_ret X0 hx hlk Bd.returns rfl (Or.inl ⟨rfl, Or.inl rfl, _, rfl⟩) (hb hby d10_56) ⟨congrArg (fun z => some (Value.int z)) (by rw [own_dn, if_pos hc1, if_neg hc2, if_pos hc6, if_neg hc7, if_neg hc8, if_pos hc9]; rfl), N0, e0⟩ (by decide) (by decide)
            · refine own_go (fun tt_ kk_ => XS.ifNo X0.here hx rfl (hb hby d10_48) rfl (XT.ll_eq_f hc9) kk_) ?_
              show Go p.tables e below _ (s₁.setTop (mkF m 51 #[.val (.long y1), .second, .val (.long y2), .second, .val (.long y3), .second, .val (.long y4), .second, .val (.int (1 : Int32))] []))
              refine own_go (fun tt_ kk_ => XS.iinc X0.here hx rfl (hb hby d10_51) rfl (l' := #[.val (.long y1), .second, .val (.long y2), .second, .val (.long y3), .second, .val (.long y4), .second, .val (.int (2 : Int32))]) rfl kk_) ?_
              show Go p.tables e below _ (s₁.setTop (mkF m 54 #[.val (.long y1), .second, .val (.long y2), .second, .val (.long y3), .second, .val (.long y4), .second, .val (.int (2 : Int32))] []))
              refine own_go (fun tt_ kk_ => XS.iload X0.here hx rfl (hb hby d10_54) rfl kk_) ?_
              show Go p.tables e below _ (s₁.setTop (mkF m 56 #[.val (.long y1), .second, .val (.long y2), .second, .val (.long y3), .second, .val (.long y4), .second, .val (.int (2 : Int32))] [(.int (2 : Int32))]))
              exact own_ret X0 hx hlk Bd.returns rfl (Or.inl ⟨rfl, Or.inl rfl, _, rfl⟩) (hb hby d10_56) ⟨congrArg (fun z => some (Value.int z)) (by rw [own_dn, if_pos hc1, if_neg hc2, if_pos hc6, if_neg hc7, if_neg hc8, if_neg hc9]; rfl), N0, e0⟩ (by decide) (by decide)
      · refine own_go (fun tt_ kk_ => XS.ifNo X0.here hx rfl (hb hby d10_23) rfl (XT.ll_eq_f hc6) kk_) ?_
        show Go p.tables e below _ (s₁.setTop (mkF m 26 #[.val (.long y1), .second, .val (.long y2), .second, .val (.long y3), .second, .val (.long y4), .second, .val (.int (1 : Int32))] []))
        refine own_go (fun tt_ kk_ => XS.iinc X0.here hx rfl (hb hby d10_26) rfl (l' := #[.val (.long y1), .second, .val (.long y2), .second, .val (.long y3), .second, .val (.long y4), .second, .val (.int (2 : Int32))]) rfl kk_) ?_
        show Go p.tables e below _ (s₁.setTop (mkF m 29 #[.val (.long y1), .second, .val (.long y2), .second, .val (.long y3), .second, .val (.long y4), .second, .val (.int (2 : Int32))] []))
        refine own_go (fun tt_ kk_ => XT.lload X0.here hx rfl (hb hby d10_29) rfl kk_) ?_
        show Go p.tables e below _ (s₁.setTop (mkF m 31 #[.val (.long y1), .second, .val (.long y2), .second, .val (.long y3), .second, .val (.long y4), .second, .val (.int (2 : Int32))] [(.long y4)]))
        refine own_go (fun tt_ kk_ => XT.lloadN X0.here hx rfl (hb hby d10_31) rfl kk_) ?_
        show Go p.tables e below _ (s₁.setTop (mkF m 32 #[.val (.long y1), .second, .val (.long y2), .second, .val (.long y3), .second, .val (.long y4), .second, .val (.int (2 : Int32))] [(.long y1), (.long y4)]))
        refine own_go (fun tt_ kk_ => XT.lcmp X0.here hx rfl (hb hby d10_32) rfl kk_) ?_
        show Go p.tables e below _ (s₁.setTop (mkF m 33 #[.val (.long y1), .second, .val (.long y2), .second, .val (.long y3), .second, .val (.long y4), .second, .val (.int (2 : Int32))] [(.int (XT.cmpL y4 y1))]))
        by_cases hc10 : y4 = y1
        · refine own_go (fun tt_ kk_ => XS.ifYes X0.here hx rfl (pc0 := 33) (pc' := 54) rfl (hb hby d10_33) rfl (XT.ll_eq_t hc10) (by decide) (by decide) kk_) ?_
          show Go p.tables e below _ (s₁.setTop (mkF m 54 #[.val (.long y1), .second, .val (.long y2), .second, .val (.long y3), .second, .val (.long y4), .second, .val (.int (2 : Int32))] []))
          refine own_go (fun tt_ kk_ => XS.iload X0.here hx rfl (hb hby d10_54) rfl kk_) ?_
          show Go p.tables e below _ (s₁.setTop (mkF m 56 #[.val (.long y1), .second, .val (.long y2), .second, .val (.long y3), .second, .val (.long y4), .second, .val (.int (2 : Int32))] [(.int (2 : Int32))]))
          exact own_ret X0 hx hlk Bd.returns rfl (Or.inl ⟨rfl, Or.inl rfl, _, rfl⟩) (hb hby d10_56) ⟨congrArg (fun z => some (Value.int z)) (by rw [own_dn, if_pos hc1, if_neg hc2, if_neg hc6, if_pos hc10]; rfl), N0, e0⟩ (by decide) (by decide)
        · refine own_go (fun tt_ kk_ => XS.ifNo X0.here hx rfl (hb hby d10_33) rfl (XT.ll_eq_f hc10) kk_) ?_
          show Go p.tables e below _ (s₁.setTop (mkF m 36 #[.val (.long y1), .second, .val (.long y2), .second, .val (.long y3), .second, .val (.long y4), .second, .val (.int (2 : Int32))] []))
          refine own_go (fun tt_ kk_ => XT.lload X0.here hx rfl (hb hby d10_36) rfl kk_) ?_
          show Go p.tables e below _ (s₁.setTop (mkF m 38 #[.val (.long y1), .second, .val (.long y2), .second, .val (.long y3), .second, .val (.long y4), .second, .val (.int (2 : Int32))] [(.long y4)]))
          refine own_go (fun tt_ kk_ => XT.lloadN X0.here hx rfl (hb hby d10_38) rfl kk_) ?_
          show Go p.tables e below _ (s₁.setTop (mkF m 39 #[.val (.long y1), .second, .val (.long y2), .second, .val (.long y3), .second, .val (.long y4), .second, .val (.int (2 : Int32))] [(.long y2), (.long y4)]))
          refine own_go (fun tt_ kk_ => XT.lcmp X0.here hx rfl (hb hby d10_39) rfl kk_) ?_
          show Go p.tables e below _ (s₁.setTop (mkF m 40 #[.val (.long y1), .second, .val (.long y2), .second, .val (.long y3), .second, .val (.long y4), .second, .val (.int (2 : Int32))] [(.int (XT.cmpL y4 y2))]))
          by_cases hc11 : y4 = y2
          · refine own_go (fun tt_ kk_ => XS.ifYes X0.here hx rfl (pc0 := 40) (pc' := 54) rfl (hb hby d10_40) rfl (XT.ll_eq_t hc11) (by decide) (by decide) kk_) ?_
            show Go p.tables e below _ (s₁.setTop (mkF m 54 #[.val (.long y1), .second, .val (.long y2), .second, .val (.long y3), .second, .val (.long y4), .second, .val (.int (2 : Int32))] []))
            refine own_go (fun tt_ kk_ => XS.iload X0.here hx rfl (hb hby d10_54) rfl kk_) ?_
            show Go p.tables e below _ (s₁.setTop (mkF m 56 #[.val (.long y1), .second, .val (.long y2), .second, .val (.long y3), .second, .val (.long y4), .second, .val (.int (2 : Int32))] [(.int (2 : Int32))]))
            exact own_ret X0 hx hlk Bd.returns rfl (Or.inl ⟨rfl, Or.inl rfl, _, rfl⟩) (hb hby d10_56) ⟨congrArg (fun z => some (Value.int z)) (by rw [own_dn, if_pos hc1, if_neg hc2, if_neg hc6, if_neg hc10, if_pos hc11]; rfl), N0, e0⟩ (by decide) (by decide)
          · refine own_go (fun tt_ kk_ => XS.ifNo X0.here hx rfl (hb hby d10_40) rfl (XT.ll_eq_f hc11) kk_) ?_
            show Go p.tables e below _ (s₁.setTop (mkF m 43 #[.val (.long y1), .second, .val (.long y2), .second, .val (.long y3), .second, .val (.long y4), .second, .val (.int (2 : Int32))] []))
            refine own_go (fun tt_ kk_ => XT.lload X0.here hx rfl (hb hby d10_43) rfl kk_) ?_
            show Go p.tables e below _ (s₁.setTop (mkF m 45 #[.val (.long y1), .second, .val (.long y2), .second, .val (.long y3), .second, .val (.long y4), .second, .val (.int (2 : Int32))] [(.long y4)]))
            refine own_go (fun tt_ kk_ => XT.lload X0.here hx rfl (hb hby d10_45) rfl kk_) ?_
            show Go p.tables e below _ (s₁.setTop (mkF m 47 #[.val (.long y1), .second, .val (.long y2), .second, .val (.long y3), .second, .val (.long y4), .second, .val (.int (2 : Int32))] [(.long y3), (.long y4)]))
            refine own_go (fun tt_ kk_ => XT.lcmp X0.here hx rfl (hb hby d10_47) rfl kk_) ?_
            show Go p.tables e below _ (s₁.setTop (mkF m 48 #[.val (.long y1), .second, .val (.long y2), .second, .val (.long y3), .second, .val (.long y4), .second, .val (.int (2 : Int32))] [(.int (XT.cmpL y4 y3))]))
            by_cases hc12 : y4 = y3
            · refine own_go (fun tt_ kk_ => XS.ifYes X0.here hx rfl (pc0 := 48) (pc' := 54) rfl (hb hby d10_48) rfl (XT.ll_eq_t hc12) (by decide) (by decide) kk_) ?_
              show Go p.tables e below _ (s₁.setTop (mkF m 54 #[.val (.long y1), .second, .val (.long y2), .second, .val (.long y3), .second, .val (.long y4), .second, .val (.int (2 : Int32))] []))
              refine own_go (fun tt_ kk_ => XS.iload X0.here hx rfl (hb hby d10_54) rfl kk_) ?_
              show Go p.tables e below _ (s₁.setTop (mkF m 56 #[.val (.long y1), .second, .val (.long y2), .second, .val (.long y3), .second, .val (.long y4), .second, .val (.int (2 : Int32))] [(.int (2 : Int32))]))
              exact own_ret X0 hx hlk Bd.returns rfl (Or.inl ⟨rfl, Or.inl rfl, _, rfl⟩) (hb hby d10_56) ⟨congrArg (fun z => some (Value.int z)) (by rw [own_dn, if_pos hc1, if_neg hc2, if_neg hc6, if_neg hc10, if_neg hc11, if_pos hc12]; rfl), N0, e0⟩ (by decide) (by decide)
            · refine own_go (fun tt_ kk_ => XS.ifNo X0.here hx rfl (hb hby d10_48) rfl (XT.ll_eq_f hc12) kk_) ?_
              show Go p.tables e below _ (s₁.setTop (mkF m 51 #[.val (.long y1), .second, .val (.long y2), .second, .val (.long y3), .second, .val (.long y4), .second, .val (.int (2 : Int32))] []))
              refine own_go (fun tt_ kk_ => XS.iinc X0.here hx rfl (hb hby d10_51) rfl (l' := #[.val (.long y1), .second, .val (.long y2), .second, .val (.long y3), .second, .val (.long y4), .second, .val (.int (3 : Int32))]) rfl kk_) ?_
              show Go p.tables e below _ (s₁.setTop (mkF m 54 #[.val (.long y1), .second, .val (.long y2), .second, .val (.long y3), .second, .val (.long y4), .second, .val (.int (3 : Int32))] []))
              refine own_go (fun tt_ kk_ => XS.iload X0.here hx rfl (hb hby d10_54) rfl kk_) ?_
              show Go p.tables e below _ (s₁.setTop (mkF m 56 #[.val (.long y1), .second, .val (.long y2), .second, .val (.long y3), .second, .val (.long y4), .second, .val (.int (3 : Int32))] [(.int (3 : Int32))]))
              exact own_ret X0 hx hlk Bd.returns rfl (Or.inl ⟨rfl, Or.inl rfl, _, rfl⟩) (hb hby d10_56) ⟨congrArg (fun z => some (Value.int z)) (by rw [own_dn, if_pos hc1, if_neg hc2, if_neg hc6, if_neg hc10, if_neg hc11, if_neg hc12]; rfl), N0, e0⟩ (by decide) (by decide)
  · refine own_go (fun tt_ kk_ => XS.ifNo X0.here hx rfl (hb hby d10_6) rfl (XT.ll_eq_f hc1) kk_) ?_
    show Go p.tables e below _ (s₁.setTop (mkF m 9 #[.val (.long y1), .second, .val (.long y2), .second, .val (.long y3), .second, .val (.long y4), .second, .val (.int (1 : Int32))] []))
    refine own_go (fun tt_ kk_ => XS.iinc X0.here hx rfl (hb hby d10_9) rfl (l' := #[.val (.long y1), .second, .val (.long y2), .second, .val (.long y3), .second, .val (.long y4), .second, .val (.int (2 : Int32))]) rfl kk_) ?_
    show Go p.tables e below _ (s₁.setTop (mkF m 12 #[.val (.long y1), .second, .val (.long y2), .second, .val (.long y3), .second, .val (.long y4), .second, .val (.int (2 : Int32))] []))
    refine own_go (fun tt_ kk_ => XT.lload X0.here hx rfl (hb hby d10_12) rfl kk_) ?_
    show Go p.tables e below _ (s₁.setTop (mkF m 14 #[.val (.long y1), .second, .val (.long y2), .second, .val (.long y3), .second, .val (.long y4), .second, .val (.int (2 : Int32))] [(.long y3)]))
    refine own_go (fun tt_ kk_ => XT.lloadN X0.here hx rfl (hb hby d10_14) rfl kk_) ?_
    show Go p.tables e below _ (s₁.setTop (mkF m 15 #[.val (.long y1), .second, .val (.long y2), .second, .val (.long y3), .second, .val (.long y4), .second, .val (.int (2 : Int32))] [(.long y1), (.long y3)]))
    refine own_go (fun tt_ kk_ => XT.lcmp X0.here hx rfl (hb hby d10_15) rfl kk_) ?_
    show Go p.tables e below _ (s₁.setTop (mkF m 16 #[.val (.long y1), .second, .val (.long y2), .second, .val (.long y3), .second, .val (.long y4), .second, .val (.int (2 : Int32))] [(.int (XT.cmpL y3 y1))]))
    by_cases hc13 : y3 = y1
    · refine own_go (fun tt_ kk_ => XS.ifYes X0.here hx rfl (pc0 := 16) (pc' := 29) rfl (hb hby d10_16) rfl (XT.ll_eq_t hc13) (by decide) (by decide) kk_) ?_
      show Go p.tables e below _ (s₁.setTop (mkF m 29 #[.val (.long y1), .second, .val (.long y2), .second, .val (.long y3), .second, .val (.long y4), .second, .val (.int (2 : Int32))] []))
      refine own_go (fun tt_ kk_ => XT.lload X0.here hx rfl (hb hby d10_29) rfl kk_) ?_
      show Go p.tables e below _ (s₁.setTop (mkF m 31 #[.val (.long y1), .second, .val (.long y2), .second, .val (.long y3), .second, .val (.long y4), .second, .val (.int (2 : Int32))] [(.long y4)]))
      refine own_go (fun tt_ kk_ => XT.lloadN X0.here hx rfl (hb hby d10_31) rfl kk_) ?_
      show Go p.tables e below _ (s₁.setTop (mkF m 32 #[.val (.long y1), .second, .val (.long y2), .second, .val (.long y3), .second, .val (.long y4), .second, .val (.int (2 : Int32))] [(.long y1), (.long y4)]))
      refine own_go (fun tt_ kk_ => XT.lcmp X0.here hx rfl (hb hby d10_32) rfl kk_) ?_
      show Go p.tables e below _ (s₁.setTop (mkF m 33 #[.val (.long y1), .second, .val (.long y2), .second, .val (.long y3), .second, .val (.long y4), .second, .val (.int (2 : Int32))] [(.int (XT.cmpL y4 y1))]))
      by_cases hc14 : y4 = y1
      · refine own_go (fun tt_ kk_ => XS.ifYes X0.here hx rfl (pc0 := 33) (pc' := 54) rfl (hb hby d10_33) rfl (XT.ll_eq_t hc14) (by decide) (by decide) kk_) ?_
        show Go p.tables e below _ (s₁.setTop (mkF m 54 #[.val (.long y1), .second, .val (.long y2), .second, .val (.long y3), .second, .val (.long y4), .second, .val (.int (2 : Int32))] []))
        refine own_go (fun tt_ kk_ => XS.iload X0.here hx rfl (hb hby d10_54) rfl kk_) ?_
        show Go p.tables e below _ (s₁.setTop (mkF m 56 #[.val (.long y1), .second, .val (.long y2), .second, .val (.long y3), .second, .val (.long y4), .second, .val (.int (2 : Int32))] [(.int (2 : Int32))]))
        exact own_ret X0 hx hlk Bd.returns rfl (Or.inl ⟨rfl, Or.inl rfl, _, rfl⟩) (hb hby d10_56) ⟨congrArg (fun z => some (Value.int z)) (by rw [own_dn, if_neg hc1, if_pos hc13, if_pos hc14]; rfl), N0, e0⟩ (by decide) (by decide)
      · refine own_go (fun tt_ kk_ => XS.ifNo X0.here hx rfl (hb hby d10_33) rfl (XT.ll_eq_f hc14) kk_) ?_
        show Go p.tables e below _ (s₁.setTop (mkF m 36 #[.val (.long y1), .second, .val (.long y2), .second, .val (.long y3), .second, .val (.long y4), .second, .val (.int (2 : Int32))] []))
        refine own_go (fun tt_ kk_ => XT.lload X0.here hx rfl (hb hby d10_36) rfl kk_) ?_
        show Go p.tables e below _ (s₁.setTop (mkF m 38 #[.val (.long y1), .second, .val (.long y2), .second, .val (.long y3), .second, .val (.long y4), .second, .val (.int (2 : Int32))] [(.long y4)]))
        refine own_go (fun tt_ kk_ => XT.lloadN X0.here hx rfl (hb hby d10_38) rfl kk_) ?_
        show Go p.tables e below _ (s₁.setTop (mkF m 39 #[.val (.long y1), .second, .val (.long y2), .second, .val (.long y3), .second, .val (.long y4), .second, .val (.int (2 : Int32))] [(.long y2), (.long y4)]))
        refine own_go (fun tt_ kk_ => XT.lcmp X0.here hx rfl (hb hby d10_39) rfl kk_) ?_
        show Go p.tables e below _ (s₁.setTop (mkF m 40 #[.val (.long y1), .second, .val (.long y2), .second, .val (.long y3), .second, .val (.long y4), .second, .val (.int (2 : Int32))] [(.int (XT.cmpL y4 y2))]))
        by_cases hc15 : y4 = y2
        · refine own_go (fun tt_ kk_ => XS.ifYes X0.here hx rfl (pc0 := 40) (pc' := 54) rfl (hb hby d10_40) rfl (XT.ll_eq_t hc15) (by decide) (by decide) kk_) ?_
          show Go p.tables e below _ (s₁.setTop (mkF m 54 #[.val (.long y1), .second, .val (.long y2), .second, .val (.long y3), .second, .val (.long y4), .second, .val (.int (2 : Int32))] []))
          refine own_go (fun tt_ kk_ => XS.iload X0.here hx rfl (hb hby d10_54) rfl kk_) ?_
          show Go p.tables e below _ (s₁.setTop (mkF m 56 #[.val (.long y1), .second, .val (.long y2), .second, .val (.long y3), .second, .val (.long y4), .second, .val (.int (2 : Int32))] [(.int (2 : Int32))]))
          exact own_ret X0 hx hlk Bd.returns rfl (Or.inl ⟨rfl, Or.inl rfl, _, rfl⟩) (hb hby d10_56) ⟨congrArg (fun z => some (Value.int z)) (by rw [own_dn, if_neg hc1, if_pos hc13, if_neg hc14, if_pos hc15]; rfl), N0, e0⟩ (by decide) (by decide)
        · refine own_go (fun tt_ kk_ => XS.ifNo X0.here hx rfl (hb hby d10_40) rfl (XT.ll_eq_f hc15) kk_) ?_
          show Go p.tables e below _ (s₁.setTop (mkF m 43 #[.val (.long y1), .second, .val (.long y2), .second, .val (.long y3), .second, .val (.long y4), .second, .val (.int (2 : Int32))] []))
          refine own_go (fun tt_ kk_ => XT.lload X0.here hx rfl (hb hby d10_43) rfl kk_) ?_
          show Go p.tables e below _ (s₁.setTop (mkF m 45 #[.val (.long y1), .second, .val (.long y2), .second, .val (.long y3), .second, .val (.long y4), .second, .val (.int (2 : Int32))] [(.long y4)]))
          refine own_go (fun tt_ kk_ => XT.lload X0.here hx rfl (hb hby d10_45) rfl kk_) ?_
          show Go p.tables e below _ (s₁.setTop (mkF m 47 #[.val (.long y1), .second, .val (.long y2), .second, .val (.long y3), .second, .val (.long y4), .second, .val (.int (2 : Int32))] [(.long y3), (.long y4)]))
          refine own_go (fun tt_ kk_ => XT.lcmp X0.here hx rfl (hb hby d10_47) rfl kk_) ?_
          show Go p.tables e below _ (s₁.setTop (mkF m 48 #[.val (.long y1), .second, .val (.long y2), .second, .val (.long y3), .second, .val (.long y4), .second, .val (.int (2 : Int32))] [(.int (XT.cmpL y4 y3))]))
          by_cases hc16 : y4 = y3
          · refine own_go (fun tt_ kk_ => XS.ifYes X0.here hx rfl (pc0 := 48) (pc' := 54) rfl (hb hby d10_48) rfl (XT.ll_eq_t hc16) (by decide) (by decide) kk_) ?_
            show Go p.tables e below _ (s₁.setTop (mkF m 54 #[.val (.long y1), .second, .val (.long y2), .second, .val (.long y3), .second, .val (.long y4), .second, .val (.int (2 : Int32))] []))
            refine own_go (fun tt_ kk_ => XS.iload X0.here hx rfl (hb hby d10_54) rfl kk_) ?_
            show Go p.tables e below _ (s₁.setTop (mkF m 56 #[.val (.long y1), .second, .val (.long y2), .second, .val (.long y3), .second, .val (.long y4), .second, .val (.int (2 : Int32))] [(.int (2 : Int32))]))
            exact own_ret X0 hx hlk Bd.returns rfl (Or.inl ⟨rfl, Or.inl rfl, _, rfl⟩) (hb hby d10_56) ⟨congrArg (fun z => some (Value.int z)) (by rw [own_dn, if_neg hc1, if_pos hc13, if_neg hc14, if_neg hc15, if_pos hc16]; rfl), N0, e0⟩ (by decide) (by decide)
          · refine own_go (fun tt_ kk_ => XS.ifNo X0.here hx rfl (hb hby d10_48) rfl (XT.ll_eq_f hc16) kk_) ?_
            show Go p.tables e below _ (s₁.setTop (mkF m 51 #[.val (.long y1), .second, .val (.long y2), .second, .val (.long y3), .second, .val (.long y4), .second, .val (.int (2 : Int32))] []))
            refine own_go (fun tt_ kk_ => XS.iinc X0.here hx rfl (hb hby d10_51) rfl (l' := #[.val (.long y1), .second, .val (.long y2), .second, .val (.long y3), .second, .val (.long y4), .second, .val (.int (3 : Int32))]) rfl kk_) ?_
            show Go p.tables e below _ (s₁.setTop (mkF m 54 #[.val (.long y1), .second, .val (.long y2), .second, .val (.long y3), .second, .val (.long y4), .second, .val (.int (3 : Int32))] []))
            refine own_go (fun tt_ kk_ => XS.iload X0.here hx rfl (hb hby d10_54) rfl kk_) ?_
            show Go p.tables e below _ (s₁.setTop (mkF m 56 #[.val (.long y1), .second, .val (.long y2), .second, .val (.long y3), .second, .val (.long y4), .second, .val (.int (3 : Int32))] [(.int (3 : Int32))]))
            exact own_ret X0 hx hlk Bd.returns rfl (Or.inl ⟨rfl, Or.inl rfl, _, rfl⟩) (hb hby d10_56) ⟨congrArg (fun z => some (Value.int z)) (by rw [own_dn, if_neg hc1, if_pos hc13, if_neg hc14, if_neg hc15, if_neg hc16]; rfl), N0, e0⟩ (by decide) (by decide)
    · refine own_go (fun tt_ kk_ => XS.ifNo X0.here hx rfl (hb hby d10_16) rfl (XT.ll_eq_f hc13) kk_) ?_
      show Go p.tables e below _ (s₁.setTop (mkF m 19 #[.val (.long y1), .second, .val (.long y2), .second, .val (.long y3), .second, .val (.long y4), .second, .val (.int (2 : Int32))] []))
      refine own_go (fun tt_ kk_ => XT.lload X0.here hx rfl (hb hby d10_19) rfl kk_) ?_
      show Go p.tables e below _ (s₁.setTop (mkF m 21 #[.val (.long y1), .second, .val (.long y2), .second, .val (.long y3), .second, .val (.long y4), .second, .val (.int (2 : Int32))] [(.long y3)]))
      refine own_go (fun tt_ kk_ => XT.lloadN X0.here hx rfl (hb hby d10_21) rfl kk_) ?_
      show Go p.tables e below _ (s₁.setTop (mkF m 22 #[.val (.long y1), .second, .val (.long y2), .second, .val (.long y3), .second, .val (.long y4), .second, .val (.int (2 : Int32))] [(.long y2), (.long y3)]))
      refine own_go (fun tt_ kk_ => XT.lcmp X0.here hx rfl (hb hby d10_22) rfl kk_) ?_
      show Go p.tables e below _ (s₁.setTop (mkF m 23 #[.val (.long y1), .second, .val (.long y2), .second, .val (.long y3), .second, .val (.long y4), .second, .val (.int (2 : Int32))] [(.int (XT.cmpL y3 y2))]))
      by_cases hc17 : y3 = y2
      · refine own_go (fun tt_ kk_ => XS.ifYes X0.here hx rfl (pc0 := 23) (pc' := 29) rfl (hb hby d10_23) rfl (XT.ll_eq_t hc17) (by decide) (by decide) kk_) ?_
        show Go p.tables e below _ (s₁.setTop (mkF m 29 #[.val (.long y1), .second, .val (.long y2), .second, .val (.long y3), .second, .val (.long y4), .second, .val (.int (2 : Int32))] []))
        refine own_go (fun tt_ kk_ => XT.lload X0.here hx rfl (hb hby d10_29) rfl kk_) ?_
        show Go p.tables e below _ (s₁.setTop (mkF m 31 #[.val (.long y1), .second, .val (.long y2), .second, .val (.long y3), .second, .val (.long y4), .second, .val (.int (2 : Int32))] [(.long y4)]))
        refine own_go (fun tt_ kk_ => XT.lloadN X0.here hx rfl (hb hby d10_31) rfl kk_) ?_
        show Go p.tables e below _ (s₁.setTop (mkF m 32 #[.val (.long y1), .second, .val (.long y2), .second, .val (.long y3), .second, .val (.long y4), .second, .val (.int (2 : Int32))] [(.long y1), (.long y4)]))
        refine own_go (fun tt_ kk_ => XT.lcmp X0.here hx rfl (hb hby d10_32) rfl kk_) ?_
        show Go p.tables e below _ (s₁.setTop (mkF m 33 #[.val (.long y1), .second, .val (.long y2), .second, .val (.long y3), .second, .val (.long y4), .second, .val (.int (2 : Int32))] [(.int (XT.cmpL y4 y1))]))
        by_cases hc18 : y4 = y1
        · refine own_go (fun tt_ kk_ => XS.ifYes X0.here hx rfl (pc0 := 33) (pc' := 54) rfl (hb hby d10_33) rfl (XT.ll_eq_t hc18) (by decide) (by decide) kk_) ?_
          show Go p.tables e below _ (s₁.setTop (mkF m 54 #[.val (.long y1), .second, .val (.long y2), .second, .val (.long y3), .second, .val (.long y4), .second, .val (.int (2 : Int32))] []))
          refine own_go (fun tt_ kk_ => XS.iload X0.here hx rfl (hb hby d10_54) rfl kk_) ?_
          show Go p.tables e below _ (s₁.setTop (mkF m 56 #[.val (.long y1), .second, .val (.long y2), .second, .val (.long y3), .second, .val (.long y4), .second, .val (.int (2 : Int32))] [(.int (2 : Int32))]))
          exact own_ret X0 hx hlk Bd.returns rfl (Or.inl ⟨rfl, Or.inl rfl, _, rfl⟩) (hb hby d10_56) ⟨congrArg (fun z => some (Value.int z)) (by rw [own_dn, if_neg hc1, if_neg hc13, if_pos hc17, if_pos hc18]; rfl), N0, e0⟩ (by decide) (by decide)
        · refine own_go (fun tt_ kk_ => XS.ifNo X0.here hx rfl (hb hby d10_33) rfl (XT.ll_eq_f hc18) kk_) ?_
          show Go p.tables e below _ (s₁.setTop (mkF m 36 #[.val (.long y1), .second, .val (.long y2), .second, .val (.long y3), .second, .val (.long y4), .second, .val (.int (2 : Int32))] []))
          refine own_go (fun tt_ kk_ => XT.lload X0.here hx rfl (hb hby d10_36) rfl kk_) ?_
          show Go p.tables e below _ (s₁.setTop (mkF m 38 #[.val (.long y1), .second, .val (.long y2), .second, .val (.long y3), .second, .val (.long y4), .second, .val (.int (2 : Int32))] [(.long y4)]))
          refine own_go (fun tt_ kk_ => XT.lloadN X0.here hx rfl (hb hby d10_38) rfl kk_) ?_
          show Go p.tables e below _ (s₁.setTop (mkF m 39 #[.val (.long y1), .second, .val (.long y2), .second, .val (.long y3), .second, .val (.long y4), .second, .val (.int (2 : Int32))] [(.long y2), (.long y4)]))
          refine own_go (fun tt_ kk_ => XT.lcmp X0.here hx rfl (hb hby d10_39) rfl kk_) ?_
          show Go p.tables e below _ (s₁.setTop (mkF m 40 #[.val (.long y1), .second, .val (.long y2), .second, .val (.long y3), .second, .val (.long y4), .second, .val (.int (2 : Int32))] [(.int (XT.cmpL y4 y2))]))
          by_cases hc19 : y4 = y2
          · refine own_go (fun tt_ kk_ => XS.ifYes X0.here hx rfl (pc0 := 40) (pc' := 54) rfl (hb hby d10_40) rfl (XT.ll_eq_t hc19) (by decide) (by decide) kk_) ?_
            show Go p.tables e below _ (s₁.setTop (mkF m 54 #[.val (.long y1), .second, .val (.long y2), .second, .val (.long y3), .second, .val (.long y4), .second, .val (.int (2 : Int32))] []))
            refine own_go (fun tt_ kk_ => XS.iload X0.here hx rfl (hb hby d10_54) rfl kk_) ?_
            show Go p.tables e below _ (s₁.setTop (mkF m 56 #[.val (.long y1), .second, .val (.long y2), .second, .val (.long y3), .second, .val (.long y4), .second, .val (.int (2 : Int32))] [(.int (2 : Int32))]))
            exact own_ret X0 hx hlk Bd.returns rfl (Or.inl ⟨rfl, Or.inl rfl, _, rfl⟩) (hb hby d10_56) ⟨congrArg (fun z => some (Value.int z)) (by rw [own_dn, if_neg hc1, if_neg hc13, if_pos hc17, if_neg hc18, if_pos hc19]; rfl), N0, e0⟩ (by decide) (by decide)
          · refine own_go (fun tt_ kk_ => XS.ifNo X0.here hx rfl (hb hby d10_40) rfl (XT.ll_eq_f hc19) kk_) ?_
            show Go p.tables e below _ (s₁.setTop (mkF m 43 #[.val (.long y1), .second, .val (.long y2), .second, .val (.long y3), .second, .val (.long y4), .second, .val (.int (2 : Int32))] []))
            refine own_go (fun tt_ kk_ => XT.lload X0.here hx rfl (hb hby d10_43) rfl kk_) ?_
            show Go p.tables e below _ (s₁.setTop (mkF m 45 #[.val (.long y1), .second, .val (.long y2), .second, .val (.long y3), .second, .val (.long y4), .second, .val (.int (2 : Int32))] [(.long y4)]))
            refine own_go (fun tt_ kk_ => XT.lload X0.here hx rfl (hb hby d10_45) rfl kk_) ?_
            show Go p.tables e below _ (s₁.setTop (mkF m 47 #[.val (.long y1), .second, .val (.long y2), .second, .val (.long y3), .second, .val (.long y4), .second, .val (.int (2 : Int32))] [(.long y3), (.long y4)]))
            refine own_go (fun tt_ kk_ => XT.lcmp X0.here hx rfl (hb hby d10_47) rfl kk_) ?_
            show Go p.tables e below _ (s₁.setTop (mkF m 48 #[.val (.long y1), .second, .val (.long y2), .second, .val (.long y3), .second, .val (.long y4), .second, .val (.int (2 : Int32))] [(.int (XT.cmpL y4 y3))]))
            by_cases hc20 : y4 = y3
            · refine own_go (fun tt_ kk_ => XS.ifYes X0.here hx rfl (pc0 := 48) (pc' := 54) rfl (hb hby d10_48) rfl (XT.ll_eq_t hc20) (by decide) (by decide) kk_) ?_
              show Go p.tables e below _ (s₁.setTop (mkF m 54 #[.val (.long y1), .second, .val (.long y2), .second, .val (.long y3), .second, .val (.long y4), .second, .val (.int (2 : Int32))] []))
              refine own_go (fun tt_ kk_ => XS.iload X0.here hx rfl (hb hby d10_54) rfl kk_) ?_
              show Go p.tables e below _ (s₁.setTop (mkF m 56 #[.val (.long y1), .second, .val (.long y2), .second, .val (.long y3), .second, .val (.long y4), .second, .val (.int (2 : Int32))] [(.int (2 : Int32))]))
              exact own_ret X0 hx hlk Bd.returns rfl (Or.inl ⟨rfl, Or.inl rfl, _, rfl⟩) (hb hby d10_56) ⟨congrArg (fun z => some (Value.int z)) (by rw [own_dn, if_neg hc1, if_neg hc13, if_pos hc17, if_neg hc18, if_neg hc19, if_pos hc20]; rfl), N0, e0⟩ (by decide) (by decide)
            · refine own_go (fun tt_ kk_ => XS.ifNo X0.here hx rfl (hb hby d10_48) rfl (XT.ll_eq_f hc20) kk_) ?_
              show Go p.tables e below _ (s₁.setTop (mkF m 51 #[.val (.long y1), .second, .val (.long y2), .second, .val (.long y3), .second, .val (.long y4), .second, .val (.int (2 : Int32))] []))
              refine own_go (fun tt_ kk_ => XS.iinc X0.here hx rfl (hb hby d10_51) rfl (l' := #[.val (.long y1), .second, .val (.long y2), .second, .val (.long y3), .second, .val (.long y4), .second, .val (.int (3 : Int32))]) rfl kk_) ?_
              show Go p.tables e below _ (s₁.setTop (mkF m 54 #[.val (.long y1), .second, .val (.long y2), .second, .val (.long y3), .second, .val (.long y4), .second, .val (.int (3 : Int32))] []))
              refine own_go (fun tt_ kk_ => XS.iload X0.here hx rfl (hb hby d10_54) rfl kk_) ?_
              show Go p.tables e below _ (s₁.setTop (mkF m 56 #[.val (.long y1), .second, .val (.long y2), .second, .val (.long y3), .second, .val (.long y4), .second, .val (.int (3 : Int32))] [(.int (3 : Int32))]))
              exact own_ret X0 hx hlk Bd.returns rfl (Or.inl ⟨rfl, Or.inl rfl, _, rfl⟩) (hb hby d10_56) ⟨congrArg (fun z => some (Value.int z)) (by rw [own_dn, if_neg hc1, if_neg hc13, if_pos hc17, if_neg hc18, if_neg hc19, if_neg hc20]; rfl), N0, e0⟩ (by decide) (by decide)
      · refine own_go (fun tt_ kk_ => XS.ifNo X0.here hx rfl (hb hby d10_23) rfl (XT.ll_eq_f hc17) kk_) ?_
        show Go p.tables e below _ (s₁.setTop (mkF m 26 #[.val (.long y1), .second, .val (.long y2), .second, .val (.long y3), .second, .val (.long y4), .second, .val (.int (2 : Int32))] []))
        refine own_go (fun tt_ kk_ => XS.iinc X0.here hx rfl (hb hby d10_26) rfl (l' := #[.val (.long y1), .second, .val (.long y2), .second, .val (.long y3), .second, .val (.long y4), .second, .val (.int (3 : Int32))]) rfl kk_) ?_
        show Go p.tables e below _ (s₁.setTop (mkF m 29 #[.val (.long y1), .second, .val (.long y2), .second, .val (.long y3), .second, .val (.long y4), .second, .val (.int (3 : Int32))] []))
        refine own_go (fun tt_ kk_ => XT.lload X0.here hx rfl (hb hby d10_29) rfl kk_) ?_
        show Go p.tables e below _ (s₁.setTop (mkF m 31 #[.val (.long y1), .second, .val (.long y2), .second, .val (.long y3), .second, .val (.long y4), .second, .val (.int (3 : Int32))] [(.long y4)]))
        refine own_go (fun tt_ kk_ => XT.lloadN X0.here hx rfl (hb hby d10_31) rfl kk_) ?_
        show Go p.tables e below _ (s₁.setTop (mkF m 32 #[.val (.long y1), .second, .val (.long y2), .second, .val (.long y3), .second, .val (.long y4), .second, .val (.int (3 : Int32))] [(.long y1), (.long y4)]))
        refine own_go (fun tt_ kk_ => XT.lcmp X0.here hx rfl (hb hby d10_32) rfl kk_) ?_
        show Go p.tables e below _ (s₁.setTop (mkF m 33 #[.val (.long y1), .second, .val (.long y2), .second, .val (.long y3), .second, .val (.long y4), .second, .val (.int (3 : Int32))] [(.int (XT.cmpL y4 y1))]))
        by_cases hc21 : y4 = y1
        · refine own_go (fun tt_ kk_ => XS.ifYes X0.here hx rfl (pc0 := 33) (pc' := 54) rfl (hb hby d10_33) rfl (XT.ll_eq_t hc21) (by decide) (by decide) kk_) ?_
          show Go p.tables e below _ (s₁.setTop (mkF m 54 #[.val (.long y1), .second, .val (.long y2), .second, .val (.long y3), .second, .val (.long y4), .second, .val (.int (3 : Int32))] []))
          refine own_go (fun tt_ kk_ => XS.iload X0.here hx rfl (hb hby d10_54) rfl kk_) ?_
          show Go p.tables e below _ (s₁.setTop (mkF m 56 #[.val (.long y1), .second, .val (.long y2), .second, .val (.long y3), .second, .val (.long y4), .second, .val (.int (3 : Int32))] [(.int (3 : Int32))]))
          exact own_ret X0 hx hlk Bd.returns rfl (Or.inl ⟨rfl, Or.inl rfl, _, rfl⟩) (hb hby d10_56) ⟨congrArg (fun z => some (Value.int z)) (by rw [own_dn, if_neg hc1, if_neg hc13, if_neg hc17, if_pos hc21]; rfl), N0, e0⟩ (by decide) (by decide)
        · refine own_go (fun tt_ kk_ => XS.ifNo X0.here hx rfl (hb hby d10_33) rfl (XT.ll_eq_f hc21) kk_) ?_
          show Go p.tables e below _ (s₁.setTop (mkF m 36 #[.val (.long y1), .second, .val (.long y2), .second, .val (.long y3), .second, .val (.long y4), .second, .val (.int (3 : Int32))] []))
          refine own_go (fun tt_ kk_ => XT.lload X0.here hx rfl (hb hby d10_36) rfl kk_) ?_
          show Go p.tables e below _ (s₁.setTop (mkF m 38 #[.val (.long y1), .second, .val (.long y2), .second, .val (.long y3), .second, .val (.long y4), .second, .val (.int (3 : Int32))] [(.long y4)]))
          refine own_go (fun tt_ kk_ => XT.lloadN X0.here hx rfl (hb hby d10_38) rfl kk_) ?_
          show Go p.tables e below _ (s₁.setTop (mkF m 39 #[.val (.long y1), .second, .val (.long y2), .second, .val (.long y3), .second, .val (.long y4), .second, .val (.int (3 : Int32))] [(.long y2), (.long y4)]))
          refine own_go (fun tt_ kk_ => XT.lcmp X0.here hx rfl (hb hby d10_39) rfl kk_) ?_
          show Go p.tables e below _ (s₁.setTop (mkF m 40 #[.val (.long y1), .second, .val (.long y2), .second, .val (.long y3), .second, .val (.long y4), .second, .val (.int (3 : Int32))] [(.int (XT.cmpL y4 y2))]))
          by_cases hc22 : y4 = y2
          · refine own_go (fun tt_ kk_ => XS.ifYes X0.here hx rfl (pc0 := 40) (pc' := 54) rfl (hb hby d10_40) rfl (XT.ll_eq_t hc22) (by decide) (by decide) kk_) ?_
            show Go p.tables e below _ (s₁.setTop (mkF m 54 #[.val (.long y1), .second, .val (.long y2), .second, .val (.long y3), .second, .val (.long y4), .second, .val (.int (3 : Int32))] []))
            refine own_go (fun tt_ kk_ => XS.iload X0.here hx rfl (hb hby d10_54) rfl kk_) ?_
            show Go p.tables e below _ (s₁.setTop (mkF m 56 #[.val (.long y1), .second, .val (.long y2), .second, .val (.long y3), .second, .val (.long y4), .second, .val (.int (3 : Int32))] [(.int (3 : Int32))]))
            exact own_ret X0 hx hlk Bd.returns rfl (Or.inl ⟨rfl, Or.inl rfl, _, rfl⟩) (hb hby d10_56) ⟨congrArg (fun z => some (Value.int z)) (by rw [own_dn, if_neg hc1, if_neg hc13, if_neg hc17, if_neg hc21, if_pos hc22]; rfl), N0, e0⟩ (by decide) (by decide)
          · refine own_go (fun tt_ kk_ => XS.ifNo X0.here hx rfl (hb hby d10_40) rfl (XT.ll_eq_f hc22) kk_) ?_
            show Go p.tables e below _ (s₁.setTop (mkF m 43 #[.val (.long y1), .second, .val (.long y2), .second, .val (.long y3), .second, .val (.long y4), .second, .val (.int (3 : Int32))] []))
            refine own_go (fun tt_ kk_ => XT.lload X0.here hx rfl (hb hby d10_43) rfl kk_) ?_
            show Go p.tables e below _ (s₁.setTop (mkF m 45 #[.val (.long y1), .second, .val (.long y2), .second, .val (.long y3), .second, .val (.long y4), .second, .val (.int (3 : Int32))] [(.long y4)]))
            refine own_go (fun tt_ kk_ => XT.lload X0.here hx rfl (hb hby d10_45) rfl kk_) ?_
            show Go p.tables e below _ (s₁.setTop (mkF m 47 #[.val (.long y1), .second, .val (.long y2), .second, .val (.long y3), .second, .val (.long y4), .second, .val (.int (3 : Int32))] [(.long y3), (.long y4)]))
            refine own_go (fun tt_ kk_ => XT.lcmp X0.here hx rfl (hb hby d10_47) rfl kk_) ?_
            show Go p.tables e below _ (s₁.setTop (mkF m 48 #[.val (.long y1), .second, .val (.long y2), .second, .val (.long y3), .second, .val (.long y4), .second, .val (.int (3 : Int32))] [(.int (XT.cmpL y4 y3))]))
            by_cases hc23 : y4 = y3
            · refine own_go (fun tt_ kk_ => XS.ifYes X0.here hx rfl (pc0 := 48) (pc' := 54) rfl (hb hby d10_48) rfl (XT.ll_eq_t hc23) (by decide) (by decide) kk_) ?_
              show Go p.tables e below _ (s₁.setTop (mkF m 54 #[.val (.long y1), .second, .val (.long y2), .second, .val (.long y3), .second, .val (.long y4), .second, .val (.int (3 : Int32))] []))
              refine own_go (fun tt_ kk_ => XS.iload X0.here hx rfl (hb hby d10_54) rfl kk_) ?_
              show Go p.tables e below _ (s₁.setTop (mkF m 56 #[.val (.long y1), .second, .val (.long y2), .second, .val (.long y3), .second, .val (.long y4), .second, .val (.int (3 : Int32))] [(.int (3 : Int32))]))
              exact own_ret X0 hx hlk Bd.returns rfl (Or.inl ⟨rfl, Or.inl rfl, _, rfl⟩) (hb hby d10_56) ⟨congrArg (fun z => some (Value.int z)) (by rw [own_dn, if_neg hc1, if_neg hc13, if_neg hc17, if_neg hc21, if_neg hc22, if_pos hc23]; rfl), N0, e0⟩ (by decide) (by decide)
            · refine own_go (fun tt_ kk_ => XS.ifNo X0.here hx rfl (hb hby d10_48) rfl (XT.ll_eq_f hc23) kk_) ?_
              show Go p.tables e below _ (s₁.setTop (mkF m 51 #[.val (.long y1), .second, .val (.long y2), .second, .val (.long y3), .second, .val (.long y4), .second, .val (.int (3 : Int32))] []))
              refine own_go (fun tt_ kk_ => XS.iinc X0.here hx rfl (hb hby d10_51) rfl (l' := #[.val (.long y1), .second, .val (.long y2), .second, .val (.long y3), .second, .val (.long y4), .second, .val (.int (4 : Int32))]) rfl kk_) ?_
              show Go p.tables e below _ (s₁.setTop (mkF m 54 #[.val (.long y1), .second, .val (.long y2), .second, .val (.long y3), .second, .val (.long y4), .second, .val (.int (4 : Int32))] []))
              refine own_go (fun tt_ kk_ => XS.iload X0.here hx rfl (hb hby d10_54) rfl kk_) ?_
              show Go p.tables e below _ (s₁.setTop (mkF m 56 #[.val (.long y1), .second, .val (.long y2), .second, .val (.long y3), .second, .val (.long y4), .second, .val (.int (4 : Int32))] [(.int (4 : Int32))]))
              exact own_ret X0 hx hlk Bd.returns rfl (Or.inl ⟨rfl, Or.inl rfl, _, rfl⟩) (hb hby d10_56) ⟨congrArg (fun z => some (Value.int z)) (by rw [own_dn, if_neg hc1, if_neg hc13, if_neg hc17, if_neg hc21, if_neg hc22, if_neg hc23]; rfl), N0, e0⟩ (by decide) (by decide)
theorem pd_5 : parseMethodDescriptor "(JJJJJ)I" = some ⟨[.long, .long, .long, .long, .long], some .int⟩ := by decide +kernel
theorem d17_0 : decode method_5_code 0 = .ok (.lload_n 0, 1) := by decide +kernel
theorem d17_1 : decode method_5_code 1 = .ok (.lload_n 2, 1) := by decide +kernel
theorem d17_2 : decode method_5_code 2 = .ok (.lcmp, 1) := by decide +kernel
theorem d17_3 : decode method_5_code 3 = .ok (.ifCond .ne 5, 3) := by decide +kernel
theorem d17_6 : decode method_5_code 6 = .ok (.iconst 0, 1) := by decide +kernel
theorem d17_7 : decode method_5_code 7 = .ok (.ireturn, 1) := by decide +kernel
theorem d17_8 : decode method_5_code 8 = .ok (.lload_n 0, 1) := by decide +kernel
theorem d17_9 : decode method_5_code 9 = .ok (.lload 4, 2) := by decide +kernel
theorem d17_11 : decode method_5_code 11 = .ok (.lload 6, 2) := by decide +kernel
theorem d17_13 : decode method_5_code 13 = .ok (.lload 8, 2) := by decide +kernel
theorem d17_15 : decode method_5_code 15 = .ok (.lload 10, 2) := by decide +kernel
theorem d17_17 : decode method_5_code 17 = .ok (.invokestatic 13, 3) := by decide +kernel
theorem d17_20 : decode method_5_code 20 = .ok (.ireturn, 1) := by decide +kernel
theorem ef_rm_after (m : MethodId) (x0 : Int64) (x1 : Int64) (x2 : Int64) (x3 : Int64) (x4 : Int64) (x5 : Int64) : entryFrame m #[(.long x0), (.long x1), (.long x2), (.long x3), (.long x4), (.long x5)] 12 = mkF m 0 #[.val (.long x0), .second, .val (.long x1), .second, .val (.long x2), .second, .val (.long x3), .second, .val (.long x4), .second, .val (.long x5), .second] [] := by first | (simp [entryFrame, mkF, argsToLocals, Value.category]; done) | rfl
set_option maxRecDepth 65536 in
set_option maxHeartbeats 40000000 in
theorem rm_after (l : Launch) (Z : State) (a0 : Array Value) (hw : ∀ d ∈ tables_1, d.before a0 Z = true) (ws : List Jvm.Cond) (y1 y2 y3 y4 y5 y6 : Int64) (h0 : Heap) (n0 : Nat)  :
    MetFree l (⟨"com/example/rootlet/rootlet/IdMapRemovePinLaw", "after", "(JJJJJJ)I"⟩ : MethodName) (head1 (Jvm.Cond.code (⟨"com/example/rootlet/rootlet/IdMapRemovePinLaw", "after", "(JJJJJJ)I"⟩ : MethodName) method_5_code 12 (some .int) :: ws) ({ frames := 1, cells := 0, slots := 0, locals := 21 } : Room)) (fun aa U => aa = #[(.long y1), (.long y2), (.long y3), (.long y4), (.long y5), (.long y6)] ∧ Z.Warmed39 U.vm ∧ U.heap = h0) (fun _ _ _ _ _ => True) (fun _ U o U' => ∃ v_ L_, o = .returned v_ ∧ PQ (.int (own_after y1 y2 y3 y4 y5 y6)) h0 n0 v_ U'.heap L_ ∧ FrameEnd U o U' L_ ({ frames := 1, cells := 0, slots := 0, locals := 21 } : Room).cells ({ frames := 1, cells := 0, slots := 0, locals := 21 } : Room).slots) := by
  refine MetFree.of_bodySF (plainFor_of_name pn_3) hisR ?_
  intro p e s m args below meth c s₁ Bd hml0 hP hK
  obtain ⟨rfl, hZ, hh⟩ := hP
  have hx := Bd.exec
  have hby := Bd.bytes
  have hlk := Bd.notSynchronized
  have hml : c.maxLocals = 12 := hml0
  have hown : s.vm.findClass "com/example/rootlet/rootlet/IdMapRemovePinLaw" = some m.cls := by have q := findClass_of_methodNamed Bd.named; exact q
  have X0 : Stand p l e ({ frames := 1, cells := 0, slots := 0, locals := 21 } : Room) s m #[(.long y1), (.long y2), (.long y3), (.long y4), (.long y5), (.long y6)] below meth c s₁ [] 0 0 := Stand.of_body Bd
  have e0 : s₁.heap = h0 := by rw [← hh, Bd.state]; rfl
  have N0 := Fr.nil n0
  show Go p.tables e below (Fin s below (PQ (.int (own_after y1 y2 y3 y4 y5 y6)) h0 n0) ({ frames := 1, cells := 0, slots := 0, locals := 21 } : Room).cells ({ frames := 1, cells := 0, slots := 0, locals := 21 } : Room).slots) (s₁.setTop (entryFrame m #[(.long y1), (.long y2), (.long y3), (.long y4), (.long y5), (.long y6)] 12))
  refine own_go (fun tt_ kk_ => castTop (ef_rm_after m y1 y2 y3 y4 y5 y6) kk_) ?_
  show Go p.tables e below _ (s₁.setTop (mkF m 0 #[.val (.long y1), .second, .val (.long y2), .second, .val (.long y3), .second, .val (.long y4), .second, .val (.long y5), .second, .val (.long y6), .second] []))
  refine own_go (fun tt_ kk_ => XT.lloadN X0.here hx rfl (hb hby d17_0) rfl kk_) ?_
  show Go p.tables e below _ (s₁.setTop (mkF m 1 #[.val (.long y1), .second, .val (.long y2), .second, .val (.long y3), .second, .val (.long y4), .second, .val (.long y5), .second, .val (.long y6), .second] [(.long y1)]))
  refine own_go (fun tt_ kk_ => XT.lloadN X0.here hx rfl (hb hby d17_1) rfl kk_) ?_
  show Go p.tables e below _ (s₁.setTop (mkF m 2 #[.val (.long y1), .second, .val (.long y2), .second, .val (.long y3), .second, .val (.long y4), .second, .val (.long y5), .second, .val (.long y6), .second] [(.long y2), (.long y1)]))
  refine own_go (fun tt_ kk_ => XT.lcmp X0.here hx rfl (hb hby d17_2) rfl kk_) ?_
  show Go p.tables e below _ (s₁.setTop (mkF m 3 #[.val (.long y1), .second, .val (.long y2), .second, .val (.long y3), .second, .val (.long y4), .second, .val (.long y5), .second, .val (.long y6), .second] [(.int (XT.cmpL y1 y2))]))
  by_cases hc1 : y1 = y2
  · refine own_go (fun tt_ kk_ => XS.ifNo X0.here hx rfl (hb hby d17_3) rfl (XT.ll_ne_f hc1) kk_) ?_
    show Go p.tables e below _ (s₁.setTop (mkF m 6 #[.val (.long y1), .second, .val (.long y2), .second, .val (.long y3), .second, .val (.long y4), .second, .val (.long y5), .second, .val (.long y6), .second] []))
    refine own_go (fun tt_ kk_ => XS.iconst X0.here hx rfl (hb hby d17_6) kk_) ?_
    show Go p.tables e below _ (s₁.setTop (mkF m 7 #[.val (.long y1), .second, .val (.long y2), .second, .val (.long y3), .second, .val (.long y4), .second, .val (.long y5), .second, .val (.long y6), .second] [(.int (0 : Int32))]))
    exact own_ret X0 hx hlk Bd.returns rfl (Or.inl ⟨rfl, Or.inl rfl, _, rfl⟩) (hb hby d17_7) ⟨congrArg (fun z => some (Value.int z)) (by rw [own_after, if_pos hc1]), N0, e0⟩ (by decide) (by decide)
  · refine own_go (fun tt_ kk_ => XS.ifYes X0.here hx rfl (pc0 := 3) (pc' := 8) rfl (hb hby d17_3) rfl (XT.ll_ne_t hc1) (by decide) (by decide) kk_) ?_
    show Go p.tables e below _ (s₁.setTop (mkF m 8 #[.val (.long y1), .second, .val (.long y2), .second, .val (.long y3), .second, .val (.long y4), .second, .val (.long y5), .second, .val (.long y6), .second] []))
    refine own_go (fun tt_ kk_ => XT.lloadN X0.here hx rfl (hb hby d17_8) rfl kk_) ?_
    show Go p.tables e below _ (s₁.setTop (mkF m 9 #[.val (.long y1), .second, .val (.long y2), .second, .val (.long y3), .second, .val (.long y4), .second, .val (.long y5), .second, .val (.long y6), .second] [(.long y1)]))
    refine own_go (fun tt_ kk_ => XT.lload X0.here hx rfl (hb hby d17_9) rfl kk_) ?_
    show Go p.tables e below _ (s₁.setTop (mkF m 11 #[.val (.long y1), .second, .val (.long y2), .second, .val (.long y3), .second, .val (.long y4), .second, .val (.long y5), .second, .val (.long y6), .second] [(.long y3), (.long y1)]))
    refine own_go (fun tt_ kk_ => XT.lload X0.here hx rfl (hb hby d17_11) rfl kk_) ?_
    show Go p.tables e below _ (s₁.setTop (mkF m 13 #[.val (.long y1), .second, .val (.long y2), .second, .val (.long y3), .second, .val (.long y4), .second, .val (.long y5), .second, .val (.long y6), .second] [(.long y4), (.long y3), (.long y1)]))
    refine own_go (fun tt_ kk_ => XT.lload X0.here hx rfl (hb hby d17_13) rfl kk_) ?_
    show Go p.tables e below _ (s₁.setTop (mkF m 15 #[.val (.long y1), .second, .val (.long y2), .second, .val (.long y3), .second, .val (.long y4), .second, .val (.long y5), .second, .val (.long y6), .second] [(.long y5), (.long y4), (.long y3), (.long y1)]))
    refine own_go (fun tt_ kk_ => XT.lload X0.here hx rfl (hb hby d17_15) rfl kk_) ?_
    show Go p.tables e below _ (s₁.setTop (mkF m 17 #[.val (.long y1), .second, .val (.long y2), .second, .val (.long y3), .second, .val (.long y4), .second, .val (.long y5), .second, .val (.long y6), .second] [(.long y6), (.long y5), (.long y4), (.long y3), (.long y1)]))
    obtain ⟨v2, _, ⟨T2, L2, k2, n2⟩, -, X2, ⟨Lc2, hQ2, l2, y2, z2⟩, st2⟩ := Jvm.LawKit.callS X0 hx (y := (⟨"com/example/rootlet/rootlet/IdMapRemovePinLaw", "last", "(JJJJJ)I"⟩ : MethodName)) hown (mvT hZ (hw _ (List.mem_of_getElem? (i := 59) rfl))) (mvT hZ (hw _ (List.mem_of_getElem? (i := 60) rfl))) (mvT hZ (hw _ (List.mem_of_getElem? (i := 61) rfl))) (mvT hZ (hw _ (List.mem_of_getElem? (i := 62) rfl))) (by decide) (backOf (W := 0) (rm_last l Z a0 hw [] y1 y3 y4 y5 y6 h0 n0) hZ (hw _ (List.mem_of_getElem? (i := 62) rfl)) (hw _ (List.mem_of_getElem? (i := 61) rfl)) (by decide) (by decide)) (g := (mkF m 17 #[.val (.long y1), .second, .val (.long y2), .second, .val (.long y3), .second, .val (.long y4), .second, .val (.long y5), .second, .val (.long y6), .second] [(.long y6), (.long y5), (.long y4), (.long y3), (.long y1)])) rfl (by rw [hml]; rfl) (argsL := [(.long y1), (.long y3), (.long y4), (.long y5), (.long y6)]) (rest := []) (lenOf pd_5 rfl) rfl (by show 2 * 0 + _ ≤ _; exact Nat.le_of_eq rfl) (hb hby d17_17) (fun _ _ => ⟨rfl, e0, (by decide : 0 + 0 ≤ _), (by decide : 0 + 0 ≤ _)⟩)
    dsimp only [Pt.U, Pt.locs, Pt.cells, Pt.slots] at X2 l2 y2 z2 st2 hQ2
    subst y2 z2
    obtain ⟨hv2, N2q, e2⟩ := hQ2
    subst hv2
    have N2 : Fr n0 L2 := by rw [l2]; exact Fr.app N0 N2q
    refine own_go (fun tt_ kk_ => st2 tt_ kk_) ?_
    show Go p.tables e below _ (T2.setTop (mkF m 20 #[.val (.long y1), .second, .val (.long y2), .second, .val (.long y3), .second, .val (.long y4), .second, .val (.long y5), .second, .val (.long y6), .second] [(.int (own_last y1 y3 y4 y5 y6))]))
    exact own_ret X2 hx hlk Bd.returns rfl (Or.inl ⟨rfl, Or.inl rfl, _, rfl⟩) (hb hby d17_20) ⟨congrArg (fun z => some (Value.int z)) (by rw [own_after, if_neg hc1]), N2, e2⟩ (by decide) (by decide)
theorem d14_0 : decode jdk_33_method_27_code 0 = .ok (.aload_n 0, 1) := by decide +kernel
theorem d14_1 : decode jdk_33_method_27_code 1 = .ok (.getfield 205, 3) := by decide +kernel
theorem d14_4 : decode jdk_33_method_27_code 4 = .ok (.ireturn, 1) := by decide +kernel
theorem ef_rm_intValue (m : MethodId) (x0 : Addr) : entryFrame m #[(.ref x0)] 1 = mkF m 0 #[.val (.ref x0)] [] := by first | (simp [entryFrame, mkF, argsToLocals, Value.category]; done) | rfl
set_option maxRecDepth 65536 in
set_option maxHeartbeats 40000000 in
theorem rm_intValue (l : Launch) (Z : State) (a0 : Array Value) (hw : ∀ d ∈ tables_1, d.before a0 Z = true) (ws : List Jvm.Cond) (w : Addr) (z : Int32) (h0 : Heap) (n0 : Nat) (F : Fld Z h0 w "java/lang/Integer" "value" "I" (.int z)) :
    MetFree l (⟨"java/lang/Integer", "intValue", "()I"⟩ : MethodName) (head1 (Jvm.Cond.code (⟨"java/lang/Integer", "intValue", "()I"⟩ : MethodName) jdk_33_method_27_code 1 (some .int) :: ws) ({ frames := 0, cells := 0, slots := 0, locals := 0 } : Room)) (fun aa U => aa = #[(.ref w)] ∧ Z.Warmed39 U.vm ∧ U.heap = h0) (fun _ _ _ _ _ => True) (fun _ U o U' => ∃ v_ L_, o = .returned v_ ∧ PQ (.int z) h0 n0 v_ U'.heap L_ ∧ FrameEnd U o U' L_ ({ frames := 0, cells := 0, slots := 0, locals := 0 } : Room).cells ({ frames := 0, cells := 0, slots := 0, locals := 0 } : Room).slots) := by
  refine MetFree.of_bodySF (plainFor_of_name pn_2) hisR ?_
  intro p e s m args below meth c s₁ Bd hml0 hP hK
  obtain ⟨rfl, hZ, hh⟩ := hP
  have hx := Bd.exec
  have hby := Bd.bytes
  have hlk := Bd.notSynchronized
  have hml : c.maxLocals = 1 := hml0
  have hown : s.vm.findClass "java/lang/Integer" = some m.cls := by have q := findClass_of_methodNamed Bd.named; exact q
  have X0 : Stand p l e ({ frames := 0, cells := 0, slots := 0, locals := 0 } : Room) s m #[(.ref w)] below meth c s₁ [] 0 0 := Stand.of_body Bd
  have e0 : s₁.heap = h0 := by rw [← hh, Bd.state]; rfl
  have N0 := Fr.nil n0
  show Go p.tables e below (Fin s below (PQ (.int z) h0 n0) ({ frames := 0, cells := 0, slots := 0, locals := 0 } : Room).cells ({ frames := 0, cells := 0, slots := 0, locals := 0 } : Room).slots) (s₁.setTop (entryFrame m #[(.ref w)] 1))
  refine own_go (fun tt_ kk_ => castTop (ef_rm_intValue m w) kk_) ?_
  show Go p.tables e below _ (s₁.setTop (mkF m 0 #[.val (.ref w)] []))
  refine own_go (fun tt_ kk_ => XS.aloadN X0.here hx rfl (hb hby d14_0) rfl rfl kk_) ?_
  show Go p.tables e below _ (s₁.setTop (mkF m 1 #[.val (.ref w)] [(.ref w)]))
  obtain ⟨T1, X1, e1, st1⟩ := getF X0 hx hZ hown (host := "") (Or.inl (hw _ (List.mem_of_getElem? (i := 85) rfl))) Via.refl e0 F (g := (mkF m 1 #[.val (.ref w)] [(.ref w)])) rfl rfl (hb hby d14_1)
  refine own_go (fun tt_ kk_ => st1 tt_ kk_) ?_
  show Go p.tables e below _ (T1.setTop (mkF m 4 #[.val (.ref w)] [(.int z)]))
  exact own_ret X1 hx hlk Bd.returns rfl (Or.inl ⟨rfl, Or.inl rfl, _, rfl⟩) (hb hby d14_4) ⟨rfl, N0, e1⟩ (by decide) (by decide)
theorem pd_6 : parseMethodDescriptor "()I" = some ⟨[], some .int⟩ := by decide +kernel
theorem d13_0 : decode method_4_code 0 = .ok (.iload_n 1, 1) := by decide +kernel
theorem d13_1 : decode method_4_code 1 = .ok (.ifCond .ne 13, 3) := by decide +kernel
theorem d13_4 : decode method_4_code 4 = .ok (.aload_n 0, 1) := by decide +kernel
theorem d13_5 : decode method_4_code 5 = .ok (.ifnonnull 7, 3) := by decide +kernel
theorem d13_8 : decode method_4_code 8 = .ok (.iconst 1, 1) := by decide +kernel
theorem d13_9 : decode method_4_code 9 = .ok (.goto 4, 3) := by decide +kernel
theorem d13_12 : decode method_4_code 12 = .ok (.iconst 0, 1) := by decide +kernel
theorem d13_13 : decode method_4_code 13 = .ok (.ireturn, 1) := by decide +kernel
theorem d13_14 : decode method_4_code 14 = .ok (.aload_n 0, 1) := by decide +kernel
theorem d13_15 : decode method_4_code 15 = .ok (.ifnull 15, 3) := by decide +kernel
theorem d13_18 : decode method_4_code 18 = .ok (.aload_n 0, 1) := by decide +kernel
theorem d13_19 : decode method_4_code 19 = .ok (.invokevirtual 7, 3) := by decide +kernel
theorem d13_22 : decode method_4_code 22 = .ok (.iload_n 1, 1) := by decide +kernel
theorem d13_23 : decode method_4_code 23 = .ok (.if_icmp .ne 7, 3) := by decide +kernel
theorem d13_26 : decode method_4_code 26 = .ok (.iconst 1, 1) := by decide +kernel
theorem d13_27 : decode method_4_code 27 = .ok (.goto 4, 3) := by decide +kernel
theorem d13_30 : decode method_4_code 30 = .ok (.iconst 0, 1) := by decide +kernel
theorem d13_31 : decode method_4_code 31 = .ok (.ireturn, 1) := by decide +kernel
theorem ef_rm_same (m : MethodId) (x0 : Value) (x1 : Int32) (hr0 : x0.isRef = true) : entryFrame m #[x0, (.int x1)] 2 = mkF m 0 #[.val x0, .val (.int x1)] [] := by rcases ref_cases hr0 with rfl | ⟨_, rfl⟩ <;> first | (simp [entryFrame, mkF, argsToLocals, Value.category]; done) | rfl
set_option maxRecDepth 65536 in
set_option maxHeartbeats 40000000 in
theorem rm_same (l : Launch) (Z : State) (a0 : Array Value) (hw : ∀ d ∈ tables_1, d.before a0 Z = true) (ws : List Jvm.Cond) (V : Value) (z i : Int32) (h0 : Heap) (n0 : Nat) (NV : own_Num Z h0 V z) :
    MetFree l (⟨"com/example/rootlet/rootlet/IdMapRemovePinLaw", "same", "(Ljava/lang/Integer;I)Z"⟩ : MethodName) (head1 (Jvm.Cond.code (⟨"com/example/rootlet/rootlet/IdMapRemovePinLaw", "same", "(Ljava/lang/Integer;I)Z"⟩ : MethodName) method_4_code 2 (some .boolean) :: ws) ({ frames := 1, cells := 0, slots := 0, locals := 12 } : Room)) (fun aa U => aa = #[V, (.int i)] ∧ Z.Warmed39 U.vm ∧ U.heap = h0) (fun _ _ _ _ _ => True) (fun _ U o U' => ∃ v_ L_, o = .returned v_ ∧ PQ (.int (if z = i then 1 else 0)) h0 n0 v_ U'.heap L_ ∧ FrameEnd U o U' L_ ({ frames := 1, cells := 0, slots := 0, locals := 12 } : Room).cells ({ frames := 1, cells := 0, slots := 0, locals := 12 } : Room).slots) := by
  refine MetFree.of_bodySF (plainFor_of_name pn_3) hisR ?_
  intro p e s m args below meth c s₁ Bd hml0 hP hK
  obtain ⟨rfl, hZ, hh⟩ := hP
  have hx := Bd.exec
  have hby := Bd.bytes
  have hlk := Bd.notSynchronized
  have hml : c.maxLocals = 2 := hml0
  have hown : s.vm.findClass "com/example/rootlet/rootlet/IdMapRemovePinLaw" = some m.cls := by have q := findClass_of_methodNamed Bd.named; exact q
  have X0 : Stand p l e ({ frames := 1, cells := 0, slots := 0, locals := 12 } : Room) s m #[V, (.int i)] below meth c s₁ [] 0 0 := Stand.of_body Bd
  have e0 : s₁.heap = h0 := by rw [← hh, Bd.state]; rfl
  have N0 := Fr.nil n0
  show Go p.tables e below (Fin s below (PQ (.int (if z = i then 1 else 0)) h0 n0) ({ frames := 1, cells := 0, slots := 0, locals := 12 } : Room).cells ({ frames := 1, cells := 0, slots := 0, locals := 12 } : Room).slots) (s₁.setTop (entryFrame m #[V, (.int i)] 2))
  refine own_go (fun tt_ kk_ => castTop (ef_rm_same m V i (NV.isRef)) kk_) ?_
  show Go p.tables e below _ (s₁.setTop (mkF m 0 #[.val V, .val (.int i)] []))
  rcases NV with ⟨rfl, rfl⟩ | ⟨w, rfl, hz, Ew, Fw⟩
  · show Go p.tables e below _ (s₁.setTop (mkF m 0 #[.val .null, .val (.int i)] []))
    refine own_go (fun tt_ kk_ => XS.iloadN X0.here hx rfl (hb hby d13_0) rfl kk_) ?_
    show Go p.tables e below _ (s₁.setTop (mkF m 1 #[.val .null, .val (.int i)] [(.int i)]))
    by_cases hc1 : i = 0
    · refine own_go (fun tt_ kk_ => XS.ifNo X0.here hx rfl (hb hby d13_1) rfl (XT.i0_ne_f hc1) kk_) ?_
      show Go p.tables e below _ (s₁.setTop (mkF m 4 #[.val .null, .val (.int i)] []))
      refine own_go (fun tt_ kk_ => XS.aloadN X0.here hx rfl (hb hby d13_4) rfl rfl kk_) ?_
      show Go p.tables e below _ (s₁.setTop (mkF m 5 #[.val .null, .val (.int i)] [.null]))
      refine own_go (fun tt_ kk_ => XT.ifnonnullNo X0.here hx rfl (hb hby d13_5) rfl kk_) ?_
      show Go p.tables e below _ (s₁.setTop (mkF m 8 #[.val .null, .val (.int i)] []))
      refine own_go (fun tt_ kk_ => XS.iconst X0.here hx rfl (hb hby d13_8) kk_) ?_
      show Go p.tables e below _ (s₁.setTop (mkF m 9 #[.val .null, .val (.int i)] [(.int (1 : Int32))]))
      refine own_go (fun tt_ kk_ => XS.goto X0.here hx rfl (pc0 := 9) (pc' := 13) rfl (hb hby d13_9) (by decide) (by decide) kk_) ?_
      show Go p.tables e below _ (s₁.setTop (mkF m 13 #[.val .null, .val (.int i)] [(.int (1 : Int32))]))
      exact own_ret X0 hx hlk Bd.returns rfl (Or.inl ⟨rfl, Or.inr (Or.inl rfl), _, rfl⟩) (hb hby d13_13) ⟨congrArg (fun z => some (Value.int z)) (if_pos hc1.symm).symm, N0, e0⟩ (by decide) (by decide)
    · refine own_go (fun tt_ kk_ => XS.ifYes X0.here hx rfl (pc0 := 1) (pc' := 14) rfl (hb hby d13_1) rfl (XT.i0_ne_t hc1) (by decide) (by decide) kk_) ?_
      show Go p.tables e below _ (s₁.setTop (mkF m 14 #[.val .null, .val (.int i)] []))
      refine own_go (fun tt_ kk_ => XS.aloadN X0.here hx rfl (hb hby d13_14) rfl rfl kk_) ?_
      show Go p.tables e below _ (s₁.setTop (mkF m 15 #[.val .null, .val (.int i)] [.null]))
      refine own_go (fun tt_ kk_ => XS.ifnullYes X0.here hx rfl (pc0 := 15) (pc' := 30) rfl (hb hby d13_15) rfl (by decide) (by decide) kk_) ?_
      show Go p.tables e below _ (s₁.setTop (mkF m 30 #[.val .null, .val (.int i)] []))
      refine own_go (fun tt_ kk_ => XS.iconst X0.here hx rfl (hb hby d13_30) kk_) ?_
      show Go p.tables e below _ (s₁.setTop (mkF m 31 #[.val .null, .val (.int i)] [(.int (0 : Int32))]))
      exact own_ret X0 hx hlk Bd.returns rfl (Or.inl ⟨rfl, Or.inr (Or.inl rfl), _, rfl⟩) (hb hby d13_31) ⟨congrArg (fun z => some (Value.int z)) (if_neg (fun q => hc1 q.symm)).symm, N0, e0⟩ (by decide) (by decide)
  · show Go p.tables e below _ (s₁.setTop (mkF m 0 #[.val (.ref w), .val (.int i)] []))
    refine own_go (fun tt_ kk_ => XS.iloadN X0.here hx rfl (hb hby d13_0) rfl kk_) ?_
    show Go p.tables e below _ (s₁.setTop (mkF m 1 #[.val (.ref w), .val (.int i)] [(.int i)]))
    by_cases hc2 : i = 0
    · refine own_go (fun tt_ kk_ => XS.ifNo X0.here hx rfl (hb hby d13_1) rfl (XT.i0_ne_f hc2) kk_) ?_
      show Go p.tables e below _ (s₁.setTop (mkF m 4 #[.val (.ref w), .val (.int i)] []))
      refine own_go (fun tt_ kk_ => XS.aloadN X0.here hx rfl (hb hby d13_4) rfl rfl kk_) ?_
      show Go p.tables e below _ (s₁.setTop (mkF m 5 #[.val (.ref w), .val (.int i)] [(.ref w)]))
      refine own_go (fun tt_ kk_ => XT.ifnonnullYes X0.here hx rfl (pc0 := 5) (pc' := 12) rfl (hb hby d13_5) rfl (by decide) (by decide) kk_) ?_
      show Go p.tables e below _ (s₁.setTop (mkF m 12 #[.val (.ref w), .val (.int i)] []))
      refine own_go (fun tt_ kk_ => XS.iconst X0.here hx rfl (hb hby d13_12) kk_) ?_
      show Go p.tables e below _ (s₁.setTop (mkF m 13 #[.val (.ref w), .val (.int i)] [(.int (0 : Int32))]))
      exact own_ret X0 hx hlk Bd.returns rfl (Or.inl ⟨rfl, Or.inr (Or.inl rfl), _, rfl⟩) (hb hby d13_13) ⟨congrArg (fun z => some (Value.int z)) (if_neg (fun q => hz (q.trans hc2))).symm, N0, e0⟩ (by decide) (by decide)
    · refine own_go (fun tt_ kk_ => XS.ifYes X0.here hx rfl (pc0 := 1) (pc' := 14) rfl (hb hby d13_1) rfl (XT.i0_ne_t hc2) (by decide) (by decide) kk_) ?_
      show Go p.tables e below _ (s₁.setTop (mkF m 14 #[.val (.ref w), .val (.int i)] []))
      refine own_go (fun tt_ kk_ => XS.aloadN X0.here hx rfl (hb hby d13_14) rfl rfl kk_) ?_
      show Go p.tables e below _ (s₁.setTop (mkF m 15 #[.val (.ref w), .val (.int i)] [(.ref w)]))
      refine own_go (fun tt_ kk_ => XS.ifnullNo X0.here hx rfl (hb hby d13_15) rfl kk_) ?_
      show Go p.tables e below _ (s₁.setTop (mkF m 18 #[.val (.ref w), .val (.int i)] []))
      refine own_go (fun tt_ kk_ => XS.aloadN X0.here hx rfl (hb hby d13_18) rfl rfl kk_) ?_
      show Go p.tables e below _ (s₁.setTop (mkF m 19 #[.val (.ref w), .val (.int i)] [(.ref w)]))
      obtain ⟨cq3, kq3, q3a, q3b, q3c⟩ := isOf hZ e0 Ew
      obtain ⟨v3, _, ⟨T3, L3, k3, n3⟩, -, X3, ⟨Lc3, hQ3, l3, y3, z3⟩, st3⟩ := X0.virtualBack hx (y := (⟨"java/lang/Integer", "intValue", "()I"⟩ : MethodName)) (z := (⟨"java/lang/Integer", "intValue", "()I"⟩ : MethodName)) hown (mvT hZ (hw _ (List.mem_of_getElem? (i := 80) rfl))) (mvT hZ (hw _ (List.mem_of_getElem? (i := 81) rfl))) (notFace_of_selects (args := #[]) (mvT hZ (hw _ (List.mem_of_getElem? (i := 83) rfl)))) (mvT hZ (hw _ (List.mem_of_getElem? (i := 83) rfl))) (mvT hZ (hw _ (List.mem_of_getElem? (i := 82) rfl))) (by decide) (backOf (W := 0) (rm_intValue l Z a0 hw [] w z h0 n0 Fw) hZ (hw _ (List.mem_of_getElem? (i := 84) rfl)) (hw _ (List.mem_of_getElem? (i := 24) rfl)) (by decide) (by decide)) q3a q3c (g := (mkF m 19 #[.val (.ref w), .val (.int i)] [(.ref w)])) rfl (by rw [hml]; rfl) (Steps.refl _) (argsL := []) (rest := []) (lenOf pd_6 rfl) rfl (by show 2 * 0 + _ ≤ _; exact Nat.le_of_eq rfl) (hb hby d13_19) (fun _ _ => ⟨rfl, e0, (by decide : 0 + 0 ≤ _), (by decide : 0 + 0 ≤ _)⟩)
      dsimp only [Pt.U, Pt.locs, Pt.cells, Pt.slots] at X3 l3 y3 z3 st3 hQ3
      subst y3 z3
      obtain ⟨hv3, N3q, e3⟩ := hQ3
      subst hv3
      have N3 : Fr n0 L3 := by rw [l3]; exact Fr.app N0 N3q
      refine own_go (fun tt_ kk_ => st3.trans kk_) ?_
      show Go p.tables e below _ (T3.setTop (mkF m 22 #[.val (.ref w), .val (.int i)] [(.int z)]))
      refine own_go (fun tt_ kk_ => XS.iloadN X3.here hx rfl (hb hby d13_22) rfl kk_) ?_
      show Go p.tables e below _ (T3.setTop (mkF m 23 #[.val (.ref w), .val (.int i)] [(.int i), (.int z)]))
      by_cases hc4 : z = i
      · refine own_go (fun tt_ kk_ => XS.icmpNo X3.here hx rfl (hb hby d13_23) rfl (XT.ii_ne_f hc4) kk_) ?_
        show Go p.tables e below _ (T3.setTop (mkF m 26 #[.val (.ref w), .val (.int i)] []))
        refine own_go (fun tt_ kk_ => XS.iconst X3.here hx rfl (hb hby d13_26) kk_) ?_
        show Go p.tables e below _ (T3.setTop (mkF m 27 #[.val (.ref w), .val (.int i)] [(.int (1 : Int32))]))
        refine own_go (fun tt_ kk_ => XS.goto X3.here hx rfl (pc0 := 27) (pc' := 31) rfl (hb hby d13_27) (by decide) (by decide) kk_) ?_
        show Go p.tables e below _ (T3.setTop (mkF m 31 #[.val (.ref w), .val (.int i)] [(.int (1 : Int32))]))
        exact own_ret X3 hx hlk Bd.returns rfl (Or.inl ⟨rfl, Or.inr (Or.inl rfl), _, rfl⟩) (hb hby d13_31) ⟨congrArg (fun z => some (Value.int z)) (if_pos hc4).symm, N3, e3⟩ (by decide) (by decide)
      · refine own_go (fun tt_ kk_ => XS.icmpYes X3.here hx rfl (pc0 := 23) (pc' := 30) rfl (hb hby d13_23) rfl (XT.ii_ne_t hc4) (by decide) (by decide) kk_) ?_
        show Go p.tables e below _ (T3.setTop (mkF m 30 #[.val (.ref w), .val (.int i)] []))
        refine own_go (fun tt_ kk_ => XS.iconst X3.here hx rfl (hb hby d13_30) kk_) ?_
        show Go p.tables e below _ (T3.setTop (mkF m 31 #[.val (.ref w), .val (.int i)] [(.int (0 : Int32))]))
        exact own_ret X3 hx hlk Bd.returns rfl (Or.inl ⟨rfl, Or.inr (Or.inl rfl), _, rfl⟩) (hb hby d13_31) ⟨congrArg (fun z => some (Value.int z)) (if_neg hc4).symm, N3, e3⟩ (by decide) (by decide)
theorem d16_0 : decode prog_24_method_3_code 0 = .ok (.aload_n 0, 1) := by decide +kernel
theorem d16_1 : decode prog_24_method_3_code 1 = .ok (.lload_n 1, 1) := by decide +kernel
theorem d16_2 : decode prog_24_method_3_code 2 = .ok (.invokevirtual 17, 3) := by decide +kernel
theorem d16_5 : decode prog_24_method_3_code 5 = .ok (.istore_n 3, 1) := by decide +kernel
theorem d16_6 : decode prog_24_method_3_code 6 = .ok (.iload_n 3, 1) := by decide +kernel
theorem d16_7 : decode prog_24_method_3_code 7 = .ok (.ifCond .ge 7, 3) := by decide +kernel
theorem d16_10 : decode prog_24_method_3_code 10 = .ok (.aconst_null, 1) := by decide +kernel
theorem d16_11 : decode prog_24_method_3_code 11 = .ok (.goto 8, 3) := by decide +kernel
theorem d16_14 : decode prog_24_method_3_code 14 = .ok (.aload_n 0, 1) := by decide +kernel
theorem d16_15 : decode prog_24_method_3_code 15 = .ok (.iload_n 3, 1) := by decide +kernel
theorem d16_16 : decode prog_24_method_3_code 16 = .ok (.invokevirtual 21, 3) := by decide +kernel
theorem d16_19 : decode prog_24_method_3_code 19 = .ok (.areturn, 1) := by decide +kernel
theorem ef_rm_get (m : MethodId) (x0 : Addr) (x1 : Int64) : entryFrame m #[(.ref x0), (.long x1)] 4 = mkF m 0 #[.val (.ref x0), .val (.long x1), .second, .unset] [] := by first | (simp [entryFrame, mkF, argsToLocals, Value.category]; done) | rfl
set_option maxRecDepth 65536 in
set_option maxHeartbeats 40000000 in
theorem rm_get (l : Launch) (Z : State) (a0 : Array Value) (hw : ∀ d ∈ tables_1, d.before a0 Z = true) (ws : List Jvm.Cond) (b ka va : Addr) (ks : Nat → Int64) (vs : Nat → Value) (G : Int64 → Value) (n : Nat) (q : Int64) (h0 : Heap) (n0 : Nat) (M : own_Map Z h0 n0 b ka va ks vs n) (RR : own_Rep own_hm ks vs G n) (hn : n < 16) :
    MetFree l (⟨"com/example/rootlet/rootlet/IdMap", "get", "(J)Ljava/lang/Object;"⟩ : MethodName) (head1 (Jvm.Cond.code (⟨"com/example/rootlet/rootlet/IdMap", "get", "(J)Ljava/lang/Object;"⟩ : MethodName) prog_24_method_3_code 4 (some (.object "java/lang/Object")) :: ws) ({ frames := 2, cells := 0, slots := 0, locals := 31 } : Room)) (fun aa U => aa = #[(.ref b), (.long q)] ∧ Z.Warmed39 U.vm ∧ U.heap = h0) (fun _ _ _ _ _ => True) (fun _ U o U' => ∃ v_ L_, o = .returned v_ ∧ PQ (G q) h0 n0 v_ U'.heap L_ ∧ FrameEnd U o U' L_ ({ frames := 2, cells := 0, slots := 0, locals := 31 } : Room).cells ({ frames := 2, cells := 0, slots := 0, locals := 31 } : Room).slots) := by
  refine MetFree.of_bodySF (plainFor_of_name pn_0) hisR ?_
  intro p e s m args below meth c s₁ Bd hml0 hP hK
  obtain ⟨rfl, hZ, hh⟩ := hP
  have hx := Bd.exec
  have hby := Bd.bytes
  have hlk := Bd.notSynchronized
  have hml : c.maxLocals = 4 := hml0
  have hown : s.vm.findClass "com/example/rootlet/rootlet/IdMap" = some m.cls := by have q := findClass_of_methodNamed Bd.named; exact q
  have X0 : Stand p l e ({ frames := 2, cells := 0, slots := 0, locals := 31 } : Room) s m #[(.ref b), (.long q)] below meth c s₁ [] 0 0 := Stand.of_body Bd
  have e0 : s₁.heap = h0 := by rw [← hh, Bd.state]; rfl
  have N0 := Fr.nil n0
  show Go p.tables e below (Fin s below (PQ (G q) h0 n0) ({ frames := 2, cells := 0, slots := 0, locals := 31 } : Room).cells ({ frames := 2, cells := 0, slots := 0, locals := 31 } : Room).slots) (s₁.setTop (entryFrame m #[(.ref b), (.long q)] 4))
  refine own_go (fun tt_ kk_ => castTop (ef_rm_get m b q) kk_) ?_
  show Go p.tables e below _ (s₁.setTop (mkF m 0 #[.val (.ref b), .val (.long q), .second, .unset] []))
  have MM := M
  obtain ⟨AA, EX, ⟨Fk, Fv, Fm, Fs⟩, ⟨ck, K1, K2, K3⟩, ⟨cv, V1, V2, V3, V4⟩, DD⟩ := MM
  refine own_go (fun tt_ kk_ => XS.aloadN X0.here hx rfl (hb hby d16_0) rfl rfl kk_) ?_
  show Go p.tables e below _ (s₁.setTop (mkF m 1 #[.val (.ref b), .val (.long q), .second, .unset] [(.ref b)]))
  refine own_go (fun tt_ kk_ => XT.lloadN X0.here hx rfl (hb hby d16_1) rfl kk_) ?_
  show Go p.tables e below _ (s₁.setTop (mkF m 2 #[.val (.ref b), .val (.long q), .second, .unset] [(.long q), (.ref b)]))
  obtain ⟨cq1, q1a, q1b⟩ := (EX).cell
  obtain ⟨v1, _, ⟨T1, L1, k1, n1⟩, -, X1, ⟨Lc1, hQ1, l1, y1, z1⟩, st1⟩ := X0.privateBack hx (y := (⟨"com/example/rootlet/rootlet/IdMap", "find", "(J)I"⟩ : MethodName)) hown (mvT hZ (hw _ (List.mem_of_getElem? (i := 71) rfl))) (mvT hZ (hw _ (List.mem_of_getElem? (i := 72) rfl))) (own_selp (z := (⟨"com/example/rootlet/rootlet/IdMap", "put", "(JLjava/lang/Object;)Ljava/lang/Object;"⟩ : MethodName)) (mvT hZ (hw _ (List.mem_of_getElem? (i := 32) rfl))) rfl (mvP hZ (hw _ (List.mem_of_getElem? (i := 73) rfl))) (mvT hZ (hw _ (List.mem_of_getElem? (i := 72) rfl))) (by decide)) (Cond.privateMethod_at (mvP hZ (hw _ (List.mem_of_getElem? (i := 73) rfl)) (args := #[]))) (mvT hZ (hw _ (List.mem_of_getElem? (i := 74) rfl))) (by decide) (backOf (W := 0) (rm_find l Z a0 hw [] b ka va ks vs G n q h0 n0 M RR (by omega)) hZ (hw _ (List.mem_of_getElem? (i := 74) rfl)) (hw _ (List.mem_of_getElem? (i := 2) rfl)) (by decide) (by decide)) (g := (mkF m 2 #[.val (.ref b), .val (.long q), .second, .unset] [(.long q), (.ref b)])) rfl (by rw [hml]; rfl) (Steps.refl _) (a := b) (by rw [e0]; exact q1a) q1b (argsL := [(.long q)]) (rest := []) (lenOf pd_0 rfl) rfl (by show 2 * 0 + _ ≤ _; exact Nat.le_of_eq rfl) (hb hby d16_2) (fun _ _ => ⟨rfl, e0, (by decide : 0 + 0 ≤ _), (by decide : 0 + 0 ≤ _)⟩)
  dsimp only [Pt.U, Pt.locs, Pt.cells, Pt.slots] at X1 l1 y1 z1 st1 hQ1
  subst y1 z1
  obtain ⟨⟨r1, hv1, hr1⟩, N1q, e1⟩ := hQ1
  subst hv1
  have N1 : Fr n0 L1 := by rw [l1]; exact Fr.app N0 N1q
  refine own_go (fun tt_ kk_ => st1.trans kk_) ?_
  show Go p.tables e below _ (T1.setTop (mkF m 5 #[.val (.ref b), .val (.long q), .second, .unset] [(.int r1)]))
  refine own_go (fun tt_ kk_ => XS.istoreN X1.here hx rfl (hb hby d16_5) rfl (l' := #[.val (.ref b), .val (.long q), .second, .val (.int r1)]) rfl kk_) ?_
  show Go p.tables e below _ (T1.setTop (mkF m 6 #[.val (.ref b), .val (.long q), .second, .val (.int r1)] []))
  rcases hr1 with ⟨p0, hp0, rfl, hnn, hkp⟩ | ⟨rfl, hG0⟩
  · show Go p.tables e below _ (T1.setTop (mkF m 6 #[.val (.ref b), .val (.long q), .second, .val (.int (ix p0))] []))
    refine own_go (fun tt_ kk_ => XS.iloadN X1.here hx rfl (hb hby d16_6) rfl kk_) ?_
    show Go p.tables e below _ (T1.setTop (mkF m 7 #[.val (.ref b), .val (.long q), .second, .val (.int (ix p0))] [(.int (ix p0))]))
    refine own_go (fun tt_ kk_ => XS.ifYes X1.here hx rfl (pc0 := 7) (pc' := 14) rfl (hb hby d16_7) rfl (XT.i0_ge_t (ix_nn p0 hp0)) (by decide) (by decide) kk_) ?_
    show Go p.tables e below _ (T1.setTop (mkF m 14 #[.val (.ref b), .val (.long q), .second, .val (.int (ix p0))] []))
    refine own_go (fun tt_ kk_ => XS.aloadN X1.here hx rfl (hb hby d16_14) rfl rfl kk_) ?_
    show Go p.tables e below _ (T1.setTop (mkF m 15 #[.val (.ref b), .val (.long q), .second, .val (.int (ix p0))] [(.ref b)]))
    refine own_go (fun tt_ kk_ => XS.iloadN X1.here hx rfl (hb hby d16_15) rfl kk_) ?_
    show Go p.tables e below _ (T1.setTop (mkF m 16 #[.val (.ref b), .val (.long q), .second, .val (.int (ix p0))] [(.int (ix p0)), (.ref b)]))
    obtain ⟨cq2, q2a, q2b⟩ := (EX).cell
    obtain ⟨v2, _, ⟨T2, L2, k2, n2⟩, -, X2, ⟨Lc2, hQ2, l2, y2, z2⟩, st2⟩ := X1.privateBack hx (y := (⟨"com/example/rootlet/rootlet/IdMap", "value", "(I)Ljava/lang/Object;"⟩ : MethodName)) hown (mvT hZ (hw _ (List.mem_of_getElem? (i := 55) rfl))) (mvT hZ (hw _ (List.mem_of_getElem? (i := 56) rfl))) (own_selp (z := (⟨"com/example/rootlet/rootlet/IdMap", "put", "(JLjava/lang/Object;)Ljava/lang/Object;"⟩ : MethodName)) (mvT hZ (hw _ (List.mem_of_getElem? (i := 32) rfl))) rfl (mvP hZ (hw _ (List.mem_of_getElem? (i := 57) rfl))) (mvT hZ (hw _ (List.mem_of_getElem? (i := 56) rfl))) (by decide)) (Cond.privateMethod_at (mvP hZ (hw _ (List.mem_of_getElem? (i := 57) rfl)) (args := #[]))) (mvT hZ (hw _ (List.mem_of_getElem? (i := 58) rfl))) (by decide) (backOf (W := 0) (rm_value l Z a0 hw [] b ka va ks vs G n p0 h0 n0 M RR hp0) hZ (hw _ (List.mem_of_getElem? (i := 58) rfl)) (hw _ (List.mem_of_getElem? (i := 2) rfl)) (by decide) (by decide)) (g := (mkF m 16 #[.val (.ref b), .val (.long q), .second, .val (.int (ix p0))] [(.int (ix p0)), (.ref b)])) rfl (by rw [hml]; rfl) (Steps.refl _) (a := b) (by rw [e1]; exact q2a) q2b (argsL := [(.int (ix p0))]) (rest := []) (lenOf pd_2 rfl) rfl (by show 2 * 0 + _ ≤ _; exact Nat.le_of_eq rfl) (hb hby d16_16) (fun _ _ => ⟨rfl, e1, (by decide : 0 + 0 ≤ _), (by decide : 0 + 0 ≤ _)⟩)
    dsimp only [Pt.U, Pt.locs, Pt.cells, Pt.slots] at X2 l2 y2 z2 st2 hQ2
    subst y2 z2
    obtain ⟨hv2, N2q, e2⟩ := hQ2
    subst hv2
    have N2 : Fr n0 L2 := by rw [l2]; exact Fr.app N1 N2q
    refine own_go (fun tt_ kk_ => st2.trans kk_) ?_
    show Go p.tables e below _ (T2.setTop (mkF m 19 #[.val (.ref b), .val (.long q), .second, .val (.int (ix p0))] [(vs p0)]))
    exact own_ret X2 hx hlk Bd.returns rfl (Or.inr (Or.inr (Or.inr (Or.inr ⟨rfl, rfl, (M.isRef hp0)⟩)))) (hb hby d16_19) ⟨congrArg some (own_found RR hp0 hnn hkp).symm, N2, e2⟩ (by decide) (by decide)
  · show Go p.tables e below _ (T1.setTop (mkF m 6 #[.val (.ref b), .val (.long q), .second, .val (.int ((-1) : Int32))] []))
    refine own_go (fun tt_ kk_ => XS.iloadN X1.here hx rfl (hb hby d16_6) rfl kk_) ?_
    show Go p.tables e below _ (T1.setTop (mkF m 7 #[.val (.ref b), .val (.long q), .second, .val (.int ((-1) : Int32))] [(.int ((-1) : Int32))]))
    refine own_go (fun tt_ kk_ => XS.ifNo X1.here hx rfl (hb hby d16_7) rfl (XT.i0_ge_f (by decide)) kk_) ?_
    show Go p.tables e below _ (T1.setTop (mkF m 10 #[.val (.ref b), .val (.long q), .second, .val (.int ((-1) : Int32))] []))
    refine own_go (fun tt_ kk_ => XS.aconstNull X1.here hx rfl (hb hby d16_10) kk_) ?_
    show Go p.tables e below _ (T1.setTop (mkF m 11 #[.val (.ref b), .val (.long q), .second, .val (.int ((-1) : Int32))] [.null]))
    refine own_go (fun tt_ kk_ => XS.goto X1.here hx rfl (pc0 := 11) (pc' := 19) rfl (hb hby d16_11) (by decide) (by decide) kk_) ?_
    show Go p.tables e below _ (T1.setTop (mkF m 19 #[.val (.ref b), .val (.long q), .second, .val (.int ((-1) : Int32))] [.null]))
    exact own_ret X1 hx hlk Bd.returns rfl (Or.inr (Or.inr (Or.inr (Or.inr ⟨rfl, rfl, rfl⟩)))) (hb hby d16_19) ⟨congrArg some hG0.symm, N1, e1⟩ (by decide) (by decide)
theorem d15_0 : decode prog_24_method_2_code 0 = .ok (.aload_n 0, 1) := by decide +kernel
theorem d15_1 : decode prog_24_method_2_code 1 = .ok (.getfield 13, 3) := by decide +kernel
theorem d15_4 : decode prog_24_method_2_code 4 = .ok (.ireturn, 1) := by decide +kernel
theorem ef_rm_size (m : MethodId) (x0 : Addr) : entryFrame m #[(.ref x0)] 1 = mkF m 0 #[.val (.ref x0)] [] := by first | (simp [entryFrame, mkF, argsToLocals, Value.category]; done) | rfl
set_option maxRecDepth 65536 in
set_option maxHeartbeats 40000000 in
theorem rm_size (l : Launch) (Z : State) (a0 : Array Value) (hw : ∀ d ∈ tables_1, d.before a0 Z = true) (ws : List Jvm.Cond) (b : Addr) (z : Int32) (h0 : Heap) (n0 : Nat) (F : Fld Z h0 b IDM "size" "I" (.int z)) :
    MetFree l (⟨"com/example/rootlet/rootlet/IdMap", "size", "()I"⟩ : MethodName) (head1 (Jvm.Cond.code (⟨"com/example/rootlet/rootlet/IdMap", "size", "()I"⟩ : MethodName) prog_24_method_2_code 1 (some .int) :: ws) ({ frames := 0, cells := 0, slots := 0, locals := 0 } : Room)) (fun aa U => aa = #[(.ref b)] ∧ Z.Warmed39 U.vm ∧ U.heap = h0) (fun _ _ _ _ _ => True) (fun _ U o U' => ∃ v_ L_, o = .returned v_ ∧ PQ (.int z) h0 n0 v_ U'.heap L_ ∧ FrameEnd U o U' L_ ({ frames := 0, cells := 0, slots := 0, locals := 0 } : Room).cells ({ frames := 0, cells := 0, slots := 0, locals := 0 } : Room).slots) := by
  refine MetFree.of_bodySF (plainFor_of_name pn_0) hisR ?_
  intro p e s m args below meth c s₁ Bd hml0 hP hK
  obtain ⟨rfl, hZ, hh⟩ := hP
  have hx := Bd.exec
  have hby := Bd.bytes
  have hlk := Bd.notSynchronized
  have hml : c.maxLocals = 1 := hml0
  have hown : s.vm.findClass "com/example/rootlet/rootlet/IdMap" = some m.cls := by have q := findClass_of_methodNamed Bd.named; exact q
  have X0 : Stand p l e ({ frames := 0, cells := 0, slots := 0, locals := 0 } : Room) s m #[(.ref b)] below meth c s₁ [] 0 0 := Stand.of_body Bd
  have e0 : s₁.heap = h0 := by rw [← hh, Bd.state]; rfl
  have N0 := Fr.nil n0
  show Go p.tables e below (Fin s below (PQ (.int z) h0 n0) ({ frames := 0, cells := 0, slots := 0, locals := 0 } : Room).cells ({ frames := 0, cells := 0, slots := 0, locals := 0 } : Room).slots) (s₁.setTop (entryFrame m #[(.ref b)] 1))
  refine own_go (fun tt_ kk_ => castTop (ef_rm_size m b) kk_) ?_
  show Go p.tables e below _ (s₁.setTop (mkF m 0 #[.val (.ref b)] []))
  refine own_go (fun tt_ kk_ => XS.aloadN X0.here hx rfl (hb hby d15_0) rfl rfl kk_) ?_
  show Go p.tables e below _ (s₁.setTop (mkF m 1 #[.val (.ref b)] [(.ref b)]))
  obtain ⟨T1, X1, e1, st1⟩ := getF X0 hx hZ hown (host := "") (Or.inl (hw _ (List.mem_of_getElem? (i := 52) rfl))) Via.refl e0 F (g := (mkF m 1 #[.val (.ref b)] [(.ref b)])) rfl rfl (hb hby d15_1)
  refine own_go (fun tt_ kk_ => st1 tt_ kk_) ?_
  show Go p.tables e below _ (T1.setTop (mkF m 4 #[.val (.ref b)] [(.int z)]))
  exact own_ret X1 hx hlk Bd.returns rfl (Or.inl ⟨rfl, Or.inl rfl, _, rfl⟩) (hb hby d15_4) ⟨rfl, N0, e1⟩ (by decide) (by decide)
theorem pd_7 : parseMethodDescriptor "(I)Ljava/lang/Integer;" = some ⟨[.int], some (.object "java/lang/Integer")⟩ := by decide +kernel
theorem pd_8 : parseMethodDescriptor "(JLjava/lang/Object;)Ljava/lang/Object;" = some ⟨[.long, (.object "java/lang/Object")], some (.object "java/lang/Object")⟩ := by decide +kernel
theorem pd_9 : parseMethodDescriptor "(JJJJ)I" = some ⟨[.long, .long, .long, .long], some .int⟩ := by decide +kernel
theorem pd_10 : parseMethodDescriptor "(J)Ljava/lang/Object;" = some ⟨[.long], some (.object "java/lang/Object")⟩ := by decide +kernel
theorem pd_11 : parseMethodDescriptor "(Ljava/lang/Integer;I)Z" = some ⟨[(.object "java/lang/Integer"), .int], some .boolean⟩ := by decide +kernel
theorem pd_12 : parseMethodDescriptor "(JJJJJJ)I" = some ⟨[.long, .long, .long, .long, .long, .long], some .int⟩ := by decide +kernel
theorem ef_rm_law (m : MethodId) (x0 : Int64) (x1 : Int64) (x2 : Int64) (x3 : Int64) (x4 : Int64) (x5 : Int32) : entryFrame m #[(.long x0), (.long x1), (.long x2), (.long x3), (.long x4), (.int x5)] maxLocals = mkF m 0 #[.val (.long x0), .second, .val (.long x1), .second, .val (.long x2), .second, .val (.long x3), .second, .val (.long x4), .second, .val (.int x5), .unset, .unset, .unset, .unset, .unset, .unset, .unset, .unset] [] := by first | (simp [entryFrame, mkF, argsToLocals, Value.category, maxLocals]; done) | rfl
set_option maxRecDepth 65536 in
set_option maxHeartbeats 40000000 in
theorem rm_law (l : Launch) (Z : State) (a0 : Array Value) (hw : ∀ d ∈ tables_1, d.before a0 Z = true) (ws : List Jvm.Cond) (x1 x2 x3 x4 x5 : Int64) (x6 : Int32) (ca : Addr) (ccl : Cell) (w_1 w_2 w_3 w_4 : Addr) (h0 : Heap) (n0 : Nat) (Z0 : n0 ≤ h0.size) (OO : Old Z n0 h0) (S_high : Sta Z Z.heap ICC "high" "I" (.int 127)) (S_cache : Sta Z Z.heap ICC "cache" "[Ljava/lang/Integer;" (.ref ca)) (Arc : Arr Z Z.heap ca ccl (.object "java/lang/Integer")) (hcl : ccl.slots.size = 256) (Bx_1 : ccl.slots[((1 : Int32) + 128).toNatClampNeg]? = some (.ref w_1)) (Ew_1 : Exa Z Z.heap w_1 "java/lang/Integer") (Vw_1 : Fld Z Z.heap w_1 "java/lang/Integer" "value" "I" (.int 1)) (Bx_2 : ccl.slots[((2 : Int32) + 128).toNatClampNeg]? = some (.ref w_2)) (Ew_2 : Exa Z Z.heap w_2 "java/lang/Integer") (Vw_2 : Fld Z Z.heap w_2 "java/lang/Integer" "value" "I" (.int 2)) (Bx_3 : ccl.slots[((3 : Int32) + 128).toNatClampNeg]? = some (.ref w_3)) (Ew_3 : Exa Z Z.heap w_3 "java/lang/Integer") (Vw_3 : Fld Z Z.heap w_3 "java/lang/Integer" "value" "I" (.int 3)) (Bx_4 : ccl.slots[((4 : Int32) + 128).toNatClampNeg]? = some (.ref w_4)) (Ew_4 : Exa Z Z.heap w_4 "java/lang/Integer") (Vw_4 : Fld Z Z.heap w_4 "java/lang/Integer" "value" "I" (.int 4)) :
    MetFree l x (head1 (Jvm.Cond.code x code maxLocals ret :: ws) room_1) (fun aa U => aa = #[(.long x1), (.long x2), (.long x3), (.long x4), (.long x5), (.int x6)] ∧ Z.Warmed39 U.vm ∧ U.heap = h0) (fun _ _ _ _ _ => True) (fun _ U o U' => ∃ v_ L_, o = .returned v_ ∧ LQ n0 v_ U'.heap L_ ∧ ReturnedEndW U o U' L_ room_1.cells room_1.slots) := by
  refine MetFree.of_bodySF (plainFor_of_name pn_3) hisR ?_
  intro p e s m args below meth c s₁ Bd hml0 hP hK
  obtain ⟨rfl, hZ, hh⟩ := hP
  have hx := Bd.exec
  have hby := Bd.bytes
  have hlk := Bd.notSynchronized
  have hml : c.maxLocals = 19 := hml0
  have hown : s.vm.findClass "com/example/rootlet/rootlet/IdMapRemovePinLaw" = some m.cls := by have q := findClass_of_methodNamed Bd.named; exact q
  have X0 : Stand p l e room_1 s m #[(.long x1), (.long x2), (.long x3), (.long x4), (.long x5), (.int x6)] below meth c s₁ [] 0 0 := Stand.of_body Bd
  have e0 : s₁.heap = h0 := by rw [← hh, Bd.state]; rfl
  have N0 := Fr.nil n0
  show Go p.tables e below (FinW s below (LQ n0) room_1.cells room_1.slots) (s₁.setTop (entryFrame m #[(.long x1), (.long x2), (.long x3), (.long x4), (.long x5), (.int x6)] maxLocals))
  refine own_go (fun tt_ kk_ => castTop (ef_rm_law m x1 x2 x3 x4 x5 x6) kk_) ?_
  show Go p.tables e below _ (s₁.setTop (mkF m 0 #[.val (.long x1), .second, .val (.long x2), .second, .val (.long x3), .second, .val (.long x4), .second, .val (.long x5), .second, .val (.int x6), .unset, .unset, .unset, .unset, .unset, .unset, .unset, .unset] []))
  obtain ⟨T1, h1, X1, e1, Ex1, A1, D1, -, st1⟩ := newO X0 hx hZ hown (hw _ (List.mem_of_getElem? (i := 0) rfl)) (hw _ (List.mem_of_getElem? (i := 1) rfl)) (hw _ (List.mem_of_getElem? (i := 2) rfl)) e0 (g := (mkF m 0 #[.val (.long x1), .second, .val (.long x2), .second, .val (.long x3), .second, .val (.long x4), .second, .val (.long x5), .second, .val (.int x6), .unset, .unset, .unset, .unset, .unset, .unset, .unset, .unset] [])) rfl (hb hby at_0) (by decide) (by decide)
  obtain ⟨b, gb⟩ : ∃ z, z = h0.size := ⟨_, rfl⟩
  rw [← gb] at A1 D1 st1
  have gb0 : n0 ≤ b := Nat.le_trans Z0 (Nat.le_of_eq gb.symm)
  have Z1 : n0 ≤ h1.size := Nat.le_trans Z0 Ex1.1
  have O1 := OO.ext Ex1
  refine own_go (fun tt_ kk_ => st1 tt_ kk_) ?_
  show Go p.tables e below _ (T1.setTop (mkF m 3 #[.val (.long x1), .second, .val (.long x2), .second, .val (.long x3), .second, .val (.long x4), .second, .val (.long x5), .second, .val (.int x6), .unset, .unset, .unset, .unset, .unset, .unset, .unset, .unset] [(.ref b)]))
  refine own_go (fun tt_ kk_ => XS.dup X1.here hx rfl (hb hby at_3) rfl rfl kk_) ?_
  show Go p.tables e below _ (T1.setTop (mkF m 4 #[.val (.long x1), .second, .val (.long x2), .second, .val (.long x3), .second, .val (.long x4), .second, .val (.long x5), .second, .val (.int x6), .unset, .unset, .unset, .unset, .unset, .unset, .unset, .unset] [(.ref b), (.ref b)]))
  obtain ⟨v2, _, ⟨T2, L2, k2, n2⟩, -, X2, ⟨Lc2, hQ2, l2, y2, z2⟩, st2⟩ := X1.specialBack hx (y := (⟨"com/example/rootlet/rootlet/IdMap", "<init>", "()V"⟩ : MethodName)) rfl hown (mvT hZ (hw _ (List.mem_of_getElem? (i := 3) rfl))) (mvT hZ (hw _ (List.mem_of_getElem? (i := 4) rfl))) (mvT hZ (hw _ (List.mem_of_getElem? (i := 5) rfl))) (by decide) (backOf (W := 1) (rm_init l Z a0 hw [] b h1 n0 A1 (D1 (Or.inl (hw _ (List.mem_of_getElem? (i := 14) rfl))) (ty := .array .long) (by decide)) (D1 (Or.inl (hw _ (List.mem_of_getElem? (i := 16) rfl))) (ty := .array OBJ) (by decide)) (D1 (Or.inl (hw _ (List.mem_of_getElem? (i := 21) rfl))) (ty := .int) (by decide)) (D1 (Or.inl (hw _ (List.mem_of_getElem? (i := 53) rfl))) (ty := .int) (by decide)) gb0 Z1 O1) hZ (hw _ (List.mem_of_getElem? (i := 5) rfl)) (hw _ (List.mem_of_getElem? (i := 2) rfl)) (by decide) (by decide)) (g := (mkF m 4 #[.val (.long x1), .second, .val (.long x2), .second, .val (.long x3), .second, .val (.long x4), .second, .val (.long x5), .second, .val (.int x6), .unset, .unset, .unset, .unset, .unset, .unset, .unset, .unset] [(.ref b), (.ref b)])) rfl (by rw [hml]; rfl) (Steps.refl _) (a := b) (argsL := []) (rest := [(.ref b)]) (lenOf pd_4 rfl) rfl (by show 2 * 0 + _ ≤ _; exact Nat.le_of_eq rfl) (hb hby at_4) (fun _ _ => ⟨rfl, e1, (by decide : (0 + 1) + 2 ≤ _), (by decide : (0 + 4) + 32 ≤ _)⟩)
  dsimp only [Pt.U, Pt.locs, Pt.cells, Pt.slots] at X2 l2 y2 z2 st2 hQ2
  subst y2 z2
  have XN2 : Stand p l e room_1 s m #[(.long x1), (.long x2), (.long x3), (.long x4), (.long x5), (.int x6)] below meth c T2 _ 3 36 := X2
  obtain ⟨hv2, N2q, O2, ka, va, MI2⟩ := hQ2
  subst hv2
  have N2 : Fr n0 L2 := by rw [l2]; exact Fr.app N0 N2q
  obtain ⟨G0, hG0⟩ : ∃ z : Int64 → Value, z = fun _ => .null := ⟨_, rfl⟩
  obtain ⟨ks0, vs0, M0, RR0⟩ : ∃ ks vs, own_Map Z T2.heap n0 b ka va ks vs 0 ∧ own_Rep own_hm ks vs G0 0 := ⟨_, _, MI2, by rw [hG0]; exact own_Rep_empty _⟩
  refine own_go (fun tt_ kk_ => st2.trans kk_) ?_
  show Go p.tables e below _ (T2.setTop (mkF m 7 #[.val (.long x1), .second, .val (.long x2), .second, .val (.long x3), .second, .val (.long x4), .second, .val (.long x5), .second, .val (.int x6), .unset, .unset, .unset, .unset, .unset, .unset, .unset, .unset] [(.ref b)]))
  refine own_go (fun tt_ kk_ => XS.astore XN2.here hx rfl (hb hby at_7) rfl rfl (l' := #[.val (.long x1), .second, .val (.long x2), .second, .val (.long x3), .second, .val (.long x4), .second, .val (.long x5), .second, .val (.int x6), .val (.ref b), .unset, .unset, .unset, .unset, .unset, .unset, .unset]) rfl kk_) ?_
  show Go p.tables e below _ (T2.setTop (mkF m 9 #[.val (.long x1), .second, .val (.long x2), .second, .val (.long x3), .second, .val (.long x4), .second, .val (.long x5), .second, .val (.int x6), .val (.ref b), .unset, .unset, .unset, .unset, .unset, .unset, .unset] []))
  refine own_go (fun tt_ kk_ => XS.aload XN2.here hx rfl (hb hby at_9) rfl rfl kk_) ?_
  show Go p.tables e below _ (T2.setTop (mkF m 11 #[.val (.long x1), .second, .val (.long x2), .second, .val (.long x3), .second, .val (.long x4), .second, .val (.long x5), .second, .val (.int x6), .val (.ref b), .unset, .unset, .unset, .unset, .unset, .unset, .unset] [(.ref b)]))
  refine own_go (fun tt_ kk_ => XT.lloadN XN2.here hx rfl (hb hby at_11) rfl kk_) ?_
  show Go p.tables e below _ (T2.setTop (mkF m 12 #[.val (.long x1), .second, .val (.long x2), .second, .val (.long x3), .second, .val (.long x4), .second, .val (.long x5), .second, .val (.int x6), .val (.ref b), .unset, .unset, .unset, .unset, .unset, .unset, .unset] [(.long x1), (.ref b)]))
  refine own_go (fun tt_ kk_ => XS.iconst XN2.here hx rfl (hb hby at_12) kk_) ?_
  show Go p.tables e below _ (T2.setTop (mkF m 13 #[.val (.long x1), .second, .val (.long x2), .second, .val (.long x3), .second, .val (.long x4), .second, .val (.long x5), .second, .val (.int x6), .val (.ref b), .unset, .unset, .unset, .unset, .unset, .unset, .unset] [(.int (1 : Int32)), (.long x1), (.ref b)]))
  obtain ⟨v3, _, ⟨T3, L3, k3, n3⟩, -, X3, ⟨Lc3, hQ3, l3, y3, z3⟩, st3⟩ := Jvm.LawKit.callS XN2 hx (y := (⟨"java/lang/Integer", "valueOf", "(I)Ljava/lang/Integer;"⟩ : MethodName)) hown (mvT hZ (hw _ (List.mem_of_getElem? (i := 22) rfl))) (mvT hZ (hw _ (List.mem_of_getElem? (i := 23) rfl))) (mvT hZ (hw _ (List.mem_of_getElem? (i := 24) rfl))) (mvT hZ (hw _ (List.mem_of_getElem? (i := 25) rfl))) (by decide) (backOf (W := 3) (rm_valueOf l Z a0 hw [] (1 : Int32) ca w_1 ccl T2.heap n0 (S_high.ext O2.2) (S_cache.ext O2.2) (Arc.ext O2.2) (by decide) (by decide) (by rw [hcl]; decide) Bx_1) hZ (hw _ (List.mem_of_getElem? (i := 25) rfl)) (hw _ (List.mem_of_getElem? (i := 24) rfl)) (by decide) (by decide)) (g := (mkF m 13 #[.val (.long x1), .second, .val (.long x2), .second, .val (.long x3), .second, .val (.long x4), .second, .val (.long x5), .second, .val (.int x6), .val (.ref b), .unset, .unset, .unset, .unset, .unset, .unset, .unset] [(.int (1 : Int32)), (.long x1), (.ref b)])) rfl (by rw [hml]; rfl) (argsL := [(.int (1 : Int32))]) (rest := [(.long x1), (.ref b)]) (lenOf pd_7 rfl) rfl (by show 2 * 0 + _ ≤ _; exact Nat.le_of_eq rfl) (hb hby at_13) (fun _ _ => ⟨rfl, rfl, (by decide : 3 + 0 ≤ _), (by decide : 36 + 0 ≤ _)⟩)
  dsimp only [Pt.U, Pt.locs, Pt.cells, Pt.slots] at X3 l3 y3 z3 st3 hQ3
  subst y3 z3
  have XN3 : Stand p l e room_1 s m #[(.long x1), (.long x2), (.long x3), (.long x4), (.long x5), (.int x6)] below meth c T3 _ 3 36 := X3
  obtain ⟨hv3, N3q, e3⟩ := hQ3
  subst hv3
  have N3 : Fr n0 L3 := by rw [l3]; exact Fr.app N2 N3q
  refine own_go (fun tt_ kk_ => st3 tt_ kk_) ?_
  show Go p.tables e below _ (T3.setTop (mkF m 16 #[.val (.long x1), .second, .val (.long x2), .second, .val (.long x3), .second, .val (.long x4), .second, .val (.long x5), .second, .val (.int x6), .val (.ref b), .unset, .unset, .unset, .unset, .unset, .unset, .unset] [(.ref w_1), (.long x1), (.ref b)]))
  obtain ⟨cq4, kq4, q4a, q4b, q4c⟩ := isOf hZ e3 M0.2.1
  obtain ⟨v4, _, ⟨T4, L4, k4, n4⟩, -, X4, sn4, sg4, ⟨Lc4, hQ4, l4, y4, z4⟩, st4⟩ := XN3.virtualBackS hx (y := (⟨"com/example/rootlet/rootlet/IdMap", "put", "(JLjava/lang/Object;)Ljava/lang/Object;"⟩ : MethodName)) (z := (⟨"com/example/rootlet/rootlet/IdMap", "put", "(JLjava/lang/Object;)Ljava/lang/Object;"⟩ : MethodName)) hown (mvT hZ (hw _ (List.mem_of_getElem? (i := 29) rfl))) (mvT hZ (hw _ (List.mem_of_getElem? (i := 30) rfl))) (notFace_of_selects (args := #[]) (mvT hZ (hw _ (List.mem_of_getElem? (i := 32) rfl)))) (mvT hZ (hw _ (List.mem_of_getElem? (i := 32) rfl))) (mvT hZ (hw _ (List.mem_of_getElem? (i := 31) rfl))) (by decide) (backOfS (W := 0) (rm_put l Z a0 hw [] b ka va ks0 vs0 G0 0 x1 w_1 T2.heap n0 M0 RR0 (by omega) O2 (Ew_1.ext O2.2)) hZ (hw _ (List.mem_of_getElem? (i := 33) rfl)) (hw _ (List.mem_of_getElem? (i := 2) rfl)) (by decide) (by decide)) q4a q4c (g := (mkF m 16 #[.val (.long x1), .second, .val (.long x2), .second, .val (.long x3), .second, .val (.long x4), .second, .val (.long x5), .second, .val (.int x6), .val (.ref b), .unset, .unset, .unset, .unset, .unset, .unset, .unset] [(.ref w_1), (.long x1), (.ref b)])) rfl (by rw [hml]; rfl) (Steps.refl _) (argsL := [(.long x1), (.ref w_1)]) (rest := []) (lenOf pd_8 rfl) rfl (by show 2 * 0 + _ ≤ _; exact Nat.le_of_eq rfl) (hb hby at_16) (fun _ _ => ⟨rfl, e3, (by decide : 3 + 2 ≤ _), (by decide : 36 + 24 ≤ _)⟩)
  dsimp only [Pt.U, Pt.locs, Pt.cells, Pt.slots] at X4 l4 y4 z4 st4 hQ4 sn4 sg4
  subst y4 z4
  obtain ⟨hv4, N4q, ⟨O4, sz4⟩, ks4, vs4, M4, RR4⟩ := hQ4
  subst hv4
  have N4 : Fr n0 L4 := by rw [l4]; exact Fr.app N3 N4q
  obtain ⟨G4, hG4⟩ : ∃ z, z = own_upd G0 x1 (.ref w_1) := ⟨_, rfl⟩
  obtain ⟨nn4, hn4⟩ : ∃ z, z = (if G0 x1 = .null then 0 + 1 else 0) := ⟨_, rfl⟩
  rw [← hn4] at M4 RR4
  rw [← hG4] at RR4
  have bd4 : nn4 ≤ 1 := by rw [hn4]; split <;> omega
  have hZ4 : Z.Warmed39 (s.setVm T4.vm).vm := State.Warmed39.trans hZ sn4.1
  have sq4 : s.Since T4.vm T4.heap.size := sn4
  have hown4 : (s.setVm T4.vm).vm.findClass "com/example/rootlet/rootlet/IdMapRemovePinLaw" = some m.cls := by rw [show (s.setVm T4.vm).vm = T4.vm from rfl, sn4.1.alike.findClass]; exact hown
  have Y4 : Stand p l e room_1 (s.setVm T4.vm) m #[(.long x1), (.long x2), (.long x3), (.long x4), (.long x5), (.int x6)] below meth c T4 _ 5 60 := X4
  refine own_go (fun tt_ kk_ => st4.trans kk_) ?_
  show Go p.tables e below _ (T4.setTop (mkF m 19 #[.val (.long x1), .second, .val (.long x2), .second, .val (.long x3), .second, .val (.long x4), .second, .val (.long x5), .second, .val (.int x6), .val (.ref b), .unset, .unset, .unset, .unset, .unset, .unset, .unset] [(G0 x1)]))
  refine own_go (fun tt_ kk_ => XT.pop Y4.here hx rfl (hb hby at_19) rfl (XT.cat1 (own_gref M0 RR0 _)) kk_) ?_
  show Go p.tables e below _ (T4.setTop (mkF m 20 #[.val (.long x1), .second, .val (.long x2), .second, .val (.long x3), .second, .val (.long x4), .second, .val (.long x5), .second, .val (.int x6), .val (.ref b), .unset, .unset, .unset, .unset, .unset, .unset, .unset] []))
  refine own_go (fun tt_ kk_ => XS.aload Y4.here hx rfl (hb hby at_20) rfl rfl kk_) ?_
  show Go p.tables e below _ (T4.setTop (mkF m 22 #[.val (.long x1), .second, .val (.long x2), .second, .val (.long x3), .second, .val (.long x4), .second, .val (.long x5), .second, .val (.int x6), .val (.ref b), .unset, .unset, .unset, .unset, .unset, .unset, .unset] [(.ref b)]))
  refine own_go (fun tt_ kk_ => XT.lloadN Y4.here hx rfl (hb hby at_22) rfl kk_) ?_
  show Go p.tables e below _ (T4.setTop (mkF m 23 #[.val (.long x1), .second, .val (.long x2), .second, .val (.long x3), .second, .val (.long x4), .second, .val (.long x5), .second, .val (.int x6), .val (.ref b), .unset, .unset, .unset, .unset, .unset, .unset, .unset] [(.long x2), (.ref b)]))
  refine own_go (fun tt_ kk_ => XS.iconst Y4.here hx rfl (hb hby at_23) kk_) ?_
  show Go p.tables e below _ (T4.setTop (mkF m 24 #[.val (.long x1), .second, .val (.long x2), .second, .val (.long x3), .second, .val (.long x4), .second, .val (.long x5), .second, .val (.int x6), .val (.ref b), .unset, .unset, .unset, .unset, .unset, .unset, .unset] [(.int (2 : Int32)), (.long x2), (.ref b)]))
  obtain ⟨v5, _, ⟨T5, L5, k5, n5⟩, -, X5, ⟨Lc5, hQ5, l5, y5, z5⟩, st5⟩ := Jvm.LawKit.callS Y4 hx (y := (⟨"java/lang/Integer", "valueOf", "(I)Ljava/lang/Integer;"⟩ : MethodName)) hown4 (mvT hZ4 (hw _ (List.mem_of_getElem? (i := 22) rfl))) (mvT hZ4 (hw _ (List.mem_of_getElem? (i := 23) rfl))) (mvT hZ4 (hw _ (List.mem_of_getElem? (i := 24) rfl))) (mvT hZ4 (hw _ (List.mem_of_getElem? (i := 25) rfl))) (by decide) (backOf (W := 3) (rm_valueOf l Z a0 hw [] (2 : Int32) ca w_2 ccl T4.heap n0 (S_high.ext O4.2) (S_cache.ext O4.2) (Arc.ext O4.2) (by decide) (by decide) (by rw [hcl]; decide) Bx_2) hZ4 (hw _ (List.mem_of_getElem? (i := 25) rfl)) (hw _ (List.mem_of_getElem? (i := 24) rfl)) (by decide) (by decide)) (g := (mkF m 24 #[.val (.long x1), .second, .val (.long x2), .second, .val (.long x3), .second, .val (.long x4), .second, .val (.long x5), .second, .val (.int x6), .val (.ref b), .unset, .unset, .unset, .unset, .unset, .unset, .unset] [(.int (2 : Int32)), (.long x2), (.ref b)])) rfl (by rw [hml]; rfl) (argsL := [(.int (2 : Int32))]) (rest := [(.long x2), (.ref b)]) (lenOf pd_7 rfl) rfl (by show 2 * 0 + _ ≤ _; exact Nat.le_of_eq rfl) (hb hby at_24) (fun _ _ => ⟨rfl, rfl, (by decide : 5 + 0 ≤ _), (by decide : 60 + 0 ≤ _)⟩)
  dsimp only [Pt.U, Pt.locs, Pt.cells, Pt.slots] at X5 l5 y5 z5 st5 hQ5
  subst y5 z5
  have XN5 : Stand p l e room_1 (s.setVm T4.vm) m #[(.long x1), (.long x2), (.long x3), (.long x4), (.long x5), (.int x6)] below meth c T5 _ 5 60 := X5
  obtain ⟨hv5, N5q, e5⟩ := hQ5
  subst hv5
  have N5 : Fr n0 L5 := by rw [l5]; exact Fr.app N4 N5q
  refine own_go (fun tt_ kk_ => st5 tt_ kk_) ?_
  show Go p.tables e below _ (T5.setTop (mkF m 27 #[.val (.long x1), .second, .val (.long x2), .second, .val (.long x3), .second, .val (.long x4), .second, .val (.long x5), .second, .val (.int x6), .val (.ref b), .unset, .unset, .unset, .unset, .unset, .unset, .unset] [(.ref w_2), (.long x2), (.ref b)]))
  obtain ⟨cq6, kq6, q6a, q6b, q6c⟩ := isOf hZ4 e5 M4.2.1
  obtain ⟨v6, _, ⟨T6, L6, k6, n6⟩, -, X6, sn6, sg6, ⟨Lc6, hQ6, l6, y6, z6⟩, st6⟩ := XN5.virtualBackS hx (y := (⟨"com/example/rootlet/rootlet/IdMap", "put", "(JLjava/lang/Object;)Ljava/lang/Object;"⟩ : MethodName)) (z := (⟨"com/example/rootlet/rootlet/IdMap", "put", "(JLjava/lang/Object;)Ljava/lang/Object;"⟩ : MethodName)) hown4 (mvT hZ4 (hw _ (List.mem_of_getElem? (i := 29) rfl))) (mvT hZ4 (hw _ (List.mem_of_getElem? (i := 30) rfl))) (notFace_of_selects (args := #[]) (mvT hZ4 (hw _ (List.mem_of_getElem? (i := 32) rfl)))) (mvT hZ4 (hw _ (List.mem_of_getElem? (i := 32) rfl))) (mvT hZ4 (hw _ (List.mem_of_getElem? (i := 31) rfl))) (by decide) (backOfS (W := 0) (rm_put l Z a0 hw [] b ka va ks4 vs4 G4 nn4 x2 w_2 T4.heap n0 M4 RR4 (by omega) O4 (Ew_2.ext O4.2)) hZ4 (hw _ (List.mem_of_getElem? (i := 33) rfl)) (hw _ (List.mem_of_getElem? (i := 2) rfl)) (by decide) (by decide)) q6a q6c (g := (mkF m 27 #[.val (.long x1), .second, .val (.long x2), .second, .val (.long x3), .second, .val (.long x4), .second, .val (.long x5), .second, .val (.int x6), .val (.ref b), .unset, .unset, .unset, .unset, .unset, .unset, .unset] [(.ref w_2), (.long x2), (.ref b)])) rfl (by rw [hml]; rfl) (Steps.refl _) (argsL := [(.long x2), (.ref w_2)]) (rest := []) (lenOf pd_8 rfl) rfl (by show 2 * 0 + _ ≤ _; exact Nat.le_of_eq rfl) (hb hby at_27) (fun _ _ => ⟨rfl, e5, (by decide : 5 + 2 ≤ _), (by decide : 60 + 24 ≤ _)⟩)
  dsimp only [Pt.U, Pt.locs, Pt.cells, Pt.slots] at X6 l6 y6 z6 st6 hQ6 sn6 sg6
  subst y6 z6
  obtain ⟨hv6, N6q, ⟨O6, sz6⟩, ks6, vs6, M6, RR6⟩ := hQ6
  subst hv6
  have N6 : Fr n0 L6 := by rw [l6]; exact Fr.app N5 N6q
  obtain ⟨G6, hG6⟩ : ∃ z, z = own_upd G4 x2 (.ref w_2) := ⟨_, rfl⟩
  obtain ⟨nn6, hn6⟩ : ∃ z, z = (if G4 x2 = .null then nn4 + 1 else nn4) := ⟨_, rfl⟩
  rw [← hn6] at M6 RR6
  rw [← hG6] at RR6
  have bd6 : nn6 ≤ 2 := by rw [hn6]; split <;> omega
  have hZ6 : Z.Warmed39 (s.setVm T6.vm).vm := State.Warmed39.trans (t := s.setVm T4.vm) hZ4 sn6.1
  have sq6 : s.Since T6.vm T6.heap.size := State.Since.trans sq4 sn6 (Nat.le_trans (by rw [e5]; exact (Nat.le_refl _)) sg6)
  have hown6 : (s.setVm T6.vm).vm.findClass "com/example/rootlet/rootlet/IdMapRemovePinLaw" = some m.cls := by rw [show (s.setVm T6.vm).vm = T6.vm from rfl, sn6.1.alike.findClass]; exact hown4
  have Y6 : Stand p l e room_1 (s.setVm T6.vm) m #[(.long x1), (.long x2), (.long x3), (.long x4), (.long x5), (.int x6)] below meth c T6 _ 7 84 := X6
  refine own_go (fun tt_ kk_ => st6.trans kk_) ?_
  show Go p.tables e below _ (T6.setTop (mkF m 30 #[.val (.long x1), .second, .val (.long x2), .second, .val (.long x3), .second, .val (.long x4), .second, .val (.long x5), .second, .val (.int x6), .val (.ref b), .unset, .unset, .unset, .unset, .unset, .unset, .unset] [(G4 x2)]))
  refine own_go (fun tt_ kk_ => XT.pop Y6.here hx rfl (hb hby at_30) rfl (XT.cat1 (own_gref M4 RR4 _)) kk_) ?_
  show Go p.tables e below _ (T6.setTop (mkF m 31 #[.val (.long x1), .second, .val (.long x2), .second, .val (.long x3), .second, .val (.long x4), .second, .val (.long x5), .second, .val (.int x6), .val (.ref b), .unset, .unset, .unset, .unset, .unset, .unset, .unset] []))
  refine own_go (fun tt_ kk_ => XS.aload Y6.here hx rfl (hb hby at_31) rfl rfl kk_) ?_
  show Go p.tables e below _ (T6.setTop (mkF m 33 #[.val (.long x1), .second, .val (.long x2), .second, .val (.long x3), .second, .val (.long x4), .second, .val (.long x5), .second, .val (.int x6), .val (.ref b), .unset, .unset, .unset, .unset, .unset, .unset, .unset] [(.ref b)]))
  refine own_go (fun tt_ kk_ => XT.lload Y6.here hx rfl (hb hby at_33) rfl kk_) ?_
  show Go p.tables e below _ (T6.setTop (mkF m 35 #[.val (.long x1), .second, .val (.long x2), .second, .val (.long x3), .second, .val (.long x4), .second, .val (.long x5), .second, .val (.int x6), .val (.ref b), .unset, .unset, .unset, .unset, .unset, .unset, .unset] [(.long x3), (.ref b)]))
  refine own_go (fun tt_ kk_ => XS.iconst Y6.here hx rfl (hb hby at_35) kk_) ?_
  show Go p.tables e below _ (T6.setTop (mkF m 36 #[.val (.long x1), .second, .val (.long x2), .second, .val (.long x3), .second, .val (.long x4), .second, .val (.long x5), .second, .val (.int x6), .val (.ref b), .unset, .unset, .unset, .unset, .unset, .unset, .unset] [(.int (3 : Int32)), (.long x3), (.ref b)]))
  obtain ⟨v7, _, ⟨T7, L7, k7, n7⟩, -, X7, ⟨Lc7, hQ7, l7, y7, z7⟩, st7⟩ := Jvm.LawKit.callS Y6 hx (y := (⟨"java/lang/Integer", "valueOf", "(I)Ljava/lang/Integer;"⟩ : MethodName)) hown6 (mvT hZ6 (hw _ (List.mem_of_getElem? (i := 22) rfl))) (mvT hZ6 (hw _ (List.mem_of_getElem? (i := 23) rfl))) (mvT hZ6 (hw _ (List.mem_of_getElem? (i := 24) rfl))) (mvT hZ6 (hw _ (List.mem_of_getElem? (i := 25) rfl))) (by decide) (backOf (W := 3) (rm_valueOf l Z a0 hw [] (3 : Int32) ca w_3 ccl T6.heap n0 (S_high.ext O6.2) (S_cache.ext O6.2) (Arc.ext O6.2) (by decide) (by decide) (by rw [hcl]; decide) Bx_3) hZ6 (hw _ (List.mem_of_getElem? (i := 25) rfl)) (hw _ (List.mem_of_getElem? (i := 24) rfl)) (by decide) (by decide)) (g := (mkF m 36 #[.val (.long x1), .second, .val (.long x2), .second, .val (.long x3), .second, .val (.long x4), .second, .val (.long x5), .second, .val (.int x6), .val (.ref b), .unset, .unset, .unset, .unset, .unset, .unset, .unset] [(.int (3 : Int32)), (.long x3), (.ref b)])) rfl (by rw [hml]; rfl) (argsL := [(.int (3 : Int32))]) (rest := [(.long x3), (.ref b)]) (lenOf pd_7 rfl) rfl (by show 2 * 0 + _ ≤ _; exact Nat.le_of_eq rfl) (hb hby at_36) (fun _ _ => ⟨rfl, rfl, (by decide : 7 + 0 ≤ _), (by decide : 84 + 0 ≤ _)⟩)
  dsimp only [Pt.U, Pt.locs, Pt.cells, Pt.slots] at X7 l7 y7 z7 st7 hQ7
  subst y7 z7
  have XN7 : Stand p l e room_1 (s.setVm T6.vm) m #[(.long x1), (.long x2), (.long x3), (.long x4), (.long x5), (.int x6)] below meth c T7 _ 7 84 := X7
  obtain ⟨hv7, N7q, e7⟩ := hQ7
  subst hv7
  have N7 : Fr n0 L7 := by rw [l7]; exact Fr.app N6 N7q
  refine own_go (fun tt_ kk_ => st7 tt_ kk_) ?_
  show Go p.tables e below _ (T7.setTop (mkF m 39 #[.val (.long x1), .second, .val (.long x2), .second, .val (.long x3), .second, .val (.long x4), .second, .val (.long x5), .second, .val (.int x6), .val (.ref b), .unset, .unset, .unset, .unset, .unset, .unset, .unset] [(.ref w_3), (.long x3), (.ref b)]))
  obtain ⟨cq8, kq8, q8a, q8b, q8c⟩ := isOf hZ6 e7 M6.2.1
  obtain ⟨v8, _, ⟨T8, L8, k8, n8⟩, -, X8, sn8, sg8, ⟨Lc8, hQ8, l8, y8, z8⟩, st8⟩ := XN7.virtualBackS hx (y := (⟨"com/example/rootlet/rootlet/IdMap", "put", "(JLjava/lang/Object;)Ljava/lang/Object;"⟩ : MethodName)) (z := (⟨"com/example/rootlet/rootlet/IdMap", "put", "(JLjava/lang/Object;)Ljava/lang/Object;"⟩ : MethodName)) hown6 (mvT hZ6 (hw _ (List.mem_of_getElem? (i := 29) rfl))) (mvT hZ6 (hw _ (List.mem_of_getElem? (i := 30) rfl))) (notFace_of_selects (args := #[]) (mvT hZ6 (hw _ (List.mem_of_getElem? (i := 32) rfl)))) (mvT hZ6 (hw _ (List.mem_of_getElem? (i := 32) rfl))) (mvT hZ6 (hw _ (List.mem_of_getElem? (i := 31) rfl))) (by decide) (backOfS (W := 0) (rm_put l Z a0 hw [] b ka va ks6 vs6 G6 nn6 x3 w_3 T6.heap n0 M6 RR6 (by omega) O6 (Ew_3.ext O6.2)) hZ6 (hw _ (List.mem_of_getElem? (i := 33) rfl)) (hw _ (List.mem_of_getElem? (i := 2) rfl)) (by decide) (by decide)) q8a q8c (g := (mkF m 39 #[.val (.long x1), .second, .val (.long x2), .second, .val (.long x3), .second, .val (.long x4), .second, .val (.long x5), .second, .val (.int x6), .val (.ref b), .unset, .unset, .unset, .unset, .unset, .unset, .unset] [(.ref w_3), (.long x3), (.ref b)])) rfl (by rw [hml]; rfl) (Steps.refl _) (argsL := [(.long x3), (.ref w_3)]) (rest := []) (lenOf pd_8 rfl) rfl (by show 2 * 0 + _ ≤ _; exact Nat.le_of_eq rfl) (hb hby at_39) (fun _ _ => ⟨rfl, e7, (by decide : 7 + 2 ≤ _), (by decide : 84 + 24 ≤ _)⟩)
  dsimp only [Pt.U, Pt.locs, Pt.cells, Pt.slots] at X8 l8 y8 z8 st8 hQ8 sn8 sg8
  subst y8 z8
  obtain ⟨hv8, N8q, ⟨O8, sz8⟩, ks8, vs8, M8, RR8⟩ := hQ8
  subst hv8
  have N8 : Fr n0 L8 := by rw [l8]; exact Fr.app N7 N8q
  obtain ⟨G8, hG8⟩ : ∃ z, z = own_upd G6 x3 (.ref w_3) := ⟨_, rfl⟩
  obtain ⟨nn8, hn8⟩ : ∃ z, z = (if G6 x3 = .null then nn6 + 1 else nn6) := ⟨_, rfl⟩
  rw [← hn8] at M8 RR8
  rw [← hG8] at RR8
  have bd8 : nn8 ≤ 3 := by rw [hn8]; split <;> omega
  have hZ8 : Z.Warmed39 (s.setVm T8.vm).vm := State.Warmed39.trans (t := s.setVm T6.vm) hZ6 sn8.1
  have sq8 : s.Since T8.vm T8.heap.size := State.Since.trans sq6 sn8 (Nat.le_trans (by rw [e7]; exact (Nat.le_refl _)) sg8)
  have hown8 : (s.setVm T8.vm).vm.findClass "com/example/rootlet/rootlet/IdMapRemovePinLaw" = some m.cls := by rw [show (s.setVm T8.vm).vm = T8.vm from rfl, sn8.1.alike.findClass]; exact hown6
  have Y8 : Stand p l e room_1 (s.setVm T8.vm) m #[(.long x1), (.long x2), (.long x3), (.long x4), (.long x5), (.int x6)] below meth c T8 _ 9 108 := X8
  refine own_go (fun tt_ kk_ => st8.trans kk_) ?_
  show Go p.tables e below _ (T8.setTop (mkF m 42 #[.val (.long x1), .second, .val (.long x2), .second, .val (.long x3), .second, .val (.long x4), .second, .val (.long x5), .second, .val (.int x6), .val (.ref b), .unset, .unset, .unset, .unset, .unset, .unset, .unset] [(G6 x3)]))
  refine own_go (fun tt_ kk_ => XT.pop Y8.here hx rfl (hb hby at_42) rfl (XT.cat1 (own_gref M6 RR6 _)) kk_) ?_
  show Go p.tables e below _ (T8.setTop (mkF m 43 #[.val (.long x1), .second, .val (.long x2), .second, .val (.long x3), .second, .val (.long x4), .second, .val (.long x5), .second, .val (.int x6), .val (.ref b), .unset, .unset, .unset, .unset, .unset, .unset, .unset] []))
  refine own_go (fun tt_ kk_ => XS.aload Y8.here hx rfl (hb hby at_43) rfl rfl kk_) ?_
  show Go p.tables e below _ (T8.setTop (mkF m 45 #[.val (.long x1), .second, .val (.long x2), .second, .val (.long x3), .second, .val (.long x4), .second, .val (.long x5), .second, .val (.int x6), .val (.ref b), .unset, .unset, .unset, .unset, .unset, .unset, .unset] [(.ref b)]))
  refine own_go (fun tt_ kk_ => XT.lload Y8.here hx rfl (hb hby at_45) rfl kk_) ?_
  show Go p.tables e below _ (T8.setTop (mkF m 47 #[.val (.long x1), .second, .val (.long x2), .second, .val (.long x3), .second, .val (.long x4), .second, .val (.long x5), .second, .val (.int x6), .val (.ref b), .unset, .unset, .unset, .unset, .unset, .unset, .unset] [(.long x4), (.ref b)]))
  refine own_go (fun tt_ kk_ => XS.iconst Y8.here hx rfl (hb hby at_47) kk_) ?_
  show Go p.tables e below _ (T8.setTop (mkF m 48 #[.val (.long x1), .second, .val (.long x2), .second, .val (.long x3), .second, .val (.long x4), .second, .val (.long x5), .second, .val (.int x6), .val (.ref b), .unset, .unset, .unset, .unset, .unset, .unset, .unset] [(.int (4 : Int32)), (.long x4), (.ref b)]))
  obtain ⟨v9, _, ⟨T9, L9, k9, n9⟩, -, X9, ⟨Lc9, hQ9, l9, y9, z9⟩, st9⟩ := Jvm.LawKit.callS Y8 hx (y := (⟨"java/lang/Integer", "valueOf", "(I)Ljava/lang/Integer;"⟩ : MethodName)) hown8 (mvT hZ8 (hw _ (List.mem_of_getElem? (i := 22) rfl))) (mvT hZ8 (hw _ (List.mem_of_getElem? (i := 23) rfl))) (mvT hZ8 (hw _ (List.mem_of_getElem? (i := 24) rfl))) (mvT hZ8 (hw _ (List.mem_of_getElem? (i := 25) rfl))) (by decide) (backOf (W := 3) (rm_valueOf l Z a0 hw [] (4 : Int32) ca w_4 ccl T8.heap n0 (S_high.ext O8.2) (S_cache.ext O8.2) (Arc.ext O8.2) (by decide) (by decide) (by rw [hcl]; decide) Bx_4) hZ8 (hw _ (List.mem_of_getElem? (i := 25) rfl)) (hw _ (List.mem_of_getElem? (i := 24) rfl)) (by decide) (by decide)) (g := (mkF m 48 #[.val (.long x1), .second, .val (.long x2), .second, .val (.long x3), .second, .val (.long x4), .second, .val (.long x5), .second, .val (.int x6), .val (.ref b), .unset, .unset, .unset, .unset, .unset, .unset, .unset] [(.int (4 : Int32)), (.long x4), (.ref b)])) rfl (by rw [hml]; rfl) (argsL := [(.int (4 : Int32))]) (rest := [(.long x4), (.ref b)]) (lenOf pd_7 rfl) rfl (by show 2 * 0 + _ ≤ _; exact Nat.le_of_eq rfl) (hb hby at_48) (fun _ _ => ⟨rfl, rfl, (by decide : 9 + 0 ≤ _), (by decide : 108 + 0 ≤ _)⟩)
  dsimp only [Pt.U, Pt.locs, Pt.cells, Pt.slots] at X9 l9 y9 z9 st9 hQ9
  subst y9 z9
  have XN9 : Stand p l e room_1 (s.setVm T8.vm) m #[(.long x1), (.long x2), (.long x3), (.long x4), (.long x5), (.int x6)] below meth c T9 _ 9 108 := X9
  obtain ⟨hv9, N9q, e9⟩ := hQ9
  subst hv9
  have N9 : Fr n0 L9 := by rw [l9]; exact Fr.app N8 N9q
  refine own_go (fun tt_ kk_ => st9 tt_ kk_) ?_
  show Go p.tables e below _ (T9.setTop (mkF m 51 #[.val (.long x1), .second, .val (.long x2), .second, .val (.long x3), .second, .val (.long x4), .second, .val (.long x5), .second, .val (.int x6), .val (.ref b), .unset, .unset, .unset, .unset, .unset, .unset, .unset] [(.ref w_4), (.long x4), (.ref b)]))
  obtain ⟨cq10, kq10, q10a, q10b, q10c⟩ := isOf hZ8 e9 M8.2.1
  obtain ⟨v10, _, ⟨T10, L10, k10, n10⟩, -, X10, sn10, sg10, ⟨Lc10, hQ10, l10, y10, z10⟩, st10⟩ := XN9.virtualBackS hx (y := (⟨"com/example/rootlet/rootlet/IdMap", "put", "(JLjava/lang/Object;)Ljava/lang/Object;"⟩ : MethodName)) (z := (⟨"com/example/rootlet/rootlet/IdMap", "put", "(JLjava/lang/Object;)Ljava/lang/Object;"⟩ : MethodName)) hown8 (mvT hZ8 (hw _ (List.mem_of_getElem? (i := 29) rfl))) (mvT hZ8 (hw _ (List.mem_of_getElem? (i := 30) rfl))) (notFace_of_selects (args := #[]) (mvT hZ8 (hw _ (List.mem_of_getElem? (i := 32) rfl)))) (mvT hZ8 (hw _ (List.mem_of_getElem? (i := 32) rfl))) (mvT hZ8 (hw _ (List.mem_of_getElem? (i := 31) rfl))) (by decide) (backOfS (W := 0) (rm_put l Z a0 hw [] b ka va ks8 vs8 G8 nn8 x4 w_4 T8.heap n0 M8 RR8 (by omega) O8 (Ew_4.ext O8.2)) hZ8 (hw _ (List.mem_of_getElem? (i := 33) rfl)) (hw _ (List.mem_of_getElem? (i := 2) rfl)) (by decide) (by decide)) q10a q10c (g := (mkF m 51 #[.val (.long x1), .second, .val (.long x2), .second, .val (.long x3), .second, .val (.long x4), .second, .val (.long x5), .second, .val (.int x6), .val (.ref b), .unset, .unset, .unset, .unset, .unset, .unset, .unset] [(.ref w_4), (.long x4), (.ref b)])) rfl (by rw [hml]; rfl) (Steps.refl _) (argsL := [(.long x4), (.ref w_4)]) (rest := []) (lenOf pd_8 rfl) rfl (by show 2 * 0 + _ ≤ _; exact Nat.le_of_eq rfl) (hb hby at_51) (fun _ _ => ⟨rfl, e9, (by decide : 9 + 2 ≤ _), (by decide : 108 + 24 ≤ _)⟩)
  dsimp only [Pt.U, Pt.locs, Pt.cells, Pt.slots] at X10 l10 y10 z10 st10 hQ10 sn10 sg10
  subst y10 z10
  obtain ⟨hv10, N10q, ⟨O10, sz10⟩, ks10, vs10, M10, RR10⟩ := hQ10
  subst hv10
  have N10 : Fr n0 L10 := by rw [l10]; exact Fr.app N9 N10q
  obtain ⟨G10, hG10⟩ : ∃ z, z = own_upd G8 x4 (.ref w_4) := ⟨_, rfl⟩
  obtain ⟨nn10, hn10⟩ : ∃ z, z = (if G8 x4 = .null then nn8 + 1 else nn8) := ⟨_, rfl⟩
  rw [← hn10] at M10 RR10
  rw [← hG10] at RR10
  have bd10 : nn10 ≤ 4 := by rw [hn10]; split <;> omega
  have hZ10 : Z.Warmed39 (s.setVm T10.vm).vm := State.Warmed39.trans (t := s.setVm T8.vm) hZ8 sn10.1
  have sq10 : s.Since T10.vm T10.heap.size := State.Since.trans sq8 sn10 (Nat.le_trans (by rw [e9]; exact (Nat.le_refl _)) sg10)
  have hown10 : (s.setVm T10.vm).vm.findClass "com/example/rootlet/rootlet/IdMapRemovePinLaw" = some m.cls := by rw [show (s.setVm T10.vm).vm = T10.vm from rfl, sn10.1.alike.findClass]; exact hown8
  have Y10 : Stand p l e room_1 (s.setVm T10.vm) m #[(.long x1), (.long x2), (.long x3), (.long x4), (.long x5), (.int x6)] below meth c T10 _ 11 132 := X10
  refine own_go (fun tt_ kk_ => st10.trans kk_) ?_
  show Go p.tables e below _ (T10.setTop (mkF m 54 #[.val (.long x1), .second, .val (.long x2), .second, .val (.long x3), .second, .val (.long x4), .second, .val (.long x5), .second, .val (.int x6), .val (.ref b), .unset, .unset, .unset, .unset, .unset, .unset, .unset] [(G8 x4)]))
  refine own_go (fun tt_ kk_ => XT.pop Y10.here hx rfl (hb hby at_54) rfl (XT.cat1 (own_gref M8 RR8 _)) kk_) ?_
  show Go p.tables e below _ (T10.setTop (mkF m 55 #[.val (.long x1), .second, .val (.long x2), .second, .val (.long x3), .second, .val (.long x4), .second, .val (.long x5), .second, .val (.int x6), .val (.ref b), .unset, .unset, .unset, .unset, .unset, .unset, .unset] []))
  refine own_go (fun tt_ kk_ => XS.iload Y10.here hx rfl (hb hby at_55) rfl kk_) ?_
  show Go p.tables e below _ (T10.setTop (mkF m 57 #[.val (.long x1), .second, .val (.long x2), .second, .val (.long x3), .second, .val (.long x4), .second, .val (.long x5), .second, .val (.int x6), .val (.ref b), .unset, .unset, .unset, .unset, .unset, .unset, .unset] [(.int x6)]))
  refine own_go (fun tt_ kk_ => XS.bipush Y10.here hx rfl (hb hby at_57) kk_) ?_
  show Go p.tables e below _ (T10.setTop (mkF m 59 #[.val (.long x1), .second, .val (.long x2), .second, .val (.long x3), .second, .val (.long x4), .second, .val (.long x5), .second, .val (.int x6), .val (.ref b), .unset, .unset, .unset, .unset, .unset, .unset, .unset] [(.int (7 : Int32)), (.int x6)]))
  refine own_go (fun tt_ kk_ => XS.iand Y10.here hx rfl (hb hby at_59) rfl kk_) ?_
  show Go p.tables e below _ (T10.setTop (mkF m 60 #[.val (.long x1), .second, .val (.long x2), .second, .val (.long x3), .second, .val (.long x4), .second, .val (.long x5), .second, .val (.int x6), .val (.ref b), .unset, .unset, .unset, .unset, .unset, .unset, .unset] [(.int (x6 &&& (7 : Int32)))]))
  refine own_go (fun tt_ kk_ => XS.istore Y10.here hx rfl (hb hby at_60) rfl (l' := #[.val (.long x1), .second, .val (.long x2), .second, .val (.long x3), .second, .val (.long x4), .second, .val (.long x5), .second, .val (.int x6), .val (.ref b), .val (.int (x6 &&& (7 : Int32))), .unset, .unset, .unset, .unset, .unset, .unset]) rfl kk_) ?_
  show Go p.tables e below _ (T10.setTop (mkF m 62 #[.val (.long x1), .second, .val (.long x2), .second, .val (.long x3), .second, .val (.long x4), .second, .val (.long x5), .second, .val (.int x6), .val (.ref b), .val (.int (x6 &&& (7 : Int32))), .unset, .unset, .unset, .unset, .unset, .unset] []))
  have J115 : ∀ y5 : Int64, Go p.tables e below (FinW s below (LQ n0) room_1.cells room_1.slots) (T10.setTop (mkF m 115 #[.val (.long x1), .second, .val (.long x2), .second, .val (.long x3), .second, .val (.long x4), .second, .val (.long x5), .second, .val (.int x6), .val (.ref b), .val (.int (x6 &&& (7 : Int32))), .val (.long y5), .second, .unset, .unset, .unset, .unset] [])) := by
    intro y5
    show Go p.tables e below _ (T10.setTop (mkF m 115 #[.val (.long x1), .second, .val (.long x2), .second, .val (.long x3), .second, .val (.long x4), .second, .val (.long x5), .second, .val (.int x6), .val (.ref b), .val (.int (x6 &&& (7 : Int32))), .val (.long y5), .second, .unset, .unset, .unset, .unset] []))
    refine own_go (fun tt_ kk_ => XT.lload Y10.here hx rfl (hb hby at_115) rfl kk_) ?_
    show Go p.tables e below _ (T10.setTop (mkF m 117 #[.val (.long x1), .second, .val (.long x2), .second, .val (.long x3), .second, .val (.long x4), .second, .val (.long x5), .second, .val (.int x6), .val (.ref b), .val (.int (x6 &&& (7 : Int32))), .val (.long y5), .second, .unset, .unset, .unset, .unset] [(.long y5)]))
    refine own_go (fun tt_ kk_ => XT.lloadN Y10.here hx rfl (hb hby at_117) rfl kk_) ?_
    show Go p.tables e below _ (T10.setTop (mkF m 118 #[.val (.long x1), .second, .val (.long x2), .second, .val (.long x3), .second, .val (.long x4), .second, .val (.long x5), .second, .val (.int x6), .val (.ref b), .val (.int (x6 &&& (7 : Int32))), .val (.long y5), .second, .unset, .unset, .unset, .unset] [(.long x1), (.long y5)]))
    refine own_go (fun tt_ kk_ => XT.lloadN Y10.here hx rfl (hb hby at_118) rfl kk_) ?_
    show Go p.tables e below _ (T10.setTop (mkF m 119 #[.val (.long x1), .second, .val (.long x2), .second, .val (.long x3), .second, .val (.long x4), .second, .val (.long x5), .second, .val (.int x6), .val (.ref b), .val (.int (x6 &&& (7 : Int32))), .val (.long y5), .second, .unset, .unset, .unset, .unset] [(.long x2), (.long x1), (.long y5)]))
    refine own_go (fun tt_ kk_ => XT.lload Y10.here hx rfl (hb hby at_119) rfl kk_) ?_
    show Go p.tables e below _ (T10.setTop (mkF m 121 #[.val (.long x1), .second, .val (.long x2), .second, .val (.long x3), .second, .val (.long x4), .second, .val (.long x5), .second, .val (.int x6), .val (.ref b), .val (.int (x6 &&& (7 : Int32))), .val (.long y5), .second, .unset, .unset, .unset, .unset] [(.long x3), (.long x2), (.long x1), (.long y5)]))
    refine own_go (fun tt_ kk_ => XT.lload Y10.here hx rfl (hb hby at_121) rfl kk_) ?_
    show Go p.tables e below _ (T10.setTop (mkF m 123 #[.val (.long x1), .second, .val (.long x2), .second, .val (.long x3), .second, .val (.long x4), .second, .val (.long x5), .second, .val (.int x6), .val (.ref b), .val (.int (x6 &&& (7 : Int32))), .val (.long y5), .second, .unset, .unset, .unset, .unset] [(.long x4), (.long x3), (.long x2), (.long x1), (.long y5)]))
    obtain ⟨v11, _, ⟨T11, L11, k11, n11⟩, -, X11, ⟨Lc11, hQ11, l11, y11, z11⟩, st11⟩ := Jvm.LawKit.callS Y10 hx (y := (⟨"com/example/rootlet/rootlet/IdMapRemovePinLaw", "last", "(JJJJJ)I"⟩ : MethodName)) hown10 (mvT hZ10 (hw _ (List.mem_of_getElem? (i := 59) rfl))) (mvT hZ10 (hw _ (List.mem_of_getElem? (i := 60) rfl))) (mvT hZ10 (hw _ (List.mem_of_getElem? (i := 61) rfl))) (mvT hZ10 (hw _ (List.mem_of_getElem? (i := 62) rfl))) (by decide) (backOf (W := 0) (rm_last l Z a0 hw [] y5 x1 x2 x3 x4 T10.heap n0) hZ10 (hw _ (List.mem_of_getElem? (i := 62) rfl)) (hw _ (List.mem_of_getElem? (i := 61) rfl)) (by decide) (by decide)) (g := (mkF m 123 #[.val (.long x1), .second, .val (.long x2), .second, .val (.long x3), .second, .val (.long x4), .second, .val (.long x5), .second, .val (.int x6), .val (.ref b), .val (.int (x6 &&& (7 : Int32))), .val (.long y5), .second, .unset, .unset, .unset, .unset] [(.long x4), (.long x3), (.long x2), (.long x1), (.long y5)])) rfl (by rw [hml]; rfl) (argsL := [(.long y5), (.long x1), (.long x2), (.long x3), (.long x4)]) (rest := []) (lenOf pd_5 rfl) rfl (by show 2 * 0 + _ ≤ _; exact Nat.le_of_eq rfl) (hb hby at_123) (fun _ _ => ⟨rfl, rfl, (by decide : 11 + 0 ≤ _), (by decide : 132 + 0 ≤ _)⟩)
    dsimp only [Pt.U, Pt.locs, Pt.cells, Pt.slots] at X11 l11 y11 z11 st11 hQ11
    subst y11 z11
    have XN11 : Stand p l e room_1 (s.setVm T10.vm) m #[(.long x1), (.long x2), (.long x3), (.long x4), (.long x5), (.int x6)] below meth c T11 _ 11 132 := X11
    obtain ⟨hv11, N11q, e11⟩ := hQ11
    subst hv11
    have N11 : Fr n0 L11 := by rw [l11]; exact Fr.app N10 N11q
    refine own_go (fun tt_ kk_ => st11 tt_ kk_) ?_
    show Go p.tables e below _ (T11.setTop (mkF m 126 #[.val (.long x1), .second, .val (.long x2), .second, .val (.long x3), .second, .val (.long x4), .second, .val (.long x5), .second, .val (.int x6), .val (.ref b), .val (.int (x6 &&& (7 : Int32))), .val (.long y5), .second, .unset, .unset, .unset, .unset] [(.int (own_last y5 x1 x2 x3 x4))]))
    refine own_go (fun tt_ kk_ => XS.istore XN11.here hx rfl (hb hby at_126) rfl (l' := #[.val (.long x1), .second, .val (.long x2), .second, .val (.long x3), .second, .val (.long x4), .second, .val (.long x5), .second, .val (.int x6), .val (.ref b), .val (.int (x6 &&& (7 : Int32))), .val (.long y5), .second, .val (.int (own_last y5 x1 x2 x3 x4)), .unset, .unset, .unset]) rfl kk_) ?_
    show Go p.tables e below _ (T11.setTop (mkF m 128 #[.val (.long x1), .second, .val (.long x2), .second, .val (.long x3), .second, .val (.long x4), .second, .val (.long x5), .second, .val (.int x6), .val (.ref b), .val (.int (x6 &&& (7 : Int32))), .val (.long y5), .second, .val (.int (own_last y5 x1 x2 x3 x4)), .unset, .unset, .unset] []))
    refine own_go (fun tt_ kk_ => XT.lloadN XN11.here hx rfl (hb hby at_128) rfl kk_) ?_
    show Go p.tables e below _ (T11.setTop (mkF m 129 #[.val (.long x1), .second, .val (.long x2), .second, .val (.long x3), .second, .val (.long x4), .second, .val (.long x5), .second, .val (.int x6), .val (.ref b), .val (.int (x6 &&& (7 : Int32))), .val (.long y5), .second, .val (.int (own_last y5 x1 x2 x3 x4)), .unset, .unset, .unset] [(.long x1)]))
    refine own_go (fun tt_ kk_ => XT.lloadN XN11.here hx rfl (hb hby at_129) rfl kk_) ?_
    show Go p.tables e below _ (T11.setTop (mkF m 130 #[.val (.long x1), .second, .val (.long x2), .second, .val (.long x3), .second, .val (.long x4), .second, .val (.long x5), .second, .val (.int x6), .val (.ref b), .val (.int (x6 &&& (7 : Int32))), .val (.long y5), .second, .val (.int (own_last y5 x1 x2 x3 x4)), .unset, .unset, .unset] [(.long x2), (.long x1)]))
    refine own_go (fun tt_ kk_ => XT.lload XN11.here hx rfl (hb hby at_130) rfl kk_) ?_
    show Go p.tables e below _ (T11.setTop (mkF m 132 #[.val (.long x1), .second, .val (.long x2), .second, .val (.long x3), .second, .val (.long x4), .second, .val (.long x5), .second, .val (.int x6), .val (.ref b), .val (.int (x6 &&& (7 : Int32))), .val (.long y5), .second, .val (.int (own_last y5 x1 x2 x3 x4)), .unset, .unset, .unset] [(.long x3), (.long x2), (.long x1)]))
    refine own_go (fun tt_ kk_ => XT.lload XN11.here hx rfl (hb hby at_132) rfl kk_) ?_
    show Go p.tables e below _ (T11.setTop (mkF m 134 #[.val (.long x1), .second, .val (.long x2), .second, .val (.long x3), .second, .val (.long x4), .second, .val (.long x5), .second, .val (.int x6), .val (.ref b), .val (.int (x6 &&& (7 : Int32))), .val (.long y5), .second, .val (.int (own_last y5 x1 x2 x3 x4)), .unset, .unset, .unset] [(.long x4), (.long x3), (.long x2), (.long x1)]))
    obtain ⟨v12, _, ⟨T12, L12, k12, n12⟩, -, X12, ⟨Lc12, hQ12, l12, y12, z12⟩, st12⟩ := Jvm.LawKit.callS XN11 hx (y := (⟨"com/example/rootlet/rootlet/IdMapRemovePinLaw", "distinct", "(JJJJ)I"⟩ : MethodName)) hown10 (mvT hZ10 (hw _ (List.mem_of_getElem? (i := 63) rfl))) (mvT hZ10 (hw _ (List.mem_of_getElem? (i := 64) rfl))) (mvT hZ10 (hw _ (List.mem_of_getElem? (i := 61) rfl))) (mvT hZ10 (hw _ (List.mem_of_getElem? (i := 65) rfl))) (by decide) (backOf (W := 0) (rm_distinct l Z a0 hw [] x1 x2 x3 x4 T10.heap n0) hZ10 (hw _ (List.mem_of_getElem? (i := 65) rfl)) (hw _ (List.mem_of_getElem? (i := 61) rfl)) (by decide) (by decide)) (g := (mkF m 134 #[.val (.long x1), .second, .val (.long x2), .second, .val (.long x3), .second, .val (.long x4), .second, .val (.long x5), .second, .val (.int x6), .val (.ref b), .val (.int (x6 &&& (7 : Int32))), .val (.long y5), .second, .val (.int (own_last y5 x1 x2 x3 x4)), .unset, .unset, .unset] [(.long x4), (.long x3), (.long x2), (.long x1)])) rfl (by rw [hml]; rfl) (argsL := [(.long x1), (.long x2), (.long x3), (.long x4)]) (rest := []) (lenOf pd_9 rfl) rfl (by show 2 * 0 + _ ≤ _; exact Nat.le_of_eq rfl) (hb hby at_134) (fun _ _ => ⟨rfl, e11, (by decide : 11 + 0 ≤ _), (by decide : 132 + 0 ≤ _)⟩)
    dsimp only [Pt.U, Pt.locs, Pt.cells, Pt.slots] at X12 l12 y12 z12 st12 hQ12
    subst y12 z12
    have XN12 : Stand p l e room_1 (s.setVm T10.vm) m #[(.long x1), (.long x2), (.long x3), (.long x4), (.long x5), (.int x6)] below meth c T12 _ 11 132 := X12
    obtain ⟨hv12, N12q, e12⟩ := hQ12
    subst hv12
    have N12 : Fr n0 L12 := by rw [l12]; exact Fr.app N11 N12q
    refine own_go (fun tt_ kk_ => st12 tt_ kk_) ?_
    show Go p.tables e below _ (T12.setTop (mkF m 137 #[.val (.long x1), .second, .val (.long x2), .second, .val (.long x3), .second, .val (.long x4), .second, .val (.long x5), .second, .val (.int x6), .val (.ref b), .val (.int (x6 &&& (7 : Int32))), .val (.long y5), .second, .val (.int (own_last y5 x1 x2 x3 x4)), .unset, .unset, .unset] [(.int (ix (own_dn x1 x2 x3 x4)))]))
    refine own_go (fun tt_ kk_ => XS.istore XN12.here hx rfl (hb hby at_137) rfl (l' := #[.val (.long x1), .second, .val (.long x2), .second, .val (.long x3), .second, .val (.long x4), .second, .val (.long x5), .second, .val (.int x6), .val (.ref b), .val (.int (x6 &&& (7 : Int32))), .val (.long y5), .second, .val (.int (own_last y5 x1 x2 x3 x4)), .val (.int (ix (own_dn x1 x2 x3 x4))), .unset, .unset]) rfl kk_) ?_
    show Go p.tables e below _ (T12.setTop (mkF m 139 #[.val (.long x1), .second, .val (.long x2), .second, .val (.long x3), .second, .val (.long x4), .second, .val (.long x5), .second, .val (.int x6), .val (.ref b), .val (.int (x6 &&& (7 : Int32))), .val (.long y5), .second, .val (.int (own_last y5 x1 x2 x3 x4)), .val (.int (ix (own_dn x1 x2 x3 x4))), .unset, .unset] []))
    refine own_go (fun tt_ kk_ => XS.aload XN12.here hx rfl (hb hby at_139) rfl rfl kk_) ?_
    show Go p.tables e below _ (T12.setTop (mkF m 141 #[.val (.long x1), .second, .val (.long x2), .second, .val (.long x3), .second, .val (.long x4), .second, .val (.long x5), .second, .val (.int x6), .val (.ref b), .val (.int (x6 &&& (7 : Int32))), .val (.long y5), .second, .val (.int (own_last y5 x1 x2 x3 x4)), .val (.int (ix (own_dn x1 x2 x3 x4))), .unset, .unset] [(.ref b)]))
    refine own_go (fun tt_ kk_ => XT.lload XN12.here hx rfl (hb hby at_141) rfl kk_) ?_
    show Go p.tables e below _ (T12.setTop (mkF m 143 #[.val (.long x1), .second, .val (.long x2), .second, .val (.long x3), .second, .val (.long x4), .second, .val (.long x5), .second, .val (.int x6), .val (.ref b), .val (.int (x6 &&& (7 : Int32))), .val (.long y5), .second, .val (.int (own_last y5 x1 x2 x3 x4)), .val (.int (ix (own_dn x1 x2 x3 x4))), .unset, .unset] [(.long y5), (.ref b)]))
    obtain ⟨cq14, kq14, q14a, q14b, q14c⟩ := isOf hZ10 e12 M10.2.1
    obtain ⟨v14, _, ⟨T14, L14, k14, n14⟩, -, X14, ⟨Lc14, hQ14, l14, y14, z14⟩, st14⟩ := XN12.virtualBack hx (y := (⟨"com/example/rootlet/rootlet/IdMap", "remove", "(J)Ljava/lang/Object;"⟩ : MethodName)) (z := (⟨"com/example/rootlet/rootlet/IdMap", "remove", "(J)Ljava/lang/Object;"⟩ : MethodName)) hown10 (mvT hZ10 (hw _ (List.mem_of_getElem? (i := 66) rfl))) (mvT hZ10 (hw _ (List.mem_of_getElem? (i := 67) rfl))) (notFace_of_selects (args := #[]) (mvT hZ10 (hw _ (List.mem_of_getElem? (i := 69) rfl)))) (mvT hZ10 (hw _ (List.mem_of_getElem? (i := 69) rfl))) (mvT hZ10 (hw _ (List.mem_of_getElem? (i := 68) rfl))) (by decide) (backOf (W := 0) (rm_remove l Z a0 hw [] b ka va ks10 vs10 G10 nn10 y5 T10.heap n0 M10 RR10 (by omega) O10) hZ10 (hw _ (List.mem_of_getElem? (i := 70) rfl)) (hw _ (List.mem_of_getElem? (i := 2) rfl)) (by decide) (by decide)) q14a q14c (g := (mkF m 143 #[.val (.long x1), .second, .val (.long x2), .second, .val (.long x3), .second, .val (.long x4), .second, .val (.long x5), .second, .val (.int x6), .val (.ref b), .val (.int (x6 &&& (7 : Int32))), .val (.long y5), .second, .val (.int (own_last y5 x1 x2 x3 x4)), .val (.int (ix (own_dn x1 x2 x3 x4))), .unset, .unset] [(.long y5), (.ref b)])) rfl (by rw [hml]; rfl) (Steps.refl _) (argsL := [(.long y5)]) (rest := []) (lenOf pd_10 rfl) rfl (by show 2 * 0 + _ ≤ _; exact Nat.le_of_eq rfl) (hb hby at_143) (fun _ _ => ⟨rfl, e12, (by decide : 11 + 0 ≤ _), (by decide : 132 + 0 ≤ _)⟩)
    dsimp only [Pt.U, Pt.locs, Pt.cells, Pt.slots] at X14 l14 y14 z14 st14 hQ14
    subst y14 z14
    have XN14 : Stand p l e room_1 (s.setVm T10.vm) m #[(.long x1), (.long x2), (.long x3), (.long x4), (.long x5), (.int x6)] below meth c T14 _ 11 132 := X14
    obtain ⟨hv14, N14q, ⟨O14, sz14⟩, ks14, vs14, M14, RR14⟩ := hQ14
    subst hv14
    have N14 : Fr n0 L14 := by rw [l14]; exact Fr.app N12 N14q
    obtain ⟨G14, hG14⟩ : ∃ z, z = own_upd G10 y5 .null := ⟨_, rfl⟩
    obtain ⟨nn14, hn14⟩ : ∃ z, z = (if G10 y5 = .null then nn10 else nn10 - 1) := ⟨_, rfl⟩
    rw [← hn14] at M14 RR14
    rw [← hG14] at RR14
    have bd14 : nn14 ≤ 4 := by rw [hn14]; split <;> omega
    have kz14 : T10.heap.size ≤ T14.heap.size := Nat.le_trans (Nat.le_refl _) sz14
    have EwA : ∀ {h : Heap} (O : Old Z n0 h) (x : Int64), own_Num Z h (G10 x) (own_last x x1 x2 x3 x4) := fun O x => by rw [hG10, hG8, hG6, hG4, hG0]; exact own_num4 (Ew_1.ext O.2) (Ew_2.ext O.2) (Ew_3.ext O.2) (Ew_4.ext O.2) (Vw_1.ext O.2) (Vw_2.ext O.2) (Vw_3.ext O.2) (Vw_4.ext O.2)
    have Ew_all : ∀ {h : Heap} (O : Old Z n0 h) (x : Int64), own_Num Z h (G10 x) (own_last x x1 x2 x3 x4) := EwA
    have NR := EwA O14 y5
    refine own_go (fun tt_ kk_ => st14.trans kk_) ?_
    show Go p.tables e below _ (T14.setTop (mkF m 146 #[.val (.long x1), .second, .val (.long x2), .second, .val (.long x3), .second, .val (.long x4), .second, .val (.long x5), .second, .val (.int x6), .val (.ref b), .val (.int (x6 &&& (7 : Int32))), .val (.long y5), .second, .val (.int (own_last y5 x1 x2 x3 x4)), .val (.int (ix (own_dn x1 x2 x3 x4))), .unset, .unset] [(G10 y5)]))
    obtain ⟨T15, X15, e15, st15⟩ := own_cast XN14 hx hZ10 hown10 (hw _ (List.mem_of_getElem? (i := 75) rfl)) rfl NR.ins (g := (mkF m 146 #[.val (.long x1), .second, .val (.long x2), .second, .val (.long x3), .second, .val (.long x4), .second, .val (.long x5), .second, .val (.int x6), .val (.ref b), .val (.int (x6 &&& (7 : Int32))), .val (.long y5), .second, .val (.int (own_last y5 x1 x2 x3 x4)), .val (.int (ix (own_dn x1 x2 x3 x4))), .unset, .unset] [(G10 y5)])) rfl rfl (hb hby at_146)
    refine own_go (fun tt_ kk_ => st15 tt_ kk_) ?_
    show Go p.tables e below _ (T15.setTop (mkF m 149 #[.val (.long x1), .second, .val (.long x2), .second, .val (.long x3), .second, .val (.long x4), .second, .val (.long x5), .second, .val (.int x6), .val (.ref b), .val (.int (x6 &&& (7 : Int32))), .val (.long y5), .second, .val (.int (own_last y5 x1 x2 x3 x4)), .val (.int (ix (own_dn x1 x2 x3 x4))), .unset, .unset] [(G10 y5)]))
    refine own_go (fun tt_ kk_ => XS.astoreS X15.here hx rfl (hb hby at_149) rfl NR.isRef (XT.cat1 NR.isRef) rfl (Or.inl rfl) kk_) ?_
    show Go p.tables e below _ (T15.setTop (mkF m 151 #[.val (.long x1), .second, .val (.long x2), .second, .val (.long x3), .second, .val (.long x4), .second, .val (.long x5), .second, .val (.int x6), .val (.ref b), .val (.int (x6 &&& (7 : Int32))), .val (.long y5), .second, .val (.int (own_last y5 x1 x2 x3 x4)), .val (.int (ix (own_dn x1 x2 x3 x4))), .val (G10 y5), .unset] []))
    refine own_go (fun tt_ kk_ => XS.aload X15.here hx rfl (hb hby at_151) rfl NR.isRef kk_) ?_
    show Go p.tables e below _ (T15.setTop (mkF m 153 #[.val (.long x1), .second, .val (.long x2), .second, .val (.long x3), .second, .val (.long x4), .second, .val (.long x5), .second, .val (.int x6), .val (.ref b), .val (.int (x6 &&& (7 : Int32))), .val (.long y5), .second, .val (.int (own_last y5 x1 x2 x3 x4)), .val (.int (ix (own_dn x1 x2 x3 x4))), .val (G10 y5), .unset] [(G10 y5)]))
    refine own_go (fun tt_ kk_ => XS.iload X15.here hx rfl (hb hby at_153) rfl kk_) ?_
    show Go p.tables e below _ (T15.setTop (mkF m 155 #[.val (.long x1), .second, .val (.long x2), .second, .val (.long x3), .second, .val (.long x4), .second, .val (.long x5), .second, .val (.int x6), .val (.ref b), .val (.int (x6 &&& (7 : Int32))), .val (.long y5), .second, .val (.int (own_last y5 x1 x2 x3 x4)), .val (.int (ix (own_dn x1 x2 x3 x4))), .val (G10 y5), .unset] [(.int (own_last y5 x1 x2 x3 x4)), (G10 y5)]))
    obtain ⟨v16, _, ⟨T16, L16, k16, n16⟩, -, X16, ⟨Lc16, hQ16, l16, y16, z16⟩, st16⟩ := Jvm.LawKit.callS X15 hx (y := (⟨"com/example/rootlet/rootlet/IdMapRemovePinLaw", "same", "(Ljava/lang/Integer;I)Z"⟩ : MethodName)) hown10 (mvT hZ10 (hw _ (List.mem_of_getElem? (i := 77) rfl))) (mvT hZ10 (hw _ (List.mem_of_getElem? (i := 78) rfl))) (mvT hZ10 (hw _ (List.mem_of_getElem? (i := 61) rfl))) (mvT hZ10 (hw _ (List.mem_of_getElem? (i := 79) rfl))) (by decide) (backOf (W := 0) (rm_same l Z a0 hw [] (G10 y5) (own_last y5 x1 x2 x3 x4) (own_last y5 x1 x2 x3 x4) T14.heap n0 NR) hZ10 (hw _ (List.mem_of_getElem? (i := 79) rfl)) (hw _ (List.mem_of_getElem? (i := 61) rfl)) (by decide) (by decide)) (g := (mkF m 155 #[.val (.long x1), .second, .val (.long x2), .second, .val (.long x3), .second, .val (.long x4), .second, .val (.long x5), .second, .val (.int x6), .val (.ref b), .val (.int (x6 &&& (7 : Int32))), .val (.long y5), .second, .val (.int (own_last y5 x1 x2 x3 x4)), .val (.int (ix (own_dn x1 x2 x3 x4))), .val (G10 y5), .unset] [(.int (own_last y5 x1 x2 x3 x4)), (G10 y5)])) rfl (by rw [hml]; rfl) (argsL := [(G10 y5), (.int (own_last y5 x1 x2 x3 x4))]) (rest := []) (lenOf pd_11 rfl) rfl (by show 2 * 0 + _ ≤ _; exact Nat.le_of_eq rfl) (hb hby at_155) (fun _ _ => ⟨rfl, e15, (by decide : 11 + 0 ≤ _), (by decide : 132 + 0 ≤ _)⟩)
    dsimp only [Pt.U, Pt.locs, Pt.cells, Pt.slots] at X16 l16 y16 z16 st16 hQ16
    subst y16 z16
    have XN16 : Stand p l e room_1 (s.setVm T10.vm) m #[(.long x1), (.long x2), (.long x3), (.long x4), (.long x5), (.int x6)] below meth c T16 _ 11 132 := X16
    obtain ⟨hv16, N16q, e16⟩ := hQ16
    rw [show ((.int (if (own_last y5 x1 x2 x3 x4) = (own_last y5 x1 x2 x3 x4) then 1 else 0)) : Value) = (.int (1 : Int32)) from congrArg Value.int (if_pos rfl)] at hv16
    subst hv16
    have N16 : Fr n0 L16 := by rw [l16]; exact Fr.app N14 N16q
    refine own_go (fun tt_ kk_ => st16 tt_ kk_) ?_
    show Go p.tables e below _ (T16.setTop (mkF m 158 #[.val (.long x1), .second, .val (.long x2), .second, .val (.long x3), .second, .val (.long x4), .second, .val (.long x5), .second, .val (.int x6), .val (.ref b), .val (.int (x6 &&& (7 : Int32))), .val (.long y5), .second, .val (.int (own_last y5 x1 x2 x3 x4)), .val (.int (ix (own_dn x1 x2 x3 x4))), .val (G10 y5), .unset] [(.int (1 : Int32))]))
    refine own_go (fun tt_ kk_ => XS.istore XN16.here hx rfl (hb hby at_158) rfl (l' := #[.val (.long x1), .second, .val (.long x2), .second, .val (.long x3), .second, .val (.long x4), .second, .val (.long x5), .second, .val (.int x6), .val (.ref b), .val (.int (x6 &&& (7 : Int32))), .val (.long y5), .second, .val (.int (own_last y5 x1 x2 x3 x4)), .val (.int (ix (own_dn x1 x2 x3 x4))), .val (G10 y5), .val (.int (1 : Int32))]) rfl kk_) ?_
    show Go p.tables e below _ (T16.setTop (mkF m 160 #[.val (.long x1), .second, .val (.long x2), .second, .val (.long x3), .second, .val (.long x4), .second, .val (.long x5), .second, .val (.int x6), .val (.ref b), .val (.int (x6 &&& (7 : Int32))), .val (.long y5), .second, .val (.int (own_last y5 x1 x2 x3 x4)), .val (.int (ix (own_dn x1 x2 x3 x4))), .val (G10 y5), .val (.int (1 : Int32))] []))
    refine own_go (fun tt_ kk_ => XS.iload XN16.here hx rfl (hb hby at_160) rfl kk_) ?_
    show Go p.tables e below _ (T16.setTop (mkF m 162 #[.val (.long x1), .second, .val (.long x2), .second, .val (.long x3), .second, .val (.long x4), .second, .val (.long x5), .second, .val (.int x6), .val (.ref b), .val (.int (x6 &&& (7 : Int32))), .val (.long y5), .second, .val (.int (own_last y5 x1 x2 x3 x4)), .val (.int (ix (own_dn x1 x2 x3 x4))), .val (G10 y5), .val (.int (1 : Int32))] [(.int (1 : Int32))]))
    refine own_go (fun tt_ kk_ => XS.aload XN16.here hx rfl (hb hby at_162) rfl rfl kk_) ?_
    show Go p.tables e below _ (T16.setTop (mkF m 164 #[.val (.long x1), .second, .val (.long x2), .second, .val (.long x3), .second, .val (.long x4), .second, .val (.long x5), .second, .val (.int x6), .val (.ref b), .val (.int (x6 &&& (7 : Int32))), .val (.long y5), .second, .val (.int (own_last y5 x1 x2 x3 x4)), .val (.int (ix (own_dn x1 x2 x3 x4))), .val (G10 y5), .val (.int (1 : Int32))] [(.ref b), (.int (1 : Int32))]))
    obtain ⟨cq17, kq17, q17a, q17b, q17c⟩ := isOf hZ10 e16 M14.2.1
    obtain ⟨v17, _, ⟨T17, L17, k17, n17⟩, -, X17, ⟨Lc17, hQ17, l17, y17, z17⟩, st17⟩ := XN16.virtualBack hx (y := (⟨"com/example/rootlet/rootlet/IdMap", "size", "()I"⟩ : MethodName)) (z := (⟨"com/example/rootlet/rootlet/IdMap", "size", "()I"⟩ : MethodName)) hown10 (mvT hZ10 (hw _ (List.mem_of_getElem? (i := 87) rfl))) (mvT hZ10 (hw _ (List.mem_of_getElem? (i := 88) rfl))) (notFace_of_selects (args := #[]) (mvT hZ10 (hw _ (List.mem_of_getElem? (i := 90) rfl)))) (mvT hZ10 (hw _ (List.mem_of_getElem? (i := 90) rfl))) (mvT hZ10 (hw _ (List.mem_of_getElem? (i := 89) rfl))) (by decide) (backOf (W := 1) (rm_size l Z a0 hw [] b (ix nn14) T14.heap n0 M14.2.2.1.2.2.2) hZ10 (hw _ (List.mem_of_getElem? (i := 91) rfl)) (hw _ (List.mem_of_getElem? (i := 2) rfl)) (by decide) (by decide)) q17a q17c (g := (mkF m 164 #[.val (.long x1), .second, .val (.long x2), .second, .val (.long x3), .second, .val (.long x4), .second, .val (.long x5), .second, .val (.int x6), .val (.ref b), .val (.int (x6 &&& (7 : Int32))), .val (.long y5), .second, .val (.int (own_last y5 x1 x2 x3 x4)), .val (.int (ix (own_dn x1 x2 x3 x4))), .val (G10 y5), .val (.int (1 : Int32))] [(.ref b), (.int (1 : Int32))])) rfl (by rw [hml]; rfl) (Steps.refl _) (argsL := []) (rest := [(.int (1 : Int32))]) (lenOf pd_6 rfl) rfl (by show 2 * 0 + _ ≤ _; exact Nat.le_of_eq rfl) (hb hby at_164) (fun _ _ => ⟨rfl, e16, (by decide : 11 + 0 ≤ _), (by decide : 132 + 0 ≤ _)⟩)
    dsimp only [Pt.U, Pt.locs, Pt.cells, Pt.slots] at X17 l17 y17 z17 st17 hQ17
    subst y17 z17
    have XN17 : Stand p l e room_1 (s.setVm T10.vm) m #[(.long x1), (.long x2), (.long x3), (.long x4), (.long x5), (.int x6)] below meth c T17 _ 11 132 := X17
    obtain ⟨hv17, N17q, e17⟩ := hQ17
    subst hv17
    have N17 : Fr n0 L17 := by rw [l17]; exact Fr.app N16 N17q
    refine own_go (fun tt_ kk_ => st17.trans kk_) ?_
    show Go p.tables e below _ (T17.setTop (mkF m 167 #[.val (.long x1), .second, .val (.long x2), .second, .val (.long x3), .second, .val (.long x4), .second, .val (.long x5), .second, .val (.int x6), .val (.ref b), .val (.int (x6 &&& (7 : Int32))), .val (.long y5), .second, .val (.int (own_last y5 x1 x2 x3 x4)), .val (.int (ix (own_dn x1 x2 x3 x4))), .val (G10 y5), .val (.int (1 : Int32))] [(.int (ix nn14)), (.int (1 : Int32))]))
    refine own_go (fun tt_ kk_ => XS.iload XN17.here hx rfl (hb hby at_167) rfl kk_) ?_
    show Go p.tables e below _ (T17.setTop (mkF m 169 #[.val (.long x1), .second, .val (.long x2), .second, .val (.long x3), .second, .val (.long x4), .second, .val (.long x5), .second, .val (.int x6), .val (.ref b), .val (.int (x6 &&& (7 : Int32))), .val (.long y5), .second, .val (.int (own_last y5 x1 x2 x3 x4)), .val (.int (ix (own_dn x1 x2 x3 x4))), .val (G10 y5), .val (.int (1 : Int32))] [(.int (own_last y5 x1 x2 x3 x4)), (.int (ix nn14)), (.int (1 : Int32))]))
    by_cases hc18 : (own_last y5 x1 x2 x3 x4) = 0
    · refine own_go (fun tt_ kk_ => XS.ifNo XN17.here hx rfl (hb hby at_169) rfl (XT.i0_ne_f hc18) kk_) ?_
      show Go p.tables e below _ (T17.setTop (mkF m 172 #[.val (.long x1), .second, .val (.long x2), .second, .val (.long x3), .second, .val (.long x4), .second, .val (.long x5), .second, .val (.int x6), .val (.ref b), .val (.int (x6 &&& (7 : Int32))), .val (.long y5), .second, .val (.int (own_last y5 x1 x2 x3 x4)), .val (.int (ix (own_dn x1 x2 x3 x4))), .val (G10 y5), .val (.int (1 : Int32))] [(.int (ix nn14)), (.int (1 : Int32))]))
      refine own_go (fun tt_ kk_ => XS.iload XN17.here hx rfl (hb hby at_172) rfl kk_) ?_
      show Go p.tables e below _ (T17.setTop (mkF m 174 #[.val (.long x1), .second, .val (.long x2), .second, .val (.long x3), .second, .val (.long x4), .second, .val (.long x5), .second, .val (.int x6), .val (.ref b), .val (.int (x6 &&& (7 : Int32))), .val (.long y5), .second, .val (.int (own_last y5 x1 x2 x3 x4)), .val (.int (ix (own_dn x1 x2 x3 x4))), .val (G10 y5), .val (.int (1 : Int32))] [(.int (ix (own_dn x1 x2 x3 x4))), (.int (ix nn14)), (.int (1 : Int32))]))
      refine own_go (fun tt_ kk_ => XS.goto XN17.here hx rfl (pc0 := 174) (pc' := 181) rfl (hb hby at_174) (by decide) (by decide) kk_) ?_
      show Go p.tables e below _ (T17.setTop (mkF m 181 #[.val (.long x1), .second, .val (.long x2), .second, .val (.long x3), .second, .val (.long x4), .second, .val (.long x5), .second, .val (.int x6), .val (.ref b), .val (.int (x6 &&& (7 : Int32))), .val (.long y5), .second, .val (.int (own_last y5 x1 x2 x3 x4)), .val (.int (ix (own_dn x1 x2 x3 x4))), .val (G10 y5), .val (.int (1 : Int32))] [(.int (ix (own_dn x1 x2 x3 x4))), (.int (ix nn14)), (.int (1 : Int32))]))
      refine own_go (fun tt_ kk_ => XS.icmpNo XN17.here hx rfl (hb hby at_181) rfl (XT.ii_ne_f (congrArg ix (by rw [hn14, if_pos (NR.zero.mp hc18)]; exact (own_count4 hG0 hG4 hG6 hG8 hn4 hn6 hn8 hn10)))) kk_) ?_
      show Go p.tables e below _ (T17.setTop (mkF m 184 #[.val (.long x1), .second, .val (.long x2), .second, .val (.long x3), .second, .val (.long x4), .second, .val (.long x5), .second, .val (.int x6), .val (.ref b), .val (.int (x6 &&& (7 : Int32))), .val (.long y5), .second, .val (.int (own_last y5 x1 x2 x3 x4)), .val (.int (ix (own_dn x1 x2 x3 x4))), .val (G10 y5), .val (.int (1 : Int32))] [(.int (1 : Int32))]))
      refine own_go (fun tt_ kk_ => XS.iconst XN17.here hx rfl (hb hby at_184) kk_) ?_
      show Go p.tables e below _ (T17.setTop (mkF m 185 #[.val (.long x1), .second, .val (.long x2), .second, .val (.long x3), .second, .val (.long x4), .second, .val (.long x5), .second, .val (.int x6), .val (.ref b), .val (.int (x6 &&& (7 : Int32))), .val (.long y5), .second, .val (.int (own_last y5 x1 x2 x3 x4)), .val (.int (ix (own_dn x1 x2 x3 x4))), .val (G10 y5), .val (.int (1 : Int32))] [(.int (1 : Int32)), (.int (1 : Int32))]))
      refine own_go (fun tt_ kk_ => XS.goto XN17.here hx rfl (pc0 := 185) (pc' := 189) rfl (hb hby at_185) (by decide) (by decide) kk_) ?_
      show Go p.tables e below _ (T17.setTop (mkF m 189 #[.val (.long x1), .second, .val (.long x2), .second, .val (.long x3), .second, .val (.long x4), .second, .val (.long x5), .second, .val (.int x6), .val (.ref b), .val (.int (x6 &&& (7 : Int32))), .val (.long y5), .second, .val (.int (own_last y5 x1 x2 x3 x4)), .val (.int (ix (own_dn x1 x2 x3 x4))), .val (G10 y5), .val (.int (1 : Int32))] [(.int (1 : Int32)), (.int (1 : Int32))]))
      refine own_go (fun tt_ kk_ => XS.iand XN17.here hx rfl (hb hby at_189) rfl kk_) ?_
      show Go p.tables e below _ (T17.setTop (mkF m 190 #[.val (.long x1), .second, .val (.long x2), .second, .val (.long x3), .second, .val (.long x4), .second, .val (.long x5), .second, .val (.int x6), .val (.ref b), .val (.int (x6 &&& (7 : Int32))), .val (.long y5), .second, .val (.int (own_last y5 x1 x2 x3 x4)), .val (.int (ix (own_dn x1 x2 x3 x4))), .val (G10 y5), .val (.int (1 : Int32))] [(.int (1 : Int32))]))
      refine own_go (fun tt_ kk_ => XS.istore XN17.here hx rfl (hb hby at_190) rfl (l' := #[.val (.long x1), .second, .val (.long x2), .second, .val (.long x3), .second, .val (.long x4), .second, .val (.long x5), .second, .val (.int x6), .val (.ref b), .val (.int (x6 &&& (7 : Int32))), .val (.long y5), .second, .val (.int (own_last y5 x1 x2 x3 x4)), .val (.int (ix (own_dn x1 x2 x3 x4))), .val (G10 y5), .val (.int (1 : Int32))]) rfl kk_) ?_
      show Go p.tables e below _ (T17.setTop (mkF m 192 #[.val (.long x1), .second, .val (.long x2), .second, .val (.long x3), .second, .val (.long x4), .second, .val (.long x5), .second, .val (.int x6), .val (.ref b), .val (.int (x6 &&& (7 : Int32))), .val (.long y5), .second, .val (.int (own_last y5 x1 x2 x3 x4)), .val (.int (ix (own_dn x1 x2 x3 x4))), .val (G10 y5), .val (.int (1 : Int32))] []))
      refine own_go (fun tt_ kk_ => XS.iload XN17.here hx rfl (hb hby at_192) rfl kk_) ?_
      show Go p.tables e below _ (T17.setTop (mkF m 194 #[.val (.long x1), .second, .val (.long x2), .second, .val (.long x3), .second, .val (.long x4), .second, .val (.long x5), .second, .val (.int x6), .val (.ref b), .val (.int (x6 &&& (7 : Int32))), .val (.long y5), .second, .val (.int (own_last y5 x1 x2 x3 x4)), .val (.int (ix (own_dn x1 x2 x3 x4))), .val (G10 y5), .val (.int (1 : Int32))] [(.int (1 : Int32))]))
      refine own_go (fun tt_ kk_ => XS.aload XN17.here hx rfl (hb hby at_194) rfl rfl kk_) ?_
      show Go p.tables e below _ (T17.setTop (mkF m 196 #[.val (.long x1), .second, .val (.long x2), .second, .val (.long x3), .second, .val (.long x4), .second, .val (.long x5), .second, .val (.int x6), .val (.ref b), .val (.int (x6 &&& (7 : Int32))), .val (.long y5), .second, .val (.int (own_last y5 x1 x2 x3 x4)), .val (.int (ix (own_dn x1 x2 x3 x4))), .val (G10 y5), .val (.int (1 : Int32))] [(.ref b), (.int (1 : Int32))]))
      refine own_go (fun tt_ kk_ => XT.lloadN XN17.here hx rfl (hb hby at_196) rfl kk_) ?_
      show Go p.tables e below _ (T17.setTop (mkF m 197 #[.val (.long x1), .second, .val (.long x2), .second, .val (.long x3), .second, .val (.long x4), .second, .val (.long x5), .second, .val (.int x6), .val (.ref b), .val (.int (x6 &&& (7 : Int32))), .val (.long y5), .second, .val (.int (own_last y5 x1 x2 x3 x4)), .val (.int (ix (own_dn x1 x2 x3 x4))), .val (G10 y5), .val (.int (1 : Int32))] [(.long x1), (.ref b), (.int (1 : Int32))]))
      have NV19 : own_Num Z T14.heap (G14 x1) (own_after x1 y5 x1 x2 x3 x4) := by rw [hG14]; exact own_num5 (Ew_all O14 x1)
      obtain ⟨cq20, kq20, q20a, q20b, q20c⟩ := isOf hZ10 e17 M14.2.1
      obtain ⟨v20, _, ⟨T20, L20, k20, n20⟩, -, X20, ⟨Lc20, hQ20, l20, y20, z20⟩, st20⟩ := XN17.virtualBack hx (y := (⟨"com/example/rootlet/rootlet/IdMap", "get", "(J)Ljava/lang/Object;"⟩ : MethodName)) (z := (⟨"com/example/rootlet/rootlet/IdMap", "get", "(J)Ljava/lang/Object;"⟩ : MethodName)) hown10 (mvT hZ10 (hw _ (List.mem_of_getElem? (i := 92) rfl))) (mvT hZ10 (hw _ (List.mem_of_getElem? (i := 93) rfl))) (notFace_of_selects (args := #[]) (mvT hZ10 (hw _ (List.mem_of_getElem? (i := 95) rfl)))) (mvT hZ10 (hw _ (List.mem_of_getElem? (i := 95) rfl))) (mvT hZ10 (hw _ (List.mem_of_getElem? (i := 94) rfl))) (by decide) (backOf (W := 1) (rm_get l Z a0 hw [] b ka va ks14 vs14 G14 nn14 x1 T14.heap n0 M14 RR14 (by omega)) hZ10 (hw _ (List.mem_of_getElem? (i := 96) rfl)) (hw _ (List.mem_of_getElem? (i := 2) rfl)) (by decide) (by decide)) q20a q20c (g := (mkF m 197 #[.val (.long x1), .second, .val (.long x2), .second, .val (.long x3), .second, .val (.long x4), .second, .val (.long x5), .second, .val (.int x6), .val (.ref b), .val (.int (x6 &&& (7 : Int32))), .val (.long y5), .second, .val (.int (own_last y5 x1 x2 x3 x4)), .val (.int (ix (own_dn x1 x2 x3 x4))), .val (G10 y5), .val (.int (1 : Int32))] [(.long x1), (.ref b), (.int (1 : Int32))])) rfl (by rw [hml]; rfl) (Steps.refl _) (argsL := [(.long x1)]) (rest := [(.int (1 : Int32))]) (lenOf pd_10 rfl) rfl (by show 2 * 0 + _ ≤ _; exact Nat.le_of_eq rfl) (hb hby at_197) (fun _ _ => ⟨rfl, e17, (by decide : 11 + 0 ≤ _), (by decide : 132 + 0 ≤ _)⟩)
      dsimp only [Pt.U, Pt.locs, Pt.cells, Pt.slots] at X20 l20 y20 z20 st20 hQ20
      subst y20 z20
      have XN20 : Stand p l e room_1 (s.setVm T10.vm) m #[(.long x1), (.long x2), (.long x3), (.long x4), (.long x5), (.int x6)] below meth c T20 _ 11 132 := X20
      obtain ⟨hv20, N20q, e20⟩ := hQ20
      subst hv20
      have N20 : Fr n0 L20 := by rw [l20]; exact Fr.app N17 N20q
      refine own_go (fun tt_ kk_ => st20.trans kk_) ?_
      show Go p.tables e below _ (T20.setTop (mkF m 200 #[.val (.long x1), .second, .val (.long x2), .second, .val (.long x3), .second, .val (.long x4), .second, .val (.long x5), .second, .val (.int x6), .val (.ref b), .val (.int (x6 &&& (7 : Int32))), .val (.long y5), .second, .val (.int (own_last y5 x1 x2 x3 x4)), .val (.int (ix (own_dn x1 x2 x3 x4))), .val (G10 y5), .val (.int (1 : Int32))] [(G14 x1), (.int (1 : Int32))]))
      obtain ⟨T21, X21, e21, st21⟩ := own_cast XN20 hx hZ10 hown10 (hw _ (List.mem_of_getElem? (i := 75) rfl)) e20 NV19.ins (g := (mkF m 200 #[.val (.long x1), .second, .val (.long x2), .second, .val (.long x3), .second, .val (.long x4), .second, .val (.long x5), .second, .val (.int x6), .val (.ref b), .val (.int (x6 &&& (7 : Int32))), .val (.long y5), .second, .val (.int (own_last y5 x1 x2 x3 x4)), .val (.int (ix (own_dn x1 x2 x3 x4))), .val (G10 y5), .val (.int (1 : Int32))] [(G14 x1), (.int (1 : Int32))])) rfl rfl (hb hby at_200)
      refine own_go (fun tt_ kk_ => st21 tt_ kk_) ?_
      show Go p.tables e below _ (T21.setTop (mkF m 203 #[.val (.long x1), .second, .val (.long x2), .second, .val (.long x3), .second, .val (.long x4), .second, .val (.long x5), .second, .val (.int x6), .val (.ref b), .val (.int (x6 &&& (7 : Int32))), .val (.long y5), .second, .val (.int (own_last y5 x1 x2 x3 x4)), .val (.int (ix (own_dn x1 x2 x3 x4))), .val (G10 y5), .val (.int (1 : Int32))] [(G14 x1), (.int (1 : Int32))]))
      refine own_go (fun tt_ kk_ => XT.lloadN X21.here hx rfl (hb hby at_203) rfl kk_) ?_
      show Go p.tables e below _ (T21.setTop (mkF m 204 #[.val (.long x1), .second, .val (.long x2), .second, .val (.long x3), .second, .val (.long x4), .second, .val (.long x5), .second, .val (.int x6), .val (.ref b), .val (.int (x6 &&& (7 : Int32))), .val (.long y5), .second, .val (.int (own_last y5 x1 x2 x3 x4)), .val (.int (ix (own_dn x1 x2 x3 x4))), .val (G10 y5), .val (.int (1 : Int32))] [(.long x1), (G14 x1), (.int (1 : Int32))]))
      refine own_go (fun tt_ kk_ => XT.lload X21.here hx rfl (hb hby at_204) rfl kk_) ?_
      show Go p.tables e below _ (T21.setTop (mkF m 206 #[.val (.long x1), .second, .val (.long x2), .second, .val (.long x3), .second, .val (.long x4), .second, .val (.long x5), .second, .val (.int x6), .val (.ref b), .val (.int (x6 &&& (7 : Int32))), .val (.long y5), .second, .val (.int (own_last y5 x1 x2 x3 x4)), .val (.int (ix (own_dn x1 x2 x3 x4))), .val (G10 y5), .val (.int (1 : Int32))] [(.long y5), (.long x1), (G14 x1), (.int (1 : Int32))]))
      refine own_go (fun tt_ kk_ => XT.lloadN X21.here hx rfl (hb hby at_206) rfl kk_) ?_
      show Go p.tables e below _ (T21.setTop (mkF m 207 #[.val (.long x1), .second, .val (.long x2), .second, .val (.long x3), .second, .val (.long x4), .second, .val (.long x5), .second, .val (.int x6), .val (.ref b), .val (.int (x6 &&& (7 : Int32))), .val (.long y5), .second, .val (.int (own_last y5 x1 x2 x3 x4)), .val (.int (ix (own_dn x1 x2 x3 x4))), .val (G10 y5), .val (.int (1 : Int32))] [(.long x1), (.long y5), (.long x1), (G14 x1), (.int (1 : Int32))]))
      refine own_go (fun tt_ kk_ => XT.lloadN X21.here hx rfl (hb hby at_207) rfl kk_) ?_
      show Go p.tables e below _ (T21.setTop (mkF m 208 #[.val (.long x1), .second, .val (.long x2), .second, .val (.long x3), .second, .val (.long x4), .second, .val (.long x5), .second, .val (.int x6), .val (.ref b), .val (.int (x6 &&& (7 : Int32))), .val (.long y5), .second, .val (.int (own_last y5 x1 x2 x3 x4)), .val (.int (ix (own_dn x1 x2 x3 x4))), .val (G10 y5), .val (.int (1 : Int32))] [(.long x2), (.long x1), (.long y5), (.long x1), (G14 x1), (.int (1 : Int32))]))
      refine own_go (fun tt_ kk_ => XT.lload X21.here hx rfl (hb hby at_208) rfl kk_) ?_
      show Go p.tables e below _ (T21.setTop (mkF m 210 #[.val (.long x1), .second, .val (.long x2), .second, .val (.long x3), .second, .val (.long x4), .second, .val (.long x5), .second, .val (.int x6), .val (.ref b), .val (.int (x6 &&& (7 : Int32))), .val (.long y5), .second, .val (.int (own_last y5 x1 x2 x3 x4)), .val (.int (ix (own_dn x1 x2 x3 x4))), .val (G10 y5), .val (.int (1 : Int32))] [(.long x3), (.long x2), (.long x1), (.long y5), (.long x1), (G14 x1), (.int (1 : Int32))]))
      refine own_go (fun tt_ kk_ => XT.lload X21.here hx rfl (hb hby at_210) rfl kk_) ?_
      show Go p.tables e below _ (T21.setTop (mkF m 212 #[.val (.long x1), .second, .val (.long x2), .second, .val (.long x3), .second, .val (.long x4), .second, .val (.long x5), .second, .val (.int x6), .val (.ref b), .val (.int (x6 &&& (7 : Int32))), .val (.long y5), .second, .val (.int (own_last y5 x1 x2 x3 x4)), .val (.int (ix (own_dn x1 x2 x3 x4))), .val (G10 y5), .val (.int (1 : Int32))] [(.long x4), (.long x3), (.long x2), (.long x1), (.long y5), (.long x1), (G14 x1), (.int (1 : Int32))]))
      obtain ⟨v22, _, ⟨T22, L22, k22, n22⟩, -, X22, ⟨Lc22, hQ22, l22, y22, z22⟩, st22⟩ := Jvm.LawKit.callS X21 hx (y := (⟨"com/example/rootlet/rootlet/IdMapRemovePinLaw", "after", "(JJJJJJ)I"⟩ : MethodName)) hown10 (mvT hZ10 (hw _ (List.mem_of_getElem? (i := 97) rfl))) (mvT hZ10 (hw _ (List.mem_of_getElem? (i := 98) rfl))) (mvT hZ10 (hw _ (List.mem_of_getElem? (i := 61) rfl))) (mvT hZ10 (hw _ (List.mem_of_getElem? (i := 99) rfl))) (by decide) (backOf (W := 2) (rm_after l Z a0 hw [] x1 y5 x1 x2 x3 x4 T14.heap n0) hZ10 (hw _ (List.mem_of_getElem? (i := 99) rfl)) (hw _ (List.mem_of_getElem? (i := 61) rfl)) (by decide) (by decide)) (g := (mkF m 212 #[.val (.long x1), .second, .val (.long x2), .second, .val (.long x3), .second, .val (.long x4), .second, .val (.long x5), .second, .val (.int x6), .val (.ref b), .val (.int (x6 &&& (7 : Int32))), .val (.long y5), .second, .val (.int (own_last y5 x1 x2 x3 x4)), .val (.int (ix (own_dn x1 x2 x3 x4))), .val (G10 y5), .val (.int (1 : Int32))] [(.long x4), (.long x3), (.long x2), (.long x1), (.long y5), (.long x1), (G14 x1), (.int (1 : Int32))])) rfl (by rw [hml]; rfl) (argsL := [(.long x1), (.long y5), (.long x1), (.long x2), (.long x3), (.long x4)]) (rest := [(G14 x1), (.int (1 : Int32))]) (lenOf pd_12 rfl) rfl (by show 2 * 0 + (List.map (fun v => v.category) [(G14 x1), (.int (1 : Int32))]).sum ≤ _; simp only [List.map_cons, List.map_nil, List.sum_cons, List.sum_nil, XT.cat1 NV19.isRef]; exact Nat.le_of_eq rfl) (hb hby at_212) (fun _ _ => ⟨rfl, e21, (by decide : 11 + 0 ≤ _), (by decide : 132 + 0 ≤ _)⟩)
      dsimp only [Pt.U, Pt.locs, Pt.cells, Pt.slots] at X22 l22 y22 z22 st22 hQ22
      subst y22 z22
      have XN22 : Stand p l e room_1 (s.setVm T10.vm) m #[(.long x1), (.long x2), (.long x3), (.long x4), (.long x5), (.int x6)] below meth c T22 _ 11 132 := X22
      obtain ⟨hv22, N22q, e22⟩ := hQ22
      subst hv22
      have N22 : Fr n0 L22 := by rw [l22]; exact Fr.app N20 N22q
      refine own_go (fun tt_ kk_ => st22 tt_ kk_) ?_
      show Go p.tables e below _ (T22.setTop (mkF m 215 #[.val (.long x1), .second, .val (.long x2), .second, .val (.long x3), .second, .val (.long x4), .second, .val (.long x5), .second, .val (.int x6), .val (.ref b), .val (.int (x6 &&& (7 : Int32))), .val (.long y5), .second, .val (.int (own_last y5 x1 x2 x3 x4)), .val (.int (ix (own_dn x1 x2 x3 x4))), .val (G10 y5), .val (.int (1 : Int32))] [(.int (own_after x1 y5 x1 x2 x3 x4)), (G14 x1), (.int (1 : Int32))]))
      obtain ⟨v23, _, ⟨T23, L23, k23, n23⟩, -, X23, ⟨Lc23, hQ23, l23, y23, z23⟩, st23⟩ := Jvm.LawKit.callS XN22 hx (y := (⟨"com/example/rootlet/rootlet/IdMapRemovePinLaw", "same", "(Ljava/lang/Integer;I)Z"⟩ : MethodName)) hown10 (mvT hZ10 (hw _ (List.mem_of_getElem? (i := 77) rfl))) (mvT hZ10 (hw _ (List.mem_of_getElem? (i := 78) rfl))) (mvT hZ10 (hw _ (List.mem_of_getElem? (i := 61) rfl))) (mvT hZ10 (hw _ (List.mem_of_getElem? (i := 79) rfl))) (by decide) (backOf (W := 1) (rm_same l Z a0 hw [] (G14 x1) (own_after x1 y5 x1 x2 x3 x4) (own_after x1 y5 x1 x2 x3 x4) T14.heap n0 NV19) hZ10 (hw _ (List.mem_of_getElem? (i := 79) rfl)) (hw _ (List.mem_of_getElem? (i := 61) rfl)) (by decide) (by decide)) (g := (mkF m 215 #[.val (.long x1), .second, .val (.long x2), .second, .val (.long x3), .second, .val (.long x4), .second, .val (.long x5), .second, .val (.int x6), .val (.ref b), .val (.int (x6 &&& (7 : Int32))), .val (.long y5), .second, .val (.int (own_last y5 x1 x2 x3 x4)), .val (.int (ix (own_dn x1 x2 x3 x4))), .val (G10 y5), .val (.int (1 : Int32))] [(.int (own_after x1 y5 x1 x2 x3 x4)), (G14 x1), (.int (1 : Int32))])) rfl (by rw [hml]; rfl) (argsL := [(G14 x1), (.int (own_after x1 y5 x1 x2 x3 x4))]) (rest := [(.int (1 : Int32))]) (lenOf pd_11 rfl) rfl (by show 2 * 0 + _ ≤ _; exact Nat.le_of_eq rfl) (hb hby at_215) (fun _ _ => ⟨rfl, e22, (by decide : 11 + 0 ≤ _), (by decide : 132 + 0 ≤ _)⟩)
      dsimp only [Pt.U, Pt.locs, Pt.cells, Pt.slots] at X23 l23 y23 z23 st23 hQ23
      subst y23 z23
      have XN23 : Stand p l e room_1 (s.setVm T10.vm) m #[(.long x1), (.long x2), (.long x3), (.long x4), (.long x5), (.int x6)] below meth c T23 _ 11 132 := X23
      obtain ⟨hv23, N23q, e23⟩ := hQ23
      rw [show ((.int (if (own_after x1 y5 x1 x2 x3 x4) = (own_after x1 y5 x1 x2 x3 x4) then 1 else 0)) : Value) = (.int (1 : Int32)) from congrArg Value.int (if_pos rfl)] at hv23
      subst hv23
      have N23 : Fr n0 L23 := by rw [l23]; exact Fr.app N22 N23q
      refine own_go (fun tt_ kk_ => st23 tt_ kk_) ?_
      show Go p.tables e below _ (T23.setTop (mkF m 218 #[.val (.long x1), .second, .val (.long x2), .second, .val (.long x3), .second, .val (.long x4), .second, .val (.long x5), .second, .val (.int x6), .val (.ref b), .val (.int (x6 &&& (7 : Int32))), .val (.long y5), .second, .val (.int (own_last y5 x1 x2 x3 x4)), .val (.int (ix (own_dn x1 x2 x3 x4))), .val (G10 y5), .val (.int (1 : Int32))] [(.int (1 : Int32)), (.int (1 : Int32))]))
      refine own_go (fun tt_ kk_ => XS.iand XN23.here hx rfl (hb hby at_218) rfl kk_) ?_
      show Go p.tables e below _ (T23.setTop (mkF m 219 #[.val (.long x1), .second, .val (.long x2), .second, .val (.long x3), .second, .val (.long x4), .second, .val (.long x5), .second, .val (.int x6), .val (.ref b), .val (.int (x6 &&& (7 : Int32))), .val (.long y5), .second, .val (.int (own_last y5 x1 x2 x3 x4)), .val (.int (ix (own_dn x1 x2 x3 x4))), .val (G10 y5), .val (.int (1 : Int32))] [(.int (1 : Int32))]))
      refine own_go (fun tt_ kk_ => XS.istore XN23.here hx rfl (hb hby at_219) rfl (l' := #[.val (.long x1), .second, .val (.long x2), .second, .val (.long x3), .second, .val (.long x4), .second, .val (.long x5), .second, .val (.int x6), .val (.ref b), .val (.int (x6 &&& (7 : Int32))), .val (.long y5), .second, .val (.int (own_last y5 x1 x2 x3 x4)), .val (.int (ix (own_dn x1 x2 x3 x4))), .val (G10 y5), .val (.int (1 : Int32))]) rfl kk_) ?_
      show Go p.tables e below _ (T23.setTop (mkF m 221 #[.val (.long x1), .second, .val (.long x2), .second, .val (.long x3), .second, .val (.long x4), .second, .val (.long x5), .second, .val (.int x6), .val (.ref b), .val (.int (x6 &&& (7 : Int32))), .val (.long y5), .second, .val (.int (own_last y5 x1 x2 x3 x4)), .val (.int (ix (own_dn x1 x2 x3 x4))), .val (G10 y5), .val (.int (1 : Int32))] []))
      refine own_go (fun tt_ kk_ => XS.iload XN23.here hx rfl (hb hby at_221) rfl kk_) ?_
      show Go p.tables e below _ (T23.setTop (mkF m 223 #[.val (.long x1), .second, .val (.long x2), .second, .val (.long x3), .second, .val (.long x4), .second, .val (.long x5), .second, .val (.int x6), .val (.ref b), .val (.int (x6 &&& (7 : Int32))), .val (.long y5), .second, .val (.int (own_last y5 x1 x2 x3 x4)), .val (.int (ix (own_dn x1 x2 x3 x4))), .val (G10 y5), .val (.int (1 : Int32))] [(.int (1 : Int32))]))
      refine own_go (fun tt_ kk_ => XS.aload XN23.here hx rfl (hb hby at_223) rfl rfl kk_) ?_
      show Go p.tables e below _ (T23.setTop (mkF m 225 #[.val (.long x1), .second, .val (.long x2), .second, .val (.long x3), .second, .val (.long x4), .second, .val (.long x5), .second, .val (.int x6), .val (.ref b), .val (.int (x6 &&& (7 : Int32))), .val (.long y5), .second, .val (.int (own_last y5 x1 x2 x3 x4)), .val (.int (ix (own_dn x1 x2 x3 x4))), .val (G10 y5), .val (.int (1 : Int32))] [(.ref b), (.int (1 : Int32))]))
      refine own_go (fun tt_ kk_ => XT.lloadN XN23.here hx rfl (hb hby at_225) rfl kk_) ?_
      show Go p.tables e below _ (T23.setTop (mkF m 226 #[.val (.long x1), .second, .val (.long x2), .second, .val (.long x3), .second, .val (.long x4), .second, .val (.long x5), .second, .val (.int x6), .val (.ref b), .val (.int (x6 &&& (7 : Int32))), .val (.long y5), .second, .val (.int (own_last y5 x1 x2 x3 x4)), .val (.int (ix (own_dn x1 x2 x3 x4))), .val (G10 y5), .val (.int (1 : Int32))] [(.long x2), (.ref b), (.int (1 : Int32))]))
      have NV24 : own_Num Z T14.heap (G14 x2) (own_after x2 y5 x1 x2 x3 x4) := by rw [hG14]; exact own_num5 (Ew_all O14 x2)
      obtain ⟨cq25, kq25, q25a, q25b, q25c⟩ := isOf hZ10 e23 M14.2.1
      obtain ⟨v25, _, ⟨T25, L25, k25, n25⟩, -, X25, ⟨Lc25, hQ25, l25, y25, z25⟩, st25⟩ := XN23.virtualBack hx (y := (⟨"com/example/rootlet/rootlet/IdMap", "get", "(J)Ljava/lang/Object;"⟩ : MethodName)) (z := (⟨"com/example/rootlet/rootlet/IdMap", "get", "(J)Ljava/lang/Object;"⟩ : MethodName)) hown10 (mvT hZ10 (hw _ (List.mem_of_getElem? (i := 92) rfl))) (mvT hZ10 (hw _ (List.mem_of_getElem? (i := 93) rfl))) (notFace_of_selects (args := #[]) (mvT hZ10 (hw _ (List.mem_of_getElem? (i := 95) rfl)))) (mvT hZ10 (hw _ (List.mem_of_getElem? (i := 95) rfl))) (mvT hZ10 (hw _ (List.mem_of_getElem? (i := 94) rfl))) (by decide) (backOf (W := 1) (rm_get l Z a0 hw [] b ka va ks14 vs14 G14 nn14 x2 T14.heap n0 M14 RR14 (by omega)) hZ10 (hw _ (List.mem_of_getElem? (i := 96) rfl)) (hw _ (List.mem_of_getElem? (i := 2) rfl)) (by decide) (by decide)) q25a q25c (g := (mkF m 226 #[.val (.long x1), .second, .val (.long x2), .second, .val (.long x3), .second, .val (.long x4), .second, .val (.long x5), .second, .val (.int x6), .val (.ref b), .val (.int (x6 &&& (7 : Int32))), .val (.long y5), .second, .val (.int (own_last y5 x1 x2 x3 x4)), .val (.int (ix (own_dn x1 x2 x3 x4))), .val (G10 y5), .val (.int (1 : Int32))] [(.long x2), (.ref b), (.int (1 : Int32))])) rfl (by rw [hml]; rfl) (Steps.refl _) (argsL := [(.long x2)]) (rest := [(.int (1 : Int32))]) (lenOf pd_10 rfl) rfl (by show 2 * 0 + _ ≤ _; exact Nat.le_of_eq rfl) (hb hby at_226) (fun _ _ => ⟨rfl, e23, (by decide : 11 + 0 ≤ _), (by decide : 132 + 0 ≤ _)⟩)
      dsimp only [Pt.U, Pt.locs, Pt.cells, Pt.slots] at X25 l25 y25 z25 st25 hQ25
      subst y25 z25
      have XN25 : Stand p l e room_1 (s.setVm T10.vm) m #[(.long x1), (.long x2), (.long x3), (.long x4), (.long x5), (.int x6)] below meth c T25 _ 11 132 := X25
      obtain ⟨hv25, N25q, e25⟩ := hQ25
      subst hv25
      have N25 : Fr n0 L25 := by rw [l25]; exact Fr.app N23 N25q
      refine own_go (fun tt_ kk_ => st25.trans kk_) ?_
      show Go p.tables e below _ (T25.setTop (mkF m 229 #[.val (.long x1), .second, .val (.long x2), .second, .val (.long x3), .second, .val (.long x4), .second, .val (.long x5), .second, .val (.int x6), .val (.ref b), .val (.int (x6 &&& (7 : Int32))), .val (.long y5), .second, .val (.int (own_last y5 x1 x2 x3 x4)), .val (.int (ix (own_dn x1 x2 x3 x4))), .val (G10 y5), .val (.int (1 : Int32))] [(G14 x2), (.int (1 : Int32))]))
      obtain ⟨T26, X26, e26, st26⟩ := own_cast XN25 hx hZ10 hown10 (hw _ (List.mem_of_getElem? (i := 75) rfl)) e25 NV24.ins (g := (mkF m 229 #[.val (.long x1), .second, .val (.long x2), .second, .val (.long x3), .second, .val (.long x4), .second, .val (.long x5), .second, .val (.int x6), .val (.ref b), .val (.int (x6 &&& (7 : Int32))), .val (.long y5), .second, .val (.int (own_last y5 x1 x2 x3 x4)), .val (.int (ix (own_dn x1 x2 x3 x4))), .val (G10 y5), .val (.int (1 : Int32))] [(G14 x2), (.int (1 : Int32))])) rfl rfl (hb hby at_229)
      refine own_go (fun tt_ kk_ => st26 tt_ kk_) ?_
      show Go p.tables e below _ (T26.setTop (mkF m 232 #[.val (.long x1), .second, .val (.long x2), .second, .val (.long x3), .second, .val (.long x4), .second, .val (.long x5), .second, .val (.int x6), .val (.ref b), .val (.int (x6 &&& (7 : Int32))), .val (.long y5), .second, .val (.int (own_last y5 x1 x2 x3 x4)), .val (.int (ix (own_dn x1 x2 x3 x4))), .val (G10 y5), .val (.int (1 : Int32))] [(G14 x2), (.int (1 : Int32))]))
      refine own_go (fun tt_ kk_ => XT.lloadN X26.here hx rfl (hb hby at_232) rfl kk_) ?_
      show Go p.tables e below _ (T26.setTop (mkF m 233 #[.val (.long x1), .second, .val (.long x2), .second, .val (.long x3), .second, .val (.long x4), .second, .val (.long x5), .second, .val (.int x6), .val (.ref b), .val (.int (x6 &&& (7 : Int32))), .val (.long y5), .second, .val (.int (own_last y5 x1 x2 x3 x4)), .val (.int (ix (own_dn x1 x2 x3 x4))), .val (G10 y5), .val (.int (1 : Int32))] [(.long x2), (G14 x2), (.int (1 : Int32))]))
      refine own_go (fun tt_ kk_ => XT.lload X26.here hx rfl (hb hby at_233) rfl kk_) ?_
      show Go p.tables e below _ (T26.setTop (mkF m 235 #[.val (.long x1), .second, .val (.long x2), .second, .val (.long x3), .second, .val (.long x4), .second, .val (.long x5), .second, .val (.int x6), .val (.ref b), .val (.int (x6 &&& (7 : Int32))), .val (.long y5), .second, .val (.int (own_last y5 x1 x2 x3 x4)), .val (.int (ix (own_dn x1 x2 x3 x4))), .val (G10 y5), .val (.int (1 : Int32))] [(.long y5), (.long x2), (G14 x2), (.int (1 : Int32))]))
      refine own_go (fun tt_ kk_ => XT.lloadN X26.here hx rfl (hb hby at_235) rfl kk_) ?_
      show Go p.tables e below _ (T26.setTop (mkF m 236 #[.val (.long x1), .second, .val (.long x2), .second, .val (.long x3), .second, .val (.long x4), .second, .val (.long x5), .second, .val (.int x6), .val (.ref b), .val (.int (x6 &&& (7 : Int32))), .val (.long y5), .second, .val (.int (own_last y5 x1 x2 x3 x4)), .val (.int (ix (own_dn x1 x2 x3 x4))), .val (G10 y5), .val (.int (1 : Int32))] [(.long x1), (.long y5), (.long x2), (G14 x2), (.int (1 : Int32))]))
      refine own_go (fun tt_ kk_ => XT.lloadN X26.here hx rfl (hb hby at_236) rfl kk_) ?_
      show Go p.tables e below _ (T26.setTop (mkF m 237 #[.val (.long x1), .second, .val (.long x2), .second, .val (.long x3), .second, .val (.long x4), .second, .val (.long x5), .second, .val (.int x6), .val (.ref b), .val (.int (x6 &&& (7 : Int32))), .val (.long y5), .second, .val (.int (own_last y5 x1 x2 x3 x4)), .val (.int (ix (own_dn x1 x2 x3 x4))), .val (G10 y5), .val (.int (1 : Int32))] [(.long x2), (.long x1), (.long y5), (.long x2), (G14 x2), (.int (1 : Int32))]))
      refine own_go (fun tt_ kk_ => XT.lload X26.here hx rfl (hb hby at_237) rfl kk_) ?_
      show Go p.tables e below _ (T26.setTop (mkF m 239 #[.val (.long x1), .second, .val (.long x2), .second, .val (.long x3), .second, .val (.long x4), .second, .val (.long x5), .second, .val (.int x6), .val (.ref b), .val (.int (x6 &&& (7 : Int32))), .val (.long y5), .second, .val (.int (own_last y5 x1 x2 x3 x4)), .val (.int (ix (own_dn x1 x2 x3 x4))), .val (G10 y5), .val (.int (1 : Int32))] [(.long x3), (.long x2), (.long x1), (.long y5), (.long x2), (G14 x2), (.int (1 : Int32))]))
      refine own_go (fun tt_ kk_ => XT.lload X26.here hx rfl (hb hby at_239) rfl kk_) ?_
      show Go p.tables e below _ (T26.setTop (mkF m 241 #[.val (.long x1), .second, .val (.long x2), .second, .val (.long x3), .second, .val (.long x4), .second, .val (.long x5), .second, .val (.int x6), .val (.ref b), .val (.int (x6 &&& (7 : Int32))), .val (.long y5), .second, .val (.int (own_last y5 x1 x2 x3 x4)), .val (.int (ix (own_dn x1 x2 x3 x4))), .val (G10 y5), .val (.int (1 : Int32))] [(.long x4), (.long x3), (.long x2), (.long x1), (.long y5), (.long x2), (G14 x2), (.int (1 : Int32))]))
      obtain ⟨v27, _, ⟨T27, L27, k27, n27⟩, -, X27, ⟨Lc27, hQ27, l27, y27, z27⟩, st27⟩ := Jvm.LawKit.callS X26 hx (y := (⟨"com/example/rootlet/rootlet/IdMapRemovePinLaw", "after", "(JJJJJJ)I"⟩ : MethodName)) hown10 (mvT hZ10 (hw _ (List.mem_of_getElem? (i := 97) rfl))) (mvT hZ10 (hw _ (List.mem_of_getElem? (i := 98) rfl))) (mvT hZ10 (hw _ (List.mem_of_getElem? (i := 61) rfl))) (mvT hZ10 (hw _ (List.mem_of_getElem? (i := 99) rfl))) (by decide) (backOf (W := 2) (rm_after l Z a0 hw [] x2 y5 x1 x2 x3 x4 T14.heap n0) hZ10 (hw _ (List.mem_of_getElem? (i := 99) rfl)) (hw _ (List.mem_of_getElem? (i := 61) rfl)) (by decide) (by decide)) (g := (mkF m 241 #[.val (.long x1), .second, .val (.long x2), .second, .val (.long x3), .second, .val (.long x4), .second, .val (.long x5), .second, .val (.int x6), .val (.ref b), .val (.int (x6 &&& (7 : Int32))), .val (.long y5), .second, .val (.int (own_last y5 x1 x2 x3 x4)), .val (.int (ix (own_dn x1 x2 x3 x4))), .val (G10 y5), .val (.int (1 : Int32))] [(.long x4), (.long x3), (.long x2), (.long x1), (.long y5), (.long x2), (G14 x2), (.int (1 : Int32))])) rfl (by rw [hml]; rfl) (argsL := [(.long x2), (.long y5), (.long x1), (.long x2), (.long x3), (.long x4)]) (rest := [(G14 x2), (.int (1 : Int32))]) (lenOf pd_12 rfl) rfl (by show 2 * 0 + (List.map (fun v => v.category) [(G14 x2), (.int (1 : Int32))]).sum ≤ _; simp only [List.map_cons, List.map_nil, List.sum_cons, List.sum_nil, XT.cat1 NV24.isRef]; exact Nat.le_of_eq rfl) (hb hby at_241) (fun _ _ => ⟨rfl, e26, (by decide : 11 + 0 ≤ _), (by decide : 132 + 0 ≤ _)⟩)
      dsimp only [Pt.U, Pt.locs, Pt.cells, Pt.slots] at X27 l27 y27 z27 st27 hQ27
      subst y27 z27
      have XN27 : Stand p l e room_1 (s.setVm T10.vm) m #[(.long x1), (.long x2), (.long x3), (.long x4), (.long x5), (.int x6)] below meth c T27 _ 11 132 := X27
      obtain ⟨hv27, N27q, e27⟩ := hQ27
      subst hv27
      have N27 : Fr n0 L27 := by rw [l27]; exact Fr.app N25 N27q
      refine own_go (fun tt_ kk_ => st27 tt_ kk_) ?_
      show Go p.tables e below _ (T27.setTop (mkF m 244 #[.val (.long x1), .second, .val (.long x2), .second, .val (.long x3), .second, .val (.long x4), .second, .val (.long x5), .second, .val (.int x6), .val (.ref b), .val (.int (x6 &&& (7 : Int32))), .val (.long y5), .second, .val (.int (own_last y5 x1 x2 x3 x4)), .val (.int (ix (own_dn x1 x2 x3 x4))), .val (G10 y5), .val (.int (1 : Int32))] [(.int (own_after x2 y5 x1 x2 x3 x4)), (G14 x2), (.int (1 : Int32))]))
      obtain ⟨v28, _, ⟨T28, L28, k28, n28⟩, -, X28, ⟨Lc28, hQ28, l28, y28, z28⟩, st28⟩ := Jvm.LawKit.callS XN27 hx (y := (⟨"com/example/rootlet/rootlet/IdMapRemovePinLaw", "same", "(Ljava/lang/Integer;I)Z"⟩ : MethodName)) hown10 (mvT hZ10 (hw _ (List.mem_of_getElem? (i := 77) rfl))) (mvT hZ10 (hw _ (List.mem_of_getElem? (i := 78) rfl))) (mvT hZ10 (hw _ (List.mem_of_getElem? (i := 61) rfl))) (mvT hZ10 (hw _ (List.mem_of_getElem? (i := 79) rfl))) (by decide) (backOf (W := 1) (rm_same l Z a0 hw [] (G14 x2) (own_after x2 y5 x1 x2 x3 x4) (own_after x2 y5 x1 x2 x3 x4) T14.heap n0 NV24) hZ10 (hw _ (List.mem_of_getElem? (i := 79) rfl)) (hw _ (List.mem_of_getElem? (i := 61) rfl)) (by decide) (by decide)) (g := (mkF m 244 #[.val (.long x1), .second, .val (.long x2), .second, .val (.long x3), .second, .val (.long x4), .second, .val (.long x5), .second, .val (.int x6), .val (.ref b), .val (.int (x6 &&& (7 : Int32))), .val (.long y5), .second, .val (.int (own_last y5 x1 x2 x3 x4)), .val (.int (ix (own_dn x1 x2 x3 x4))), .val (G10 y5), .val (.int (1 : Int32))] [(.int (own_after x2 y5 x1 x2 x3 x4)), (G14 x2), (.int (1 : Int32))])) rfl (by rw [hml]; rfl) (argsL := [(G14 x2), (.int (own_after x2 y5 x1 x2 x3 x4))]) (rest := [(.int (1 : Int32))]) (lenOf pd_11 rfl) rfl (by show 2 * 0 + _ ≤ _; exact Nat.le_of_eq rfl) (hb hby at_244) (fun _ _ => ⟨rfl, e27, (by decide : 11 + 0 ≤ _), (by decide : 132 + 0 ≤ _)⟩)
      dsimp only [Pt.U, Pt.locs, Pt.cells, Pt.slots] at X28 l28 y28 z28 st28 hQ28
      subst y28 z28
      have XN28 : Stand p l e room_1 (s.setVm T10.vm) m #[(.long x1), (.long x2), (.long x3), (.long x4), (.long x5), (.int x6)] below meth c T28 _ 11 132 := X28
      obtain ⟨hv28, N28q, e28⟩ := hQ28
      rw [show ((.int (if (own_after x2 y5 x1 x2 x3 x4) = (own_after x2 y5 x1 x2 x3 x4) then 1 else 0)) : Value) = (.int (1 : Int32)) from congrArg Value.int (if_pos rfl)] at hv28
      subst hv28
      have N28 : Fr n0 L28 := by rw [l28]; exact Fr.app N27 N28q
      refine own_go (fun tt_ kk_ => st28 tt_ kk_) ?_
      show Go p.tables e below _ (T28.setTop (mkF m 247 #[.val (.long x1), .second, .val (.long x2), .second, .val (.long x3), .second, .val (.long x4), .second, .val (.long x5), .second, .val (.int x6), .val (.ref b), .val (.int (x6 &&& (7 : Int32))), .val (.long y5), .second, .val (.int (own_last y5 x1 x2 x3 x4)), .val (.int (ix (own_dn x1 x2 x3 x4))), .val (G10 y5), .val (.int (1 : Int32))] [(.int (1 : Int32)), (.int (1 : Int32))]))
      refine own_go (fun tt_ kk_ => XS.iand XN28.here hx rfl (hb hby at_247) rfl kk_) ?_
      show Go p.tables e below _ (T28.setTop (mkF m 248 #[.val (.long x1), .second, .val (.long x2), .second, .val (.long x3), .second, .val (.long x4), .second, .val (.long x5), .second, .val (.int x6), .val (.ref b), .val (.int (x6 &&& (7 : Int32))), .val (.long y5), .second, .val (.int (own_last y5 x1 x2 x3 x4)), .val (.int (ix (own_dn x1 x2 x3 x4))), .val (G10 y5), .val (.int (1 : Int32))] [(.int (1 : Int32))]))
      refine own_go (fun tt_ kk_ => XS.istore XN28.here hx rfl (hb hby at_248) rfl (l' := #[.val (.long x1), .second, .val (.long x2), .second, .val (.long x3), .second, .val (.long x4), .second, .val (.long x5), .second, .val (.int x6), .val (.ref b), .val (.int (x6 &&& (7 : Int32))), .val (.long y5), .second, .val (.int (own_last y5 x1 x2 x3 x4)), .val (.int (ix (own_dn x1 x2 x3 x4))), .val (G10 y5), .val (.int (1 : Int32))]) rfl kk_) ?_
      show Go p.tables e below _ (T28.setTop (mkF m 250 #[.val (.long x1), .second, .val (.long x2), .second, .val (.long x3), .second, .val (.long x4), .second, .val (.long x5), .second, .val (.int x6), .val (.ref b), .val (.int (x6 &&& (7 : Int32))), .val (.long y5), .second, .val (.int (own_last y5 x1 x2 x3 x4)), .val (.int (ix (own_dn x1 x2 x3 x4))), .val (G10 y5), .val (.int (1 : Int32))] []))
      refine own_go (fun tt_ kk_ => XS.iload XN28.here hx rfl (hb hby at_250) rfl kk_) ?_
      show Go p.tables e below _ (T28.setTop (mkF m 252 #[.val (.long x1), .second, .val (.long x2), .second, .val (.long x3), .second, .val (.long x4), .second, .val (.long x5), .second, .val (.int x6), .val (.ref b), .val (.int (x6 &&& (7 : Int32))), .val (.long y5), .second, .val (.int (own_last y5 x1 x2 x3 x4)), .val (.int (ix (own_dn x1 x2 x3 x4))), .val (G10 y5), .val (.int (1 : Int32))] [(.int (1 : Int32))]))
      refine own_go (fun tt_ kk_ => XS.aload XN28.here hx rfl (hb hby at_252) rfl rfl kk_) ?_
      show Go p.tables e below _ (T28.setTop (mkF m 254 #[.val (.long x1), .second, .val (.long x2), .second, .val (.long x3), .second, .val (.long x4), .second, .val (.long x5), .second, .val (.int x6), .val (.ref b), .val (.int (x6 &&& (7 : Int32))), .val (.long y5), .second, .val (.int (own_last y5 x1 x2 x3 x4)), .val (.int (ix (own_dn x1 x2 x3 x4))), .val (G10 y5), .val (.int (1 : Int32))] [(.ref b), (.int (1 : Int32))]))
      refine own_go (fun tt_ kk_ => XT.lload XN28.here hx rfl (hb hby at_254) rfl kk_) ?_
      show Go p.tables e below _ (T28.setTop (mkF m 256 #[.val (.long x1), .second, .val (.long x2), .second, .val (.long x3), .second, .val (.long x4), .second, .val (.long x5), .second, .val (.int x6), .val (.ref b), .val (.int (x6 &&& (7 : Int32))), .val (.long y5), .second, .val (.int (own_last y5 x1 x2 x3 x4)), .val (.int (ix (own_dn x1 x2 x3 x4))), .val (G10 y5), .val (.int (1 : Int32))] [(.long x3), (.ref b), (.int (1 : Int32))]))
      have NV29 : own_Num Z T14.heap (G14 x3) (own_after x3 y5 x1 x2 x3 x4) := by rw [hG14]; exact own_num5 (Ew_all O14 x3)
      obtain ⟨cq30, kq30, q30a, q30b, q30c⟩ := isOf hZ10 e28 M14.2.1
      obtain ⟨v30, _, ⟨T30, L30, k30, n30⟩, -, X30, ⟨Lc30, hQ30, l30, y30, z30⟩, st30⟩ := XN28.virtualBack hx (y := (⟨"com/example/rootlet/rootlet/IdMap", "get", "(J)Ljava/lang/Object;"⟩ : MethodName)) (z := (⟨"com/example/rootlet/rootlet/IdMap", "get", "(J)Ljava/lang/Object;"⟩ : MethodName)) hown10 (mvT hZ10 (hw _ (List.mem_of_getElem? (i := 92) rfl))) (mvT hZ10 (hw _ (List.mem_of_getElem? (i := 93) rfl))) (notFace_of_selects (args := #[]) (mvT hZ10 (hw _ (List.mem_of_getElem? (i := 95) rfl)))) (mvT hZ10 (hw _ (List.mem_of_getElem? (i := 95) rfl))) (mvT hZ10 (hw _ (List.mem_of_getElem? (i := 94) rfl))) (by decide) (backOf (W := 1) (rm_get l Z a0 hw [] b ka va ks14 vs14 G14 nn14 x3 T14.heap n0 M14 RR14 (by omega)) hZ10 (hw _ (List.mem_of_getElem? (i := 96) rfl)) (hw _ (List.mem_of_getElem? (i := 2) rfl)) (by decide) (by decide)) q30a q30c (g := (mkF m 256 #[.val (.long x1), .second, .val (.long x2), .second, .val (.long x3), .second, .val (.long x4), .second, .val (.long x5), .second, .val (.int x6), .val (.ref b), .val (.int (x6 &&& (7 : Int32))), .val (.long y5), .second, .val (.int (own_last y5 x1 x2 x3 x4)), .val (.int (ix (own_dn x1 x2 x3 x4))), .val (G10 y5), .val (.int (1 : Int32))] [(.long x3), (.ref b), (.int (1 : Int32))])) rfl (by rw [hml]; rfl) (Steps.refl _) (argsL := [(.long x3)]) (rest := [(.int (1 : Int32))]) (lenOf pd_10 rfl) rfl (by show 2 * 0 + _ ≤ _; exact Nat.le_of_eq rfl) (hb hby at_256) (fun _ _ => ⟨rfl, e28, (by decide : 11 + 0 ≤ _), (by decide : 132 + 0 ≤ _)⟩)
      dsimp only [Pt.U, Pt.locs, Pt.cells, Pt.slots] at X30 l30 y30 z30 st30 hQ30
      subst y30 z30
      have XN30 : Stand p l e room_1 (s.setVm T10.vm) m #[(.long x1), (.long x2), (.long x3), (.long x4), (.long x5), (.int x6)] below meth c T30 _ 11 132 := X30
      obtain ⟨hv30, N30q, e30⟩ := hQ30
      subst hv30
      have N30 : Fr n0 L30 := by rw [l30]; exact Fr.app N28 N30q
      refine own_go (fun tt_ kk_ => st30.trans kk_) ?_
      show Go p.tables e below _ (T30.setTop (mkF m 259 #[.val (.long x1), .second, .val (.long x2), .second, .val (.long x3), .second, .val (.long x4), .second, .val (.long x5), .second, .val (.int x6), .val (.ref b), .val (.int (x6 &&& (7 : Int32))), .val (.long y5), .second, .val (.int (own_last y5 x1 x2 x3 x4)), .val (.int (ix (own_dn x1 x2 x3 x4))), .val (G10 y5), .val (.int (1 : Int32))] [(G14 x3), (.int (1 : Int32))]))
      obtain ⟨T31, X31, e31, st31⟩ := own_cast XN30 hx hZ10 hown10 (hw _ (List.mem_of_getElem? (i := 75) rfl)) e30 NV29.ins (g := (mkF m 259 #[.val (.long x1), .second, .val (.long x2), .second, .val (.long x3), .second, .val (.long x4), .second, .val (.long x5), .second, .val (.int x6), .val (.ref b), .val (.int (x6 &&& (7 : Int32))), .val (.long y5), .second, .val (.int (own_last y5 x1 x2 x3 x4)), .val (.int (ix (own_dn x1 x2 x3 x4))), .val (G10 y5), .val (.int (1 : Int32))] [(G14 x3), (.int (1 : Int32))])) rfl rfl (hb hby at_259)
      refine own_go (fun tt_ kk_ => st31 tt_ kk_) ?_
      show Go p.tables e below _ (T31.setTop (mkF m 262 #[.val (.long x1), .second, .val (.long x2), .second, .val (.long x3), .second, .val (.long x4), .second, .val (.long x5), .second, .val (.int x6), .val (.ref b), .val (.int (x6 &&& (7 : Int32))), .val (.long y5), .second, .val (.int (own_last y5 x1 x2 x3 x4)), .val (.int (ix (own_dn x1 x2 x3 x4))), .val (G10 y5), .val (.int (1 : Int32))] [(G14 x3), (.int (1 : Int32))]))
      refine own_go (fun tt_ kk_ => XT.lload X31.here hx rfl (hb hby at_262) rfl kk_) ?_
      show Go p.tables e below _ (T31.setTop (mkF m 264 #[.val (.long x1), .second, .val (.long x2), .second, .val (.long x3), .second, .val (.long x4), .second, .val (.long x5), .second, .val (.int x6), .val (.ref b), .val (.int (x6 &&& (7 : Int32))), .val (.long y5), .second, .val (.int (own_last y5 x1 x2 x3 x4)), .val (.int (ix (own_dn x1 x2 x3 x4))), .val (G10 y5), .val (.int (1 : Int32))] [(.long x3), (G14 x3), (.int (1 : Int32))]))
      refine own_go (fun tt_ kk_ => XT.lload X31.here hx rfl (hb hby at_264) rfl kk_) ?_
      show Go p.tables e below _ (T31.setTop (mkF m 266 #[.val (.long x1), .second, .val (.long x2), .second, .val (.long x3), .second, .val (.long x4), .second, .val (.long x5), .second, .val (.int x6), .val (.ref b), .val (.int (x6 &&& (7 : Int32))), .val (.long y5), .second, .val (.int (own_last y5 x1 x2 x3 x4)), .val (.int (ix (own_dn x1 x2 x3 x4))), .val (G10 y5), .val (.int (1 : Int32))] [(.long y5), (.long x3), (G14 x3), (.int (1 : Int32))]))
      refine own_go (fun tt_ kk_ => XT.lloadN X31.here hx rfl (hb hby at_266) rfl kk_) ?_
      show Go p.tables e below _ (T31.setTop (mkF m 267 #[.val (.long x1), .second, .val (.long x2), .second, .val (.long x3), .second, .val (.long x4), .second, .val (.long x5), .second, .val (.int x6), .val (.ref b), .val (.int (x6 &&& (7 : Int32))), .val (.long y5), .second, .val (.int (own_last y5 x1 x2 x3 x4)), .val (.int (ix (own_dn x1 x2 x3 x4))), .val (G10 y5), .val (.int (1 : Int32))] [(.long x1), (.long y5), (.long x3), (G14 x3), (.int (1 : Int32))]))
      refine own_go (fun tt_ kk_ => XT.lloadN X31.here hx rfl (hb hby at_267) rfl kk_) ?_
      show Go p.tables e below _ (T31.setTop (mkF m 268 #[.val (.long x1), .second, .val (.long x2), .second, .val (.long x3), .second, .val (.long x4), .second, .val (.long x5), .second, .val (.int x6), .val (.ref b), .val (.int (x6 &&& (7 : Int32))), .val (.long y5), .second, .val (.int (own_last y5 x1 x2 x3 x4)), .val (.int (ix (own_dn x1 x2 x3 x4))), .val (G10 y5), .val (.int (1 : Int32))] [(.long x2), (.long x1), (.long y5), (.long x3), (G14 x3), (.int (1 : Int32))]))
      refine own_go (fun tt_ kk_ => XT.lload X31.here hx rfl (hb hby at_268) rfl kk_) ?_
      show Go p.tables e below _ (T31.setTop (mkF m 270 #[.val (.long x1), .second, .val (.long x2), .second, .val (.long x3), .second, .val (.long x4), .second, .val (.long x5), .second, .val (.int x6), .val (.ref b), .val (.int (x6 &&& (7 : Int32))), .val (.long y5), .second, .val (.int (own_last y5 x1 x2 x3 x4)), .val (.int (ix (own_dn x1 x2 x3 x4))), .val (G10 y5), .val (.int (1 : Int32))] [(.long x3), (.long x2), (.long x1), (.long y5), (.long x3), (G14 x3), (.int (1 : Int32))]))
      refine own_go (fun tt_ kk_ => XT.lload X31.here hx rfl (hb hby at_270) rfl kk_) ?_
      show Go p.tables e below _ (T31.setTop (mkF m 272 #[.val (.long x1), .second, .val (.long x2), .second, .val (.long x3), .second, .val (.long x4), .second, .val (.long x5), .second, .val (.int x6), .val (.ref b), .val (.int (x6 &&& (7 : Int32))), .val (.long y5), .second, .val (.int (own_last y5 x1 x2 x3 x4)), .val (.int (ix (own_dn x1 x2 x3 x4))), .val (G10 y5), .val (.int (1 : Int32))] [(.long x4), (.long x3), (.long x2), (.long x1), (.long y5), (.long x3), (G14 x3), (.int (1 : Int32))]))
      obtain ⟨v32, _, ⟨T32, L32, k32, n32⟩, -, X32, ⟨Lc32, hQ32, l32, y32, z32⟩, st32⟩ := Jvm.LawKit.callS X31 hx (y := (⟨"com/example/rootlet/rootlet/IdMapRemovePinLaw", "after", "(JJJJJJ)I"⟩ : MethodName)) hown10 (mvT hZ10 (hw _ (List.mem_of_getElem? (i := 97) rfl))) (mvT hZ10 (hw _ (List.mem_of_getElem? (i := 98) rfl))) (mvT hZ10 (hw _ (List.mem_of_getElem? (i := 61) rfl))) (mvT hZ10 (hw _ (List.mem_of_getElem? (i := 99) rfl))) (by decide) (backOf (W := 2) (rm_after l Z a0 hw [] x3 y5 x1 x2 x3 x4 T14.heap n0) hZ10 (hw _ (List.mem_of_getElem? (i := 99) rfl)) (hw _ (List.mem_of_getElem? (i := 61) rfl)) (by decide) (by decide)) (g := (mkF m 272 #[.val (.long x1), .second, .val (.long x2), .second, .val (.long x3), .second, .val (.long x4), .second, .val (.long x5), .second, .val (.int x6), .val (.ref b), .val (.int (x6 &&& (7 : Int32))), .val (.long y5), .second, .val (.int (own_last y5 x1 x2 x3 x4)), .val (.int (ix (own_dn x1 x2 x3 x4))), .val (G10 y5), .val (.int (1 : Int32))] [(.long x4), (.long x3), (.long x2), (.long x1), (.long y5), (.long x3), (G14 x3), (.int (1 : Int32))])) rfl (by rw [hml]; rfl) (argsL := [(.long x3), (.long y5), (.long x1), (.long x2), (.long x3), (.long x4)]) (rest := [(G14 x3), (.int (1 : Int32))]) (lenOf pd_12 rfl) rfl (by show 2 * 0 + (List.map (fun v => v.category) [(G14 x3), (.int (1 : Int32))]).sum ≤ _; simp only [List.map_cons, List.map_nil, List.sum_cons, List.sum_nil, XT.cat1 NV29.isRef]; exact Nat.le_of_eq rfl) (hb hby at_272) (fun _ _ => ⟨rfl, e31, (by decide : 11 + 0 ≤ _), (by decide : 132 + 0 ≤ _)⟩)
      dsimp only [Pt.U, Pt.locs, Pt.cells, Pt.slots] at X32 l32 y32 z32 st32 hQ32
      subst y32 z32
      have XN32 : Stand p l e room_1 (s.setVm T10.vm) m #[(.long x1), (.long x2), (.long x3), (.long x4), (.long x5), (.int x6)] below meth c T32 _ 11 132 := X32
      obtain ⟨hv32, N32q, e32⟩ := hQ32
      subst hv32
      have N32 : Fr n0 L32 := by rw [l32]; exact Fr.app N30 N32q
      refine own_go (fun tt_ kk_ => st32 tt_ kk_) ?_
      show Go p.tables e below _ (T32.setTop (mkF m 275 #[.val (.long x1), .second, .val (.long x2), .second, .val (.long x3), .second, .val (.long x4), .second, .val (.long x5), .second, .val (.int x6), .val (.ref b), .val (.int (x6 &&& (7 : Int32))), .val (.long y5), .second, .val (.int (own_last y5 x1 x2 x3 x4)), .val (.int (ix (own_dn x1 x2 x3 x4))), .val (G10 y5), .val (.int (1 : Int32))] [(.int (own_after x3 y5 x1 x2 x3 x4)), (G14 x3), (.int (1 : Int32))]))
      obtain ⟨v33, _, ⟨T33, L33, k33, n33⟩, -, X33, ⟨Lc33, hQ33, l33, y33, z33⟩, st33⟩ := Jvm.LawKit.callS XN32 hx (y := (⟨"com/example/rootlet/rootlet/IdMapRemovePinLaw", "same", "(Ljava/lang/Integer;I)Z"⟩ : MethodName)) hown10 (mvT hZ10 (hw _ (List.mem_of_getElem? (i := 77) rfl))) (mvT hZ10 (hw _ (List.mem_of_getElem? (i := 78) rfl))) (mvT hZ10 (hw _ (List.mem_of_getElem? (i := 61) rfl))) (mvT hZ10 (hw _ (List.mem_of_getElem? (i := 79) rfl))) (by decide) (backOf (W := 1) (rm_same l Z a0 hw [] (G14 x3) (own_after x3 y5 x1 x2 x3 x4) (own_after x3 y5 x1 x2 x3 x4) T14.heap n0 NV29) hZ10 (hw _ (List.mem_of_getElem? (i := 79) rfl)) (hw _ (List.mem_of_getElem? (i := 61) rfl)) (by decide) (by decide)) (g := (mkF m 275 #[.val (.long x1), .second, .val (.long x2), .second, .val (.long x3), .second, .val (.long x4), .second, .val (.long x5), .second, .val (.int x6), .val (.ref b), .val (.int (x6 &&& (7 : Int32))), .val (.long y5), .second, .val (.int (own_last y5 x1 x2 x3 x4)), .val (.int (ix (own_dn x1 x2 x3 x4))), .val (G10 y5), .val (.int (1 : Int32))] [(.int (own_after x3 y5 x1 x2 x3 x4)), (G14 x3), (.int (1 : Int32))])) rfl (by rw [hml]; rfl) (argsL := [(G14 x3), (.int (own_after x3 y5 x1 x2 x3 x4))]) (rest := [(.int (1 : Int32))]) (lenOf pd_11 rfl) rfl (by show 2 * 0 + _ ≤ _; exact Nat.le_of_eq rfl) (hb hby at_275) (fun _ _ => ⟨rfl, e32, (by decide : 11 + 0 ≤ _), (by decide : 132 + 0 ≤ _)⟩)
      dsimp only [Pt.U, Pt.locs, Pt.cells, Pt.slots] at X33 l33 y33 z33 st33 hQ33
      subst y33 z33
      have XN33 : Stand p l e room_1 (s.setVm T10.vm) m #[(.long x1), (.long x2), (.long x3), (.long x4), (.long x5), (.int x6)] below meth c T33 _ 11 132 := X33
      obtain ⟨hv33, N33q, e33⟩ := hQ33
      rw [show ((.int (if (own_after x3 y5 x1 x2 x3 x4) = (own_after x3 y5 x1 x2 x3 x4) then 1 else 0)) : Value) = (.int (1 : Int32)) from congrArg Value.int (if_pos rfl)] at hv33
      subst hv33
      have N33 : Fr n0 L33 := by rw [l33]; exact Fr.app N32 N33q
      refine own_go (fun tt_ kk_ => st33 tt_ kk_) ?_
      show Go p.tables e below _ (T33.setTop (mkF m 278 #[.val (.long x1), .second, .val (.long x2), .second, .val (.long x3), .second, .val (.long x4), .second, .val (.long x5), .second, .val (.int x6), .val (.ref b), .val (.int (x6 &&& (7 : Int32))), .val (.long y5), .second, .val (.int (own_last y5 x1 x2 x3 x4)), .val (.int (ix (own_dn x1 x2 x3 x4))), .val (G10 y5), .val (.int (1 : Int32))] [(.int (1 : Int32)), (.int (1 : Int32))]))
      refine own_go (fun tt_ kk_ => XS.iand XN33.here hx rfl (hb hby at_278) rfl kk_) ?_
      show Go p.tables e below _ (T33.setTop (mkF m 279 #[.val (.long x1), .second, .val (.long x2), .second, .val (.long x3), .second, .val (.long x4), .second, .val (.long x5), .second, .val (.int x6), .val (.ref b), .val (.int (x6 &&& (7 : Int32))), .val (.long y5), .second, .val (.int (own_last y5 x1 x2 x3 x4)), .val (.int (ix (own_dn x1 x2 x3 x4))), .val (G10 y5), .val (.int (1 : Int32))] [(.int (1 : Int32))]))
      refine own_go (fun tt_ kk_ => XS.istore XN33.here hx rfl (hb hby at_279) rfl (l' := #[.val (.long x1), .second, .val (.long x2), .second, .val (.long x3), .second, .val (.long x4), .second, .val (.long x5), .second, .val (.int x6), .val (.ref b), .val (.int (x6 &&& (7 : Int32))), .val (.long y5), .second, .val (.int (own_last y5 x1 x2 x3 x4)), .val (.int (ix (own_dn x1 x2 x3 x4))), .val (G10 y5), .val (.int (1 : Int32))]) rfl kk_) ?_
      show Go p.tables e below _ (T33.setTop (mkF m 281 #[.val (.long x1), .second, .val (.long x2), .second, .val (.long x3), .second, .val (.long x4), .second, .val (.long x5), .second, .val (.int x6), .val (.ref b), .val (.int (x6 &&& (7 : Int32))), .val (.long y5), .second, .val (.int (own_last y5 x1 x2 x3 x4)), .val (.int (ix (own_dn x1 x2 x3 x4))), .val (G10 y5), .val (.int (1 : Int32))] []))
      refine own_go (fun tt_ kk_ => XS.iload XN33.here hx rfl (hb hby at_281) rfl kk_) ?_
      show Go p.tables e below _ (T33.setTop (mkF m 283 #[.val (.long x1), .second, .val (.long x2), .second, .val (.long x3), .second, .val (.long x4), .second, .val (.long x5), .second, .val (.int x6), .val (.ref b), .val (.int (x6 &&& (7 : Int32))), .val (.long y5), .second, .val (.int (own_last y5 x1 x2 x3 x4)), .val (.int (ix (own_dn x1 x2 x3 x4))), .val (G10 y5), .val (.int (1 : Int32))] [(.int (1 : Int32))]))
      refine own_go (fun tt_ kk_ => XS.aload XN33.here hx rfl (hb hby at_283) rfl rfl kk_) ?_
      show Go p.tables e below _ (T33.setTop (mkF m 285 #[.val (.long x1), .second, .val (.long x2), .second, .val (.long x3), .second, .val (.long x4), .second, .val (.long x5), .second, .val (.int x6), .val (.ref b), .val (.int (x6 &&& (7 : Int32))), .val (.long y5), .second, .val (.int (own_last y5 x1 x2 x3 x4)), .val (.int (ix (own_dn x1 x2 x3 x4))), .val (G10 y5), .val (.int (1 : Int32))] [(.ref b), (.int (1 : Int32))]))
      refine own_go (fun tt_ kk_ => XT.lload XN33.here hx rfl (hb hby at_285) rfl kk_) ?_
      show Go p.tables e below _ (T33.setTop (mkF m 287 #[.val (.long x1), .second, .val (.long x2), .second, .val (.long x3), .second, .val (.long x4), .second, .val (.long x5), .second, .val (.int x6), .val (.ref b), .val (.int (x6 &&& (7 : Int32))), .val (.long y5), .second, .val (.int (own_last y5 x1 x2 x3 x4)), .val (.int (ix (own_dn x1 x2 x3 x4))), .val (G10 y5), .val (.int (1 : Int32))] [(.long x4), (.ref b), (.int (1 : Int32))]))
      have NV34 : own_Num Z T14.heap (G14 x4) (own_after x4 y5 x1 x2 x3 x4) := by rw [hG14]; exact own_num5 (Ew_all O14 x4)
      obtain ⟨cq35, kq35, q35a, q35b, q35c⟩ := isOf hZ10 e33 M14.2.1
      obtain ⟨v35, _, ⟨T35, L35, k35, n35⟩, -, X35, ⟨Lc35, hQ35, l35, y35, z35⟩, st35⟩ := XN33.virtualBack hx (y := (⟨"com/example/rootlet/rootlet/IdMap", "get", "(J)Ljava/lang/Object;"⟩ : MethodName)) (z := (⟨"com/example/rootlet/rootlet/IdMap", "get", "(J)Ljava/lang/Object;"⟩ : MethodName)) hown10 (mvT hZ10 (hw _ (List.mem_of_getElem? (i := 92) rfl))) (mvT hZ10 (hw _ (List.mem_of_getElem? (i := 93) rfl))) (notFace_of_selects (args := #[]) (mvT hZ10 (hw _ (List.mem_of_getElem? (i := 95) rfl)))) (mvT hZ10 (hw _ (List.mem_of_getElem? (i := 95) rfl))) (mvT hZ10 (hw _ (List.mem_of_getElem? (i := 94) rfl))) (by decide) (backOf (W := 1) (rm_get l Z a0 hw [] b ka va ks14 vs14 G14 nn14 x4 T14.heap n0 M14 RR14 (by omega)) hZ10 (hw _ (List.mem_of_getElem? (i := 96) rfl)) (hw _ (List.mem_of_getElem? (i := 2) rfl)) (by decide) (by decide)) q35a q35c (g := (mkF m 287 #[.val (.long x1), .second, .val (.long x2), .second, .val (.long x3), .second, .val (.long x4), .second, .val (.long x5), .second, .val (.int x6), .val (.ref b), .val (.int (x6 &&& (7 : Int32))), .val (.long y5), .second, .val (.int (own_last y5 x1 x2 x3 x4)), .val (.int (ix (own_dn x1 x2 x3 x4))), .val (G10 y5), .val (.int (1 : Int32))] [(.long x4), (.ref b), (.int (1 : Int32))])) rfl (by rw [hml]; rfl) (Steps.refl _) (argsL := [(.long x4)]) (rest := [(.int (1 : Int32))]) (lenOf pd_10 rfl) rfl (by show 2 * 0 + _ ≤ _; exact Nat.le_of_eq rfl) (hb hby at_287) (fun _ _ => ⟨rfl, e33, (by decide : 11 + 0 ≤ _), (by decide : 132 + 0 ≤ _)⟩)
      dsimp only [Pt.U, Pt.locs, Pt.cells, Pt.slots] at X35 l35 y35 z35 st35 hQ35
      subst y35 z35
      have XN35 : Stand p l e room_1 (s.setVm T10.vm) m #[(.long x1), (.long x2), (.long x3), (.long x4), (.long x5), (.int x6)] below meth c T35 _ 11 132 := X35
      obtain ⟨hv35, N35q, e35⟩ := hQ35
      subst hv35
      have N35 : Fr n0 L35 := by rw [l35]; exact Fr.app N33 N35q
      refine own_go (fun tt_ kk_ => st35.trans kk_) ?_
      show Go p.tables e below _ (T35.setTop (mkF m 290 #[.val (.long x1), .second, .val (.long x2), .second, .val (.long x3), .second, .val (.long x4), .second, .val (.long x5), .second, .val (.int x6), .val (.ref b), .val (.int (x6 &&& (7 : Int32))), .val (.long y5), .second, .val (.int (own_last y5 x1 x2 x3 x4)), .val (.int (ix (own_dn x1 x2 x3 x4))), .val (G10 y5), .val (.int (1 : Int32))] [(G14 x4), (.int (1 : Int32))]))
      obtain ⟨T36, X36, e36, st36⟩ := own_cast XN35 hx hZ10 hown10 (hw _ (List.mem_of_getElem? (i := 75) rfl)) e35 NV34.ins (g := (mkF m 290 #[.val (.long x1), .second, .val (.long x2), .second, .val (.long x3), .second, .val (.long x4), .second, .val (.long x5), .second, .val (.int x6), .val (.ref b), .val (.int (x6 &&& (7 : Int32))), .val (.long y5), .second, .val (.int (own_last y5 x1 x2 x3 x4)), .val (.int (ix (own_dn x1 x2 x3 x4))), .val (G10 y5), .val (.int (1 : Int32))] [(G14 x4), (.int (1 : Int32))])) rfl rfl (hb hby at_290)
      refine own_go (fun tt_ kk_ => st36 tt_ kk_) ?_
      show Go p.tables e below _ (T36.setTop (mkF m 293 #[.val (.long x1), .second, .val (.long x2), .second, .val (.long x3), .second, .val (.long x4), .second, .val (.long x5), .second, .val (.int x6), .val (.ref b), .val (.int (x6 &&& (7 : Int32))), .val (.long y5), .second, .val (.int (own_last y5 x1 x2 x3 x4)), .val (.int (ix (own_dn x1 x2 x3 x4))), .val (G10 y5), .val (.int (1 : Int32))] [(G14 x4), (.int (1 : Int32))]))
      refine own_go (fun tt_ kk_ => XT.lload X36.here hx rfl (hb hby at_293) rfl kk_) ?_
      show Go p.tables e below _ (T36.setTop (mkF m 295 #[.val (.long x1), .second, .val (.long x2), .second, .val (.long x3), .second, .val (.long x4), .second, .val (.long x5), .second, .val (.int x6), .val (.ref b), .val (.int (x6 &&& (7 : Int32))), .val (.long y5), .second, .val (.int (own_last y5 x1 x2 x3 x4)), .val (.int (ix (own_dn x1 x2 x3 x4))), .val (G10 y5), .val (.int (1 : Int32))] [(.long x4), (G14 x4), (.int (1 : Int32))]))
      refine own_go (fun tt_ kk_ => XT.lload X36.here hx rfl (hb hby at_295) rfl kk_) ?_
      show Go p.tables e below _ (T36.setTop (mkF m 297 #[.val (.long x1), .second, .val (.long x2), .second, .val (.long x3), .second, .val (.long x4), .second, .val (.long x5), .second, .val (.int x6), .val (.ref b), .val (.int (x6 &&& (7 : Int32))), .val (.long y5), .second, .val (.int (own_last y5 x1 x2 x3 x4)), .val (.int (ix (own_dn x1 x2 x3 x4))), .val (G10 y5), .val (.int (1 : Int32))] [(.long y5), (.long x4), (G14 x4), (.int (1 : Int32))]))
      refine own_go (fun tt_ kk_ => XT.lloadN X36.here hx rfl (hb hby at_297) rfl kk_) ?_
      show Go p.tables e below _ (T36.setTop (mkF m 298 #[.val (.long x1), .second, .val (.long x2), .second, .val (.long x3), .second, .val (.long x4), .second, .val (.long x5), .second, .val (.int x6), .val (.ref b), .val (.int (x6 &&& (7 : Int32))), .val (.long y5), .second, .val (.int (own_last y5 x1 x2 x3 x4)), .val (.int (ix (own_dn x1 x2 x3 x4))), .val (G10 y5), .val (.int (1 : Int32))] [(.long x1), (.long y5), (.long x4), (G14 x4), (.int (1 : Int32))]))
      refine own_go (fun tt_ kk_ => XT.lloadN X36.here hx rfl (hb hby at_298) rfl kk_) ?_
      show Go p.tables e below _ (T36.setTop (mkF m 299 #[.val (.long x1), .second, .val (.long x2), .second, .val (.long x3), .second, .val (.long x4), .second, .val (.long x5), .second, .val (.int x6), .val (.ref b), .val (.int (x6 &&& (7 : Int32))), .val (.long y5), .second, .val (.int (own_last y5 x1 x2 x3 x4)), .val (.int (ix (own_dn x1 x2 x3 x4))), .val (G10 y5), .val (.int (1 : Int32))] [(.long x2), (.long x1), (.long y5), (.long x4), (G14 x4), (.int (1 : Int32))]))
      refine own_go (fun tt_ kk_ => XT.lload X36.here hx rfl (hb hby at_299) rfl kk_) ?_
      show Go p.tables e below _ (T36.setTop (mkF m 301 #[.val (.long x1), .second, .val (.long x2), .second, .val (.long x3), .second, .val (.long x4), .second, .val (.long x5), .second, .val (.int x6), .val (.ref b), .val (.int (x6 &&& (7 : Int32))), .val (.long y5), .second, .val (.int (own_last y5 x1 x2 x3 x4)), .val (.int (ix (own_dn x1 x2 x3 x4))), .val (G10 y5), .val (.int (1 : Int32))] [(.long x3), (.long x2), (.long x1), (.long y5), (.long x4), (G14 x4), (.int (1 : Int32))]))
      refine own_go (fun tt_ kk_ => XT.lload X36.here hx rfl (hb hby at_301) rfl kk_) ?_
      show Go p.tables e below _ (T36.setTop (mkF m 303 #[.val (.long x1), .second, .val (.long x2), .second, .val (.long x3), .second, .val (.long x4), .second, .val (.long x5), .second, .val (.int x6), .val (.ref b), .val (.int (x6 &&& (7 : Int32))), .val (.long y5), .second, .val (.int (own_last y5 x1 x2 x3 x4)), .val (.int (ix (own_dn x1 x2 x3 x4))), .val (G10 y5), .val (.int (1 : Int32))] [(.long x4), (.long x3), (.long x2), (.long x1), (.long y5), (.long x4), (G14 x4), (.int (1 : Int32))]))
      obtain ⟨v37, _, ⟨T37, L37, k37, n37⟩, -, X37, ⟨Lc37, hQ37, l37, y37, z37⟩, st37⟩ := Jvm.LawKit.callS X36 hx (y := (⟨"com/example/rootlet/rootlet/IdMapRemovePinLaw", "after", "(JJJJJJ)I"⟩ : MethodName)) hown10 (mvT hZ10 (hw _ (List.mem_of_getElem? (i := 97) rfl))) (mvT hZ10 (hw _ (List.mem_of_getElem? (i := 98) rfl))) (mvT hZ10 (hw _ (List.mem_of_getElem? (i := 61) rfl))) (mvT hZ10 (hw _ (List.mem_of_getElem? (i := 99) rfl))) (by decide) (backOf (W := 2) (rm_after l Z a0 hw [] x4 y5 x1 x2 x3 x4 T14.heap n0) hZ10 (hw _ (List.mem_of_getElem? (i := 99) rfl)) (hw _ (List.mem_of_getElem? (i := 61) rfl)) (by decide) (by decide)) (g := (mkF m 303 #[.val (.long x1), .second, .val (.long x2), .second, .val (.long x3), .second, .val (.long x4), .second, .val (.long x5), .second, .val (.int x6), .val (.ref b), .val (.int (x6 &&& (7 : Int32))), .val (.long y5), .second, .val (.int (own_last y5 x1 x2 x3 x4)), .val (.int (ix (own_dn x1 x2 x3 x4))), .val (G10 y5), .val (.int (1 : Int32))] [(.long x4), (.long x3), (.long x2), (.long x1), (.long y5), (.long x4), (G14 x4), (.int (1 : Int32))])) rfl (by rw [hml]; rfl) (argsL := [(.long x4), (.long y5), (.long x1), (.long x2), (.long x3), (.long x4)]) (rest := [(G14 x4), (.int (1 : Int32))]) (lenOf pd_12 rfl) rfl (by show 2 * 0 + (List.map (fun v => v.category) [(G14 x4), (.int (1 : Int32))]).sum ≤ _; simp only [List.map_cons, List.map_nil, List.sum_cons, List.sum_nil, XT.cat1 NV34.isRef]; exact Nat.le_of_eq rfl) (hb hby at_303) (fun _ _ => ⟨rfl, e36, (by decide : 11 + 0 ≤ _), (by decide : 132 + 0 ≤ _)⟩)
      dsimp only [Pt.U, Pt.locs, Pt.cells, Pt.slots] at X37 l37 y37 z37 st37 hQ37
      subst y37 z37
      have XN37 : Stand p l e room_1 (s.setVm T10.vm) m #[(.long x1), (.long x2), (.long x3), (.long x4), (.long x5), (.int x6)] below meth c T37 _ 11 132 := X37
      obtain ⟨hv37, N37q, e37⟩ := hQ37
      subst hv37
      have N37 : Fr n0 L37 := by rw [l37]; exact Fr.app N35 N37q
      refine own_go (fun tt_ kk_ => st37 tt_ kk_) ?_
      show Go p.tables e below _ (T37.setTop (mkF m 306 #[.val (.long x1), .second, .val (.long x2), .second, .val (.long x3), .second, .val (.long x4), .second, .val (.long x5), .second, .val (.int x6), .val (.ref b), .val (.int (x6 &&& (7 : Int32))), .val (.long y5), .second, .val (.int (own_last y5 x1 x2 x3 x4)), .val (.int (ix (own_dn x1 x2 x3 x4))), .val (G10 y5), .val (.int (1 : Int32))] [(.int (own_after x4 y5 x1 x2 x3 x4)), (G14 x4), (.int (1 : Int32))]))
      obtain ⟨v38, _, ⟨T38, L38, k38, n38⟩, -, X38, ⟨Lc38, hQ38, l38, y38, z38⟩, st38⟩ := Jvm.LawKit.callS XN37 hx (y := (⟨"com/example/rootlet/rootlet/IdMapRemovePinLaw", "same", "(Ljava/lang/Integer;I)Z"⟩ : MethodName)) hown10 (mvT hZ10 (hw _ (List.mem_of_getElem? (i := 77) rfl))) (mvT hZ10 (hw _ (List.mem_of_getElem? (i := 78) rfl))) (mvT hZ10 (hw _ (List.mem_of_getElem? (i := 61) rfl))) (mvT hZ10 (hw _ (List.mem_of_getElem? (i := 79) rfl))) (by decide) (backOf (W := 1) (rm_same l Z a0 hw [] (G14 x4) (own_after x4 y5 x1 x2 x3 x4) (own_after x4 y5 x1 x2 x3 x4) T14.heap n0 NV34) hZ10 (hw _ (List.mem_of_getElem? (i := 79) rfl)) (hw _ (List.mem_of_getElem? (i := 61) rfl)) (by decide) (by decide)) (g := (mkF m 306 #[.val (.long x1), .second, .val (.long x2), .second, .val (.long x3), .second, .val (.long x4), .second, .val (.long x5), .second, .val (.int x6), .val (.ref b), .val (.int (x6 &&& (7 : Int32))), .val (.long y5), .second, .val (.int (own_last y5 x1 x2 x3 x4)), .val (.int (ix (own_dn x1 x2 x3 x4))), .val (G10 y5), .val (.int (1 : Int32))] [(.int (own_after x4 y5 x1 x2 x3 x4)), (G14 x4), (.int (1 : Int32))])) rfl (by rw [hml]; rfl) (argsL := [(G14 x4), (.int (own_after x4 y5 x1 x2 x3 x4))]) (rest := [(.int (1 : Int32))]) (lenOf pd_11 rfl) rfl (by show 2 * 0 + _ ≤ _; exact Nat.le_of_eq rfl) (hb hby at_306) (fun _ _ => ⟨rfl, e37, (by decide : 11 + 0 ≤ _), (by decide : 132 + 0 ≤ _)⟩)
      dsimp only [Pt.U, Pt.locs, Pt.cells, Pt.slots] at X38 l38 y38 z38 st38 hQ38
      subst y38 z38
      have XN38 : Stand p l e room_1 (s.setVm T10.vm) m #[(.long x1), (.long x2), (.long x3), (.long x4), (.long x5), (.int x6)] below meth c T38 _ 11 132 := X38
      obtain ⟨hv38, N38q, e38⟩ := hQ38
      rw [show ((.int (if (own_after x4 y5 x1 x2 x3 x4) = (own_after x4 y5 x1 x2 x3 x4) then 1 else 0)) : Value) = (.int (1 : Int32)) from congrArg Value.int (if_pos rfl)] at hv38
      subst hv38
      have N38 : Fr n0 L38 := by rw [l38]; exact Fr.app N37 N38q
      refine own_go (fun tt_ kk_ => st38 tt_ kk_) ?_
      show Go p.tables e below _ (T38.setTop (mkF m 309 #[.val (.long x1), .second, .val (.long x2), .second, .val (.long x3), .second, .val (.long x4), .second, .val (.long x5), .second, .val (.int x6), .val (.ref b), .val (.int (x6 &&& (7 : Int32))), .val (.long y5), .second, .val (.int (own_last y5 x1 x2 x3 x4)), .val (.int (ix (own_dn x1 x2 x3 x4))), .val (G10 y5), .val (.int (1 : Int32))] [(.int (1 : Int32)), (.int (1 : Int32))]))
      refine own_go (fun tt_ kk_ => XS.iand XN38.here hx rfl (hb hby at_309) rfl kk_) ?_
      show Go p.tables e below _ (T38.setTop (mkF m 310 #[.val (.long x1), .second, .val (.long x2), .second, .val (.long x3), .second, .val (.long x4), .second, .val (.long x5), .second, .val (.int x6), .val (.ref b), .val (.int (x6 &&& (7 : Int32))), .val (.long y5), .second, .val (.int (own_last y5 x1 x2 x3 x4)), .val (.int (ix (own_dn x1 x2 x3 x4))), .val (G10 y5), .val (.int (1 : Int32))] [(.int (1 : Int32))]))
      refine own_go (fun tt_ kk_ => XS.istore XN38.here hx rfl (hb hby at_310) rfl (l' := #[.val (.long x1), .second, .val (.long x2), .second, .val (.long x3), .second, .val (.long x4), .second, .val (.long x5), .second, .val (.int x6), .val (.ref b), .val (.int (x6 &&& (7 : Int32))), .val (.long y5), .second, .val (.int (own_last y5 x1 x2 x3 x4)), .val (.int (ix (own_dn x1 x2 x3 x4))), .val (G10 y5), .val (.int (1 : Int32))]) rfl kk_) ?_
      show Go p.tables e below _ (T38.setTop (mkF m 312 #[.val (.long x1), .second, .val (.long x2), .second, .val (.long x3), .second, .val (.long x4), .second, .val (.long x5), .second, .val (.int x6), .val (.ref b), .val (.int (x6 &&& (7 : Int32))), .val (.long y5), .second, .val (.int (own_last y5 x1 x2 x3 x4)), .val (.int (ix (own_dn x1 x2 x3 x4))), .val (G10 y5), .val (.int (1 : Int32))] []))
      refine own_go (fun tt_ kk_ => XS.iload XN38.here hx rfl (hb hby at_312) rfl kk_) ?_
      show Go p.tables e below _ (T38.setTop (mkF m 314 #[.val (.long x1), .second, .val (.long x2), .second, .val (.long x3), .second, .val (.long x4), .second, .val (.long x5), .second, .val (.int x6), .val (.ref b), .val (.int (x6 &&& (7 : Int32))), .val (.long y5), .second, .val (.int (own_last y5 x1 x2 x3 x4)), .val (.int (ix (own_dn x1 x2 x3 x4))), .val (G10 y5), .val (.int (1 : Int32))] [(.int (1 : Int32))]))
      exact own_retW XN38 sq10 (by rw [e38]; exact kz14) hx hlk Bd.returns rfl (Or.inl ⟨rfl, Or.inr (Or.inl rfl), _, rfl⟩) (hb hby at_314) ⟨rfl, N38⟩ (by decide) (by decide)
    · refine own_go (fun tt_ kk_ => XS.ifYes XN17.here hx rfl (pc0 := 169) (pc' := 177) rfl (hb hby at_169) rfl (XT.i0_ne_t hc18) (by decide) (by decide) kk_) ?_
      show Go p.tables e below _ (T17.setTop (mkF m 177 #[.val (.long x1), .second, .val (.long x2), .second, .val (.long x3), .second, .val (.long x4), .second, .val (.long x5), .second, .val (.int x6), .val (.ref b), .val (.int (x6 &&& (7 : Int32))), .val (.long y5), .second, .val (.int (own_last y5 x1 x2 x3 x4)), .val (.int (ix (own_dn x1 x2 x3 x4))), .val (G10 y5), .val (.int (1 : Int32))] [(.int (ix nn14)), (.int (1 : Int32))]))
      refine own_go (fun tt_ kk_ => XS.iload XN17.here hx rfl (hb hby at_177) rfl kk_) ?_
      show Go p.tables e below _ (T17.setTop (mkF m 179 #[.val (.long x1), .second, .val (.long x2), .second, .val (.long x3), .second, .val (.long x4), .second, .val (.long x5), .second, .val (.int x6), .val (.ref b), .val (.int (x6 &&& (7 : Int32))), .val (.long y5), .second, .val (.int (own_last y5 x1 x2 x3 x4)), .val (.int (ix (own_dn x1 x2 x3 x4))), .val (G10 y5), .val (.int (1 : Int32))] [(.int (ix (own_dn x1 x2 x3 x4))), (.int (ix nn14)), (.int (1 : Int32))]))
      refine own_go (fun tt_ kk_ => XS.iconst XN17.here hx rfl (hb hby at_179) kk_) ?_
      show Go p.tables e below _ (T17.setTop (mkF m 180 #[.val (.long x1), .second, .val (.long x2), .second, .val (.long x3), .second, .val (.long x4), .second, .val (.long x5), .second, .val (.int x6), .val (.ref b), .val (.int (x6 &&& (7 : Int32))), .val (.long y5), .second, .val (.int (own_last y5 x1 x2 x3 x4)), .val (.int (ix (own_dn x1 x2 x3 x4))), .val (G10 y5), .val (.int (1 : Int32))] [(.int (1 : Int32)), (.int (ix (own_dn x1 x2 x3 x4))), (.int (ix nn14)), (.int (1 : Int32))]))
      refine own_go (fun tt_ kk_ => XS.isub XN17.here hx rfl (hb hby at_180) rfl kk_) ?_
      show Go p.tables e below _ (T17.setTop (mkF m 181 #[.val (.long x1), .second, .val (.long x2), .second, .val (.long x3), .second, .val (.long x4), .second, .val (.long x5), .second, .val (.int x6), .val (.ref b), .val (.int (x6 &&& (7 : Int32))), .val (.long y5), .second, .val (.int (own_last y5 x1 x2 x3 x4)), .val (.int (ix (own_dn x1 x2 x3 x4))), .val (G10 y5), .val (.int (1 : Int32))] [(.int ((ix (own_dn x1 x2 x3 x4)) - (1 : Int32))), (.int (ix nn14)), (.int (1 : Int32))]))
      refine own_go (fun tt_ kk_ => XS.icmpNo XN17.here hx rfl (hb hby at_181) rfl (XT.ii_ne_f (by rw [ix_pred _ (own_dn_pos _ _ _ _)]; exact congrArg ix (by rw [hn14, if_neg (fun q => hc18 (NR.zero.mpr q)), (own_count4 hG0 hG4 hG6 hG8 hn4 hn6 hn8 hn10)]))) kk_) ?_
      show Go p.tables e below _ (T17.setTop (mkF m 184 #[.val (.long x1), .second, .val (.long x2), .second, .val (.long x3), .second, .val (.long x4), .second, .val (.long x5), .second, .val (.int x6), .val (.ref b), .val (.int (x6 &&& (7 : Int32))), .val (.long y5), .second, .val (.int (own_last y5 x1 x2 x3 x4)), .val (.int (ix (own_dn x1 x2 x3 x4))), .val (G10 y5), .val (.int (1 : Int32))] [(.int (1 : Int32))]))
      refine own_go (fun tt_ kk_ => XS.iconst XN17.here hx rfl (hb hby at_184) kk_) ?_
      show Go p.tables e below _ (T17.setTop (mkF m 185 #[.val (.long x1), .second, .val (.long x2), .second, .val (.long x3), .second, .val (.long x4), .second, .val (.long x5), .second, .val (.int x6), .val (.ref b), .val (.int (x6 &&& (7 : Int32))), .val (.long y5), .second, .val (.int (own_last y5 x1 x2 x3 x4)), .val (.int (ix (own_dn x1 x2 x3 x4))), .val (G10 y5), .val (.int (1 : Int32))] [(.int (1 : Int32)), (.int (1 : Int32))]))
      refine own_go (fun tt_ kk_ => XS.goto XN17.here hx rfl (pc0 := 185) (pc' := 189) rfl (hb hby at_185) (by decide) (by decide) kk_) ?_
      show Go p.tables e below _ (T17.setTop (mkF m 189 #[.val (.long x1), .second, .val (.long x2), .second, .val (.long x3), .second, .val (.long x4), .second, .val (.long x5), .second, .val (.int x6), .val (.ref b), .val (.int (x6 &&& (7 : Int32))), .val (.long y5), .second, .val (.int (own_last y5 x1 x2 x3 x4)), .val (.int (ix (own_dn x1 x2 x3 x4))), .val (G10 y5), .val (.int (1 : Int32))] [(.int (1 : Int32)), (.int (1 : Int32))]))
      refine own_go (fun tt_ kk_ => XS.iand XN17.here hx rfl (hb hby at_189) rfl kk_) ?_
      show Go p.tables e below _ (T17.setTop (mkF m 190 #[.val (.long x1), .second, .val (.long x2), .second, .val (.long x3), .second, .val (.long x4), .second, .val (.long x5), .second, .val (.int x6), .val (.ref b), .val (.int (x6 &&& (7 : Int32))), .val (.long y5), .second, .val (.int (own_last y5 x1 x2 x3 x4)), .val (.int (ix (own_dn x1 x2 x3 x4))), .val (G10 y5), .val (.int (1 : Int32))] [(.int (1 : Int32))]))
      refine own_go (fun tt_ kk_ => XS.istore XN17.here hx rfl (hb hby at_190) rfl (l' := #[.val (.long x1), .second, .val (.long x2), .second, .val (.long x3), .second, .val (.long x4), .second, .val (.long x5), .second, .val (.int x6), .val (.ref b), .val (.int (x6 &&& (7 : Int32))), .val (.long y5), .second, .val (.int (own_last y5 x1 x2 x3 x4)), .val (.int (ix (own_dn x1 x2 x3 x4))), .val (G10 y5), .val (.int (1 : Int32))]) rfl kk_) ?_
      show Go p.tables e below _ (T17.setTop (mkF m 192 #[.val (.long x1), .second, .val (.long x2), .second, .val (.long x3), .second, .val (.long x4), .second, .val (.long x5), .second, .val (.int x6), .val (.ref b), .val (.int (x6 &&& (7 : Int32))), .val (.long y5), .second, .val (.int (own_last y5 x1 x2 x3 x4)), .val (.int (ix (own_dn x1 x2 x3 x4))), .val (G10 y5), .val (.int (1 : Int32))] []))
      refine own_go (fun tt_ kk_ => XS.iload XN17.here hx rfl (hb hby at_192) rfl kk_) ?_
      show Go p.tables e below _ (T17.setTop (mkF m 194 #[.val (.long x1), .second, .val (.long x2), .second, .val (.long x3), .second, .val (.long x4), .second, .val (.long x5), .second, .val (.int x6), .val (.ref b), .val (.int (x6 &&& (7 : Int32))), .val (.long y5), .second, .val (.int (own_last y5 x1 x2 x3 x4)), .val (.int (ix (own_dn x1 x2 x3 x4))), .val (G10 y5), .val (.int (1 : Int32))] [(.int (1 : Int32))]))
      refine own_go (fun tt_ kk_ => XS.aload XN17.here hx rfl (hb hby at_194) rfl rfl kk_) ?_
      show Go p.tables e below _ (T17.setTop (mkF m 196 #[.val (.long x1), .second, .val (.long x2), .second, .val (.long x3), .second, .val (.long x4), .second, .val (.long x5), .second, .val (.int x6), .val (.ref b), .val (.int (x6 &&& (7 : Int32))), .val (.long y5), .second, .val (.int (own_last y5 x1 x2 x3 x4)), .val (.int (ix (own_dn x1 x2 x3 x4))), .val (G10 y5), .val (.int (1 : Int32))] [(.ref b), (.int (1 : Int32))]))
      refine own_go (fun tt_ kk_ => XT.lloadN XN17.here hx rfl (hb hby at_196) rfl kk_) ?_
      show Go p.tables e below _ (T17.setTop (mkF m 197 #[.val (.long x1), .second, .val (.long x2), .second, .val (.long x3), .second, .val (.long x4), .second, .val (.long x5), .second, .val (.int x6), .val (.ref b), .val (.int (x6 &&& (7 : Int32))), .val (.long y5), .second, .val (.int (own_last y5 x1 x2 x3 x4)), .val (.int (ix (own_dn x1 x2 x3 x4))), .val (G10 y5), .val (.int (1 : Int32))] [(.long x1), (.ref b), (.int (1 : Int32))]))
      have NV39 : own_Num Z T14.heap (G14 x1) (own_after x1 y5 x1 x2 x3 x4) := by rw [hG14]; exact own_num5 (Ew_all O14 x1)
      obtain ⟨cq40, kq40, q40a, q40b, q40c⟩ := isOf hZ10 e17 M14.2.1
      obtain ⟨v40, _, ⟨T40, L40, k40, n40⟩, -, X40, ⟨Lc40, hQ40, l40, y40, z40⟩, st40⟩ := XN17.virtualBack hx (y := (⟨"com/example/rootlet/rootlet/IdMap", "get", "(J)Ljava/lang/Object;"⟩ : MethodName)) (z := (⟨"com/example/rootlet/rootlet/IdMap", "get", "(J)Ljava/lang/Object;"⟩ : MethodName)) hown10 (mvT hZ10 (hw _ (List.mem_of_getElem? (i := 92) rfl))) (mvT hZ10 (hw _ (List.mem_of_getElem? (i := 93) rfl))) (notFace_of_selects (args := #[]) (mvT hZ10 (hw _ (List.mem_of_getElem? (i := 95) rfl)))) (mvT hZ10 (hw _ (List.mem_of_getElem? (i := 95) rfl))) (mvT hZ10 (hw _ (List.mem_of_getElem? (i := 94) rfl))) (by decide) (backOf (W := 1) (rm_get l Z a0 hw [] b ka va ks14 vs14 G14 nn14 x1 T14.heap n0 M14 RR14 (by omega)) hZ10 (hw _ (List.mem_of_getElem? (i := 96) rfl)) (hw _ (List.mem_of_getElem? (i := 2) rfl)) (by decide) (by decide)) q40a q40c (g := (mkF m 197 #[.val (.long x1), .second, .val (.long x2), .second, .val (.long x3), .second, .val (.long x4), .second, .val (.long x5), .second, .val (.int x6), .val (.ref b), .val (.int (x6 &&& (7 : Int32))), .val (.long y5), .second, .val (.int (own_last y5 x1 x2 x3 x4)), .val (.int (ix (own_dn x1 x2 x3 x4))), .val (G10 y5), .val (.int (1 : Int32))] [(.long x1), (.ref b), (.int (1 : Int32))])) rfl (by rw [hml]; rfl) (Steps.refl _) (argsL := [(.long x1)]) (rest := [(.int (1 : Int32))]) (lenOf pd_10 rfl) rfl (by show 2 * 0 + _ ≤ _; exact Nat.le_of_eq rfl) (hb hby at_197) (fun _ _ => ⟨rfl, e17, (by decide : 11 + 0 ≤ _), (by decide : 132 + 0 ≤ _)⟩)
      dsimp only [Pt.U, Pt.locs, Pt.cells, Pt.slots] at X40 l40 y40 z40 st40 hQ40
      subst y40 z40
      have XN40 : Stand p l e room_1 (s.setVm T10.vm) m #[(.long x1), (.long x2), (.long x3), (.long x4), (.long x5), (.int x6)] below meth c T40 _ 11 132 := X40
      obtain ⟨hv40, N40q, e40⟩ := hQ40
      subst hv40
      have N40 : Fr n0 L40 := by rw [l40]; exact Fr.app N17 N40q
      refine own_go (fun tt_ kk_ => st40.trans kk_) ?_
      show Go p.tables e below _ (T40.setTop (mkF m 200 #[.val (.long x1), .second, .val (.long x2), .second, .val (.long x3), .second, .val (.long x4), .second, .val (.long x5), .second, .val (.int x6), .val (.ref b), .val (.int (x6 &&& (7 : Int32))), .val (.long y5), .second, .val (.int (own_last y5 x1 x2 x3 x4)), .val (.int (ix (own_dn x1 x2 x3 x4))), .val (G10 y5), .val (.int (1 : Int32))] [(G14 x1), (.int (1 : Int32))]))
      obtain ⟨T41, X41, e41, st41⟩ := own_cast XN40 hx hZ10 hown10 (hw _ (List.mem_of_getElem? (i := 75) rfl)) e40 NV39.ins (g := (mkF m 200 #[.val (.long x1), .second, .val (.long x2), .second, .val (.long x3), .second, .val (.long x4), .second, .val (.long x5), .second, .val (.int x6), .val (.ref b), .val (.int (x6 &&& (7 : Int32))), .val (.long y5), .second, .val (.int (own_last y5 x1 x2 x3 x4)), .val (.int (ix (own_dn x1 x2 x3 x4))), .val (G10 y5), .val (.int (1 : Int32))] [(G14 x1), (.int (1 : Int32))])) rfl rfl (hb hby at_200)
      refine own_go (fun tt_ kk_ => st41 tt_ kk_) ?_
      show Go p.tables e below _ (T41.setTop (mkF m 203 #[.val (.long x1), .second, .val (.long x2), .second, .val (.long x3), .second, .val (.long x4), .second, .val (.long x5), .second, .val (.int x6), .val (.ref b), .val (.int (x6 &&& (7 : Int32))), .val (.long y5), .second, .val (.int (own_last y5 x1 x2 x3 x4)), .val (.int (ix (own_dn x1 x2 x3 x4))), .val (G10 y5), .val (.int (1 : Int32))] [(G14 x1), (.int (1 : Int32))]))
      refine own_go (fun tt_ kk_ => XT.lloadN X41.here hx rfl (hb hby at_203) rfl kk_) ?_
      show Go p.tables e below _ (T41.setTop (mkF m 204 #[.val (.long x1), .second, .val (.long x2), .second, .val (.long x3), .second, .val (.long x4), .second, .val (.long x5), .second, .val (.int x6), .val (.ref b), .val (.int (x6 &&& (7 : Int32))), .val (.long y5), .second, .val (.int (own_last y5 x1 x2 x3 x4)), .val (.int (ix (own_dn x1 x2 x3 x4))), .val (G10 y5), .val (.int (1 : Int32))] [(.long x1), (G14 x1), (.int (1 : Int32))]))
      refine own_go (fun tt_ kk_ => XT.lload X41.here hx rfl (hb hby at_204) rfl kk_) ?_
      show Go p.tables e below _ (T41.setTop (mkF m 206 #[.val (.long x1), .second, .val (.long x2), .second, .val (.long x3), .second, .val (.long x4), .second, .val (.long x5), .second, .val (.int x6), .val (.ref b), .val (.int (x6 &&& (7 : Int32))), .val (.long y5), .second, .val (.int (own_last y5 x1 x2 x3 x4)), .val (.int (ix (own_dn x1 x2 x3 x4))), .val (G10 y5), .val (.int (1 : Int32))] [(.long y5), (.long x1), (G14 x1), (.int (1 : Int32))]))
      refine own_go (fun tt_ kk_ => XT.lloadN X41.here hx rfl (hb hby at_206) rfl kk_) ?_
      show Go p.tables e below _ (T41.setTop (mkF m 207 #[.val (.long x1), .second, .val (.long x2), .second, .val (.long x3), .second, .val (.long x4), .second, .val (.long x5), .second, .val (.int x6), .val (.ref b), .val (.int (x6 &&& (7 : Int32))), .val (.long y5), .second, .val (.int (own_last y5 x1 x2 x3 x4)), .val (.int (ix (own_dn x1 x2 x3 x4))), .val (G10 y5), .val (.int (1 : Int32))] [(.long x1), (.long y5), (.long x1), (G14 x1), (.int (1 : Int32))]))
      refine own_go (fun tt_ kk_ => XT.lloadN X41.here hx rfl (hb hby at_207) rfl kk_) ?_
      show Go p.tables e below _ (T41.setTop (mkF m 208 #[.val (.long x1), .second, .val (.long x2), .second, .val (.long x3), .second, .val (.long x4), .second, .val (.long x5), .second, .val (.int x6), .val (.ref b), .val (.int (x6 &&& (7 : Int32))), .val (.long y5), .second, .val (.int (own_last y5 x1 x2 x3 x4)), .val (.int (ix (own_dn x1 x2 x3 x4))), .val (G10 y5), .val (.int (1 : Int32))] [(.long x2), (.long x1), (.long y5), (.long x1), (G14 x1), (.int (1 : Int32))]))
      refine own_go (fun tt_ kk_ => XT.lload X41.here hx rfl (hb hby at_208) rfl kk_) ?_
      show Go p.tables e below _ (T41.setTop (mkF m 210 #[.val (.long x1), .second, .val (.long x2), .second, .val (.long x3), .second, .val (.long x4), .second, .val (.long x5), .second, .val (.int x6), .val (.ref b), .val (.int (x6 &&& (7 : Int32))), .val (.long y5), .second, .val (.int (own_last y5 x1 x2 x3 x4)), .val (.int (ix (own_dn x1 x2 x3 x4))), .val (G10 y5), .val (.int (1 : Int32))] [(.long x3), (.long x2), (.long x1), (.long y5), (.long x1), (G14 x1), (.int (1 : Int32))]))
      refine own_go (fun tt_ kk_ => XT.lload X41.here hx rfl (hb hby at_210) rfl kk_) ?_
      show Go p.tables e below _ (T41.setTop (mkF m 212 #[.val (.long x1), .second, .val (.long x2), .second, .val (.long x3), .second, .val (.long x4), .second, .val (.long x5), .second, .val (.int x6), .val (.ref b), .val (.int (x6 &&& (7 : Int32))), .val (.long y5), .second, .val (.int (own_last y5 x1 x2 x3 x4)), .val (.int (ix (own_dn x1 x2 x3 x4))), .val (G10 y5), .val (.int (1 : Int32))] [(.long x4), (.long x3), (.long x2), (.long x1), (.long y5), (.long x1), (G14 x1), (.int (1 : Int32))]))
      obtain ⟨v42, _, ⟨T42, L42, k42, n42⟩, -, X42, ⟨Lc42, hQ42, l42, y42, z42⟩, st42⟩ := Jvm.LawKit.callS X41 hx (y := (⟨"com/example/rootlet/rootlet/IdMapRemovePinLaw", "after", "(JJJJJJ)I"⟩ : MethodName)) hown10 (mvT hZ10 (hw _ (List.mem_of_getElem? (i := 97) rfl))) (mvT hZ10 (hw _ (List.mem_of_getElem? (i := 98) rfl))) (mvT hZ10 (hw _ (List.mem_of_getElem? (i := 61) rfl))) (mvT hZ10 (hw _ (List.mem_of_getElem? (i := 99) rfl))) (by decide) (backOf (W := 2) (rm_after l Z a0 hw [] x1 y5 x1 x2 x3 x4 T14.heap n0) hZ10 (hw _ (List.mem_of_getElem? (i := 99) rfl)) (hw _ (List.mem_of_getElem? (i := 61) rfl)) (by decide) (by decide)) (g := (mkF m 212 #[.val (.long x1), .second, .val (.long x2), .second, .val (.long x3), .second, .val (.long x4), .second, .val (.long x5), .second, .val (.int x6), .val (.ref b), .val (.int (x6 &&& (7 : Int32))), .val (.long y5), .second, .val (.int (own_last y5 x1 x2 x3 x4)), .val (.int (ix (own_dn x1 x2 x3 x4))), .val (G10 y5), .val (.int (1 : Int32))] [(.long x4), (.long x3), (.long x2), (.long x1), (.long y5), (.long x1), (G14 x1), (.int (1 : Int32))])) rfl (by rw [hml]; rfl) (argsL := [(.long x1), (.long y5), (.long x1), (.long x2), (.long x3), (.long x4)]) (rest := [(G14 x1), (.int (1 : Int32))]) (lenOf pd_12 rfl) rfl (by show 2 * 0 + (List.map (fun v => v.category) [(G14 x1), (.int (1 : Int32))]).sum ≤ _; simp only [List.map_cons, List.map_nil, List.sum_cons, List.sum_nil, XT.cat1 NV39.isRef]; exact Nat.le_of_eq rfl) (hb hby at_212) (fun _ _ => ⟨rfl, e41, (by decide : 11 + 0 ≤ _), (by decide : 132 + 0 ≤ _)⟩)
      dsimp only [Pt.U, Pt.locs, Pt.cells, Pt.slots] at X42 l42 y42 z42 st42 hQ42
      subst y42 z42
      have XN42 : Stand p l e room_1 (s.setVm T10.vm) m #[(.long x1), (.long x2), (.long x3), (.long x4), (.long x5), (.int x6)] below meth c T42 _ 11 132 := X42
      obtain ⟨hv42, N42q, e42⟩ := hQ42
      subst hv42
      have N42 : Fr n0 L42 := by rw [l42]; exact Fr.app N40 N42q
      refine own_go (fun tt_ kk_ => st42 tt_ kk_) ?_
      show Go p.tables e below _ (T42.setTop (mkF m 215 #[.val (.long x1), .second, .val (.long x2), .second, .val (.long x3), .second, .val (.long x4), .second, .val (.long x5), .second, .val (.int x6), .val (.ref b), .val (.int (x6 &&& (7 : Int32))), .val (.long y5), .second, .val (.int (own_last y5 x1 x2 x3 x4)), .val (.int (ix (own_dn x1 x2 x3 x4))), .val (G10 y5), .val (.int (1 : Int32))] [(.int (own_after x1 y5 x1 x2 x3 x4)), (G14 x1), (.int (1 : Int32))]))
      obtain ⟨v43, _, ⟨T43, L43, k43, n43⟩, -, X43, ⟨Lc43, hQ43, l43, y43, z43⟩, st43⟩ := Jvm.LawKit.callS XN42 hx (y := (⟨"com/example/rootlet/rootlet/IdMapRemovePinLaw", "same", "(Ljava/lang/Integer;I)Z"⟩ : MethodName)) hown10 (mvT hZ10 (hw _ (List.mem_of_getElem? (i := 77) rfl))) (mvT hZ10 (hw _ (List.mem_of_getElem? (i := 78) rfl))) (mvT hZ10 (hw _ (List.mem_of_getElem? (i := 61) rfl))) (mvT hZ10 (hw _ (List.mem_of_getElem? (i := 79) rfl))) (by decide) (backOf (W := 1) (rm_same l Z a0 hw [] (G14 x1) (own_after x1 y5 x1 x2 x3 x4) (own_after x1 y5 x1 x2 x3 x4) T14.heap n0 NV39) hZ10 (hw _ (List.mem_of_getElem? (i := 79) rfl)) (hw _ (List.mem_of_getElem? (i := 61) rfl)) (by decide) (by decide)) (g := (mkF m 215 #[.val (.long x1), .second, .val (.long x2), .second, .val (.long x3), .second, .val (.long x4), .second, .val (.long x5), .second, .val (.int x6), .val (.ref b), .val (.int (x6 &&& (7 : Int32))), .val (.long y5), .second, .val (.int (own_last y5 x1 x2 x3 x4)), .val (.int (ix (own_dn x1 x2 x3 x4))), .val (G10 y5), .val (.int (1 : Int32))] [(.int (own_after x1 y5 x1 x2 x3 x4)), (G14 x1), (.int (1 : Int32))])) rfl (by rw [hml]; rfl) (argsL := [(G14 x1), (.int (own_after x1 y5 x1 x2 x3 x4))]) (rest := [(.int (1 : Int32))]) (lenOf pd_11 rfl) rfl (by show 2 * 0 + _ ≤ _; exact Nat.le_of_eq rfl) (hb hby at_215) (fun _ _ => ⟨rfl, e42, (by decide : 11 + 0 ≤ _), (by decide : 132 + 0 ≤ _)⟩)
      dsimp only [Pt.U, Pt.locs, Pt.cells, Pt.slots] at X43 l43 y43 z43 st43 hQ43
      subst y43 z43
      have XN43 : Stand p l e room_1 (s.setVm T10.vm) m #[(.long x1), (.long x2), (.long x3), (.long x4), (.long x5), (.int x6)] below meth c T43 _ 11 132 := X43
      obtain ⟨hv43, N43q, e43⟩ := hQ43
      rw [show ((.int (if (own_after x1 y5 x1 x2 x3 x4) = (own_after x1 y5 x1 x2 x3 x4) then 1 else 0)) : Value) = (.int (1 : Int32)) from congrArg Value.int (if_pos rfl)] at hv43
      subst hv43
      have N43 : Fr n0 L43 := by rw [l43]; exact Fr.app N42 N43q
      refine own_go (fun tt_ kk_ => st43 tt_ kk_) ?_
      show Go p.tables e below _ (T43.setTop (mkF m 218 #[.val (.long x1), .second, .val (.long x2), .second, .val (.long x3), .second, .val (.long x4), .second, .val (.long x5), .second, .val (.int x6), .val (.ref b), .val (.int (x6 &&& (7 : Int32))), .val (.long y5), .second, .val (.int (own_last y5 x1 x2 x3 x4)), .val (.int (ix (own_dn x1 x2 x3 x4))), .val (G10 y5), .val (.int (1 : Int32))] [(.int (1 : Int32)), (.int (1 : Int32))]))
      refine own_go (fun tt_ kk_ => XS.iand XN43.here hx rfl (hb hby at_218) rfl kk_) ?_
      show Go p.tables e below _ (T43.setTop (mkF m 219 #[.val (.long x1), .second, .val (.long x2), .second, .val (.long x3), .second, .val (.long x4), .second, .val (.long x5), .second, .val (.int x6), .val (.ref b), .val (.int (x6 &&& (7 : Int32))), .val (.long y5), .second, .val (.int (own_last y5 x1 x2 x3 x4)), .val (.int (ix (own_dn x1 x2 x3 x4))), .val (G10 y5), .val (.int (1 : Int32))] [(.int (1 : Int32))]))
      refine own_go (fun tt_ kk_ => XS.istore XN43.here hx rfl (hb hby at_219) rfl (l' := #[.val (.long x1), .second, .val (.long x2), .second, .val (.long x3), .second, .val (.long x4), .second, .val (.long x5), .second, .val (.int x6), .val (.ref b), .val (.int (x6 &&& (7 : Int32))), .val (.long y5), .second, .val (.int (own_last y5 x1 x2 x3 x4)), .val (.int (ix (own_dn x1 x2 x3 x4))), .val (G10 y5), .val (.int (1 : Int32))]) rfl kk_) ?_
      show Go p.tables e below _ (T43.setTop (mkF m 221 #[.val (.long x1), .second, .val (.long x2), .second, .val (.long x3), .second, .val (.long x4), .second, .val (.long x5), .second, .val (.int x6), .val (.ref b), .val (.int (x6 &&& (7 : Int32))), .val (.long y5), .second, .val (.int (own_last y5 x1 x2 x3 x4)), .val (.int (ix (own_dn x1 x2 x3 x4))), .val (G10 y5), .val (.int (1 : Int32))] []))
      refine own_go (fun tt_ kk_ => XS.iload XN43.here hx rfl (hb hby at_221) rfl kk_) ?_
      show Go p.tables e below _ (T43.setTop (mkF m 223 #[.val (.long x1), .second, .val (.long x2), .second, .val (.long x3), .second, .val (.long x4), .second, .val (.long x5), .second, .val (.int x6), .val (.ref b), .val (.int (x6 &&& (7 : Int32))), .val (.long y5), .second, .val (.int (own_last y5 x1 x2 x3 x4)), .val (.int (ix (own_dn x1 x2 x3 x4))), .val (G10 y5), .val (.int (1 : Int32))] [(.int (1 : Int32))]))
      refine own_go (fun tt_ kk_ => XS.aload XN43.here hx rfl (hb hby at_223) rfl rfl kk_) ?_
      show Go p.tables e below _ (T43.setTop (mkF m 225 #[.val (.long x1), .second, .val (.long x2), .second, .val (.long x3), .second, .val (.long x4), .second, .val (.long x5), .second, .val (.int x6), .val (.ref b), .val (.int (x6 &&& (7 : Int32))), .val (.long y5), .second, .val (.int (own_last y5 x1 x2 x3 x4)), .val (.int (ix (own_dn x1 x2 x3 x4))), .val (G10 y5), .val (.int (1 : Int32))] [(.ref b), (.int (1 : Int32))]))
      refine own_go (fun tt_ kk_ => XT.lloadN XN43.here hx rfl (hb hby at_225) rfl kk_) ?_
      show Go p.tables e below _ (T43.setTop (mkF m 226 #[.val (.long x1), .second, .val (.long x2), .second, .val (.long x3), .second, .val (.long x4), .second, .val (.long x5), .second, .val (.int x6), .val (.ref b), .val (.int (x6 &&& (7 : Int32))), .val (.long y5), .second, .val (.int (own_last y5 x1 x2 x3 x4)), .val (.int (ix (own_dn x1 x2 x3 x4))), .val (G10 y5), .val (.int (1 : Int32))] [(.long x2), (.ref b), (.int (1 : Int32))]))
      have NV44 : own_Num Z T14.heap (G14 x2) (own_after x2 y5 x1 x2 x3 x4) := by rw [hG14]; exact own_num5 (Ew_all O14 x2)
      obtain ⟨cq45, kq45, q45a, q45b, q45c⟩ := isOf hZ10 e43 M14.2.1
      obtain ⟨v45, _, ⟨T45, L45, k45, n45⟩, -, X45, ⟨Lc45, hQ45, l45, y45, z45⟩, st45⟩ := XN43.virtualBack hx (y := (⟨"com/example/rootlet/rootlet/IdMap", "get", "(J)Ljava/lang/Object;"⟩ : MethodName)) (z := (⟨"com/example/rootlet/rootlet/IdMap", "get", "(J)Ljava/lang/Object;"⟩ : MethodName)) hown10 (mvT hZ10 (hw _ (List.mem_of_getElem? (i := 92) rfl))) (mvT hZ10 (hw _ (List.mem_of_getElem? (i := 93) rfl))) (notFace_of_selects (args := #[]) (mvT hZ10 (hw _ (List.mem_of_getElem? (i := 95) rfl)))) (mvT hZ10 (hw _ (List.mem_of_getElem? (i := 95) rfl))) (mvT hZ10 (hw _ (List.mem_of_getElem? (i := 94) rfl))) (by decide) (backOf (W := 1) (rm_get l Z a0 hw [] b ka va ks14 vs14 G14 nn14 x2 T14.heap n0 M14 RR14 (by omega)) hZ10 (hw _ (List.mem_of_getElem? (i := 96) rfl)) (hw _ (List.mem_of_getElem? (i := 2) rfl)) (by decide) (by decide)) q45a q45c (g := (mkF m 226 #[.val (.long x1), .second, .val (.long x2), .second, .val (.long x3), .second, .val (.long x4), .second, .val (.long x5), .second, .val (.int x6), .val (.ref b), .val (.int (x6 &&& (7 : Int32))), .val (.long y5), .second, .val (.int (own_last y5 x1 x2 x3 x4)), .val (.int (ix (own_dn x1 x2 x3 x4))), .val (G10 y5), .val (.int (1 : Int32))] [(.long x2), (.ref b), (.int (1 : Int32))])) rfl (by rw [hml]; rfl) (Steps.refl _) (argsL := [(.long x2)]) (rest := [(.int (1 : Int32))]) (lenOf pd_10 rfl) rfl (by show 2 * 0 + _ ≤ _; exact Nat.le_of_eq rfl) (hb hby at_226) (fun _ _ => ⟨rfl, e43, (by decide : 11 + 0 ≤ _), (by decide : 132 + 0 ≤ _)⟩)
      dsimp only [Pt.U, Pt.locs, Pt.cells, Pt.slots] at X45 l45 y45 z45 st45 hQ45
      subst y45 z45
      have XN45 : Stand p l e room_1 (s.setVm T10.vm) m #[(.long x1), (.long x2), (.long x3), (.long x4), (.long x5), (.int x6)] below meth c T45 _ 11 132 := X45
      obtain ⟨hv45, N45q, e45⟩ := hQ45
      subst hv45
      have N45 : Fr n0 L45 := by rw [l45]; exact Fr.app N43 N45q
      refine own_go (fun tt_ kk_ => st45.trans kk_) ?_
      show Go p.tables e below _ (T45.setTop (mkF m 229 #[.val (.long x1), .second, .val (.long x2), .second, .val (.long x3), .second, .val (.long x4), .second, .val (.long x5), .second, .val (.int x6), .val (.ref b), .val (.int (x6 &&& (7 : Int32))), .val (.long y5), .second, .val (.int (own_last y5 x1 x2 x3 x4)), .val (.int (ix (own_dn x1 x2 x3 x4))), .val (G10 y5), .val (.int (1 : Int32))] [(G14 x2), (.int (1 : Int32))]))
      obtain ⟨T46, X46, e46, st46⟩ := own_cast XN45 hx hZ10 hown10 (hw _ (List.mem_of_getElem? (i := 75) rfl)) e45 NV44.ins (g := (mkF m 229 #[.val (.long x1), .second, .val (.long x2), .second, .val (.long x3), .second, .val (.long x4), .second, .val (.long x5), .second, .val (.int x6), .val (.ref b), .val (.int (x6 &&& (7 : Int32))), .val (.long y5), .second, .val (.int (own_last y5 x1 x2 x3 x4)), .val (.int (ix (own_dn x1 x2 x3 x4))), .val (G10 y5), .val (.int (1 : Int32))] [(G14 x2), (.int (1 : Int32))])) rfl rfl (hb hby at_229)
      refine own_go (fun tt_ kk_ => st46 tt_ kk_) ?_
      show Go p.tables e below _ (T46.setTop (mkF m 232 #[.val (.long x1), .second, .val (.long x2), .second, .val (.long x3), .second, .val (.long x4), .second, .val (.long x5), .second, .val (.int x6), .val (.ref b), .val (.int (x6 &&& (7 : Int32))), .val (.long y5), .second, .val (.int (own_last y5 x1 x2 x3 x4)), .val (.int (ix (own_dn x1 x2 x3 x4))), .val (G10 y5), .val (.int (1 : Int32))] [(G14 x2), (.int (1 : Int32))]))
      refine own_go (fun tt_ kk_ => XT.lloadN X46.here hx rfl (hb hby at_232) rfl kk_) ?_
      show Go p.tables e below _ (T46.setTop (mkF m 233 #[.val (.long x1), .second, .val (.long x2), .second, .val (.long x3), .second, .val (.long x4), .second, .val (.long x5), .second, .val (.int x6), .val (.ref b), .val (.int (x6 &&& (7 : Int32))), .val (.long y5), .second, .val (.int (own_last y5 x1 x2 x3 x4)), .val (.int (ix (own_dn x1 x2 x3 x4))), .val (G10 y5), .val (.int (1 : Int32))] [(.long x2), (G14 x2), (.int (1 : Int32))]))
      refine own_go (fun tt_ kk_ => XT.lload X46.here hx rfl (hb hby at_233) rfl kk_) ?_
      show Go p.tables e below _ (T46.setTop (mkF m 235 #[.val (.long x1), .second, .val (.long x2), .second, .val (.long x3), .second, .val (.long x4), .second, .val (.long x5), .second, .val (.int x6), .val (.ref b), .val (.int (x6 &&& (7 : Int32))), .val (.long y5), .second, .val (.int (own_last y5 x1 x2 x3 x4)), .val (.int (ix (own_dn x1 x2 x3 x4))), .val (G10 y5), .val (.int (1 : Int32))] [(.long y5), (.long x2), (G14 x2), (.int (1 : Int32))]))
      refine own_go (fun tt_ kk_ => XT.lloadN X46.here hx rfl (hb hby at_235) rfl kk_) ?_
      show Go p.tables e below _ (T46.setTop (mkF m 236 #[.val (.long x1), .second, .val (.long x2), .second, .val (.long x3), .second, .val (.long x4), .second, .val (.long x5), .second, .val (.int x6), .val (.ref b), .val (.int (x6 &&& (7 : Int32))), .val (.long y5), .second, .val (.int (own_last y5 x1 x2 x3 x4)), .val (.int (ix (own_dn x1 x2 x3 x4))), .val (G10 y5), .val (.int (1 : Int32))] [(.long x1), (.long y5), (.long x2), (G14 x2), (.int (1 : Int32))]))
      refine own_go (fun tt_ kk_ => XT.lloadN X46.here hx rfl (hb hby at_236) rfl kk_) ?_
      show Go p.tables e below _ (T46.setTop (mkF m 237 #[.val (.long x1), .second, .val (.long x2), .second, .val (.long x3), .second, .val (.long x4), .second, .val (.long x5), .second, .val (.int x6), .val (.ref b), .val (.int (x6 &&& (7 : Int32))), .val (.long y5), .second, .val (.int (own_last y5 x1 x2 x3 x4)), .val (.int (ix (own_dn x1 x2 x3 x4))), .val (G10 y5), .val (.int (1 : Int32))] [(.long x2), (.long x1), (.long y5), (.long x2), (G14 x2), (.int (1 : Int32))]))
      refine own_go (fun tt_ kk_ => XT.lload X46.here hx rfl (hb hby at_237) rfl kk_) ?_
      show Go p.tables e below _ (T46.setTop (mkF m 239 #[.val (.long x1), .second, .val (.long x2), .second, .val (.long x3), .second, .val (.long x4), .second, .val (.long x5), .second, .val (.int x6), .val (.ref b), .val (.int (x6 &&& (7 : Int32))), .val (.long y5), .second, .val (.int (own_last y5 x1 x2 x3 x4)), .val (.int (ix (own_dn x1 x2 x3 x4))), .val (G10 y5), .val (.int (1 : Int32))] [(.long x3), (.long x2), (.long x1), (.long y5), (.long x2), (G14 x2), (.int (1 : Int32))]))
      refine own_go (fun tt_ kk_ => XT.lload X46.here hx rfl (hb hby at_239) rfl kk_) ?_
      show Go p.tables e below _ (T46.setTop (mkF m 241 #[.val (.long x1), .second, .val (.long x2), .second, .val (.long x3), .second, .val (.long x4), .second, .val (.long x5), .second, .val (.int x6), .val (.ref b), .val (.int (x6 &&& (7 : Int32))), .val (.long y5), .second, .val (.int (own_last y5 x1 x2 x3 x4)), .val (.int (ix (own_dn x1 x2 x3 x4))), .val (G10 y5), .val (.int (1 : Int32))] [(.long x4), (.long x3), (.long x2), (.long x1), (.long y5), (.long x2), (G14 x2), (.int (1 : Int32))]))
      obtain ⟨v47, _, ⟨T47, L47, k47, n47⟩, -, X47, ⟨Lc47, hQ47, l47, y47, z47⟩, st47⟩ := Jvm.LawKit.callS X46 hx (y := (⟨"com/example/rootlet/rootlet/IdMapRemovePinLaw", "after", "(JJJJJJ)I"⟩ : MethodName)) hown10 (mvT hZ10 (hw _ (List.mem_of_getElem? (i := 97) rfl))) (mvT hZ10 (hw _ (List.mem_of_getElem? (i := 98) rfl))) (mvT hZ10 (hw _ (List.mem_of_getElem? (i := 61) rfl))) (mvT hZ10 (hw _ (List.mem_of_getElem? (i := 99) rfl))) (by decide) (backOf (W := 2) (rm_after l Z a0 hw [] x2 y5 x1 x2 x3 x4 T14.heap n0) hZ10 (hw _ (List.mem_of_getElem? (i := 99) rfl)) (hw _ (List.mem_of_getElem? (i := 61) rfl)) (by decide) (by decide)) (g := (mkF m 241 #[.val (.long x1), .second, .val (.long x2), .second, .val (.long x3), .second, .val (.long x4), .second, .val (.long x5), .second, .val (.int x6), .val (.ref b), .val (.int (x6 &&& (7 : Int32))), .val (.long y5), .second, .val (.int (own_last y5 x1 x2 x3 x4)), .val (.int (ix (own_dn x1 x2 x3 x4))), .val (G10 y5), .val (.int (1 : Int32))] [(.long x4), (.long x3), (.long x2), (.long x1), (.long y5), (.long x2), (G14 x2), (.int (1 : Int32))])) rfl (by rw [hml]; rfl) (argsL := [(.long x2), (.long y5), (.long x1), (.long x2), (.long x3), (.long x4)]) (rest := [(G14 x2), (.int (1 : Int32))]) (lenOf pd_12 rfl) rfl (by show 2 * 0 + (List.map (fun v => v.category) [(G14 x2), (.int (1 : Int32))]).sum ≤ _; simp only [List.map_cons, List.map_nil, List.sum_cons, List.sum_nil, XT.cat1 NV44.isRef]; exact Nat.le_of_eq rfl) (hb hby at_241) (fun _ _ => ⟨rfl, e46, (by decide : 11 + 0 ≤ _), (by decide : 132 + 0 ≤ _)⟩)
      dsimp only [Pt.U, Pt.locs, Pt.cells, Pt.slots] at X47 l47 y47 z47 st47 hQ47
      subst y47 z47
      have XN47 : Stand p l e room_1 (s.setVm T10.vm) m #[(.long x1), (.long x2), (.long x3), (.long x4), (.long x5), (.int x6)] below meth c T47 _ 11 132 := X47
      obtain ⟨hv47, N47q, e47⟩ := hQ47
      subst hv47
      have N47 : Fr n0 L47 := by rw [l47]; exact Fr.app N45 N47q
      refine own_go (fun tt_ kk_ => st47 tt_ kk_) ?_
      show Go p.tables e below _ (T47.setTop (mkF m 244 #[.val (.long x1), .second, .val (.long x2), .second, .val (.long x3), .second, .val (.long x4), .second, .val (.long x5), .second, .val (.int x6), .val (.ref b), .val (.int (x6 &&& (7 : Int32))), .val (.long y5), .second, .val (.int (own_last y5 x1 x2 x3 x4)), .val (.int (ix (own_dn x1 x2 x3 x4))), .val (G10 y5), .val (.int (1 : Int32))] [(.int (own_after x2 y5 x1 x2 x3 x4)), (G14 x2), (.int (1 : Int32))]))
      obtain ⟨v48, _, ⟨T48, L48, k48, n48⟩, -, X48, ⟨Lc48, hQ48, l48, y48, z48⟩, st48⟩ := Jvm.LawKit.callS XN47 hx (y := (⟨"com/example/rootlet/rootlet/IdMapRemovePinLaw", "same", "(Ljava/lang/Integer;I)Z"⟩ : MethodName)) hown10 (mvT hZ10 (hw _ (List.mem_of_getElem? (i := 77) rfl))) (mvT hZ10 (hw _ (List.mem_of_getElem? (i := 78) rfl))) (mvT hZ10 (hw _ (List.mem_of_getElem? (i := 61) rfl))) (mvT hZ10 (hw _ (List.mem_of_getElem? (i := 79) rfl))) (by decide) (backOf (W := 1) (rm_same l Z a0 hw [] (G14 x2) (own_after x2 y5 x1 x2 x3 x4) (own_after x2 y5 x1 x2 x3 x4) T14.heap n0 NV44) hZ10 (hw _ (List.mem_of_getElem? (i := 79) rfl)) (hw _ (List.mem_of_getElem? (i := 61) rfl)) (by decide) (by decide)) (g := (mkF m 244 #[.val (.long x1), .second, .val (.long x2), .second, .val (.long x3), .second, .val (.long x4), .second, .val (.long x5), .second, .val (.int x6), .val (.ref b), .val (.int (x6 &&& (7 : Int32))), .val (.long y5), .second, .val (.int (own_last y5 x1 x2 x3 x4)), .val (.int (ix (own_dn x1 x2 x3 x4))), .val (G10 y5), .val (.int (1 : Int32))] [(.int (own_after x2 y5 x1 x2 x3 x4)), (G14 x2), (.int (1 : Int32))])) rfl (by rw [hml]; rfl) (argsL := [(G14 x2), (.int (own_after x2 y5 x1 x2 x3 x4))]) (rest := [(.int (1 : Int32))]) (lenOf pd_11 rfl) rfl (by show 2 * 0 + _ ≤ _; exact Nat.le_of_eq rfl) (hb hby at_244) (fun _ _ => ⟨rfl, e47, (by decide : 11 + 0 ≤ _), (by decide : 132 + 0 ≤ _)⟩)
      dsimp only [Pt.U, Pt.locs, Pt.cells, Pt.slots] at X48 l48 y48 z48 st48 hQ48
      subst y48 z48
      have XN48 : Stand p l e room_1 (s.setVm T10.vm) m #[(.long x1), (.long x2), (.long x3), (.long x4), (.long x5), (.int x6)] below meth c T48 _ 11 132 := X48
      obtain ⟨hv48, N48q, e48⟩ := hQ48
      rw [show ((.int (if (own_after x2 y5 x1 x2 x3 x4) = (own_after x2 y5 x1 x2 x3 x4) then 1 else 0)) : Value) = (.int (1 : Int32)) from congrArg Value.int (if_pos rfl)] at hv48
      subst hv48
      have N48 : Fr n0 L48 := by rw [l48]; exact Fr.app N47 N48q
      refine own_go (fun tt_ kk_ => st48 tt_ kk_) ?_
      show Go p.tables e below _ (T48.setTop (mkF m 247 #[.val (.long x1), .second, .val (.long x2), .second, .val (.long x3), .second, .val (.long x4), .second, .val (.long x5), .second, .val (.int x6), .val (.ref b), .val (.int (x6 &&& (7 : Int32))), .val (.long y5), .second, .val (.int (own_last y5 x1 x2 x3 x4)), .val (.int (ix (own_dn x1 x2 x3 x4))), .val (G10 y5), .val (.int (1 : Int32))] [(.int (1 : Int32)), (.int (1 : Int32))]))
      refine own_go (fun tt_ kk_ => XS.iand XN48.here hx rfl (hb hby at_247) rfl kk_) ?_
      show Go p.tables e below _ (T48.setTop (mkF m 248 #[.val (.long x1), .second, .val (.long x2), .second, .val (.long x3), .second, .val (.long x4), .second, .val (.long x5), .second, .val (.int x6), .val (.ref b), .val (.int (x6 &&& (7 : Int32))), .val (.long y5), .second, .val (.int (own_last y5 x1 x2 x3 x4)), .val (.int (ix (own_dn x1 x2 x3 x4))), .val (G10 y5), .val (.int (1 : Int32))] [(.int (1 : Int32))]))
      refine own_go (fun tt_ kk_ => XS.istore XN48.here hx rfl (hb hby at_248) rfl (l' := #[.val (.long x1), .second, .val (.long x2), .second, .val (.long x3), .second, .val (.long x4), .second, .val (.long x5), .second, .val (.int x6), .val (.ref b), .val (.int (x6 &&& (7 : Int32))), .val (.long y5), .second, .val (.int (own_last y5 x1 x2 x3 x4)), .val (.int (ix (own_dn x1 x2 x3 x4))), .val (G10 y5), .val (.int (1 : Int32))]) rfl kk_) ?_
      show Go p.tables e below _ (T48.setTop (mkF m 250 #[.val (.long x1), .second, .val (.long x2), .second, .val (.long x3), .second, .val (.long x4), .second, .val (.long x5), .second, .val (.int x6), .val (.ref b), .val (.int (x6 &&& (7 : Int32))), .val (.long y5), .second, .val (.int (own_last y5 x1 x2 x3 x4)), .val (.int (ix (own_dn x1 x2 x3 x4))), .val (G10 y5), .val (.int (1 : Int32))] []))
      refine own_go (fun tt_ kk_ => XS.iload XN48.here hx rfl (hb hby at_250) rfl kk_) ?_
      show Go p.tables e below _ (T48.setTop (mkF m 252 #[.val (.long x1), .second, .val (.long x2), .second, .val (.long x3), .second, .val (.long x4), .second, .val (.long x5), .second, .val (.int x6), .val (.ref b), .val (.int (x6 &&& (7 : Int32))), .val (.long y5), .second, .val (.int (own_last y5 x1 x2 x3 x4)), .val (.int (ix (own_dn x1 x2 x3 x4))), .val (G10 y5), .val (.int (1 : Int32))] [(.int (1 : Int32))]))
      refine own_go (fun tt_ kk_ => XS.aload XN48.here hx rfl (hb hby at_252) rfl rfl kk_) ?_
      show Go p.tables e below _ (T48.setTop (mkF m 254 #[.val (.long x1), .second, .val (.long x2), .second, .val (.long x3), .second, .val (.long x4), .second, .val (.long x5), .second, .val (.int x6), .val (.ref b), .val (.int (x6 &&& (7 : Int32))), .val (.long y5), .second, .val (.int (own_last y5 x1 x2 x3 x4)), .val (.int (ix (own_dn x1 x2 x3 x4))), .val (G10 y5), .val (.int (1 : Int32))] [(.ref b), (.int (1 : Int32))]))
      refine own_go (fun tt_ kk_ => XT.lload XN48.here hx rfl (hb hby at_254) rfl kk_) ?_
      show Go p.tables e below _ (T48.setTop (mkF m 256 #[.val (.long x1), .second, .val (.long x2), .second, .val (.long x3), .second, .val (.long x4), .second, .val (.long x5), .second, .val (.int x6), .val (.ref b), .val (.int (x6 &&& (7 : Int32))), .val (.long y5), .second, .val (.int (own_last y5 x1 x2 x3 x4)), .val (.int (ix (own_dn x1 x2 x3 x4))), .val (G10 y5), .val (.int (1 : Int32))] [(.long x3), (.ref b), (.int (1 : Int32))]))
      have NV49 : own_Num Z T14.heap (G14 x3) (own_after x3 y5 x1 x2 x3 x4) := by rw [hG14]; exact own_num5 (Ew_all O14 x3)
      obtain ⟨cq50, kq50, q50a, q50b, q50c⟩ := isOf hZ10 e48 M14.2.1
      obtain ⟨v50, _, ⟨T50, L50, k50, n50⟩, -, X50, ⟨Lc50, hQ50, l50, y50, z50⟩, st50⟩ := XN48.virtualBack hx (y := (⟨"com/example/rootlet/rootlet/IdMap", "get", "(J)Ljava/lang/Object;"⟩ : MethodName)) (z := (⟨"com/example/rootlet/rootlet/IdMap", "get", "(J)Ljava/lang/Object;"⟩ : MethodName)) hown10 (mvT hZ10 (hw _ (List.mem_of_getElem? (i := 92) rfl))) (mvT hZ10 (hw _ (List.mem_of_getElem? (i := 93) rfl))) (notFace_of_selects (args := #[]) (mvT hZ10 (hw _ (List.mem_of_getElem? (i := 95) rfl)))) (mvT hZ10 (hw _ (List.mem_of_getElem? (i := 95) rfl))) (mvT hZ10 (hw _ (List.mem_of_getElem? (i := 94) rfl))) (by decide) (backOf (W := 1) (rm_get l Z a0 hw [] b ka va ks14 vs14 G14 nn14 x3 T14.heap n0 M14 RR14 (by omega)) hZ10 (hw _ (List.mem_of_getElem? (i := 96) rfl)) (hw _ (List.mem_of_getElem? (i := 2) rfl)) (by decide) (by decide)) q50a q50c (g := (mkF m 256 #[.val (.long x1), .second, .val (.long x2), .second, .val (.long x3), .second, .val (.long x4), .second, .val (.long x5), .second, .val (.int x6), .val (.ref b), .val (.int (x6 &&& (7 : Int32))), .val (.long y5), .second, .val (.int (own_last y5 x1 x2 x3 x4)), .val (.int (ix (own_dn x1 x2 x3 x4))), .val (G10 y5), .val (.int (1 : Int32))] [(.long x3), (.ref b), (.int (1 : Int32))])) rfl (by rw [hml]; rfl) (Steps.refl _) (argsL := [(.long x3)]) (rest := [(.int (1 : Int32))]) (lenOf pd_10 rfl) rfl (by show 2 * 0 + _ ≤ _; exact Nat.le_of_eq rfl) (hb hby at_256) (fun _ _ => ⟨rfl, e48, (by decide : 11 + 0 ≤ _), (by decide : 132 + 0 ≤ _)⟩)
      dsimp only [Pt.U, Pt.locs, Pt.cells, Pt.slots] at X50 l50 y50 z50 st50 hQ50
      subst y50 z50
      have XN50 : Stand p l e room_1 (s.setVm T10.vm) m #[(.long x1), (.long x2), (.long x3), (.long x4), (.long x5), (.int x6)] below meth c T50 _ 11 132 := X50
      obtain ⟨hv50, N50q, e50⟩ := hQ50
      subst hv50
      have N50 : Fr n0 L50 := by rw [l50]; exact Fr.app N48 N50q
      refine own_go (fun tt_ kk_ => st50.trans kk_) ?_
      show Go p.tables e below _ (T50.setTop (mkF m 259 #[.val (.long x1), .second, .val (.long x2), .second, .val (.long x3), .second, .val (.long x4), .second, .val (.long x5), .second, .val (.int x6), .val (.ref b), .val (.int (x6 &&& (7 : Int32))), .val (.long y5), .second, .val (.int (own_last y5 x1 x2 x3 x4)), .val (.int (ix (own_dn x1 x2 x3 x4))), .val (G10 y5), .val (.int (1 : Int32))] [(G14 x3), (.int (1 : Int32))]))
      obtain ⟨T51, X51, e51, st51⟩ := own_cast XN50 hx hZ10 hown10 (hw _ (List.mem_of_getElem? (i := 75) rfl)) e50 NV49.ins (g := (mkF m 259 #[.val (.long x1), .second, .val (.long x2), .second, .val (.long x3), .second, .val (.long x4), .second, .val (.long x5), .second, .val (.int x6), .val (.ref b), .val (.int (x6 &&& (7 : Int32))), .val (.long y5), .second, .val (.int (own_last y5 x1 x2 x3 x4)), .val (.int (ix (own_dn x1 x2 x3 x4))), .val (G10 y5), .val (.int (1 : Int32))] [(G14 x3), (.int (1 : Int32))])) rfl rfl (hb hby at_259)
      refine own_go (fun tt_ kk_ => st51 tt_ kk_) ?_
      show Go p.tables e below _ (T51.setTop (mkF m 262 #[.val (.long x1), .second, .val (.long x2), .second, .val (.long x3), .second, .val (.long x4), .second, .val (.long x5), .second, .val (.int x6), .val (.ref b), .val (.int (x6 &&& (7 : Int32))), .val (.long y5), .second, .val (.int (own_last y5 x1 x2 x3 x4)), .val (.int (ix (own_dn x1 x2 x3 x4))), .val (G10 y5), .val (.int (1 : Int32))] [(G14 x3), (.int (1 : Int32))]))
      refine own_go (fun tt_ kk_ => XT.lload X51.here hx rfl (hb hby at_262) rfl kk_) ?_
      show Go p.tables e below _ (T51.setTop (mkF m 264 #[.val (.long x1), .second, .val (.long x2), .second, .val (.long x3), .second, .val (.long x4), .second, .val (.long x5), .second, .val (.int x6), .val (.ref b), .val (.int (x6 &&& (7 : Int32))), .val (.long y5), .second, .val (.int (own_last y5 x1 x2 x3 x4)), .val (.int (ix (own_dn x1 x2 x3 x4))), .val (G10 y5), .val (.int (1 : Int32))] [(.long x3), (G14 x3), (.int (1 : Int32))]))
      refine own_go (fun tt_ kk_ => XT.lload X51.here hx rfl (hb hby at_264) rfl kk_) ?_
      show Go p.tables e below _ (T51.setTop (mkF m 266 #[.val (.long x1), .second, .val (.long x2), .second, .val (.long x3), .second, .val (.long x4), .second, .val (.long x5), .second, .val (.int x6), .val (.ref b), .val (.int (x6 &&& (7 : Int32))), .val (.long y5), .second, .val (.int (own_last y5 x1 x2 x3 x4)), .val (.int (ix (own_dn x1 x2 x3 x4))), .val (G10 y5), .val (.int (1 : Int32))] [(.long y5), (.long x3), (G14 x3), (.int (1 : Int32))]))
      refine own_go (fun tt_ kk_ => XT.lloadN X51.here hx rfl (hb hby at_266) rfl kk_) ?_
      show Go p.tables e below _ (T51.setTop (mkF m 267 #[.val (.long x1), .second, .val (.long x2), .second, .val (.long x3), .second, .val (.long x4), .second, .val (.long x5), .second, .val (.int x6), .val (.ref b), .val (.int (x6 &&& (7 : Int32))), .val (.long y5), .second, .val (.int (own_last y5 x1 x2 x3 x4)), .val (.int (ix (own_dn x1 x2 x3 x4))), .val (G10 y5), .val (.int (1 : Int32))] [(.long x1), (.long y5), (.long x3), (G14 x3), (.int (1 : Int32))]))
      refine own_go (fun tt_ kk_ => XT.lloadN X51.here hx rfl (hb hby at_267) rfl kk_) ?_
      show Go p.tables e below _ (T51.setTop (mkF m 268 #[.val (.long x1), .second, .val (.long x2), .second, .val (.long x3), .second, .val (.long x4), .second, .val (.long x5), .second, .val (.int x6), .val (.ref b), .val (.int (x6 &&& (7 : Int32))), .val (.long y5), .second, .val (.int (own_last y5 x1 x2 x3 x4)), .val (.int (ix (own_dn x1 x2 x3 x4))), .val (G10 y5), .val (.int (1 : Int32))] [(.long x2), (.long x1), (.long y5), (.long x3), (G14 x3), (.int (1 : Int32))]))
      refine own_go (fun tt_ kk_ => XT.lload X51.here hx rfl (hb hby at_268) rfl kk_) ?_
      show Go p.tables e below _ (T51.setTop (mkF m 270 #[.val (.long x1), .second, .val (.long x2), .second, .val (.long x3), .second, .val (.long x4), .second, .val (.long x5), .second, .val (.int x6), .val (.ref b), .val (.int (x6 &&& (7 : Int32))), .val (.long y5), .second, .val (.int (own_last y5 x1 x2 x3 x4)), .val (.int (ix (own_dn x1 x2 x3 x4))), .val (G10 y5), .val (.int (1 : Int32))] [(.long x3), (.long x2), (.long x1), (.long y5), (.long x3), (G14 x3), (.int (1 : Int32))]))
      refine own_go (fun tt_ kk_ => XT.lload X51.here hx rfl (hb hby at_270) rfl kk_) ?_
      show Go p.tables e below _ (T51.setTop (mkF m 272 #[.val (.long x1), .second, .val (.long x2), .second, .val (.long x3), .second, .val (.long x4), .second, .val (.long x5), .second, .val (.int x6), .val (.ref b), .val (.int (x6 &&& (7 : Int32))), .val (.long y5), .second, .val (.int (own_last y5 x1 x2 x3 x4)), .val (.int (ix (own_dn x1 x2 x3 x4))), .val (G10 y5), .val (.int (1 : Int32))] [(.long x4), (.long x3), (.long x2), (.long x1), (.long y5), (.long x3), (G14 x3), (.int (1 : Int32))]))
      obtain ⟨v52, _, ⟨T52, L52, k52, n52⟩, -, X52, ⟨Lc52, hQ52, l52, y52, z52⟩, st52⟩ := Jvm.LawKit.callS X51 hx (y := (⟨"com/example/rootlet/rootlet/IdMapRemovePinLaw", "after", "(JJJJJJ)I"⟩ : MethodName)) hown10 (mvT hZ10 (hw _ (List.mem_of_getElem? (i := 97) rfl))) (mvT hZ10 (hw _ (List.mem_of_getElem? (i := 98) rfl))) (mvT hZ10 (hw _ (List.mem_of_getElem? (i := 61) rfl))) (mvT hZ10 (hw _ (List.mem_of_getElem? (i := 99) rfl))) (by decide) (backOf (W := 2) (rm_after l Z a0 hw [] x3 y5 x1 x2 x3 x4 T14.heap n0) hZ10 (hw _ (List.mem_of_getElem? (i := 99) rfl)) (hw _ (List.mem_of_getElem? (i := 61) rfl)) (by decide) (by decide)) (g := (mkF m 272 #[.val (.long x1), .second, .val (.long x2), .second, .val (.long x3), .second, .val (.long x4), .second, .val (.long x5), .second, .val (.int x6), .val (.ref b), .val (.int (x6 &&& (7 : Int32))), .val (.long y5), .second, .val (.int (own_last y5 x1 x2 x3 x4)), .val (.int (ix (own_dn x1 x2 x3 x4))), .val (G10 y5), .val (.int (1 : Int32))] [(.long x4), (.long x3), (.long x2), (.long x1), (.long y5), (.long x3), (G14 x3), (.int (1 : Int32))])) rfl (by rw [hml]; rfl) (argsL := [(.long x3), (.long y5), (.long x1), (.long x2), (.long x3), (.long x4)]) (rest := [(G14 x3), (.int (1 : Int32))]) (lenOf pd_12 rfl) rfl (by show 2 * 0 + (List.map (fun v => v.category) [(G14 x3), (.int (1 : Int32))]).sum ≤ _; simp only [List.map_cons, List.map_nil, List.sum_cons, List.sum_nil, XT.cat1 NV49.isRef]; exact Nat.le_of_eq rfl) (hb hby at_272) (fun _ _ => ⟨rfl, e51, (by decide : 11 + 0 ≤ _), (by decide : 132 + 0 ≤ _)⟩)
      dsimp only [Pt.U, Pt.locs, Pt.cells, Pt.slots] at X52 l52 y52 z52 st52 hQ52
      subst y52 z52
      have XN52 : Stand p l e room_1 (s.setVm T10.vm) m #[(.long x1), (.long x2), (.long x3), (.long x4), (.long x5), (.int x6)] below meth c T52 _ 11 132 := X52
      obtain ⟨hv52, N52q, e52⟩ := hQ52
      subst hv52
      have N52 : Fr n0 L52 := by rw [l52]; exact Fr.app N50 N52q
      refine own_go (fun tt_ kk_ => st52 tt_ kk_) ?_
      show Go p.tables e below _ (T52.setTop (mkF m 275 #[.val (.long x1), .second, .val (.long x2), .second, .val (.long x3), .second, .val (.long x4), .second, .val (.long x5), .second, .val (.int x6), .val (.ref b), .val (.int (x6 &&& (7 : Int32))), .val (.long y5), .second, .val (.int (own_last y5 x1 x2 x3 x4)), .val (.int (ix (own_dn x1 x2 x3 x4))), .val (G10 y5), .val (.int (1 : Int32))] [(.int (own_after x3 y5 x1 x2 x3 x4)), (G14 x3), (.int (1 : Int32))]))
      obtain ⟨v53, _, ⟨T53, L53, k53, n53⟩, -, X53, ⟨Lc53, hQ53, l53, y53, z53⟩, st53⟩ := Jvm.LawKit.callS XN52 hx (y := (⟨"com/example/rootlet/rootlet/IdMapRemovePinLaw", "same", "(Ljava/lang/Integer;I)Z"⟩ : MethodName)) hown10 (mvT hZ10 (hw _ (List.mem_of_getElem? (i := 77) rfl))) (mvT hZ10 (hw _ (List.mem_of_getElem? (i := 78) rfl))) (mvT hZ10 (hw _ (List.mem_of_getElem? (i := 61) rfl))) (mvT hZ10 (hw _ (List.mem_of_getElem? (i := 79) rfl))) (by decide) (backOf (W := 1) (rm_same l Z a0 hw [] (G14 x3) (own_after x3 y5 x1 x2 x3 x4) (own_after x3 y5 x1 x2 x3 x4) T14.heap n0 NV49) hZ10 (hw _ (List.mem_of_getElem? (i := 79) rfl)) (hw _ (List.mem_of_getElem? (i := 61) rfl)) (by decide) (by decide)) (g := (mkF m 275 #[.val (.long x1), .second, .val (.long x2), .second, .val (.long x3), .second, .val (.long x4), .second, .val (.long x5), .second, .val (.int x6), .val (.ref b), .val (.int (x6 &&& (7 : Int32))), .val (.long y5), .second, .val (.int (own_last y5 x1 x2 x3 x4)), .val (.int (ix (own_dn x1 x2 x3 x4))), .val (G10 y5), .val (.int (1 : Int32))] [(.int (own_after x3 y5 x1 x2 x3 x4)), (G14 x3), (.int (1 : Int32))])) rfl (by rw [hml]; rfl) (argsL := [(G14 x3), (.int (own_after x3 y5 x1 x2 x3 x4))]) (rest := [(.int (1 : Int32))]) (lenOf pd_11 rfl) rfl (by show 2 * 0 + _ ≤ _; exact Nat.le_of_eq rfl) (hb hby at_275) (fun _ _ => ⟨rfl, e52, (by decide : 11 + 0 ≤ _), (by decide : 132 + 0 ≤ _)⟩)
      dsimp only [Pt.U, Pt.locs, Pt.cells, Pt.slots] at X53 l53 y53 z53 st53 hQ53
      subst y53 z53
      have XN53 : Stand p l e room_1 (s.setVm T10.vm) m #[(.long x1), (.long x2), (.long x3), (.long x4), (.long x5), (.int x6)] below meth c T53 _ 11 132 := X53
      obtain ⟨hv53, N53q, e53⟩ := hQ53
      rw [show ((.int (if (own_after x3 y5 x1 x2 x3 x4) = (own_after x3 y5 x1 x2 x3 x4) then 1 else 0)) : Value) = (.int (1 : Int32)) from congrArg Value.int (if_pos rfl)] at hv53
      subst hv53
      have N53 : Fr n0 L53 := by rw [l53]; exact Fr.app N52 N53q
      refine own_go (fun tt_ kk_ => st53 tt_ kk_) ?_
      show Go p.tables e below _ (T53.setTop (mkF m 278 #[.val (.long x1), .second, .val (.long x2), .second, .val (.long x3), .second, .val (.long x4), .second, .val (.long x5), .second, .val (.int x6), .val (.ref b), .val (.int (x6 &&& (7 : Int32))), .val (.long y5), .second, .val (.int (own_last y5 x1 x2 x3 x4)), .val (.int (ix (own_dn x1 x2 x3 x4))), .val (G10 y5), .val (.int (1 : Int32))] [(.int (1 : Int32)), (.int (1 : Int32))]))
      refine own_go (fun tt_ kk_ => XS.iand XN53.here hx rfl (hb hby at_278) rfl kk_) ?_
      show Go p.tables e below _ (T53.setTop (mkF m 279 #[.val (.long x1), .second, .val (.long x2), .second, .val (.long x3), .second, .val (.long x4), .second, .val (.long x5), .second, .val (.int x6), .val (.ref b), .val (.int (x6 &&& (7 : Int32))), .val (.long y5), .second, .val (.int (own_last y5 x1 x2 x3 x4)), .val (.int (ix (own_dn x1 x2 x3 x4))), .val (G10 y5), .val (.int (1 : Int32))] [(.int (1 : Int32))]))
      refine own_go (fun tt_ kk_ => XS.istore XN53.here hx rfl (hb hby at_279) rfl (l' := #[.val (.long x1), .second, .val (.long x2), .second, .val (.long x3), .second, .val (.long x4), .second, .val (.long x5), .second, .val (.int x6), .val (.ref b), .val (.int (x6 &&& (7 : Int32))), .val (.long y5), .second, .val (.int (own_last y5 x1 x2 x3 x4)), .val (.int (ix (own_dn x1 x2 x3 x4))), .val (G10 y5), .val (.int (1 : Int32))]) rfl kk_) ?_
      show Go p.tables e below _ (T53.setTop (mkF m 281 #[.val (.long x1), .second, .val (.long x2), .second, .val (.long x3), .second, .val (.long x4), .second, .val (.long x5), .second, .val (.int x6), .val (.ref b), .val (.int (x6 &&& (7 : Int32))), .val (.long y5), .second, .val (.int (own_last y5 x1 x2 x3 x4)), .val (.int (ix (own_dn x1 x2 x3 x4))), .val (G10 y5), .val (.int (1 : Int32))] []))
      refine own_go (fun tt_ kk_ => XS.iload XN53.here hx rfl (hb hby at_281) rfl kk_) ?_
      show Go p.tables e below _ (T53.setTop (mkF m 283 #[.val (.long x1), .second, .val (.long x2), .second, .val (.long x3), .second, .val (.long x4), .second, .val (.long x5), .second, .val (.int x6), .val (.ref b), .val (.int (x6 &&& (7 : Int32))), .val (.long y5), .second, .val (.int (own_last y5 x1 x2 x3 x4)), .val (.int (ix (own_dn x1 x2 x3 x4))), .val (G10 y5), .val (.int (1 : Int32))] [(.int (1 : Int32))]))
      refine own_go (fun tt_ kk_ => XS.aload XN53.here hx rfl (hb hby at_283) rfl rfl kk_) ?_
      show Go p.tables e below _ (T53.setTop (mkF m 285 #[.val (.long x1), .second, .val (.long x2), .second, .val (.long x3), .second, .val (.long x4), .second, .val (.long x5), .second, .val (.int x6), .val (.ref b), .val (.int (x6 &&& (7 : Int32))), .val (.long y5), .second, .val (.int (own_last y5 x1 x2 x3 x4)), .val (.int (ix (own_dn x1 x2 x3 x4))), .val (G10 y5), .val (.int (1 : Int32))] [(.ref b), (.int (1 : Int32))]))
      refine own_go (fun tt_ kk_ => XT.lload XN53.here hx rfl (hb hby at_285) rfl kk_) ?_
      show Go p.tables e below _ (T53.setTop (mkF m 287 #[.val (.long x1), .second, .val (.long x2), .second, .val (.long x3), .second, .val (.long x4), .second, .val (.long x5), .second, .val (.int x6), .val (.ref b), .val (.int (x6 &&& (7 : Int32))), .val (.long y5), .second, .val (.int (own_last y5 x1 x2 x3 x4)), .val (.int (ix (own_dn x1 x2 x3 x4))), .val (G10 y5), .val (.int (1 : Int32))] [(.long x4), (.ref b), (.int (1 : Int32))]))
      have NV54 : own_Num Z T14.heap (G14 x4) (own_after x4 y5 x1 x2 x3 x4) := by rw [hG14]; exact own_num5 (Ew_all O14 x4)
      obtain ⟨cq55, kq55, q55a, q55b, q55c⟩ := isOf hZ10 e53 M14.2.1
      obtain ⟨v55, _, ⟨T55, L55, k55, n55⟩, -, X55, ⟨Lc55, hQ55, l55, y55, z55⟩, st55⟩ := XN53.virtualBack hx (y := (⟨"com/example/rootlet/rootlet/IdMap", "get", "(J)Ljava/lang/Object;"⟩ : MethodName)) (z := (⟨"com/example/rootlet/rootlet/IdMap", "get", "(J)Ljava/lang/Object;"⟩ : MethodName)) hown10 (mvT hZ10 (hw _ (List.mem_of_getElem? (i := 92) rfl))) (mvT hZ10 (hw _ (List.mem_of_getElem? (i := 93) rfl))) (notFace_of_selects (args := #[]) (mvT hZ10 (hw _ (List.mem_of_getElem? (i := 95) rfl)))) (mvT hZ10 (hw _ (List.mem_of_getElem? (i := 95) rfl))) (mvT hZ10 (hw _ (List.mem_of_getElem? (i := 94) rfl))) (by decide) (backOf (W := 1) (rm_get l Z a0 hw [] b ka va ks14 vs14 G14 nn14 x4 T14.heap n0 M14 RR14 (by omega)) hZ10 (hw _ (List.mem_of_getElem? (i := 96) rfl)) (hw _ (List.mem_of_getElem? (i := 2) rfl)) (by decide) (by decide)) q55a q55c (g := (mkF m 287 #[.val (.long x1), .second, .val (.long x2), .second, .val (.long x3), .second, .val (.long x4), .second, .val (.long x5), .second, .val (.int x6), .val (.ref b), .val (.int (x6 &&& (7 : Int32))), .val (.long y5), .second, .val (.int (own_last y5 x1 x2 x3 x4)), .val (.int (ix (own_dn x1 x2 x3 x4))), .val (G10 y5), .val (.int (1 : Int32))] [(.long x4), (.ref b), (.int (1 : Int32))])) rfl (by rw [hml]; rfl) (Steps.refl _) (argsL := [(.long x4)]) (rest := [(.int (1 : Int32))]) (lenOf pd_10 rfl) rfl (by show 2 * 0 + _ ≤ _; exact Nat.le_of_eq rfl) (hb hby at_287) (fun _ _ => ⟨rfl, e53, (by decide : 11 + 0 ≤ _), (by decide : 132 + 0 ≤ _)⟩)
      dsimp only [Pt.U, Pt.locs, Pt.cells, Pt.slots] at X55 l55 y55 z55 st55 hQ55
      subst y55 z55
      have XN55 : Stand p l e room_1 (s.setVm T10.vm) m #[(.long x1), (.long x2), (.long x3), (.long x4), (.long x5), (.int x6)] below meth c T55 _ 11 132 := X55
      obtain ⟨hv55, N55q, e55⟩ := hQ55
      subst hv55
      have N55 : Fr n0 L55 := by rw [l55]; exact Fr.app N53 N55q
      refine own_go (fun tt_ kk_ => st55.trans kk_) ?_
      show Go p.tables e below _ (T55.setTop (mkF m 290 #[.val (.long x1), .second, .val (.long x2), .second, .val (.long x3), .second, .val (.long x4), .second, .val (.long x5), .second, .val (.int x6), .val (.ref b), .val (.int (x6 &&& (7 : Int32))), .val (.long y5), .second, .val (.int (own_last y5 x1 x2 x3 x4)), .val (.int (ix (own_dn x1 x2 x3 x4))), .val (G10 y5), .val (.int (1 : Int32))] [(G14 x4), (.int (1 : Int32))]))
      obtain ⟨T56, X56, e56, st56⟩ := own_cast XN55 hx hZ10 hown10 (hw _ (List.mem_of_getElem? (i := 75) rfl)) e55 NV54.ins (g := (mkF m 290 #[.val (.long x1), .second, .val (.long x2), .second, .val (.long x3), .second, .val (.long x4), .second, .val (.long x5), .second, .val (.int x6), .val (.ref b), .val (.int (x6 &&& (7 : Int32))), .val (.long y5), .second, .val (.int (own_last y5 x1 x2 x3 x4)), .val (.int (ix (own_dn x1 x2 x3 x4))), .val (G10 y5), .val (.int (1 : Int32))] [(G14 x4), (.int (1 : Int32))])) rfl rfl (hb hby at_290)
      refine own_go (fun tt_ kk_ => st56 tt_ kk_) ?_
      show Go p.tables e below _ (T56.setTop (mkF m 293 #[.val (.long x1), .second, .val (.long x2), .second, .val (.long x3), .second, .val (.long x4), .second, .val (.long x5), .second, .val (.int x6), .val (.ref b), .val (.int (x6 &&& (7 : Int32))), .val (.long y5), .second, .val (.int (own_last y5 x1 x2 x3 x4)), .val (.int (ix (own_dn x1 x2 x3 x4))), .val (G10 y5), .val (.int (1 : Int32))] [(G14 x4), (.int (1 : Int32))]))
      refine own_go (fun tt_ kk_ => XT.lload X56.here hx rfl (hb hby at_293) rfl kk_) ?_
      show Go p.tables e below _ (T56.setTop (mkF m 295 #[.val (.long x1), .second, .val (.long x2), .second, .val (.long x3), .second, .val (.long x4), .second, .val (.long x5), .second, .val (.int x6), .val (.ref b), .val (.int (x6 &&& (7 : Int32))), .val (.long y5), .second, .val (.int (own_last y5 x1 x2 x3 x4)), .val (.int (ix (own_dn x1 x2 x3 x4))), .val (G10 y5), .val (.int (1 : Int32))] [(.long x4), (G14 x4), (.int (1 : Int32))]))
      refine own_go (fun tt_ kk_ => XT.lload X56.here hx rfl (hb hby at_295) rfl kk_) ?_
      show Go p.tables e below _ (T56.setTop (mkF m 297 #[.val (.long x1), .second, .val (.long x2), .second, .val (.long x3), .second, .val (.long x4), .second, .val (.long x5), .second, .val (.int x6), .val (.ref b), .val (.int (x6 &&& (7 : Int32))), .val (.long y5), .second, .val (.int (own_last y5 x1 x2 x3 x4)), .val (.int (ix (own_dn x1 x2 x3 x4))), .val (G10 y5), .val (.int (1 : Int32))] [(.long y5), (.long x4), (G14 x4), (.int (1 : Int32))]))
      refine own_go (fun tt_ kk_ => XT.lloadN X56.here hx rfl (hb hby at_297) rfl kk_) ?_
      show Go p.tables e below _ (T56.setTop (mkF m 298 #[.val (.long x1), .second, .val (.long x2), .second, .val (.long x3), .second, .val (.long x4), .second, .val (.long x5), .second, .val (.int x6), .val (.ref b), .val (.int (x6 &&& (7 : Int32))), .val (.long y5), .second, .val (.int (own_last y5 x1 x2 x3 x4)), .val (.int (ix (own_dn x1 x2 x3 x4))), .val (G10 y5), .val (.int (1 : Int32))] [(.long x1), (.long y5), (.long x4), (G14 x4), (.int (1 : Int32))]))
      refine own_go (fun tt_ kk_ => XT.lloadN X56.here hx rfl (hb hby at_298) rfl kk_) ?_
      show Go p.tables e below _ (T56.setTop (mkF m 299 #[.val (.long x1), .second, .val (.long x2), .second, .val (.long x3), .second, .val (.long x4), .second, .val (.long x5), .second, .val (.int x6), .val (.ref b), .val (.int (x6 &&& (7 : Int32))), .val (.long y5), .second, .val (.int (own_last y5 x1 x2 x3 x4)), .val (.int (ix (own_dn x1 x2 x3 x4))), .val (G10 y5), .val (.int (1 : Int32))] [(.long x2), (.long x1), (.long y5), (.long x4), (G14 x4), (.int (1 : Int32))]))
      refine own_go (fun tt_ kk_ => XT.lload X56.here hx rfl (hb hby at_299) rfl kk_) ?_
      show Go p.tables e below _ (T56.setTop (mkF m 301 #[.val (.long x1), .second, .val (.long x2), .second, .val (.long x3), .second, .val (.long x4), .second, .val (.long x5), .second, .val (.int x6), .val (.ref b), .val (.int (x6 &&& (7 : Int32))), .val (.long y5), .second, .val (.int (own_last y5 x1 x2 x3 x4)), .val (.int (ix (own_dn x1 x2 x3 x4))), .val (G10 y5), .val (.int (1 : Int32))] [(.long x3), (.long x2), (.long x1), (.long y5), (.long x4), (G14 x4), (.int (1 : Int32))]))
      refine own_go (fun tt_ kk_ => XT.lload X56.here hx rfl (hb hby at_301) rfl kk_) ?_
      show Go p.tables e below _ (T56.setTop (mkF m 303 #[.val (.long x1), .second, .val (.long x2), .second, .val (.long x3), .second, .val (.long x4), .second, .val (.long x5), .second, .val (.int x6), .val (.ref b), .val (.int (x6 &&& (7 : Int32))), .val (.long y5), .second, .val (.int (own_last y5 x1 x2 x3 x4)), .val (.int (ix (own_dn x1 x2 x3 x4))), .val (G10 y5), .val (.int (1 : Int32))] [(.long x4), (.long x3), (.long x2), (.long x1), (.long y5), (.long x4), (G14 x4), (.int (1 : Int32))]))
      obtain ⟨v57, _, ⟨T57, L57, k57, n57⟩, -, X57, ⟨Lc57, hQ57, l57, y57, z57⟩, st57⟩ := Jvm.LawKit.callS X56 hx (y := (⟨"com/example/rootlet/rootlet/IdMapRemovePinLaw", "after", "(JJJJJJ)I"⟩ : MethodName)) hown10 (mvT hZ10 (hw _ (List.mem_of_getElem? (i := 97) rfl))) (mvT hZ10 (hw _ (List.mem_of_getElem? (i := 98) rfl))) (mvT hZ10 (hw _ (List.mem_of_getElem? (i := 61) rfl))) (mvT hZ10 (hw _ (List.mem_of_getElem? (i := 99) rfl))) (by decide) (backOf (W := 2) (rm_after l Z a0 hw [] x4 y5 x1 x2 x3 x4 T14.heap n0) hZ10 (hw _ (List.mem_of_getElem? (i := 99) rfl)) (hw _ (List.mem_of_getElem? (i := 61) rfl)) (by decide) (by decide)) (g := (mkF m 303 #[.val (.long x1), .second, .val (.long x2), .second, .val (.long x3), .second, .val (.long x4), .second, .val (.long x5), .second, .val (.int x6), .val (.ref b), .val (.int (x6 &&& (7 : Int32))), .val (.long y5), .second, .val (.int (own_last y5 x1 x2 x3 x4)), .val (.int (ix (own_dn x1 x2 x3 x4))), .val (G10 y5), .val (.int (1 : Int32))] [(.long x4), (.long x3), (.long x2), (.long x1), (.long y5), (.long x4), (G14 x4), (.int (1 : Int32))])) rfl (by rw [hml]; rfl) (argsL := [(.long x4), (.long y5), (.long x1), (.long x2), (.long x3), (.long x4)]) (rest := [(G14 x4), (.int (1 : Int32))]) (lenOf pd_12 rfl) rfl (by show 2 * 0 + (List.map (fun v => v.category) [(G14 x4), (.int (1 : Int32))]).sum ≤ _; simp only [List.map_cons, List.map_nil, List.sum_cons, List.sum_nil, XT.cat1 NV54.isRef]; exact Nat.le_of_eq rfl) (hb hby at_303) (fun _ _ => ⟨rfl, e56, (by decide : 11 + 0 ≤ _), (by decide : 132 + 0 ≤ _)⟩)
      dsimp only [Pt.U, Pt.locs, Pt.cells, Pt.slots] at X57 l57 y57 z57 st57 hQ57
      subst y57 z57
      have XN57 : Stand p l e room_1 (s.setVm T10.vm) m #[(.long x1), (.long x2), (.long x3), (.long x4), (.long x5), (.int x6)] below meth c T57 _ 11 132 := X57
      obtain ⟨hv57, N57q, e57⟩ := hQ57
      subst hv57
      have N57 : Fr n0 L57 := by rw [l57]; exact Fr.app N55 N57q
      refine own_go (fun tt_ kk_ => st57 tt_ kk_) ?_
      show Go p.tables e below _ (T57.setTop (mkF m 306 #[.val (.long x1), .second, .val (.long x2), .second, .val (.long x3), .second, .val (.long x4), .second, .val (.long x5), .second, .val (.int x6), .val (.ref b), .val (.int (x6 &&& (7 : Int32))), .val (.long y5), .second, .val (.int (own_last y5 x1 x2 x3 x4)), .val (.int (ix (own_dn x1 x2 x3 x4))), .val (G10 y5), .val (.int (1 : Int32))] [(.int (own_after x4 y5 x1 x2 x3 x4)), (G14 x4), (.int (1 : Int32))]))
      obtain ⟨v58, _, ⟨T58, L58, k58, n58⟩, -, X58, ⟨Lc58, hQ58, l58, y58, z58⟩, st58⟩ := Jvm.LawKit.callS XN57 hx (y := (⟨"com/example/rootlet/rootlet/IdMapRemovePinLaw", "same", "(Ljava/lang/Integer;I)Z"⟩ : MethodName)) hown10 (mvT hZ10 (hw _ (List.mem_of_getElem? (i := 77) rfl))) (mvT hZ10 (hw _ (List.mem_of_getElem? (i := 78) rfl))) (mvT hZ10 (hw _ (List.mem_of_getElem? (i := 61) rfl))) (mvT hZ10 (hw _ (List.mem_of_getElem? (i := 79) rfl))) (by decide) (backOf (W := 1) (rm_same l Z a0 hw [] (G14 x4) (own_after x4 y5 x1 x2 x3 x4) (own_after x4 y5 x1 x2 x3 x4) T14.heap n0 NV54) hZ10 (hw _ (List.mem_of_getElem? (i := 79) rfl)) (hw _ (List.mem_of_getElem? (i := 61) rfl)) (by decide) (by decide)) (g := (mkF m 306 #[.val (.long x1), .second, .val (.long x2), .second, .val (.long x3), .second, .val (.long x4), .second, .val (.long x5), .second, .val (.int x6), .val (.ref b), .val (.int (x6 &&& (7 : Int32))), .val (.long y5), .second, .val (.int (own_last y5 x1 x2 x3 x4)), .val (.int (ix (own_dn x1 x2 x3 x4))), .val (G10 y5), .val (.int (1 : Int32))] [(.int (own_after x4 y5 x1 x2 x3 x4)), (G14 x4), (.int (1 : Int32))])) rfl (by rw [hml]; rfl) (argsL := [(G14 x4), (.int (own_after x4 y5 x1 x2 x3 x4))]) (rest := [(.int (1 : Int32))]) (lenOf pd_11 rfl) rfl (by show 2 * 0 + _ ≤ _; exact Nat.le_of_eq rfl) (hb hby at_306) (fun _ _ => ⟨rfl, e57, (by decide : 11 + 0 ≤ _), (by decide : 132 + 0 ≤ _)⟩)
      dsimp only [Pt.U, Pt.locs, Pt.cells, Pt.slots] at X58 l58 y58 z58 st58 hQ58
      subst y58 z58
      have XN58 : Stand p l e room_1 (s.setVm T10.vm) m #[(.long x1), (.long x2), (.long x3), (.long x4), (.long x5), (.int x6)] below meth c T58 _ 11 132 := X58
      obtain ⟨hv58, N58q, e58⟩ := hQ58
      rw [show ((.int (if (own_after x4 y5 x1 x2 x3 x4) = (own_after x4 y5 x1 x2 x3 x4) then 1 else 0)) : Value) = (.int (1 : Int32)) from congrArg Value.int (if_pos rfl)] at hv58
      subst hv58
      have N58 : Fr n0 L58 := by rw [l58]; exact Fr.app N57 N58q
      refine own_go (fun tt_ kk_ => st58 tt_ kk_) ?_
      show Go p.tables e below _ (T58.setTop (mkF m 309 #[.val (.long x1), .second, .val (.long x2), .second, .val (.long x3), .second, .val (.long x4), .second, .val (.long x5), .second, .val (.int x6), .val (.ref b), .val (.int (x6 &&& (7 : Int32))), .val (.long y5), .second, .val (.int (own_last y5 x1 x2 x3 x4)), .val (.int (ix (own_dn x1 x2 x3 x4))), .val (G10 y5), .val (.int (1 : Int32))] [(.int (1 : Int32)), (.int (1 : Int32))]))
      refine own_go (fun tt_ kk_ => XS.iand XN58.here hx rfl (hb hby at_309) rfl kk_) ?_
      show Go p.tables e below _ (T58.setTop (mkF m 310 #[.val (.long x1), .second, .val (.long x2), .second, .val (.long x3), .second, .val (.long x4), .second, .val (.long x5), .second, .val (.int x6), .val (.ref b), .val (.int (x6 &&& (7 : Int32))), .val (.long y5), .second, .val (.int (own_last y5 x1 x2 x3 x4)), .val (.int (ix (own_dn x1 x2 x3 x4))), .val (G10 y5), .val (.int (1 : Int32))] [(.int (1 : Int32))]))
      refine own_go (fun tt_ kk_ => XS.istore XN58.here hx rfl (hb hby at_310) rfl (l' := #[.val (.long x1), .second, .val (.long x2), .second, .val (.long x3), .second, .val (.long x4), .second, .val (.long x5), .second, .val (.int x6), .val (.ref b), .val (.int (x6 &&& (7 : Int32))), .val (.long y5), .second, .val (.int (own_last y5 x1 x2 x3 x4)), .val (.int (ix (own_dn x1 x2 x3 x4))), .val (G10 y5), .val (.int (1 : Int32))]) rfl kk_) ?_
      show Go p.tables e below _ (T58.setTop (mkF m 312 #[.val (.long x1), .second, .val (.long x2), .second, .val (.long x3), .second, .val (.long x4), .second, .val (.long x5), .second, .val (.int x6), .val (.ref b), .val (.int (x6 &&& (7 : Int32))), .val (.long y5), .second, .val (.int (own_last y5 x1 x2 x3 x4)), .val (.int (ix (own_dn x1 x2 x3 x4))), .val (G10 y5), .val (.int (1 : Int32))] []))
      refine own_go (fun tt_ kk_ => XS.iload XN58.here hx rfl (hb hby at_312) rfl kk_) ?_
      show Go p.tables e below _ (T58.setTop (mkF m 314 #[.val (.long x1), .second, .val (.long x2), .second, .val (.long x3), .second, .val (.long x4), .second, .val (.long x5), .second, .val (.int x6), .val (.ref b), .val (.int (x6 &&& (7 : Int32))), .val (.long y5), .second, .val (.int (own_last y5 x1 x2 x3 x4)), .val (.int (ix (own_dn x1 x2 x3 x4))), .val (G10 y5), .val (.int (1 : Int32))] [(.int (1 : Int32))]))
      exact own_retW XN58 sq10 (by rw [e58]; exact kz14) hx hlk Bd.returns rfl (Or.inl ⟨rfl, Or.inr (Or.inl rfl), _, rfl⟩) (hb hby at_314) ⟨rfl, N58⟩ (by decide) (by decide)
  refine own_go (fun tt_ kk_ => XS.iload Y10.here hx rfl (hb hby at_62) rfl kk_) ?_
  show Go p.tables e below _ (T10.setTop (mkF m 64 #[.val (.long x1), .second, .val (.long x2), .second, .val (.long x3), .second, .val (.long x4), .second, .val (.long x5), .second, .val (.int x6), .val (.ref b), .val (.int (x6 &&& (7 : Int32))), .unset, .unset, .unset, .unset, .unset, .unset] [(.int (x6 &&& (7 : Int32)))]))
  by_cases hc59 : (x6 &&& (7 : Int32)) = 0
  · refine own_go (fun tt_ kk_ => XS.ifNo Y10.here hx rfl (hb hby at_64) rfl (XT.i0_ne_f hc59) kk_) ?_
    show Go p.tables e below _ (T10.setTop (mkF m 67 #[.val (.long x1), .second, .val (.long x2), .second, .val (.long x3), .second, .val (.long x4), .second, .val (.long x5), .second, .val (.int x6), .val (.ref b), .val (.int (x6 &&& (7 : Int32))), .unset, .unset, .unset, .unset, .unset, .unset] []))
    refine own_go (fun tt_ kk_ => XT.lloadN Y10.here hx rfl (hb hby at_67) rfl kk_) ?_
    show Go p.tables e below _ (T10.setTop (mkF m 68 #[.val (.long x1), .second, .val (.long x2), .second, .val (.long x3), .second, .val (.long x4), .second, .val (.long x5), .second, .val (.int x6), .val (.ref b), .val (.int (x6 &&& (7 : Int32))), .unset, .unset, .unset, .unset, .unset, .unset] [(.long x1)]))
    refine own_go (fun tt_ kk_ => XT.lstore Y10.here hx rfl (hb hby at_68) rfl (l' := #[.val (.long x1), .second, .val (.long x2), .second, .val (.long x3), .second, .val (.long x4), .second, .val (.long x5), .second, .val (.int x6), .val (.ref b), .val (.int (x6 &&& (7 : Int32))), .val (.long x1), .second, .unset, .unset, .unset, .unset]) rfl kk_) ?_
    show Go p.tables e below _ (T10.setTop (mkF m 70 #[.val (.long x1), .second, .val (.long x2), .second, .val (.long x3), .second, .val (.long x4), .second, .val (.long x5), .second, .val (.int x6), .val (.ref b), .val (.int (x6 &&& (7 : Int32))), .val (.long x1), .second, .unset, .unset, .unset, .unset] []))
    refine own_go (fun tt_ kk_ => XS.goto Y10.here hx rfl (pc0 := 70) (pc' := 115) rfl (hb hby at_70) (by decide) (by decide) kk_) ?_
    show Go p.tables e below _ (T10.setTop (mkF m 115 #[.val (.long x1), .second, .val (.long x2), .second, .val (.long x3), .second, .val (.long x4), .second, .val (.long x5), .second, .val (.int x6), .val (.ref b), .val (.int (x6 &&& (7 : Int32))), .val (.long x1), .second, .unset, .unset, .unset, .unset] []))
    exact J115 _
  · refine own_go (fun tt_ kk_ => XS.ifYes Y10.here hx rfl (pc0 := 64) (pc' := 73) rfl (hb hby at_64) rfl (XT.i0_ne_t hc59) (by decide) (by decide) kk_) ?_
    show Go p.tables e below _ (T10.setTop (mkF m 73 #[.val (.long x1), .second, .val (.long x2), .second, .val (.long x3), .second, .val (.long x4), .second, .val (.long x5), .second, .val (.int x6), .val (.ref b), .val (.int (x6 &&& (7 : Int32))), .unset, .unset, .unset, .unset, .unset, .unset] []))
    refine own_go (fun tt_ kk_ => XS.iload Y10.here hx rfl (hb hby at_73) rfl kk_) ?_
    show Go p.tables e below _ (T10.setTop (mkF m 75 #[.val (.long x1), .second, .val (.long x2), .second, .val (.long x3), .second, .val (.long x4), .second, .val (.long x5), .second, .val (.int x6), .val (.ref b), .val (.int (x6 &&& (7 : Int32))), .unset, .unset, .unset, .unset, .unset, .unset] [(.int (x6 &&& (7 : Int32)))]))
    refine own_go (fun tt_ kk_ => XS.iconst Y10.here hx rfl (hb hby at_75) kk_) ?_
    show Go p.tables e below _ (T10.setTop (mkF m 76 #[.val (.long x1), .second, .val (.long x2), .second, .val (.long x3), .second, .val (.long x4), .second, .val (.long x5), .second, .val (.int x6), .val (.ref b), .val (.int (x6 &&& (7 : Int32))), .unset, .unset, .unset, .unset, .unset, .unset] [(.int (1 : Int32)), (.int (x6 &&& (7 : Int32)))]))
    by_cases hc60 : (x6 &&& (7 : Int32)) = (1 : Int32)
    · refine own_go (fun tt_ kk_ => XS.icmpNo Y10.here hx rfl (hb hby at_76) rfl (XT.ii_ne_f hc60) kk_) ?_
      show Go p.tables e below _ (T10.setTop (mkF m 79 #[.val (.long x1), .second, .val (.long x2), .second, .val (.long x3), .second, .val (.long x4), .second, .val (.long x5), .second, .val (.int x6), .val (.ref b), .val (.int (x6 &&& (7 : Int32))), .unset, .unset, .unset, .unset, .unset, .unset] []))
      refine own_go (fun tt_ kk_ => XT.lloadN Y10.here hx rfl (hb hby at_79) rfl kk_) ?_
      show Go p.tables e below _ (T10.setTop (mkF m 80 #[.val (.long x1), .second, .val (.long x2), .second, .val (.long x3), .second, .val (.long x4), .second, .val (.long x5), .second, .val (.int x6), .val (.ref b), .val (.int (x6 &&& (7 : Int32))), .unset, .unset, .unset, .unset, .unset, .unset] [(.long x2)]))
      refine own_go (fun tt_ kk_ => XT.lstore Y10.here hx rfl (hb hby at_80) rfl (l' := #[.val (.long x1), .second, .val (.long x2), .second, .val (.long x3), .second, .val (.long x4), .second, .val (.long x5), .second, .val (.int x6), .val (.ref b), .val (.int (x6 &&& (7 : Int32))), .val (.long x2), .second, .unset, .unset, .unset, .unset]) rfl kk_) ?_
      show Go p.tables e below _ (T10.setTop (mkF m 82 #[.val (.long x1), .second, .val (.long x2), .second, .val (.long x3), .second, .val (.long x4), .second, .val (.long x5), .second, .val (.int x6), .val (.ref b), .val (.int (x6 &&& (7 : Int32))), .val (.long x2), .second, .unset, .unset, .unset, .unset] []))
      refine own_go (fun tt_ kk_ => XS.goto Y10.here hx rfl (pc0 := 82) (pc' := 115) rfl (hb hby at_82) (by decide) (by decide) kk_) ?_
      show Go p.tables e below _ (T10.setTop (mkF m 115 #[.val (.long x1), .second, .val (.long x2), .second, .val (.long x3), .second, .val (.long x4), .second, .val (.long x5), .second, .val (.int x6), .val (.ref b), .val (.int (x6 &&& (7 : Int32))), .val (.long x2), .second, .unset, .unset, .unset, .unset] []))
      exact J115 _
    · refine own_go (fun tt_ kk_ => XS.icmpYes Y10.here hx rfl (pc0 := 76) (pc' := 85) rfl (hb hby at_76) rfl (XT.ii_ne_t hc60) (by decide) (by decide) kk_) ?_
      show Go p.tables e below _ (T10.setTop (mkF m 85 #[.val (.long x1), .second, .val (.long x2), .second, .val (.long x3), .second, .val (.long x4), .second, .val (.long x5), .second, .val (.int x6), .val (.ref b), .val (.int (x6 &&& (7 : Int32))), .unset, .unset, .unset, .unset, .unset, .unset] []))
      refine own_go (fun tt_ kk_ => XS.iload Y10.here hx rfl (hb hby at_85) rfl kk_) ?_
      show Go p.tables e below _ (T10.setTop (mkF m 87 #[.val (.long x1), .second, .val (.long x2), .second, .val (.long x3), .second, .val (.long x4), .second, .val (.long x5), .second, .val (.int x6), .val (.ref b), .val (.int (x6 &&& (7 : Int32))), .unset, .unset, .unset, .unset, .unset, .unset] [(.int (x6 &&& (7 : Int32)))]))
      refine own_go (fun tt_ kk_ => XS.iconst Y10.here hx rfl (hb hby at_87) kk_) ?_
      show Go p.tables e below _ (T10.setTop (mkF m 88 #[.val (.long x1), .second, .val (.long x2), .second, .val (.long x3), .second, .val (.long x4), .second, .val (.long x5), .second, .val (.int x6), .val (.ref b), .val (.int (x6 &&& (7 : Int32))), .unset, .unset, .unset, .unset, .unset, .unset] [(.int (2 : Int32)), (.int (x6 &&& (7 : Int32)))]))
      by_cases hc61 : (x6 &&& (7 : Int32)) = (2 : Int32)
      · refine own_go (fun tt_ kk_ => XS.icmpNo Y10.here hx rfl (hb hby at_88) rfl (XT.ii_ne_f hc61) kk_) ?_
        show Go p.tables e below _ (T10.setTop (mkF m 91 #[.val (.long x1), .second, .val (.long x2), .second, .val (.long x3), .second, .val (.long x4), .second, .val (.long x5), .second, .val (.int x6), .val (.ref b), .val (.int (x6 &&& (7 : Int32))), .unset, .unset, .unset, .unset, .unset, .unset] []))
        refine own_go (fun tt_ kk_ => XT.lload Y10.here hx rfl (hb hby at_91) rfl kk_) ?_
        show Go p.tables e below _ (T10.setTop (mkF m 93 #[.val (.long x1), .second, .val (.long x2), .second, .val (.long x3), .second, .val (.long x4), .second, .val (.long x5), .second, .val (.int x6), .val (.ref b), .val (.int (x6 &&& (7 : Int32))), .unset, .unset, .unset, .unset, .unset, .unset] [(.long x3)]))
        refine own_go (fun tt_ kk_ => XT.lstore Y10.here hx rfl (hb hby at_93) rfl (l' := #[.val (.long x1), .second, .val (.long x2), .second, .val (.long x3), .second, .val (.long x4), .second, .val (.long x5), .second, .val (.int x6), .val (.ref b), .val (.int (x6 &&& (7 : Int32))), .val (.long x3), .second, .unset, .unset, .unset, .unset]) rfl kk_) ?_
        show Go p.tables e below _ (T10.setTop (mkF m 95 #[.val (.long x1), .second, .val (.long x2), .second, .val (.long x3), .second, .val (.long x4), .second, .val (.long x5), .second, .val (.int x6), .val (.ref b), .val (.int (x6 &&& (7 : Int32))), .val (.long x3), .second, .unset, .unset, .unset, .unset] []))
        refine own_go (fun tt_ kk_ => XS.goto Y10.here hx rfl (pc0 := 95) (pc' := 115) rfl (hb hby at_95) (by decide) (by decide) kk_) ?_
        show Go p.tables e below _ (T10.setTop (mkF m 115 #[.val (.long x1), .second, .val (.long x2), .second, .val (.long x3), .second, .val (.long x4), .second, .val (.long x5), .second, .val (.int x6), .val (.ref b), .val (.int (x6 &&& (7 : Int32))), .val (.long x3), .second, .unset, .unset, .unset, .unset] []))
        exact J115 _
      · refine own_go (fun tt_ kk_ => XS.icmpYes Y10.here hx rfl (pc0 := 88) (pc' := 98) rfl (hb hby at_88) rfl (XT.ii_ne_t hc61) (by decide) (by decide) kk_) ?_
        show Go p.tables e below _ (T10.setTop (mkF m 98 #[.val (.long x1), .second, .val (.long x2), .second, .val (.long x3), .second, .val (.long x4), .second, .val (.long x5), .second, .val (.int x6), .val (.ref b), .val (.int (x6 &&& (7 : Int32))), .unset, .unset, .unset, .unset, .unset, .unset] []))
        refine own_go (fun tt_ kk_ => XS.iload Y10.here hx rfl (hb hby at_98) rfl kk_) ?_
        show Go p.tables e below _ (T10.setTop (mkF m 100 #[.val (.long x1), .second, .val (.long x2), .second, .val (.long x3), .second, .val (.long x4), .second, .val (.long x5), .second, .val (.int x6), .val (.ref b), .val (.int (x6 &&& (7 : Int32))), .unset, .unset, .unset, .unset, .unset, .unset] [(.int (x6 &&& (7 : Int32)))]))
        refine own_go (fun tt_ kk_ => XS.iconst Y10.here hx rfl (hb hby at_100) kk_) ?_
        show Go p.tables e below _ (T10.setTop (mkF m 101 #[.val (.long x1), .second, .val (.long x2), .second, .val (.long x3), .second, .val (.long x4), .second, .val (.long x5), .second, .val (.int x6), .val (.ref b), .val (.int (x6 &&& (7 : Int32))), .unset, .unset, .unset, .unset, .unset, .unset] [(.int (3 : Int32)), (.int (x6 &&& (7 : Int32)))]))
        by_cases hc62 : (x6 &&& (7 : Int32)) = (3 : Int32)
        · refine own_go (fun tt_ kk_ => XS.icmpNo Y10.here hx rfl (hb hby at_101) rfl (XT.ii_ne_f hc62) kk_) ?_
          show Go p.tables e below _ (T10.setTop (mkF m 104 #[.val (.long x1), .second, .val (.long x2), .second, .val (.long x3), .second, .val (.long x4), .second, .val (.long x5), .second, .val (.int x6), .val (.ref b), .val (.int (x6 &&& (7 : Int32))), .unset, .unset, .unset, .unset, .unset, .unset] []))
          refine own_go (fun tt_ kk_ => XT.lload Y10.here hx rfl (hb hby at_104) rfl kk_) ?_
          show Go p.tables e below _ (T10.setTop (mkF m 106 #[.val (.long x1), .second, .val (.long x2), .second, .val (.long x3), .second, .val (.long x4), .second, .val (.long x5), .second, .val (.int x6), .val (.ref b), .val (.int (x6 &&& (7 : Int32))), .unset, .unset, .unset, .unset, .unset, .unset] [(.long x4)]))
          refine own_go (fun tt_ kk_ => XT.lstore Y10.here hx rfl (hb hby at_106) rfl (l' := #[.val (.long x1), .second, .val (.long x2), .second, .val (.long x3), .second, .val (.long x4), .second, .val (.long x5), .second, .val (.int x6), .val (.ref b), .val (.int (x6 &&& (7 : Int32))), .val (.long x4), .second, .unset, .unset, .unset, .unset]) rfl kk_) ?_
          show Go p.tables e below _ (T10.setTop (mkF m 108 #[.val (.long x1), .second, .val (.long x2), .second, .val (.long x3), .second, .val (.long x4), .second, .val (.long x5), .second, .val (.int x6), .val (.ref b), .val (.int (x6 &&& (7 : Int32))), .val (.long x4), .second, .unset, .unset, .unset, .unset] []))
          refine own_go (fun tt_ kk_ => XS.goto Y10.here hx rfl (pc0 := 108) (pc' := 115) rfl (hb hby at_108) (by decide) (by decide) kk_) ?_
          show Go p.tables e below _ (T10.setTop (mkF m 115 #[.val (.long x1), .second, .val (.long x2), .second, .val (.long x3), .second, .val (.long x4), .second, .val (.long x5), .second, .val (.int x6), .val (.ref b), .val (.int (x6 &&& (7 : Int32))), .val (.long x4), .second, .unset, .unset, .unset, .unset] []))
          exact J115 _
        · refine own_go (fun tt_ kk_ => XS.icmpYes Y10.here hx rfl (pc0 := 101) (pc' := 111) rfl (hb hby at_101) rfl (XT.ii_ne_t hc62) (by decide) (by decide) kk_) ?_
          show Go p.tables e below _ (T10.setTop (mkF m 111 #[.val (.long x1), .second, .val (.long x2), .second, .val (.long x3), .second, .val (.long x4), .second, .val (.long x5), .second, .val (.int x6), .val (.ref b), .val (.int (x6 &&& (7 : Int32))), .unset, .unset, .unset, .unset, .unset, .unset] []))
          refine own_go (fun tt_ kk_ => XT.lload Y10.here hx rfl (hb hby at_111) rfl kk_) ?_
          show Go p.tables e below _ (T10.setTop (mkF m 113 #[.val (.long x1), .second, .val (.long x2), .second, .val (.long x3), .second, .val (.long x4), .second, .val (.long x5), .second, .val (.int x6), .val (.ref b), .val (.int (x6 &&& (7 : Int32))), .unset, .unset, .unset, .unset, .unset, .unset] [(.long x5)]))
          refine own_go (fun tt_ kk_ => XT.lstore Y10.here hx rfl (hb hby at_113) rfl (l' := #[.val (.long x1), .second, .val (.long x2), .second, .val (.long x3), .second, .val (.long x4), .second, .val (.long x5), .second, .val (.int x6), .val (.ref b), .val (.int (x6 &&& (7 : Int32))), .val (.long x5), .second, .unset, .unset, .unset, .unset]) rfl kk_) ?_
          show Go p.tables e below _ (T10.setTop (mkF m 115 #[.val (.long x1), .second, .val (.long x2), .second, .val (.long x3), .second, .val (.long x4), .second, .val (.long x5), .second, .val (.int x6), .val (.ref b), .val (.int (x6 &&& (7 : Int32))), .val (.long x5), .second, .unset, .unset, .unset, .unset] []))
          exact J115 _
set_option maxRecDepth 65536 in
set_option maxHeartbeats 40000000 in
theorem comes_1 {Post : Tables → Env → Array Value → State → Outcome → State → Prop} (hpost : ∀ tb e args s v u, (limb_1_1.after args s (.returned v) u = true ∧ limb_1_2.after args s (.returned v) u = true ∧ True) → ReturnedEndW s (.returned v) u (Jvm.fieldLocs frame_1_writes args s ++ Jvm.arrayLocs frame_1_arrays args s ++ Jvm.staticLocs frame_1_statics s) 16 1216 → Post tb e args s (.returned v) u) :
    ArmFor flags0 classFile x code maxLocals ret World_1 tables_1 room_1 Calls_1 rest_1 Pre_1 Post := by
  intro l hfl _ _ p e ha hc hk s m args below hf hA hF happ hP
  obtain ⟨hcalls, hrest, hpre⟩ := hP
  obtain ⟨-, -, -, hnamed, -, -, -, hat⟩ := (Spec.applies_iff hf).mp happ
  obtain ⟨hg, -⟩ := and_e (Cond.before_iff.mp (show (Jvm.Cond.and given_1 narrow_1).before args s = true from hpre))
  obtain ⟨gc, ga0⟩ := and_e hg
  obtain ⟨gi0, ga1⟩ := and_e ga0
  obtain ⟨gi1, ga2⟩ := and_e ga1
  obtain ⟨gi2, ga3⟩ := and_e ga2
  obtain ⟨gi3, ga4⟩ := and_e ga3
  obtain ⟨gi4, ga5⟩ := and_e ga4
  have gi5 := ga5
  obtain ⟨w0, w1, w2, w3, w4, w5, rfl⟩ : ∃ w0 w1 w2 w3 w4 w5 : Value, args = #[w0, w1, w2, w3, w4, w5] := by
    have hs : args.size = 6 := by simpa [Cond.value, given_1] using gc
    obtain ⟨L⟩ := args
    match L, hs with
    | [w0, w1, w2, w3, w4, w5], _ => exact ⟨w0, w1, w2, w3, w4, w5, rfl⟩
  have hw := fun d (hd : d ∈ tables_1) => atoms_spec (ws := Jvm.Cond.code x code maxLocals ret :: tables_1) hat d (List.mem_cons_of_mem _ hd)
  obtain ⟨i0, ei0⟩ := isL_v gi0
  obtain rfl : w0 = (.long i0) := Option.some.inj ei0
  obtain ⟨i1, ei1⟩ := isL_v gi1
  obtain rfl : w1 = (.long i1) := Option.some.inj ei1
  obtain ⟨i2, ei2⟩ := isL_v gi2
  obtain rfl : w2 = (.long i2) := Option.some.inj ei2
  obtain ⟨i3, ei3⟩ := isL_v gi3
  obtain rfl : w3 = (.long i3) := Option.some.inj ei3
  obtain ⟨i4, ei4⟩ := isL_v gi4
  obtain rfl : w4 = (.long i4) := Option.some.inj ei4
  obtain ⟨i5, ei5⟩ := is_v gi5
  obtain rfl : w5 = (.int i5) := Option.some.inj ei5
  have hr := Cond.before_iff.mp (show rest_1_c.before #[(.long i0), (.long i1), (.long i2), (.long i3), (.long i4), (.int i5)] s = true from hrest)
  obtain ⟨j0, r0⟩ := and_e hr
  obtain ⟨j1, r1⟩ := and_e r0
  obtain ⟨j2, r2⟩ := and_e r1
  obtain ⟨j3, r3⟩ := and_e r2
  obtain ⟨j4, r4⟩ := and_e r3
  obtain ⟨j5, r5⟩ := and_e r4
  obtain ⟨j6, r6⟩ := and_e r5
  obtain ⟨j7, r7⟩ := and_e r6
  obtain ⟨hx, hy, b1, b2, b3, b4⟩ := cmp_v (Or.inl j3)
  have b5 : (Term.int 127).eval #[(.long i0), (.long i1), (.long i2), (.long i3), (.long i4), (.int i5)] s none [] s = some (.int 127) := Term.int_eval 127
  cases b5.symm.trans b2
  obtain ⟨hz, rfl⟩ := b4
  have b6 := gotT (u := (Jvm.Cond.eq (.static ICC "high" "I") (.int 127)).value #[(.long i0), (.long i1), (.long i2), (.long i3), (.long i4), (.int i5)] s none s []) (P := hz = 127) (by rw [Cond.value, b1, b5]) j3
  subst b6
  have S_high : Sta s s.heap ICC "high" "I" (.int 127) := Sta.start b1 (Or.inl (Cond.before_iff.mpr j1))
  obtain ⟨ca, evc⟩ := arr_v j4
  obtain ⟨ccl, Arc⟩ := Arr.start evc j4
  have S_cache := Sta.start evc (Or.inr ⟨(hw _ (List.mem_of_getElem? (i := 27) rfl)), Cond.before_iff.mpr j2⟩)
  have hcl : ccl.slots.size = 256 := (own_len evc Arc j6).1
  have evs : ∀ idx, CACHE.eval #[(.long i0), (.long i1), (.long i2), (.long i3), (.long i4), (.int i5)] s none idx s = some (.ref ca) := fun idx => evc
  obtain ⟨w_1, Bx_1, Ew_1, Vw_1⟩ := own_box evs Arc hcl j7 ((1 : Int32) + 128) (by decide) (by decide)
  obtain ⟨w_2, Bx_2, Ew_2, Vw_2⟩ := own_box evs Arc hcl j7 ((2 : Int32) + 128) (by decide) (by decide)
  obtain ⟨w_3, Bx_3, Ew_3, Vw_3⟩ := own_box evs Arc hcl j7 ((3 : Int32) + 128) (by decide) (by decide)
  obtain ⟨w_4, Bx_4, Ew_4, Vw_4⟩ := own_box evs Arc hcl j7 ((4 : Int32) + 128) (by decide) (by decide)
  obtain ⟨n, o, h1, h2, h3, _, L, rfl, ⟨rfl, N⟩, hq⟩ := rm_law l s _ hw tables_1 i0 i1 i2 i3 i4 i5 ca ccl w_1 w_2 w_3 w_4 s.heap s.heap.size (Nat.le_refl _) (Old.start s) S_high S_cache Arc hcl Bx_1 Ew_1 Vw_1 Bx_2 Ew_2 Vw_2 Bx_3 Ew_3 Vw_3 Bx_4 Ew_4 Vw_4 p e ha hc hk s m _ below hf ((Spec.applies_iff_loose hf).mp happ).1 ⟨rfl, State.Warmed39.refl s, rfl⟩ trivial
  refine ⟨n, _, h1, h2, h3, hpost _ _ _ _ _ _ ⟨Cond.after_iff.mpr rfl, Cond.after_iff.mpr (eq_i res_at (Term.int_eval (1)) rfl), trivial⟩ ⟨hq.1, hq.2.1, hq.2.2.1, (hq.2.2.2.sift fun y hy => Or.inr (N y hy)).mono (by decide) (by decide)⟩⟩
theorem main_1_1 : Claimed_1_1 := comes_1 fun _ _ _ _ _ _ h hF => ⟨h.1, hF⟩
theorem main_1_2 : Claimed_1_2 := comes_1 fun _ _ _ _ _ _ h hF => ⟨h.2.1, hF⟩
end Jvm.Pilot.@@N@@
namespace Jvm.Pilot.@@N@@
open Jvm Jvm.ClassFile Sem Op Lib Jvm.Free Jvm.Stand Jvm.Pilot.@@N@@.Jvm.D
/-! MADE BY PROGRAM (witnessworld.py) out of the Statement's table words and the real class files: 22 classes; the members and pool entries that the words name. The judged class is class 1, her method 5. -/
namespace start1
open Jvm.ClassFile
def u (s : String) : CpInfo := .utf8 (stringToUtf16 s)
/-- a pool by its gaps: so many unusable entries, then the entry; so many at the end -/
def gap : Nat → List CpInfo → List CpInfo
  | 0, r => r
  | n + 1, r => .unusable :: gap n r
def poolList (es : List (Nat × CpInfo)) (last : Nat) : List CpInfo := es.foldr (fun e r => gap e.1 (e.2 :: r)) (gap last [])
def pool (es : List (Nat × CpInfo)) (last : Nat) : Array CpInfo := ⟨poolList es last⟩
def fileOf (pool : Array CpInfo) (this : Nat) (attrs : Array Attribute := #[]) (ms : Array MethodInfo := #[]) (fl : Nat := 33) (sup : Nat := 0) (ifs : Array Nat := #[]) (fds : Array FieldInfo := #[]) : ClassFile where
  minorVersion := 0
  majorVersion := 65
  constantPool := pool
  accessFlags := fl
  thisClass := this
  superClass := sup
  interfaces := ifs
  fields := fds
  methods := ms
  attributes := attrs
def plain (name : String) (sup : Option ClassId) : Class where
  name := name
  kind := .ordinary
  loader := none
  accessFlags := 33
  super := sup
  interfaces := #[]
  cf := none
  fields := #[]
  methods := #[]
  instanceTypes := #[]
  staticTypes := #[]
  resolved := #[]
  callSites := []
  init := .initialized
  statics := none
  mirror := none

def pool0 : Array CpInfo := pool [(5, u "<init>"), (0, u "()V"), (1, .class_ 10), (1, u "java/lang/Object")] 113

def k0c0 : Code := { maxStack := 0, maxLocals := 1, code := object_method_1_code, exceptionTable := #[], attributes := #[] }
def k0m0 : Method := { name := "<init>", desc := "()V", sig := { parameters := [], returnType := none }, accessFlags := 1, code := some k0c0 }
/-- java/lang/Object -/
def k0 : Class := { plain "java/lang/Object" none with
  accessFlags := 33
  interfaces := #[]
  cf := some (fileOf pool0 8 #[] #[{ accessFlags := 1, nameIndex := 5, descriptorIndex := 6, attributes := #[] }] 33 0 #[] #[])
  fields := #[]
  methods := #[k0m0]
  instanceTypes := #[]
  staticTypes := #[]
  resolved := Array.replicate 124 none
  statics := none }

def pool1 : Array CpInfo := pool [(2, .class_ 4), (0, .nameAndType 5 6), (0, u "java/lang/Object"), (0, u "<init>"), (0, u "()V"), (0, .methodref 8 9), (0, .class_ 10), (0, .nameAndType 11 12), (0, u "java/lang/Integer"), (0, u "intValue"), (0, u "()I"), (0, .methodref 14 15), (0, .class_ 16), (0, .nameAndType 17 18), (0, u "com/example/rootlet/rootlet/IdMapRemovePinLaw"), (0, u "last"), (0, u "(JJJJJ)I"), (0, .class_ 20), (0, u "com/example/rootlet/rootlet/IdMap"), (0, .methodref 19 3), (0, .methodref 8 23), (0, .nameAndType 24 25), (0, u "valueOf"), (0, u "(I)Ljava/lang/Integer;"), (0, .methodref 19 27), (0, .nameAndType 28 29), (0, u "put"), (0, u "(JLjava/lang/Object;)Ljava/lang/Object;"), (0, .methodref 14 31), (0, .nameAndType 32 33), (0, u "distinct"), (0, u "(JJJJ)I"), (0, .methodref 19 35), (0, .nameAndType 36 37), (0, u "remove"), (0, u "(J)Ljava/lang/Object;"), (0, .methodref 14 39), (0, .nameAndType 40 41), (0, u "same"), (0, u "(Ljava/lang/Integer;I)Z"), (0, .methodref 19 43), (0, .nameAndType 44 12), (0, u "size"), (0, .methodref 19 46), (0, .nameAndType 47 37), (0, u "get"), (0, .methodref 14 49), (0, .nameAndType 50 51), (0, u "after"), (0, u "(JJJJJJ)I"), (3, u "law"), (0, u "(JJJJJI)Z")] 2

def k1m0 : Method := { name := "<init>", desc := "()V", sig := { parameters := [], returnType := none }, accessFlags := 1, code := none }
def k1c1 : Code := { maxStack := 4, maxLocals := 10, code := method_2_code, exceptionTable := #[], attributes := #[] }
def k1m1 : Method := { name := "last", desc := "(JJJJJ)I", sig := { parameters := [.long, .long, .long, .long, .long], returnType := some .int }, accessFlags := 10, code := some k1c1 }
def k1c2 : Code := { maxStack := 4, maxLocals := 9, code := method_3_code, exceptionTable := #[], attributes := #[] }
def k1m2 : Method := { name := "distinct", desc := "(JJJJ)I", sig := { parameters := [.long, .long, .long, .long], returnType := some .int }, accessFlags := 10, code := some k1c2 }
def k1c3 : Code := { maxStack := 2, maxLocals := 2, code := method_4_code, exceptionTable := #[], attributes := #[] }
def k1m3 : Method := { name := "same", desc := "(Ljava/lang/Integer;I)Z", sig := { parameters := [(.object "java/lang/Integer"), .int], returnType := some .boolean }, accessFlags := 10, code := some k1c3 }
def k1c4 : Code := { maxStack := 10, maxLocals := 12, code := method_5_code, exceptionTable := #[], attributes := #[] }
def k1m4 : Method := { name := "after", desc := "(JJJJJJ)I", sig := { parameters := [.long, .long, .long, .long, .long, .long], returnType := some .int }, accessFlags := 10, code := some k1c4 }
def k1c5 : Code := { maxStack := 14, maxLocals := 19, code := code, exceptionTable := #[], attributes := #[] }
def k1m5 : Method := { name := "law", desc := "(JJJJJI)Z", sig := { parameters := [.long, .long, .long, .long, .long, .int], returnType := some .boolean }, accessFlags := 9, code := some k1c5 }
/-- com/example/rootlet/rootlet/IdMapRemovePinLaw -/
def k1 : Class := { plain "com/example/rootlet/rootlet/IdMapRemovePinLaw" (some 0) with
  accessFlags := 49
  interfaces := #[]
  cf := some (fileOf pool1 14 #[] #[{ accessFlags := 1, nameIndex := 5, descriptorIndex := 6, attributes := #[] }, { accessFlags := 10, nameIndex := 17, descriptorIndex := 18, attributes := #[] }, { accessFlags := 10, nameIndex := 32, descriptorIndex := 33, attributes := #[] }, { accessFlags := 10, nameIndex := 40, descriptorIndex := 41, attributes := #[] }, { accessFlags := 10, nameIndex := 50, descriptorIndex := 51, attributes := #[] }, { accessFlags := 9, nameIndex := 55, descriptorIndex := 56, attributes := #[] }] 49 2 #[] #[])
  fields := #[]
  methods := #[k1m0, k1m1, k1m2, k1m3, k1m4, k1m5]
  instanceTypes := #[]
  staticTypes := #[]
  resolved := Array.replicate 59 none
  statics := none }

def pool2 : Array CpInfo := pool [(1, .methodref 2 3), (0, .class_ 4), (0, .nameAndType 5 6), (0, u "java/lang/Object"), (0, u "<init>"), (0, u "()V"), (0, .class_ 8), (0, u "com/example/rootlet/rootlet/IdMap"), (0, .methodref 7 10), (0, .nameAndType 11 12), (0, u "allocate"), (0, u "(I)V"), (0, .fieldref 7 14), (0, .nameAndType 15 16), (0, u "size"), (0, u "I"), (0, .methodref 7 18), (0, .nameAndType 19 20), (0, u "find"), (0, u "(J)I"), (0, .methodref 7 22), (0, .nameAndType 23 24), (0, u "value"), (0, u "(I)Ljava/lang/Object;"), (0, .string 23), (0, .methodref 27 28), (0, .class_ 29), (0, .nameAndType 30 31), (0, u "java/util/Objects"), (0, u "requireNonNull"), (0, u "(Ljava/lang/Object;Ljava/lang/String;)Ljava/lang/Object;"), (0, .methodref 7 33), (0, .nameAndType 34 20), (0, u "home"), (0, .fieldref 7 36), (0, .nameAndType 37 38), (0, u "values"), (0, u "[Ljava/lang/Object;"), (0, .fieldref 7 40), (0, .nameAndType 41 42), (0, u "keys"), (0, u "[J"), (0, .fieldref 7 44), (0, .nameAndType 45 16), (0, u "mask"), (9, .integer 1073741824), (1, .class_ 59), (1, u "com/example/rootlet/rootlet/IdMap$EntryVisitor"), (6, .long 11400714819323198485), (1, .long 15), (1, .class_ 71), (0, u "com/example/rootlet/rootlet/IdMap$1"), (3, u "MIN_SLOTS"), (2, u "MAX_SLOTS"), (2, u "()I"), (0, u "get"), (0, u "(J)Ljava/lang/Object;"), (5, u "put"), (0, u "(JLjava/lang/Object;)Ljava/lang/Object;"), (1, u "remove")] 45

def k2c0 : Code := { maxStack := 2, maxLocals := 1, code := prog_24_method_1_code, exceptionTable := #[], attributes := #[] }
def k2m0 : Method := { name := "<init>", desc := "()V", sig := { parameters := [], returnType := none }, accessFlags := 0, code := some k2c0 }
def k2c1 : Code := { maxStack := 1, maxLocals := 1, code := prog_24_method_2_code, exceptionTable := #[], attributes := #[] }
def k2m1 : Method := { name := "size", desc := "()I", sig := { parameters := [], returnType := some .int }, accessFlags := 0, code := some k2c1 }
def k2c2 : Code := { maxStack := 3, maxLocals := 4, code := prog_24_method_3_code, exceptionTable := #[], attributes := #[] }
def k2m2 : Method := { name := "get", desc := "(J)Ljava/lang/Object;", sig := { parameters := [.long], returnType := some (.object "java/lang/Object") }, accessFlags := 0, code := some k2c2 }
def k2c3 : Code := { maxStack := 4, maxLocals := 6, code := prog_24_method_5_code, exceptionTable := #[], attributes := #[] }
def k2m3 : Method := { name := "put", desc := "(JLjava/lang/Object;)Ljava/lang/Object;", sig := { parameters := [.long, (.object "java/lang/Object")], returnType := some (.object "java/lang/Object") }, accessFlags := 0, code := some k2c3 }
def k2c4 : Code := { maxStack := 4, maxLocals := 7, code := prog_24_method_6_code, exceptionTable := #[], attributes := #[] }
def k2m4 : Method := { name := "remove", desc := "(J)Ljava/lang/Object;", sig := { parameters := [.long], returnType := some (.object "java/lang/Object") }, accessFlags := 0, code := some k2c4 }
def k2c5 : Code := { maxStack := 4, maxLocals := 4, code := prog_24_method_11_code, exceptionTable := #[], attributes := #[] }
def k2m5 : Method := { name := "find", desc := "(J)I", sig := { parameters := [.long], returnType := some .int }, accessFlags := 2, code := some k2c5 }
def k2c6 : Code := { maxStack := 6, maxLocals := 5, code := prog_24_method_12_code, exceptionTable := #[], attributes := #[] }
def k2m6 : Method := { name := "home", desc := "(J)I", sig := { parameters := [.long], returnType := some .int }, accessFlags := 2, code := some k2c6 }
def k2c7 : Code := { maxStack := 2, maxLocals := 2, code := prog_24_method_13_code, exceptionTable := #[], attributes := #[] }
def k2m7 : Method := { name := "value", desc := "(I)Ljava/lang/Object;", sig := { parameters := [.int], returnType := some (.object "java/lang/Object") }, accessFlags := 2, code := some k2c7 }
def k2c8 : Code := { maxStack := 4, maxLocals := 6, code := prog_24_method_14_code, exceptionTable := #[], attributes := #[] }
def k2m8 : Method := { name := "allocate", desc := "(I)V", sig := { parameters := [.int], returnType := none }, accessFlags := 2, code := some k2c8 }
/-- com/example/rootlet/rootlet/IdMap -/
def k2 : Class := { plain "com/example/rootlet/rootlet/IdMap" (some 0) with
  accessFlags := 48
  interfaces := #[]
  cf := some (fileOf pool2 7 #[.nestMembers #[57, 70]] #[{ accessFlags := 0, nameIndex := 5, descriptorIndex := 6, attributes := #[] }, { accessFlags := 0, nameIndex := 15, descriptorIndex := 81, attributes := #[] }, { accessFlags := 0, nameIndex := 82, descriptorIndex := 83, attributes := #[] }, { accessFlags := 0, nameIndex := 89, descriptorIndex := 90, attributes := #[] }, { accessFlags := 0, nameIndex := 92, descriptorIndex := 83, attributes := #[] }, { accessFlags := 2, nameIndex := 19, descriptorIndex := 20, attributes := #[] }, { accessFlags := 2, nameIndex := 34, descriptorIndex := 20, attributes := #[] }, { accessFlags := 2, nameIndex := 23, descriptorIndex := 24, attributes := #[] }, { accessFlags := 2, nameIndex := 11, descriptorIndex := 12, attributes := #[] }] 48 2 #[] #[{ accessFlags := 26, nameIndex := 75, descriptorIndex := 16, attributes := #[] }, { accessFlags := 26, nameIndex := 78, descriptorIndex := 16, attributes := #[] }, { accessFlags := 2, nameIndex := 41, descriptorIndex := 42, attributes := #[] }, { accessFlags := 2, nameIndex := 37, descriptorIndex := 38, attributes := #[] }, { accessFlags := 2, nameIndex := 45, descriptorIndex := 16, attributes := #[] }, { accessFlags := 2, nameIndex := 15, descriptorIndex := 16, attributes := #[] }])
  fields := #[{ name := "MIN_SLOTS", type := .int, accessFlags := 26, slot := 0, constantValue := 0 }, { name := "MAX_SLOTS", type := .int, accessFlags := 26, slot := 1, constantValue := 0 }, { name := "keys", type := (.array .long), accessFlags := 2, slot := 0, constantValue := 0 }, { name := "values", type := (.array (.object "java/lang/Object")), accessFlags := 2, slot := 1, constantValue := 0 }, { name := "mask", type := .int, accessFlags := 2, slot := 2, constantValue := 0 }, { name := "size", type := .int, accessFlags := 2, slot := 3, constantValue := 0 }]
  methods := #[k2m0, k2m1, k2m2, k2m3, k2m4, k2m5, k2m6, k2m7, k2m8]
  instanceTypes := #[(.array .long), (.array (.object "java/lang/Object")), .int, .int]
  staticTypes := #[.int, .int]
  resolved := Array.replicate 138 none
  statics := none }

def pool3 : Array CpInfo := pool [(1, .class_ 2), (0, u "java/io/Serializable"), (0, .class_ 4), (0, u "java/lang/Object")] 2

/-- java/io/Serializable -/
def k3 : Class := { plain "java/io/Serializable" (some 0) with
  accessFlags := 1537
  interfaces := #[]
  cf := some (fileOf pool3 1 #[] #[] 1537 3 #[] #[])
  fields := #[]
  methods := #[]
  instanceTypes := #[]
  staticTypes := #[]
  resolved := Array.replicate 7 none
  statics := none }

def pool4 : Array CpInfo := pool [(2, .class_ 4), (1, u "java/lang/Object"), (0, u "<init>"), (0, u "()V"), (1, .class_ 10), (1, u "java/lang/Number"), (2, .class_ 14), (0, u "java/io/Serializable"), (0, u "serialVersionUID"), (0, u "J")] 20

def k4m0 : Method := { name := "<init>", desc := "()V", sig := { parameters := [], returnType := none }, accessFlags := 1, code := none }
/-- java/lang/Number -/
def k4 : Class := { plain "java/lang/Number" (some 0) with
  accessFlags := 1057
  interfaces := #[3]
  cf := some (fileOf pool4 8 #[] #[{ accessFlags := 1, nameIndex := 5, descriptorIndex := 6, attributes := #[] }] 1057 2 #[13] #[{ accessFlags := 26, nameIndex := 15, descriptorIndex := 16, attributes := #[] }])
  fields := #[{ name := "serialVersionUID", type := .long, accessFlags := 26, slot := 0, constantValue := 0 }]
  methods := #[k4m0]
  instanceTypes := #[]
  staticTypes := #[.long]
  resolved := Array.replicate 37 none
  statics := none }

def pool5 : Array CpInfo := pool [(1, .class_ 2), (0, u "java/lang/Comparable"), (0, .class_ 4), (0, u "java/lang/Object")] 7

/-- java/lang/Comparable -/
def k5 : Class := { plain "java/lang/Comparable" (some 0) with
  accessFlags := 1537
  interfaces := #[]
  cf := some (fileOf pool5 1 #[] #[] 1537 3 #[] #[])
  fields := #[]
  methods := #[]
  instanceTypes := #[]
  staticTypes := #[]
  resolved := Array.replicate 12 none
  statics := none }

def pool6 : Array CpInfo := pool [(1, .class_ 2), (0, u "java/lang/constant/Constable"), (0, .class_ 4), (0, u "java/lang/Object")] 6

/-- java/lang/constant/Constable -/
def k6 : Class := { plain "java/lang/constant/Constable" (some 0) with
  accessFlags := 1537
  interfaces := #[]
  cf := some (fileOf pool6 1 #[] #[] 1537 3 #[] #[])
  fields := #[]
  methods := #[]
  instanceTypes := #[]
  staticTypes := #[]
  resolved := Array.replicate 11 none
  statics := none }

def pool7 : Array CpInfo := pool [(1, .class_ 2), (0, u "java/lang/constant/ConstantDesc"), (0, .class_ 4), (0, u "java/lang/Object")] 32

/-- java/lang/constant/ConstantDesc -/
def k7 : Class := { plain "java/lang/constant/ConstantDesc" (some 0) with
  accessFlags := 1537
  interfaces := #[]
  cf := some (fileOf pool7 1 #[] #[] 1537 3 #[] #[])
  fields := #[]
  methods := #[]
  instanceTypes := #[]
  staticTypes := #[]
  resolved := Array.replicate 37 none
  statics := none }

def pool8 : Array CpInfo := pool [(1, .class_ 2), (0, u "java/lang/Integer"), (16, u "digits"), (0, u "[C"), (64, u "DigitOnes"), (0, u "[B"), (2, u "DigitTens"), (31, u "()I"), (65, u "valueOf"), (0, u "(I)Ljava/lang/Integer;"), (0, .class_ 190), (0, u "java/lang/Integer$IntegerCache"), (0, .fieldref 189 192), (0, .nameAndType 193 194), (0, u "high"), (0, u "I"), (0, .fieldref 189 196), (0, .nameAndType 197 198), (0, u "cache"), (0, u "[Ljava/lang/Integer;"), (4, .class_ 204), (0, u "java/lang/Number"), (0, .fieldref 1 206), (0, .nameAndType 207 194), (0, u "value"), (5, u "intValue"), (88, u "TYPE"), (0, u "Ljava/lang/Class;"), (0, .class_ 305), (0, u "java/lang/Comparable"), (0, .class_ 307), (0, u "java/lang/constant/Constable"), (0, .class_ 309), (0, u "java/lang/constant/ConstantDesc"), (0, u "MIN_VALUE"), (1, u "MAX_VALUE"), (3, u "SIZE"), (1, u "BYTES"), (1, u "serialVersionUID"), (0, u "J")] 131

def k8c0 : Code := { maxStack := 3, maxLocals := 1, code := jdk_33_method_22_code, exceptionTable := #[], attributes := #[] }
def k8m0 : Method := { name := "valueOf", desc := "(I)Ljava/lang/Integer;", sig := { parameters := [.int], returnType := some (.object "java/lang/Integer") }, accessFlags := 9, code := some k8c0 }
def k8c1 : Code := { maxStack := 1, maxLocals := 1, code := jdk_33_method_27_code, exceptionTable := #[], attributes := #[] }
def k8m1 : Method := { name := "intValue", desc := "()I", sig := { parameters := [], returnType := some .int }, accessFlags := 1, code := some k8c1 }
/-- java/lang/Integer -/
def k8 : Class := { plain "java/lang/Integer" (some 4) with
  accessFlags := 49
  interfaces := #[5, 6, 7]
  cf := some (fileOf pool8 1 #[.nestMembers #[189]] #[{ accessFlags := 9, nameIndex := 187, descriptorIndex := 188, attributes := #[] }, { accessFlags := 1, nameIndex := 213, descriptorIndex := 121, attributes := #[] }] 49 203 #[304, 306, 308] #[{ accessFlags := 25, nameIndex := 310, descriptorIndex := 194, attributes := #[] }, { accessFlags := 25, nameIndex := 312, descriptorIndex := 194, attributes := #[] }, { accessFlags := 25, nameIndex := 302, descriptorIndex := 303, attributes := #[] }, { accessFlags := 24, nameIndex := 19, descriptorIndex := 20, attributes := #[] }, { accessFlags := 24, nameIndex := 89, descriptorIndex := 86, attributes := #[] }, { accessFlags := 24, nameIndex := 85, descriptorIndex := 86, attributes := #[] }, { accessFlags := 18, nameIndex := 207, descriptorIndex := 194, attributes := #[] }, { accessFlags := 25, nameIndex := 316, descriptorIndex := 194, attributes := #[] }, { accessFlags := 25, nameIndex := 318, descriptorIndex := 194, attributes := #[] }, { accessFlags := 26, nameIndex := 320, descriptorIndex := 321, attributes := #[] }])
  fields := #[{ name := "MIN_VALUE", type := .int, accessFlags := 25, slot := 0, constantValue := 0 }, { name := "MAX_VALUE", type := .int, accessFlags := 25, slot := 1, constantValue := 0 }, { name := "TYPE", type := (.object "java/lang/Class"), accessFlags := 25, slot := 2, constantValue := 0 }, { name := "digits", type := (.array .char), accessFlags := 24, slot := 3, constantValue := 0 }, { name := "DigitTens", type := (.array .byte), accessFlags := 24, slot := 4, constantValue := 0 }, { name := "DigitOnes", type := (.array .byte), accessFlags := 24, slot := 5, constantValue := 0 }, { name := "value", type := .int, accessFlags := 18, slot := 0, constantValue := 0 }, { name := "SIZE", type := .int, accessFlags := 25, slot := 6, constantValue := 0 }, { name := "BYTES", type := .int, accessFlags := 25, slot := 7, constantValue := 0 }, { name := "serialVersionUID", type := .long, accessFlags := 26, slot := 8, constantValue := 0 }]
  methods := #[k8m0, k8m1]
  instanceTypes := #[.int]
  staticTypes := #[.int, .int, (.object "java/lang/Class"), (.array .char), (.array .byte), (.array .byte), .int, .int, .long]
  resolved := Array.replicate 453 none
  statics := none }

def pool9 : Array CpInfo := pool [(2, .class_ 4), (1, u "java/lang/Object"), (0, u "<init>"), (0, u "()V"), (0, .class_ 8), (0, u "java/lang/Integer"), (7, .class_ 18), (1, u "java/lang/Integer$IntegerCache"), (0, u "$assertionsDisabled"), (0, u "Z"), (26, u "high"), (0, u "I"), (8, u "archivedCache"), (0, u "[Ljava/lang/Integer;"), (12, u "cache"), (0, u "low")] 27

def k9m0 : Method := { name := "<init>", desc := "()V", sig := { parameters := [], returnType := none }, accessFlags := 2, code := none }
/-- java/lang/Integer$IntegerCache -/
def k9 : Class := { plain "java/lang/Integer$IntegerCache" (some 0) with
  accessFlags := 48
  interfaces := #[]
  cf := some (fileOf pool9 16 #[.nestHost 7] #[{ accessFlags := 2, nameIndex := 5, descriptorIndex := 6, attributes := #[] }] 48 2 #[] #[{ accessFlags := 24, nameIndex := 72, descriptorIndex := 48, attributes := #[] }, { accessFlags := 24, nameIndex := 47, descriptorIndex := 48, attributes := #[] }, { accessFlags := 24, nameIndex := 71, descriptorIndex := 58, attributes := #[] }, { accessFlags := 8, nameIndex := 57, descriptorIndex := 58, attributes := #[] }, { accessFlags := 4120, nameIndex := 19, descriptorIndex := 20, attributes := #[] }])
  fields := #[{ name := "low", type := .int, accessFlags := 24, slot := 0, constantValue := 0 }, { name := "high", type := .int, accessFlags := 24, slot := 1, constantValue := 0 }, { name := "cache", type := (.array (.object "java/lang/Integer")), accessFlags := 24, slot := 2, constantValue := 0 }, { name := "archivedCache", type := (.array (.object "java/lang/Integer")), accessFlags := 8, slot := 3, constantValue := 0 }, { name := "$assertionsDisabled", type := .boolean, accessFlags := 4120, slot := 4, constantValue := 0 }]
  methods := #[k9m0]
  instanceTypes := #[]
  staticTypes := #[.int, .int, (.array (.object "java/lang/Integer")), (.array (.object "java/lang/Integer")), .boolean]
  resolved := Array.replicate 100 none
  statics := some 0 }

def pool10 : Array CpInfo := pool [(2, .class_ 4), (1, u "java/lang/CharSequence"), (42, .class_ 48), (0, u "java/lang/CharSequence$1CodePointIterator"), (10, .class_ 60), (0, u "java/lang/CharSequence$1CharIterator"), (5, .class_ 67), (0, u "java/lang/Object")] 63

/-- java/lang/CharSequence -/
def k10 : Class := { plain "java/lang/CharSequence" (some 0) with
  accessFlags := 1537
  interfaces := #[]
  cf := some (fileOf pool10 2 #[.nestMembers #[47, 59]] #[] 1537 66 #[] #[])
  fields := #[]
  methods := #[]
  instanceTypes := #[]
  staticTypes := #[]
  resolved := Array.replicate 131 none
  statics := none }

def pool11 : Array CpInfo := pool [(2, .class_ 4), (1, u "java/lang/Object"), (0, u "<init>"), (0, u "()V"), (3, .class_ 12), (1, u "java/lang/String"), (0, u "value"), (0, u "[B"), (2, u "coder"), (0, u "B"), (2, u "hash"), (0, u "I"), (2, u "hashIsZero"), (0, u "Z"), (13, u "COMPACT_STRINGS"), (534, .class_ 576), (0, u "java/lang/CharSequence"), (22, u "CASE_INSENSITIVE_ORDER"), (0, u "Ljava/util/Comparator;"), (500, u "serialPersistentFields"), (0, u "[Ljava/io/ObjectStreamField;"), (0, .class_ 1104), (0, u "java/lang/String$CaseInsensitiveComparator"), (1, .class_ 1107), (0, u "java/io/Serializable"), (0, .class_ 1109), (0, u "java/lang/Comparable"), (0, .class_ 1111), (0, u "java/lang/constant/Constable"), (0, .class_ 1113), (0, u "java/lang/constant/ConstantDesc"), (2, u "serialVersionUID"), (0, u "J"), (3, u "REPL"), (0, u "C"), (2, u "LATIN1"), (1, u "UTF16")] 323

def k11m0 : Method := { name := "<init>", desc := "()V", sig := { parameters := [], returnType := none }, accessFlags := 1, code := none }
/-- java/lang/String -/
def k11 : Class := { plain "java/lang/String" (some 0) with
  accessFlags := 49
  interfaces := #[3, 5, 10, 6, 7]
  cf := some (fileOf pool11 10 #[.nestMembers #[1103]] #[{ accessFlags := 1, nameIndex := 5, descriptorIndex := 6, attributes := #[] }] 49 2 #[1106, 1108, 575, 1110, 1112] #[{ accessFlags := 18, nameIndex := 13, descriptorIndex := 14, attributes := #[] }, { accessFlags := 18, nameIndex := 17, descriptorIndex := 18, attributes := #[] }, { accessFlags := 2, nameIndex := 21, descriptorIndex := 22, attributes := #[] }, { accessFlags := 2, nameIndex := 25, descriptorIndex := 26, attributes := #[] }, { accessFlags := 26, nameIndex := 1116, descriptorIndex := 1117, attributes := #[] }, { accessFlags := 24, nameIndex := 40, descriptorIndex := 26, attributes := #[] }, { accessFlags := 26, nameIndex := 1101, descriptorIndex := 1102, attributes := #[] }, { accessFlags := 26, nameIndex := 1121, descriptorIndex := 1122, attributes := #[] }, { accessFlags := 25, nameIndex := 599, descriptorIndex := 600, attributes := #[] }, { accessFlags := 24, nameIndex := 1125, descriptorIndex := 18, attributes := #[] }, { accessFlags := 24, nameIndex := 1127, descriptorIndex := 18, attributes := #[] }])
  fields := #[{ name := "value", type := (.array .byte), accessFlags := 18, slot := 0, constantValue := 0 }, { name := "coder", type := .byte, accessFlags := 18, slot := 1, constantValue := 0 }, { name := "hash", type := .int, accessFlags := 2, slot := 2, constantValue := 0 }, { name := "hashIsZero", type := .boolean, accessFlags := 2, slot := 3, constantValue := 0 }, { name := "serialVersionUID", type := .long, accessFlags := 26, slot := 0, constantValue := 0 }, { name := "COMPACT_STRINGS", type := .boolean, accessFlags := 24, slot := 1, constantValue := 0 }, { name := "serialPersistentFields", type := (.array (.object "java/io/ObjectStreamField")), accessFlags := 26, slot := 2, constantValue := 0 }, { name := "REPL", type := .char, accessFlags := 26, slot := 3, constantValue := 0 }, { name := "CASE_INSENSITIVE_ORDER", type := (.object "java/util/Comparator"), accessFlags := 25, slot := 4, constantValue := 0 }, { name := "LATIN1", type := .byte, accessFlags := 24, slot := 5, constantValue := 0 }, { name := "UTF16", type := .byte, accessFlags := 24, slot := 6, constantValue := 0 }]
  methods := #[k11m0]
  instanceTypes := #[(.array .byte), .byte, .int, .boolean]
  staticTypes := #[.long, .boolean, (.array (.object "java/io/ObjectStreamField")), .char, (.object "java/util/Comparator"), .byte, .byte]
  resolved := Array.replicate 1451 none
  statics := none }

def pool12 : Array CpInfo := pool [(2, .class_ 4), (1, u "java/lang/Object"), (0, u "<init>"), (0, u "()V"), (35, .class_ 44), (1, u "java/util/Objects"), (0, u "requireNonNull"), (48, u "(Ljava/lang/Object;Ljava/lang/String;)Ljava/lang/Object;")] 89

def k12m0 : Method := { name := "<init>", desc := "()V", sig := { parameters := [], returnType := none }, accessFlags := 2, code := none }
def k12c1 : Code := { maxStack := 3, maxLocals := 2, code := jdk_31_method_11_code, exceptionTable := #[], attributes := #[] }
def k12m1 : Method := { name := "requireNonNull", desc := "(Ljava/lang/Object;Ljava/lang/String;)Ljava/lang/Object;", sig := { parameters := [(.object "java/lang/Object"), (.object "java/lang/String")], returnType := some (.object "java/lang/Object") }, accessFlags := 9, code := some k12c1 }
/-- java/util/Objects -/
def k12 : Class := { plain "java/util/Objects" (some 0) with
  accessFlags := 49
  interfaces := #[]
  cf := some (fileOf pool12 42 #[] #[{ accessFlags := 2, nameIndex := 5, descriptorIndex := 6, attributes := #[] }, { accessFlags := 9, nameIndex := 45, descriptorIndex := 94, attributes := #[] }] 49 2 #[] #[])
  fields := #[]
  methods := #[k12m0, k12m1]
  instanceTypes := #[]
  staticTypes := #[]
  resolved := Array.replicate 184 none
  statics := none }

def pool13 : Array CpInfo := pool [(1, u "java/lang/Cloneable"), (0, .class_ 1), (0, u "java/lang/Object"), (0, .class_ 3)] 3

/-- java/lang/Cloneable -/
def k13 : Class := { plain "java/lang/Cloneable" (some 0) with
  accessFlags := 1537
  interfaces := #[]
  cf := some (fileOf pool13 2 #[] #[] 1537 4 #[] #[])
  fields := #[]
  methods := #[]
  instanceTypes := #[]
  staticTypes := #[]
  resolved := Array.replicate 8 none
  statics := none }

/-- the primitive byte -/
def k14 : Class := { plain "byte" none with kind := .primitive 'B', accessFlags := 0x411 }
/-- [B -/
def k15 : Class := { plain "[B" (some 0) with kind := .array 14 .byte, interfaces := #[13, 3], accessFlags := 1041 }

/-- the primitive int -/
def k16 : Class := { plain "int" none with kind := .primitive 'I', accessFlags := 0x411 }
/-- [I -/
def k17 : Class := { plain "[I" (some 0) with kind := .array 16 .int, interfaces := #[13, 3], accessFlags := 1041 }

/-- the primitive long -/
def k18 : Class := { plain "long" none with kind := .primitive 'J', accessFlags := 0x411 }
/-- [J -/
def k19 : Class := { plain "[J" (some 0) with kind := .array 18 .long, interfaces := #[13, 3], accessFlags := 1041 }

/-- [Ljava/lang/Integer; -/
def k20 : Class := { plain "[Ljava/lang/Integer;" (some 0) with kind := .array 8 (.object "java/lang/Integer"), interfaces := #[13, 3], accessFlags := 1041 }

/-- [Ljava/lang/Object; -/
def k21 : Class := { plain "[Ljava/lang/Object;" (some 0) with kind := .array 0 (.object "java/lang/Object"), interfaces := #[13, 3], accessFlags := 1041 }

def heap : Heap := #[{ cls := 9, slots := #[.int 0, .int 127, .ref 1, .null, .int 0], vm := .statics 9 },
  { cls := 20, slots := #[.ref 2, .ref 3, .ref 4, .ref 5, .ref 6, .ref 7, .ref 8, .ref 9, .ref 10, .ref 11, .ref 12, .ref 13, .ref 14, .ref 15, .ref 16, .ref 17, .ref 18, .ref 19, .ref 20, .ref 21, .ref 22, .ref 23, .ref 24, .ref 25, .ref 26, .ref 27, .ref 28, .ref 29, .ref 30, .ref 31, .ref 32, .ref 33, .ref 34, .ref 35, .ref 36, .ref 37, .ref 38, .ref 39, .ref 40, .ref 41, .ref 42, .ref 43, .ref 44, .ref 45, .ref 46, .ref 47, .ref 48, .ref 49, .ref 50, .ref 51, .ref 52, .ref 53, .ref 54, .ref 55, .ref 56, .ref 57, .ref 58, .ref 59, .ref 60, .ref 61, .ref 62, .ref 63, .ref 64, .ref 65, .ref 66, .ref 67, .ref 68, .ref 69, .ref 70, .ref 71, .ref 72, .ref 73, .ref 74, .ref 75, .ref 76, .ref 77, .ref 78, .ref 79, .ref 80, .ref 81, .ref 82, .ref 83, .ref 84, .ref 85, .ref 86, .ref 87, .ref 88, .ref 89, .ref 90, .ref 91, .ref 92, .ref 93, .ref 94, .ref 95, .ref 96, .ref 97, .ref 98, .ref 99, .ref 100, .ref 101, .ref 102, .ref 103, .ref 104, .ref 105, .ref 106, .ref 107, .ref 108, .ref 109, .ref 110, .ref 111, .ref 112, .ref 113, .ref 114, .ref 115, .ref 116, .ref 117, .ref 118, .ref 119, .ref 120, .ref 121, .ref 122, .ref 123, .ref 124, .ref 125, .ref 126, .ref 127, .ref 128, .ref 129, .ref 130, .ref 131, .ref 132, .ref 133, .ref 134, .ref 135, .ref 136, .ref 137, .ref 138, .ref 139, .ref 140, .ref 141, .ref 142, .ref 143, .ref 144, .ref 145, .ref 146, .ref 147, .ref 148, .ref 149, .ref 150, .ref 151, .ref 152, .ref 153, .ref 154, .ref 155, .ref 156, .ref 157, .ref 158, .ref 159, .ref 160, .ref 161, .ref 162, .ref 163, .ref 164, .ref 165, .ref 166, .ref 167, .ref 168, .ref 169, .ref 170, .ref 171, .ref 172, .ref 173, .ref 174, .ref 175, .ref 176, .ref 177, .ref 178, .ref 179, .ref 180, .ref 181, .ref 182, .ref 183, .ref 184, .ref 185, .ref 186, .ref 187, .ref 188, .ref 189, .ref 190, .ref 191, .ref 192, .ref 193, .ref 194, .ref 195, .ref 196, .ref 197, .ref 198, .ref 199, .ref 200, .ref 201, .ref 202, .ref 203, .ref 204, .ref 205, .ref 206, .ref 207, .ref 208, .ref 209, .ref 210, .ref 211, .ref 212, .ref 213, .ref 214, .ref 215, .ref 216, .ref 217, .ref 218, .ref 219, .ref 220, .ref 221, .ref 222, .ref 223, .ref 224, .ref 225, .ref 226, .ref 227, .ref 228, .ref 229, .ref 230, .ref 231, .ref 232, .ref 233, .ref 234, .ref 235, .ref 236, .ref 237, .ref 238, .ref 239, .ref 240, .ref 241, .ref 242, .ref 243, .ref 244, .ref 245, .ref 246, .ref 247, .ref 248, .ref 249, .ref 250, .ref 251, .ref 252, .ref 253, .ref 254, .ref 255, .ref 256, .ref 257], vm := .none },
  { cls := 8, slots := #[.int (-128)], vm := .none },
  { cls := 8, slots := #[.int (-127)], vm := .none },
  { cls := 8, slots := #[.int (-126)], vm := .none },
  { cls := 8, slots := #[.int (-125)], vm := .none },
  { cls := 8, slots := #[.int (-124)], vm := .none },
  { cls := 8, slots := #[.int (-123)], vm := .none },
  { cls := 8, slots := #[.int (-122)], vm := .none },
  { cls := 8, slots := #[.int (-121)], vm := .none },
  { cls := 8, slots := #[.int (-120)], vm := .none },
  { cls := 8, slots := #[.int (-119)], vm := .none },
  { cls := 8, slots := #[.int (-118)], vm := .none },
  { cls := 8, slots := #[.int (-117)], vm := .none },
  { cls := 8, slots := #[.int (-116)], vm := .none },
  { cls := 8, slots := #[.int (-115)], vm := .none },
  { cls := 8, slots := #[.int (-114)], vm := .none },
  { cls := 8, slots := #[.int (-113)], vm := .none },
  { cls := 8, slots := #[.int (-112)], vm := .none },
  { cls := 8, slots := #[.int (-111)], vm := .none },
  { cls := 8, slots := #[.int (-110)], vm := .none },
  { cls := 8, slots := #[.int (-109)], vm := .none },
  { cls := 8, slots := #[.int (-108)], vm := .none },
  { cls := 8, slots := #[.int (-107)], vm := .none },
  { cls := 8, slots := #[.int (-106)], vm := .none },
  { cls := 8, slots := #[.int (-105)], vm := .none },
  { cls := 8, slots := #[.int (-104)], vm := .none },
  { cls := 8, slots := #[.int (-103)], vm := .none },
  { cls := 8, slots := #[.int (-102)], vm := .none },
  { cls := 8, slots := #[.int (-101)], vm := .none },
  { cls := 8, slots := #[.int (-100)], vm := .none },
  { cls := 8, slots := #[.int (-99)], vm := .none },
  { cls := 8, slots := #[.int (-98)], vm := .none },
  { cls := 8, slots := #[.int (-97)], vm := .none },
  { cls := 8, slots := #[.int (-96)], vm := .none },
  { cls := 8, slots := #[.int (-95)], vm := .none },
  { cls := 8, slots := #[.int (-94)], vm := .none },
  { cls := 8, slots := #[.int (-93)], vm := .none },
  { cls := 8, slots := #[.int (-92)], vm := .none },
  { cls := 8, slots := #[.int (-91)], vm := .none },
  { cls := 8, slots := #[.int (-90)], vm := .none },
  { cls := 8, slots := #[.int (-89)], vm := .none },
  { cls := 8, slots := #[.int (-88)], vm := .none },
  { cls := 8, slots := #[.int (-87)], vm := .none },
  { cls := 8, slots := #[.int (-86)], vm := .none },
  { cls := 8, slots := #[.int (-85)], vm := .none },
  { cls := 8, slots := #[.int (-84)], vm := .none },
  { cls := 8, slots := #[.int (-83)], vm := .none },
  { cls := 8, slots := #[.int (-82)], vm := .none },
  { cls := 8, slots := #[.int (-81)], vm := .none },
  { cls := 8, slots := #[.int (-80)], vm := .none },
  { cls := 8, slots := #[.int (-79)], vm := .none },
  { cls := 8, slots := #[.int (-78)], vm := .none },
  { cls := 8, slots := #[.int (-77)], vm := .none },
  { cls := 8, slots := #[.int (-76)], vm := .none },
  { cls := 8, slots := #[.int (-75)], vm := .none },
  { cls := 8, slots := #[.int (-74)], vm := .none },
  { cls := 8, slots := #[.int (-73)], vm := .none },
  { cls := 8, slots := #[.int (-72)], vm := .none },
  { cls := 8, slots := #[.int (-71)], vm := .none },
  { cls := 8, slots := #[.int (-70)], vm := .none },
  { cls := 8, slots := #[.int (-69)], vm := .none },
  { cls := 8, slots := #[.int (-68)], vm := .none },
  { cls := 8, slots := #[.int (-67)], vm := .none },
  { cls := 8, slots := #[.int (-66)], vm := .none },
  { cls := 8, slots := #[.int (-65)], vm := .none },
  { cls := 8, slots := #[.int (-64)], vm := .none },
  { cls := 8, slots := #[.int (-63)], vm := .none },
  { cls := 8, slots := #[.int (-62)], vm := .none },
  { cls := 8, slots := #[.int (-61)], vm := .none },
  { cls := 8, slots := #[.int (-60)], vm := .none },
  { cls := 8, slots := #[.int (-59)], vm := .none },
  { cls := 8, slots := #[.int (-58)], vm := .none },
  { cls := 8, slots := #[.int (-57)], vm := .none },
  { cls := 8, slots := #[.int (-56)], vm := .none },
  { cls := 8, slots := #[.int (-55)], vm := .none },
  { cls := 8, slots := #[.int (-54)], vm := .none },
  { cls := 8, slots := #[.int (-53)], vm := .none },
  { cls := 8, slots := #[.int (-52)], vm := .none },
  { cls := 8, slots := #[.int (-51)], vm := .none },
  { cls := 8, slots := #[.int (-50)], vm := .none },
  { cls := 8, slots := #[.int (-49)], vm := .none },
  { cls := 8, slots := #[.int (-48)], vm := .none },
  { cls := 8, slots := #[.int (-47)], vm := .none },
  { cls := 8, slots := #[.int (-46)], vm := .none },
  { cls := 8, slots := #[.int (-45)], vm := .none },
  { cls := 8, slots := #[.int (-44)], vm := .none },
  { cls := 8, slots := #[.int (-43)], vm := .none },
  { cls := 8, slots := #[.int (-42)], vm := .none },
  { cls := 8, slots := #[.int (-41)], vm := .none },
  { cls := 8, slots := #[.int (-40)], vm := .none },
  { cls := 8, slots := #[.int (-39)], vm := .none },
  { cls := 8, slots := #[.int (-38)], vm := .none },
  { cls := 8, slots := #[.int (-37)], vm := .none },
  { cls := 8, slots := #[.int (-36)], vm := .none },
  { cls := 8, slots := #[.int (-35)], vm := .none },
  { cls := 8, slots := #[.int (-34)], vm := .none },
  { cls := 8, slots := #[.int (-33)], vm := .none },
  { cls := 8, slots := #[.int (-32)], vm := .none },
  { cls := 8, slots := #[.int (-31)], vm := .none },
  { cls := 8, slots := #[.int (-30)], vm := .none },
  { cls := 8, slots := #[.int (-29)], vm := .none },
  { cls := 8, slots := #[.int (-28)], vm := .none },
  { cls := 8, slots := #[.int (-27)], vm := .none },
  { cls := 8, slots := #[.int (-26)], vm := .none },
  { cls := 8, slots := #[.int (-25)], vm := .none },
  { cls := 8, slots := #[.int (-24)], vm := .none },
  { cls := 8, slots := #[.int (-23)], vm := .none },
  { cls := 8, slots := #[.int (-22)], vm := .none },
  { cls := 8, slots := #[.int (-21)], vm := .none },
  { cls := 8, slots := #[.int (-20)], vm := .none },
  { cls := 8, slots := #[.int (-19)], vm := .none },
  { cls := 8, slots := #[.int (-18)], vm := .none },
  { cls := 8, slots := #[.int (-17)], vm := .none },
  { cls := 8, slots := #[.int (-16)], vm := .none },
  { cls := 8, slots := #[.int (-15)], vm := .none },
  { cls := 8, slots := #[.int (-14)], vm := .none },
  { cls := 8, slots := #[.int (-13)], vm := .none },
  { cls := 8, slots := #[.int (-12)], vm := .none },
  { cls := 8, slots := #[.int (-11)], vm := .none },
  { cls := 8, slots := #[.int (-10)], vm := .none },
  { cls := 8, slots := #[.int (-9)], vm := .none },
  { cls := 8, slots := #[.int (-8)], vm := .none },
  { cls := 8, slots := #[.int (-7)], vm := .none },
  { cls := 8, slots := #[.int (-6)], vm := .none },
  { cls := 8, slots := #[.int (-5)], vm := .none },
  { cls := 8, slots := #[.int (-4)], vm := .none },
  { cls := 8, slots := #[.int (-3)], vm := .none },
  { cls := 8, slots := #[.int (-2)], vm := .none },
  { cls := 8, slots := #[.int (-1)], vm := .none },
  { cls := 8, slots := #[.int 0], vm := .none },
  { cls := 8, slots := #[.int 1], vm := .none },
  { cls := 8, slots := #[.int 2], vm := .none },
  { cls := 8, slots := #[.int 3], vm := .none },
  { cls := 8, slots := #[.int 4], vm := .none },
  { cls := 8, slots := #[.int 5], vm := .none },
  { cls := 8, slots := #[.int 6], vm := .none },
  { cls := 8, slots := #[.int 7], vm := .none },
  { cls := 8, slots := #[.int 8], vm := .none },
  { cls := 8, slots := #[.int 9], vm := .none },
  { cls := 8, slots := #[.int 10], vm := .none },
  { cls := 8, slots := #[.int 11], vm := .none },
  { cls := 8, slots := #[.int 12], vm := .none },
  { cls := 8, slots := #[.int 13], vm := .none },
  { cls := 8, slots := #[.int 14], vm := .none },
  { cls := 8, slots := #[.int 15], vm := .none },
  { cls := 8, slots := #[.int 16], vm := .none },
  { cls := 8, slots := #[.int 17], vm := .none },
  { cls := 8, slots := #[.int 18], vm := .none },
  { cls := 8, slots := #[.int 19], vm := .none },
  { cls := 8, slots := #[.int 20], vm := .none },
  { cls := 8, slots := #[.int 21], vm := .none },
  { cls := 8, slots := #[.int 22], vm := .none },
  { cls := 8, slots := #[.int 23], vm := .none },
  { cls := 8, slots := #[.int 24], vm := .none },
  { cls := 8, slots := #[.int 25], vm := .none },
  { cls := 8, slots := #[.int 26], vm := .none },
  { cls := 8, slots := #[.int 27], vm := .none },
  { cls := 8, slots := #[.int 28], vm := .none },
  { cls := 8, slots := #[.int 29], vm := .none },
  { cls := 8, slots := #[.int 30], vm := .none },
  { cls := 8, slots := #[.int 31], vm := .none },
  { cls := 8, slots := #[.int 32], vm := .none },
  { cls := 8, slots := #[.int 33], vm := .none },
  { cls := 8, slots := #[.int 34], vm := .none },
  { cls := 8, slots := #[.int 35], vm := .none },
  { cls := 8, slots := #[.int 36], vm := .none },
  { cls := 8, slots := #[.int 37], vm := .none },
  { cls := 8, slots := #[.int 38], vm := .none },
  { cls := 8, slots := #[.int 39], vm := .none },
  { cls := 8, slots := #[.int 40], vm := .none },
  { cls := 8, slots := #[.int 41], vm := .none },
  { cls := 8, slots := #[.int 42], vm := .none },
  { cls := 8, slots := #[.int 43], vm := .none },
  { cls := 8, slots := #[.int 44], vm := .none },
  { cls := 8, slots := #[.int 45], vm := .none },
  { cls := 8, slots := #[.int 46], vm := .none },
  { cls := 8, slots := #[.int 47], vm := .none },
  { cls := 8, slots := #[.int 48], vm := .none },
  { cls := 8, slots := #[.int 49], vm := .none },
  { cls := 8, slots := #[.int 50], vm := .none },
  { cls := 8, slots := #[.int 51], vm := .none },
  { cls := 8, slots := #[.int 52], vm := .none },
  { cls := 8, slots := #[.int 53], vm := .none },
  { cls := 8, slots := #[.int 54], vm := .none },
  { cls := 8, slots := #[.int 55], vm := .none },
  { cls := 8, slots := #[.int 56], vm := .none },
  { cls := 8, slots := #[.int 57], vm := .none },
  { cls := 8, slots := #[.int 58], vm := .none },
  { cls := 8, slots := #[.int 59], vm := .none },
  { cls := 8, slots := #[.int 60], vm := .none },
  { cls := 8, slots := #[.int 61], vm := .none },
  { cls := 8, slots := #[.int 62], vm := .none },
  { cls := 8, slots := #[.int 63], vm := .none },
  { cls := 8, slots := #[.int 64], vm := .none },
  { cls := 8, slots := #[.int 65], vm := .none },
  { cls := 8, slots := #[.int 66], vm := .none },
  { cls := 8, slots := #[.int 67], vm := .none },
  { cls := 8, slots := #[.int 68], vm := .none },
  { cls := 8, slots := #[.int 69], vm := .none },
  { cls := 8, slots := #[.int 70], vm := .none },
  { cls := 8, slots := #[.int 71], vm := .none },
  { cls := 8, slots := #[.int 72], vm := .none },
  { cls := 8, slots := #[.int 73], vm := .none },
  { cls := 8, slots := #[.int 74], vm := .none },
  { cls := 8, slots := #[.int 75], vm := .none },
  { cls := 8, slots := #[.int 76], vm := .none },
  { cls := 8, slots := #[.int 77], vm := .none },
  { cls := 8, slots := #[.int 78], vm := .none },
  { cls := 8, slots := #[.int 79], vm := .none },
  { cls := 8, slots := #[.int 80], vm := .none },
  { cls := 8, slots := #[.int 81], vm := .none },
  { cls := 8, slots := #[.int 82], vm := .none },
  { cls := 8, slots := #[.int 83], vm := .none },
  { cls := 8, slots := #[.int 84], vm := .none },
  { cls := 8, slots := #[.int 85], vm := .none },
  { cls := 8, slots := #[.int 86], vm := .none },
  { cls := 8, slots := #[.int 87], vm := .none },
  { cls := 8, slots := #[.int 88], vm := .none },
  { cls := 8, slots := #[.int 89], vm := .none },
  { cls := 8, slots := #[.int 90], vm := .none },
  { cls := 8, slots := #[.int 91], vm := .none },
  { cls := 8, slots := #[.int 92], vm := .none },
  { cls := 8, slots := #[.int 93], vm := .none },
  { cls := 8, slots := #[.int 94], vm := .none },
  { cls := 8, slots := #[.int 95], vm := .none },
  { cls := 8, slots := #[.int 96], vm := .none },
  { cls := 8, slots := #[.int 97], vm := .none },
  { cls := 8, slots := #[.int 98], vm := .none },
  { cls := 8, slots := #[.int 99], vm := .none },
  { cls := 8, slots := #[.int 100], vm := .none },
  { cls := 8, slots := #[.int 101], vm := .none },
  { cls := 8, slots := #[.int 102], vm := .none },
  { cls := 8, slots := #[.int 103], vm := .none },
  { cls := 8, slots := #[.int 104], vm := .none },
  { cls := 8, slots := #[.int 105], vm := .none },
  { cls := 8, slots := #[.int 106], vm := .none },
  { cls := 8, slots := #[.int 107], vm := .none },
  { cls := 8, slots := #[.int 108], vm := .none },
  { cls := 8, slots := #[.int 109], vm := .none },
  { cls := 8, slots := #[.int 110], vm := .none },
  { cls := 8, slots := #[.int 111], vm := .none },
  { cls := 8, slots := #[.int 112], vm := .none },
  { cls := 8, slots := #[.int 113], vm := .none },
  { cls := 8, slots := #[.int 114], vm := .none },
  { cls := 8, slots := #[.int 115], vm := .none },
  { cls := 8, slots := #[.int 116], vm := .none },
  { cls := 8, slots := #[.int 117], vm := .none },
  { cls := 8, slots := #[.int 118], vm := .none },
  { cls := 8, slots := #[.int 119], vm := .none },
  { cls := 8, slots := #[.int 120], vm := .none },
  { cls := 8, slots := #[.int 121], vm := .none },
  { cls := 8, slots := #[.int 122], vm := .none },
  { cls := 8, slots := #[.int 123], vm := .none },
  { cls := 8, slots := #[.int 124], vm := .none },
  { cls := 8, slots := #[.int 125], vm := .none },
  { cls := 8, slots := #[.int 126], vm := .none },
  { cls := 8, slots := #[.int 127], vm := .none }]
def classes : Array Class := #[k0, k1, k2, k3, k4, k5, k6, k7, k8, k9, k10, k11, k12, k13, k14, k15, k16, k17, k18, k19, k20, k21]
def interned : List (Array UInt16 × Addr) := []
def slotsUsed : Nat := 517
def theMethod : MethodId := ⟨1, 5⟩
def args0 : Array Value := #[.long 5, .long 6, .long 7, .long 8, .long 9, .int 3]
def aboutOver (below : List Frame) : State where
  vm := { classes := classes, interned := interned.toArray }
  heap := heap
  slotsUsed := slotsUsed
  threads := #[{ frames := .invoking theMethod args0 :: below }]
def below0 : List Frame := [.native { method := ⟨0, 0⟩, args := #[] }]
def about1 : State := aboutOver below0
def p0 : Program := .bare "" "" ""
def e0 : Env := launch0.env 0 0 0
theorem w_frames : about1.frames = Frame.invoking theMethod args0 :: below0 := rfl
set_option maxRecDepth 65536 in
theorem w_args : argsFit about1.vm theMethod args0 = true := by decide +kernel
set_option maxRecDepth 65536 in
theorem w_heap : heapFits about1 = true := by decide +kernel
set_option maxRecDepth 65536 in
theorem w_runnable : about1.curStatus? = some .runnable := by decide +kernel
set_option maxRecDepth 65536 in
theorem w_alone : about1.alone = true := by decide +kernel
set_option maxRecDepth 65536 in
theorem w_named : about1.methodNamed? x = some theMethod := by decide +kernel
set_option maxRecDepth 65536 in
theorem w_hears : about1.hears theMethod below0 = true := by decide +kernel
set_option maxRecDepth 65536 in
theorem w_ripe : about1.ripe theMethod args0 below0 = true := by decide +kernel
theorem w_running : about1.status = .running := rfl
set_option maxRecDepth 65536 in
theorem w_room : about1.hasRoom e0.platform room_1 = true :=
  launch0.hasRoom_least _ room_1 (by decide +kernel) (by decide +kernel) (by decide +kernel) (by decide +kernel) (by decide +kernel) (by decide +kernel)
theorem allAtoms_all (ts : List Jvm.Cond) (a : Array Jvm.Value) (st : Jvm.State) : (allAtoms ts).before a st = ts.all (fun c => c.before a st) := by
  induction ts with
  | nil => rfl
  | cons c t ih =>
    show (Jvm.Cond.and c (allAtoms t)).before a st = _
    rw [Jvm.Cond.before_and, ih, List.all_cons]
def words1 : List Jvm.Cond := Jvm.Cond.code x code maxLocals ret :: tables_1
/-- a 'code' word, met by the world's own term for the bytes: nothing is compared byte by byte -/
theorem code_word {y : MethodName} {bytes : ByteArray} {mx : Nat} {rt : Option FieldType} {a : Array Value} {s : State} {m : MethodId} {meth : Method} {c : Code} (h1 : s.methodNamed? y = some m) (h2 : s.vm.method? m = some meth) (h3 : meth.code = some c) (h4 : c.code = bytes)
    (h5 : (c.maxLocals == mx && c.exceptionTable.isEmpty && decide (c.maxStack ≤ mostOperands) && decide (meth.sig.returnType = rt) && !meth.locks && decide (parseMethodDescriptor y.desc = some meth.sig)) = true) : (Jvm.Cond.code y bytes mx rt).before a s = true := by
  simp only [Bool.and_eq_true, beq_iff_eq, Bool.not_eq_true', decide_eq_true_eq] at h5
  obtain ⟨⟨⟨⟨⟨g1, g2⟩, g3⟩, g4⟩, g5⟩, g6⟩ := h5
  simp [Cond.before, Cond.holds, Cond.value, h1, h2, h3, h4, g1, g2, g3, g4, g5, g6]
def isCode : Jvm.Cond → Bool
  | .code _ _ _ _ => true
  | _ => false
theorem all_split {L : List Jvm.Cond} {P : Jvm.Cond → Bool} (h1 : L.all (fun c => isCode c || P c) = true) (h2 : ∀ c ∈ L.filter isCode, P c = true) : L.all P = true := by
  refine List.all_eq_true.mpr fun c hc => ?_
  have h := List.all_eq_true.mp h1 c hc
  rcases Bool.eq_false_or_eq_true (isCode c) with hi | hi
  · exact h2 c (List.mem_filter.mpr ⟨hc, hi⟩)
  · simpa [hi] using h
set_option maxRecDepth 65536 in
theorem w_c0 : (Jvm.Cond.code x code maxLocals ret).before args0 about1 = true := code_word (m := ⟨1, 5⟩) (meth := k1m5) (c := k1c5) (by decide +kernel) rfl rfl rfl (by decide +kernel)
set_option maxRecDepth 65536 in
theorem w_c1 : (Jvm.Cond.code ({ cls := "com/example/rootlet/rootlet/IdMap", name := "<init>", desc := "()V" } : Jvm.MethodName) prog_24_method_1_code (1 : Nat) (Option.none : Option Jvm.ClassFile.FieldType)).before args0 about1 = true := code_word (m := ⟨2, 0⟩) (meth := k2m0) (c := k2c0) (by decide +kernel) rfl rfl rfl (by decide +kernel)
set_option maxRecDepth 65536 in
theorem w_c2 : (Jvm.Cond.code ({ cls := "java/lang/Object", name := "<init>", desc := "()V" } : Jvm.MethodName) object_method_1_code (1 : Nat) (Option.none : Option Jvm.ClassFile.FieldType)).before args0 about1 = true := code_word (m := ⟨0, 0⟩) (meth := k0m0) (c := k0c0) (by decide +kernel) rfl rfl rfl (by decide +kernel)
set_option maxRecDepth 65536 in
theorem w_c3 : (Jvm.Cond.code ({ cls := "com/example/rootlet/rootlet/IdMap", name := "allocate", desc := "(I)V" } : Jvm.MethodName) prog_24_method_14_code (6 : Nat) (Option.none : Option Jvm.ClassFile.FieldType)).before args0 about1 = true := code_word (m := ⟨2, 8⟩) (meth := k2m8) (c := k2c8) (by decide +kernel) rfl rfl rfl (by decide +kernel)
set_option maxRecDepth 65536 in
theorem w_c4 : (Jvm.Cond.code ({ cls := "java/lang/Integer", name := "valueOf", desc := "(I)Ljava/lang/Integer;" } : Jvm.MethodName) jdk_33_method_22_code (1 : Nat) (Option.some (Jvm.ClassFile.FieldType.object "java/lang/Integer"))).before args0 about1 = true := code_word (m := ⟨8, 0⟩) (meth := k8m0) (c := k8c0) (by decide +kernel) rfl rfl rfl (by decide +kernel)
set_option maxRecDepth 65536 in
theorem w_c5 : (Jvm.Cond.code ({ cls := "com/example/rootlet/rootlet/IdMap", name := "put", desc := "(JLjava/lang/Object;)Ljava/lang/Object;" } : Jvm.MethodName) prog_24_method_5_code (6 : Nat) (Option.some (Jvm.ClassFile.FieldType.object "java/lang/Object"))).before args0 about1 = true := code_word (m := ⟨2, 3⟩) (meth := k2m3) (c := k2c3) (by decide +kernel) rfl rfl rfl (by decide +kernel)
set_option maxRecDepth 65536 in
theorem w_c6 : (Jvm.Cond.code ({ cls := "java/util/Objects", name := "requireNonNull", desc := "(Ljava/lang/Object;Ljava/lang/String;)Ljava/lang/Object;" } : Jvm.MethodName) jdk_31_method_11_code (2 : Nat) (Option.some (Jvm.ClassFile.FieldType.object "java/lang/Object"))).before args0 about1 = true := code_word (m := ⟨12, 1⟩) (meth := k12m1) (c := k12c1) (by decide +kernel) rfl rfl rfl (by decide +kernel)
set_option maxRecDepth 65536 in
theorem w_c7 : (Jvm.Cond.code ({ cls := "com/example/rootlet/rootlet/IdMap", name := "home", desc := "(J)I" } : Jvm.MethodName) prog_24_method_12_code (5 : Nat) (Option.some Jvm.ClassFile.FieldType.int)).before args0 about1 = true := code_word (m := ⟨2, 6⟩) (meth := k2m6) (c := k2c6) (by decide +kernel) rfl rfl rfl (by decide +kernel)
set_option maxRecDepth 65536 in
theorem w_c8 : (Jvm.Cond.code ({ cls := "com/example/rootlet/rootlet/IdMap", name := "value", desc := "(I)Ljava/lang/Object;" } : Jvm.MethodName) prog_24_method_13_code (2 : Nat) (Option.some (Jvm.ClassFile.FieldType.object "java/lang/Object"))).before args0 about1 = true := code_word (m := ⟨2, 7⟩) (meth := k2m7) (c := k2c7) (by decide +kernel) rfl rfl rfl (by decide +kernel)
set_option maxRecDepth 65536 in
theorem w_c9 : (Jvm.Cond.code ({ cls := "com/example/rootlet/rootlet/IdMapRemovePinLaw", name := "last", desc := "(JJJJJ)I" } : Jvm.MethodName) method_2_code (10 : Nat) (Option.some Jvm.ClassFile.FieldType.int)).before args0 about1 = true := code_word (m := ⟨1, 1⟩) (meth := k1m1) (c := k1c1) (by decide +kernel) rfl rfl rfl (by decide +kernel)
set_option maxRecDepth 65536 in
theorem w_c10 : (Jvm.Cond.code ({ cls := "com/example/rootlet/rootlet/IdMapRemovePinLaw", name := "distinct", desc := "(JJJJ)I" } : Jvm.MethodName) method_3_code (9 : Nat) (Option.some Jvm.ClassFile.FieldType.int)).before args0 about1 = true := code_word (m := ⟨1, 2⟩) (meth := k1m2) (c := k1c2) (by decide +kernel) rfl rfl rfl (by decide +kernel)
set_option maxRecDepth 65536 in
theorem w_c11 : (Jvm.Cond.code ({ cls := "com/example/rootlet/rootlet/IdMap", name := "remove", desc := "(J)Ljava/lang/Object;" } : Jvm.MethodName) prog_24_method_6_code (7 : Nat) (Option.some (Jvm.ClassFile.FieldType.object "java/lang/Object"))).before args0 about1 = true := code_word (m := ⟨2, 4⟩) (meth := k2m4) (c := k2c4) (by decide +kernel) rfl rfl rfl (by decide +kernel)
set_option maxRecDepth 65536 in
theorem w_c12 : (Jvm.Cond.code ({ cls := "com/example/rootlet/rootlet/IdMap", name := "find", desc := "(J)I" } : Jvm.MethodName) prog_24_method_11_code (4 : Nat) (Option.some Jvm.ClassFile.FieldType.int)).before args0 about1 = true := code_word (m := ⟨2, 5⟩) (meth := k2m5) (c := k2c5) (by decide +kernel) rfl rfl rfl (by decide +kernel)
set_option maxRecDepth 65536 in
theorem w_c13 : (Jvm.Cond.code ({ cls := "com/example/rootlet/rootlet/IdMapRemovePinLaw", name := "same", desc := "(Ljava/lang/Integer;I)Z" } : Jvm.MethodName) method_4_code (2 : Nat) (Option.some Jvm.ClassFile.FieldType.boolean)).before args0 about1 = true := code_word (m := ⟨1, 3⟩) (meth := k1m3) (c := k1c3) (by decide +kernel) rfl rfl rfl (by decide +kernel)
set_option maxRecDepth 65536 in
theorem w_c14 : (Jvm.Cond.code ({ cls := "java/lang/Integer", name := "intValue", desc := "()I" } : Jvm.MethodName) jdk_33_method_27_code (1 : Nat) (Option.some Jvm.ClassFile.FieldType.int)).before args0 about1 = true := code_word (m := ⟨8, 1⟩) (meth := k8m1) (c := k8c1) (by decide +kernel) rfl rfl rfl (by decide +kernel)
set_option maxRecDepth 65536 in
theorem w_c15 : (Jvm.Cond.code ({ cls := "com/example/rootlet/rootlet/IdMap", name := "size", desc := "()I" } : Jvm.MethodName) prog_24_method_2_code (1 : Nat) (Option.some Jvm.ClassFile.FieldType.int)).before args0 about1 = true := code_word (m := ⟨2, 1⟩) (meth := k2m1) (c := k2c1) (by decide +kernel) rfl rfl rfl (by decide +kernel)
set_option maxRecDepth 65536 in
theorem w_c16 : (Jvm.Cond.code ({ cls := "com/example/rootlet/rootlet/IdMap", name := "get", desc := "(J)Ljava/lang/Object;" } : Jvm.MethodName) prog_24_method_3_code (4 : Nat) (Option.some (Jvm.ClassFile.FieldType.object "java/lang/Object"))).before args0 about1 = true := code_word (m := ⟨2, 2⟩) (meth := k2m2) (c := k2c2) (by decide +kernel) rfl rfl rfl (by decide +kernel)
set_option maxRecDepth 65536 in
theorem w_c17 : (Jvm.Cond.code ({ cls := "com/example/rootlet/rootlet/IdMapRemovePinLaw", name := "after", desc := "(JJJJJJ)I" } : Jvm.MethodName) method_5_code (12 : Nat) (Option.some Jvm.ClassFile.FieldType.int)).before args0 about1 = true := code_word (m := ⟨1, 4⟩) (meth := k1m4) (c := k1c4) (by decide +kernel) rfl rfl rfl (by decide +kernel)
def codes1 : List Jvm.Cond := [Jvm.Cond.code x code maxLocals ret, Jvm.Cond.code ({ cls := "com/example/rootlet/rootlet/IdMap", name := "<init>", desc := "()V" } : Jvm.MethodName) prog_24_method_1_code (1 : Nat) (Option.none : Option Jvm.ClassFile.FieldType), Jvm.Cond.code ({ cls := "java/lang/Object", name := "<init>", desc := "()V" } : Jvm.MethodName) object_method_1_code (1 : Nat) (Option.none : Option Jvm.ClassFile.FieldType), Jvm.Cond.code ({ cls := "com/example/rootlet/rootlet/IdMap", name := "allocate", desc := "(I)V" } : Jvm.MethodName) prog_24_method_14_code (6 : Nat) (Option.none : Option Jvm.ClassFile.FieldType), Jvm.Cond.code ({ cls := "java/lang/Integer", name := "valueOf", desc := "(I)Ljava/lang/Integer;" } : Jvm.MethodName) jdk_33_method_22_code (1 : Nat) (Option.some (Jvm.ClassFile.FieldType.object "java/lang/Integer")), Jvm.Cond.code ({ cls := "com/example/rootlet/rootlet/IdMap", name := "put", desc := "(JLjava/lang/Object;)Ljava/lang/Object;" } : Jvm.MethodName) prog_24_method_5_code (6 : Nat) (Option.some (Jvm.ClassFile.FieldType.object "java/lang/Object")), Jvm.Cond.code ({ cls := "java/util/Objects", name := "requireNonNull", desc := "(Ljava/lang/Object;Ljava/lang/String;)Ljava/lang/Object;" } : Jvm.MethodName) jdk_31_method_11_code (2 : Nat) (Option.some (Jvm.ClassFile.FieldType.object "java/lang/Object")), Jvm.Cond.code ({ cls := "com/example/rootlet/rootlet/IdMap", name := "home", desc := "(J)I" } : Jvm.MethodName) prog_24_method_12_code (5 : Nat) (Option.some Jvm.ClassFile.FieldType.int), Jvm.Cond.code ({ cls := "com/example/rootlet/rootlet/IdMap", name := "value", desc := "(I)Ljava/lang/Object;" } : Jvm.MethodName) prog_24_method_13_code (2 : Nat) (Option.some (Jvm.ClassFile.FieldType.object "java/lang/Object")), Jvm.Cond.code ({ cls := "com/example/rootlet/rootlet/IdMapRemovePinLaw", name := "last", desc := "(JJJJJ)I" } : Jvm.MethodName) method_2_code (10 : Nat) (Option.some Jvm.ClassFile.FieldType.int), Jvm.Cond.code ({ cls := "com/example/rootlet/rootlet/IdMapRemovePinLaw", name := "distinct", desc := "(JJJJ)I" } : Jvm.MethodName) method_3_code (9 : Nat) (Option.some Jvm.ClassFile.FieldType.int), Jvm.Cond.code ({ cls := "com/example/rootlet/rootlet/IdMap", name := "remove", desc := "(J)Ljava/lang/Object;" } : Jvm.MethodName) prog_24_method_6_code (7 : Nat) (Option.some (Jvm.ClassFile.FieldType.object "java/lang/Object")), Jvm.Cond.code ({ cls := "com/example/rootlet/rootlet/IdMap", name := "find", desc := "(J)I" } : Jvm.MethodName) prog_24_method_11_code (4 : Nat) (Option.some Jvm.ClassFile.FieldType.int), Jvm.Cond.code ({ cls := "com/example/rootlet/rootlet/IdMapRemovePinLaw", name := "same", desc := "(Ljava/lang/Integer;I)Z" } : Jvm.MethodName) method_4_code (2 : Nat) (Option.some Jvm.ClassFile.FieldType.boolean), Jvm.Cond.code ({ cls := "java/lang/Integer", name := "intValue", desc := "()I" } : Jvm.MethodName) jdk_33_method_27_code (1 : Nat) (Option.some Jvm.ClassFile.FieldType.int), Jvm.Cond.code ({ cls := "com/example/rootlet/rootlet/IdMap", name := "size", desc := "()I" } : Jvm.MethodName) prog_24_method_2_code (1 : Nat) (Option.some Jvm.ClassFile.FieldType.int), Jvm.Cond.code ({ cls := "com/example/rootlet/rootlet/IdMap", name := "get", desc := "(J)Ljava/lang/Object;" } : Jvm.MethodName) prog_24_method_3_code (4 : Nat) (Option.some (Jvm.ClassFile.FieldType.object "java/lang/Object")), Jvm.Cond.code ({ cls := "com/example/rootlet/rootlet/IdMapRemovePinLaw", name := "after", desc := "(JJJJJJ)I" } : Jvm.MethodName) method_5_code (12 : Nat) (Option.some Jvm.ClassFile.FieldType.int)]
set_option maxRecDepth 65536 in
theorem codes_eq : words1.filter isCode = codes1 := rfl
theorem w_codes : ∀ c ∈ words1.filter isCode, c.before args0 about1 = true := by
  rw [codes_eq]
  intro c hc
  simp only [codes1, List.mem_cons, List.not_mem_nil, or_false] at hc
  rcases hc with rfl | rfl | rfl | rfl | rfl | rfl | rfl | rfl | rfl | rfl | rfl | rfl | rfl | rfl | rfl | rfl | rfl | rfl
  · exact w_c0
  · exact w_c1
  · exact w_c2
  · exact w_c3
  · exact w_c4
  · exact w_c5
  · exact w_c6
  · exact w_c7
  · exact w_c8
  · exact w_c9
  · exact w_c10
  · exact w_c11
  · exact w_c12
  · exact w_c13
  · exact w_c14
  · exact w_c15
  · exact w_c16
  · exact w_c17
set_option maxRecDepth 65536 in
theorem w_t1 : (words1.take 24).all (fun c => isCode c || c.before args0 about1) = true := by decide +kernel
set_option maxRecDepth 65536 in
theorem w_t2 : ((words1.drop 24).take 24).all (fun c => isCode c || c.before args0 about1) = true := by decide +kernel
set_option maxRecDepth 65536 in
theorem w_t3 : (((words1.drop 24).drop 24).take 24).all (fun c => isCode c || c.before args0 about1) = true := by decide +kernel
set_option maxRecDepth 65536 in
theorem w_t4 : ((((words1.drop 24).drop 24).drop 24).take 24).all (fun c => isCode c || c.before args0 about1) = true := by decide +kernel
set_option maxRecDepth 65536 in
theorem w_t5 : ((((words1.drop 24).drop 24).drop 24).drop 24).all (fun c => isCode c || c.before args0 about1) = true := by decide +kernel
theorem w_tables : (allAtoms (Jvm.Cond.code x code maxLocals ret :: tables_1)).before args0 about1 = true := by
  rw [allAtoms_all]
  show words1.all (fun c => c.before args0 about1) = true
  refine all_split ?_ w_codes
  rw [← List.take_append_drop 24 words1, List.all_append, w_t1, ← List.take_append_drop 24 (words1.drop 24), List.all_append, w_t2, ← List.take_append_drop 24 ((words1.drop 24).drop 24), List.all_append, w_t3, ← List.take_append_drop 24 (((words1.drop 24).drop 24).drop 24), List.all_append, w_t4, w_t5]
  rfl
set_option maxRecDepth 65536 in
theorem w_rest : rest_1_c.before args0 about1 = true := by decide +kernel
set_option maxRecDepth 65536 in
theorem w_case : (Jvm.Cond.and given_1 narrow_1).before args0 about1 = true := by decide +kernel
theorem w_applies : (headSpec (Jvm.Cond.code x code maxLocals ret :: tables_1) room_1).applies x e0.platform about1 = true :=
  (Spec.applies_iff w_frames).mpr ⟨w_running, w_runnable, w_alone, w_named, w_hears, w_ripe, w_room, w_tables⟩
theorem atStart : AtStart classFile x code maxLocals ret World_1 tables_1 room_1 Calls_1 rest_1 Pre_1 launch0 p0 e0 about1 theMethod args0 below0 :=
  ⟨lists_1, trivial, launch0.admits_env _ _ _, launch0.least_env, fairChoices_fair.cas, fairChoices_fair.clock, w_frames, w_args, w_heap, w_applies, trivial, w_rest, w_case⟩
end start1
theorem witness_1 : WitnessClaimed_1 := ⟨start1.p0, start1.e0, start1.about1, start1.theMethod, start1.args0, start1.below0, start1.atStart⟩
end Jvm.Pilot.@@N@@
