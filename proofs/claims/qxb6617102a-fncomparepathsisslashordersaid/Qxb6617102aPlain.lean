import Derived.Lib.Bytealg
namespace Go.Proofs.Qxb6617102a.Plain
open Go.Lib (compareBytes)

theorem cb_self (a : List UInt8) : compareBytes a a = 0 := by
  induction a with
  | nil => rfl
  | cons x a ih =>
    have : ¬ x < x := UInt8.lt_irrefl x
    simp [compareBytes, this, ih]

theorem cb_range (a b : List UInt8) : compareBytes a b = -1 ∨ compareBytes a b = 0 ∨ compareBytes a b = 1 := by
  induction a generalizing b with
  | nil => cases b <;> simp [compareBytes]
  | cons x a ih =>
    cases b with
    | nil => simp [compareBytes]
    | cons y b =>
      simp only [compareBytes]
      split
      · simp
      · split
        · simp
        · exact ih b

theorem u8_eq {x y : UInt8} (h1 : ¬ x < y) (h2 : ¬ y < x) : x = y := by
  rw [UInt8.lt_iff_toNat_lt] at h1 h2
  exact UInt8.toNat_inj.1 (by omega)

theorem cb_zero (a b : List UInt8) (h : compareBytes a b = 0) : a = b := by
  induction a generalizing b with
  | nil => cases b <;> simp [compareBytes] at h ⊢
  | cons x a ih =>
    cases b with
    | nil => simp [compareBytes] at h
    | cons y b =>
      simp only [compareBytes] at h
      by_cases h1 : x < y
      · simp [h1] at h
      · by_cases h2 : y < x
        · simp [h1, h2] at h
        · simp only [h1, h2, if_false] at h
          rw [u8_eq h1 h2, ih b h]

theorem cb_neg (a b : List UInt8) : compareBytes b a = - compareBytes a b := by
  induction a generalizing b with
  | nil => cases b <;> simp [compareBytes]
  | cons x a ih =>
    cases b with
    | nil => simp [compareBytes]
    | cons y b =>
      simp only [compareBytes]
      by_cases h1 : x < y
      · have h2 : ¬ y < x := by rw [UInt8.lt_iff_toNat_lt] at *; omega
        simp [h1, h2]
      · by_cases h2 : y < x
        · simp [h1, h2]
        · simp only [h1, h2, if_false]
          exact ih b

theorem cb_pre (a x y : List UInt8) : compareBytes (a ++ x) (a ++ y) = compareBytes x y := by
  induction a with
  | nil => rfl
  | cons c a ih =>
    have : ¬ c < c := UInt8.lt_irrefl c
    simp [compareBytes, this, ih]

theorem cb_ne (a b x y : List UInt8) (hl : a.length = b.length) (h : compareBytes a b ≠ 0) : compareBytes (a ++ x) (b ++ y) = compareBytes a b := by
  induction a generalizing b with
  | nil => cases b with
    | nil => simp [compareBytes] at h
    | cons _ _ => simp at hl
  | cons c a ih =>
    cases b with
    | nil => simp at hl
    | cons d b =>
      simp only [List.cons_append, compareBytes] at h ⊢
      by_cases h1 : c < d
      · simp [h1]
      · by_cases h2 : d < c
        · simp [h1, h2]
        · simp only [h1, h2, if_false] at h ⊢
          exact ih b (by simpa using hl) h

/-- What comparePaths computes: the bytewise order of p with a slash behind it against q with a slash behind it. -/
def cp (p q : List UInt8) : Int := compareBytes (p ++ [47]) (q ++ [47])

theorem cp_neg (p q : List UInt8) : cp q p = - cp p q := cb_neg _ _

theorem cp_eqlen (p q : List UInt8) (h : p.length = q.length) : cp p q = compareBytes p q := by
  unfold cp
  by_cases h0 : compareBytes p q = 0
  · have := cb_zero p q h0
    subst this
    rw [cb_self, cb_self]
  · exact cb_ne p q _ _ h h0

theorem cp_lt_ne (p q : List UInt8) (h : p.length < q.length) (h0 : compareBytes p (q.take p.length) ≠ 0) : cp p q = compareBytes p (q.take p.length) := by
  unfold cp
  have e : q = q.take p.length ++ q.drop p.length := (List.take_append_drop _ _).symm
  have e2 : q ++ [47] = q.take p.length ++ (q.drop p.length ++ [47]) := by
    rw [← List.append_assoc, List.take_append_drop]
  rw [e2]
  exact cb_ne p _ _ _ (by simp; omega) h0

theorem cp_lt_eq (p q : List UInt8) (h : p.length < q.length) (h0 : compareBytes p (q.take p.length) = 0) : cp p q = if q[p.length] < 47 then 1 else -1 := by
  have hp := cb_zero _ _ h0
  have e : q = p ++ q[p.length] :: q.drop (p.length + 1) := by
    have h1 : q = q.take p.length ++ q.drop p.length := (List.take_append_drop _ _).symm
    rw [← hp, List.drop_eq_getElem_cons h] at h1
    exact h1
  unfold cp
  generalize q[p.length] = c at e ⊢
  generalize q.drop (p.length + 1) = r at e
  rw [e, List.append_assoc, cb_pre]
  simp only [List.cons_append, compareBytes]
  by_cases hc : c < 47
  · have : ¬ (47 : UInt8) < c := by rw [UInt8.lt_iff_toNat_lt] at *; omega
    simp [hc, this]
  · by_cases h2 : (47 : UInt8) < c
    · simp [h2, hc]
    · simp only [h2, hc, if_false]
      cases r <;> rfl

/-- 'q starts with p/' -/
def below (q p : List UInt8) : Bool := (p ++ [47]).isPrefixOf q

theorem cp_child (p s : List UInt8) : cp p (p ++ [47] ++ s) = -1 := by
  unfold cp
  have : p ++ [47] ++ s ++ [47] = (p ++ [47]) ++ (s ++ [47]) := by simp
  rw [this]
  have h := cb_pre (p ++ [47]) [] (s ++ [47])
  rw [List.append_nil] at h
  rw [h]
  cases s <;> rfl

theorem cp_below (p q : List UInt8) (h : below q p = true) : cp p q = -1 := by
  unfold below at h
  rw [List.isPrefixOf_iff_prefix] at h
  obtain ⟨t, rfl⟩ := h
  exact cp_child p t

theorem between (a b x : List UInt8) (h1 : compareBytes a b < 0) (h2 : compareBytes b (a ++ x) ≤ 0) : a <+: b := by
  induction a generalizing b with
  | nil => exact List.nil_prefix
  | cons c a ih =>
    cases b with
    | nil => simp [compareBytes] at h1
    | cons d b =>
      simp only [List.cons_append, compareBytes] at h1 h2
      by_cases e1 : c < d
      · have e2 : ¬ d < c := by rw [UInt8.lt_iff_toNat_lt] at *; omega
        simp [e1, e2] at h2
      · by_cases e2 : d < c
        · simp [e1, e2] at h1
        · simp only [e1, e2, if_false] at h1 h2
          have := ih b h1 h2
          rw [u8_eq e1 e2]
          exact List.cons_prefix_cons.2 ⟨rfl, this⟩

theorem cp_between (p q s : List UInt8) (h1 : cp p q < 0) (h2 : cp q (p ++ [47] ++ s) ≤ 0) : below q p = true := by
  unfold below
  rw [List.isPrefixOf_iff_prefix]
  unfold cp at h1 h2
  have e : p ++ [47] ++ s ++ [47] = (p ++ [47]) ++ (s ++ [47]) := by simp
  rw [e] at h2
  obtain ⟨t, ht⟩ := between _ _ _ h1 h2
  rcases List.eq_nil_or_concat t with rfl | ⟨u, z, rfl⟩
  · rw [List.append_nil] at ht
    rw [ht, cb_self] at h1
    omega
  · refine ⟨u, ?_⟩
    have := congrArg List.dropLast ht
    rw [List.dropLast_concat, List.concat_eq_append, ← List.append_assoc, List.dropLast_concat] at this
    exact this

/-- startsBelow's loop: 'no place below k parts' -/
theorem below_len (q p : List UInt8) (h : q.length ≤ p.length) : below q p = false := by
  rw [Bool.eq_false_iff]
  intro hb
  unfold below at hb
  rw [List.isPrefixOf_iff_prefix] at hb
  have := hb.length_le
  simp at this
  omega

theorem below_ne (q p : List UInt8) (k : Nat) (hq : k < q.length) (hp : k < p.length) (h : q[k] ≠ p[k]) : below q p = false := by
  rw [Bool.eq_false_iff]
  intro hb
  unfold below at hb
  rw [List.isPrefixOf_iff_prefix] at hb
  obtain ⟨t, rfl⟩ := hb
  apply h
  rw [List.getElem_append_left (by simp; omega), List.getElem_append_left hp]

theorem below_eq (q p : List UInt8) (h : p.length < q.length) (hall : ∀ j (h1 : j < q.length) (h2 : j < p.length), q[j] = p[j]) : below q p = (q[p.length] == 47) := by
  have e : q = p ++ q[p.length] :: q.drop (p.length + 1) := by
    have h1 : q = q.take p.length ++ q.drop p.length := (List.take_append_drop _ _).symm
    rw [List.drop_eq_getElem_cons h] at h1
    have h2 : q.take p.length = p := by
      apply List.ext_getElem
      · simp; omega
      · intro i hi1 hi2
        simp only [List.getElem_take]
        exact hall i (by omega) hi2
    rw [h2] at h1
    exact h1
  generalize q[p.length] = c at e ⊢
  generalize q.drop (p.length + 1) = r at e
  subst e
  unfold below
  rw [Bool.eq_iff_iff, List.isPrefixOf_iff_prefix, List.prefix_append_right_inj]
  rw [List.cons_prefix_cons, beq_iff_eq]
  constructor
  · intro h; exact h.1.symm
  · intro h; exact ⟨h.symm, List.nil_prefix⟩

end Go.Proofs.Qxb6617102a.Plain
