/- The plain law of the highest differing bit: no Go in sight. -/
set_option linter.unusedVariables false
namespace Go.Proofs.Qxb6617882a

structure BitH (x e h : Nat) : Prop where
  eq : h = 2 ^ e
  le : e ≤ 7
  lt : x < 2 ^ (e + 1)

theorem BitH.start {x : Nat} (h : x < 256) : BitH x 7 128 := ⟨rfl, Nat.le_refl _, h⟩

theorem BitH.bd {x e h : Nat} (b : BitH x e h) : 1 ≤ h ∧ h ≤ 128 := by
  obtain ⟨rfl, hle, _⟩ := b
  exact ⟨Nat.two_pow_pos _, Nat.pow_le_pow_right (by decide) hle⟩

theorem and_bit (n e : Nat) : n &&& 2 ^ e = (n.testBit e).toNat * 2 ^ e := by
  refine Nat.eq_of_testBit_eq fun j => ?_
  rw [Nat.testBit_and, Nat.testBit_two_pow]
  by_cases hj : e = j
  · subst hj
    cases hb : n.testBit e <;> simp
  · cases hb : n.testBit e <;> simp [hj]

theorem lt_of_bits {n m e : Nat} (hn : n.testBit e = false) (hm : m.testBit e = true) (h : ∀ j, e < j → n.testBit j = m.testBit j) : n < m := by
  have hd : n / 2 ^ (e + 1) = m / 2 ^ (e + 1) := Nat.eq_of_testBit_eq fun j => by
    rw [Nat.testBit_div_two_pow, Nat.testBit_div_two_pow]
    exact h _ (by omega)
  rw [Nat.pow_succ, ← Nat.div_div_eq_div_mul, ← Nat.div_div_eq_div_mul] at hd
  rw [Nat.testBit_eq_decide_div_mod_eq] at hn hm
  have hn' := of_decide_eq_false hn
  have hm' := of_decide_eq_true hm
  rcases Nat.lt_or_ge n m with h1 | h1
  · exact h1
  · have := Nat.div_le_div_right (c := 2 ^ e) h1
    omega

theorem BitH.step {x e h : Nat} (b : BitH x e h) (h0 : h &&& x = 0) (hx : x ≠ 0) : 0 < e ∧ BitH x (e - 1) (h / 2) := by
  obtain ⟨rfl, hle, hlt⟩ := b
  have hbit : x.testBit e = false := by
    rw [Nat.and_comm, and_bit] at h0
    cases hb : x.testBit e with
    | false => rfl
    | true =>
      rw [hb] at h0
      have := Nat.two_pow_pos e
      simp at h0
  have hlt' : x < 2 ^ e := by
    rcases Nat.lt_or_ge x (2 ^ e) with h1 | h1
    · exact h1
    · exfalso
      have h2 : x / 2 ^ e = 1 := by
        rw [Nat.pow_succ] at hlt
        have h3 : x / 2 ^ e < 2 := (Nat.div_lt_iff_lt_mul (Nat.two_pow_pos e)).2 (by omega)
        have h4 : 1 ≤ x / 2 ^ e := (Nat.le_div_iff_mul_le (Nat.two_pow_pos e)).2 (by omega)
        omega
      rw [Nat.testBit_eq_decide_div_mod_eq, h2] at hbit
      simp at hbit
  have he : 0 < e := by
    rcases Nat.eq_zero_or_pos e with h1 | h1
    · subst h1; simp at hlt'; omega
    · exact h1
  refine ⟨he, ?_, by omega, ?_⟩
  · have : 2 ^ e = 2 ^ (e - 1) * 2 := by rw [← Nat.pow_succ]; congr 1; omega
    rw [this, Nat.mul_div_cancel _ (by decide)]
  · rw [show e - 1 + 1 = e from by omega]
    exact hlt'

theorem BitH.sign {A B T e h : Nat} (b : BitH (A ^^^ B) e h) (hne : h &&& (A ^^^ B) ≠ 0) :
    (A &&& h = T &&& h → (A ^^^ T) < (B ^^^ T)) ∧ (A &&& h ≠ T &&& h → (B ^^^ T) < (A ^^^ T)) := by
  obtain ⟨rfl, hle, hlt⟩ := b
  have hbit : (A ^^^ B).testBit e = true := by
    cases hb : (A ^^^ B).testBit e with
    | true => rfl
    | false =>
      rw [Nat.and_comm, and_bit, hb] at hne
      simp at hne
  have habove : ∀ j, e < j → A.testBit j = B.testBit j := by
    intro j hj
    have hz : (A ^^^ B).testBit j = false := Nat.testBit_lt_two_pow (Nat.lt_of_lt_of_le hlt (Nat.pow_le_pow_right (by decide) hj))
    rw [Nat.testBit_xor] at hz
    cases h1 : A.testBit j <;> cases h2 : B.testBit j <;> simp_all
  rw [Nat.testBit_xor] at hbit
  have hab : ∀ j, e < j → (A ^^^ T).testBit j = (B ^^^ T).testBit j := by
    intro j hj
    rw [Nat.testBit_xor, Nat.testBit_xor, habove j hj]
  have hA : (A &&& 2 ^ e = T &&& 2 ^ e) ↔ A.testBit e = T.testBit e := by
    rw [and_bit, and_bit]
    have hp := Nat.two_pow_pos e
    cases h1 : A.testBit e <;> cases h2 : T.testBit e <;> simp <;> omega
  constructor
  · intro hEq
    have h1 := hA.1 hEq
    refine lt_of_bits (e := e) ?_ ?_ hab
    · rw [Nat.testBit_xor, h1]; simp
    · rw [Nat.testBit_xor, ← h1]; cases h3 : A.testBit e <;> cases h4 : B.testBit e <;> simp_all
  · intro hNe
    have h1 : A.testBit e ≠ T.testBit e := fun h => hNe (hA.2 h)
    refine lt_of_bits (e := e) ?_ ?_ (fun j hj => (hab j hj).symm)
    · rw [Nat.testBit_xor]; cases h3 : A.testBit e <;> cases h4 : B.testBit e <;> cases h5 : T.testBit e <;> simp_all
    · rw [Nat.testBit_xor]; cases h3 : A.testBit e <;> cases h5 : T.testBit e <;> simp_all

/-- The first place at which two rows part. -/
theorem first_diff (a b : Nat → Nat) : ∀ n, ∃ k, k ≤ n ∧ (∀ i, i < k → a i = b i) ∧ (k < n → a k ≠ b k)
  | 0 => ⟨0, Nat.le_refl _, fun i hi => absurd hi (Nat.not_lt_zero _), fun h => absurd h (Nat.lt_irrefl _)⟩
  | n + 1 => by
    obtain ⟨k, h1, h2, h3⟩ := first_diff a b n
    by_cases hk : k < n
    · exact ⟨k, by omega, h2, fun _ => h3 hk⟩
    · have hkn : k = n := by omega
      subst hkn
      by_cases e : a k = b k
      · exact ⟨k + 1, Nat.le_refl _, fun i hi => by
          by_cases ei : i = k
          · subst ei; exact e
          · exact h2 i (by omega), fun h => absurd h (Nat.lt_irrefl _)⟩
      · exact ⟨k, by omega, h2, fun _ => e⟩

end Go.Proofs.Qxb6617882a
