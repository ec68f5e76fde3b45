import Derived.Laws.FloatArith
namespace Go.Proofs.Qxb6617119a.Fl
open Ieee

theorem log2_lt {m k : Nat} (h : m < 2 ^ (k + 1)) : m.log2 ≤ k := by
  by_cases h0 : m = 0
  · subst h0; exact Nat.zero_le _
  · have := (Nat.log2_lt h0).2 h
    omega

theorem log2_scale {m : Nat} (hm : m ≠ 0) (j : Nat) : (m * 2 ^ j).log2 = m.log2 + j := by
  have h0 : m * 2 ^ j ≠ 0 := Nat.mul_ne_zero hm (Nat.ne_of_gt (Nat.two_pow_pos _))
  have h1 : 2 ^ m.log2 ≤ m := Nat.log2_self_le hm
  have h2 : m < 2 ^ (m.log2 + 1) := Nat.lt_log2_self
  have h3 : (m * 2 ^ j).log2 < m.log2 + j + 1 := (Nat.log2_lt h0).2 (by
    rw [show m.log2 + j + 1 = (m.log2 + 1) + j from by omega, Nat.pow_add]
    exact Nat.mul_lt_mul_of_pos_right h2 (Nat.two_pow_pos _))
  have h4 : m.log2 + j ≤ (m * 2 ^ j).log2 := (Nat.le_log2 h0).2 (by
    rw [Nat.pow_add]
    exact Nat.mul_le_mul_right _ h1)
  omega

/-- Nothing dropped. -/
theorem cut_zero (neg : Bool) (n : Nat) : Toward.even.cut neg n 0 = n := by
  simp [Toward.cut, Nat.mod_one]

/-- Only noughts dropped. -/
theorem cut_exact (neg : Bool) (n d : Nat) (hn : n ≠ 0) : Toward.even.cut neg (n * 2 ^ d) d = n := by
  have hl := log2_scale hn d
  have hmin : min d ((n * 2 ^ d).log2 + 2) = d := by rw [hl]; omega
  have hp : 0 < 2 ^ d := Nat.two_pow_pos _
  simp only [Toward.cut, hmin, Nat.one_shiftLeft, Nat.mul_mod_left, Nat.mul_div_cancel _ hp]
  have : ¬ (2 ^ d < 2 * 0) := by omega
  have h2 : ((2 ^ d : Nat) == 2 * 0) = false := by rw [beq_eq_false_iff_ne]; omega
  simp

/-- A number's digits moved: the same word. -/
theorem nearest_scale (neg : Bool) (m j : Nat) (p : Int) (hm : m ≠ 0) (hl : m.log2 ≤ 52) (hp : -1074 ≤ p) :
    double.nearest neg (m * 2 ^ j) (p - j) = double.nearest neg m p := by
  have h0 : m * 2 ^ j ≠ 0 := Nat.mul_ne_zero hm (Nat.ne_of_gt (Nat.two_pow_pos _))
  have hlp : double.leastPlace = -1074 := by decide
  have hfb : (double.fractionBits : Int) = 52 := rfl
  unfold Format.nearest
  rw [if_neg h0, if_neg hm]
  simp only [log2_scale hm j, hlp, hfb]
  have hlast : max (p - (j : Int) + ((m.log2 + j : Nat) : Int) - 52) (-1074) = max (p + (m.log2 : Int) - 52) (-1074) := by
    congr 1
    omega
  rw [hlast]
  generalize hL : max (p + (m.log2 : Int) - 52) (-1074) = L
  have hLp : L ≤ p := by omega
  have hd : (L - p).toNat = 0 := by omega
  rw [hd, cut_zero]
  have key : Toward.even.cut neg ((m * 2 ^ j) <<< (p - (j : Int) - L).toNat) (L - (p - (j : Int))).toNat = m <<< (p - L).toNat := by
    by_cases hj : (j : Int) ≤ p - L
    · have e1 : (L - (p - (j : Int))).toNat = 0 := by omega
      rw [e1, cut_zero, Nat.shiftLeft_eq, Nat.shiftLeft_eq, Nat.mul_assoc, ← Nat.pow_add]
      congr 2
      omega
    · have e1 : (p - (j : Int) - L).toNat = 0 := by omega
      rw [e1, Nat.shiftLeft_zero]
      have e2 : m * 2 ^ j = (m * 2 ^ (p - L).toNat) * 2 ^ (L - (p - (j : Int))).toNat := by
        rw [Nat.mul_assoc, ← Nat.pow_add]
        congr 2
        omega
      rw [e2, cut_exact _ _ _ (Nat.mul_ne_zero hm (Nat.ne_of_gt (Nat.two_pow_pos _))), Nat.shiftLeft_eq]
  rw [key]

/-- What a word of the format reads as. -/
theorem read_number {x : Nat} {s : Bool} {m : Nat} {i : Int} (h : double.read x = .number s m i) : m < 2 ^ 53 ∧ -1074 ≤ i := by
  have hlp : double.leastPlace = -1074 := by decide
  have hb : double.binade = 2 ^ 52 := rfl
  unfold Format.read at h
  simp only [hlp, hb] at h
  split at h
  · cases h
    exact ⟨by omega, Int.le_refl _⟩
  · split at h
    · cases h
      exact ⟨by have := Nat.mod_lt (x % double.signWeight) (show 0 < 2 ^ 52 from Nat.two_pow_pos _); omega, by omega⟩
    · split at h <;> cases h

def half : Nat := 4602678819172646912
def one : Nat := 4607182418800017408
def two : Nat := 4611686018427387904

theorem read_half : double.read half = .number false (2 ^ 52) (-53) := by decide +kernel
theorem read_one : double.read one = .number false (2 ^ 52) (-52) := by decide +kernel
theorem read_two : double.read two = .number false (2 ^ 52) (-51) := by decide +kernel

/-- x / 0.5 is x * 2, whatever x. -/
theorem div_half (x : Nat) : double.div x half = double.mul x two := by
  unfold Format.div Format.mul
  rw [read_half, read_two]
  cases hx : double.read x with
  | nan s t => rfl
  | infinity s =>
    simp [Datum.quotient, Datum.product]
  | number s m i =>
    obtain ⟨hm, hi⟩ := read_number hx
    simp only [Datum.quotient, Datum.product, Option.map_some, Format.write, Bool.xor_false]
    have hn : ¬ ((2 : Nat) ^ 52 = 0) := by decide
    rw [if_neg hn]
    simp only [Option.map_some, Format.write, Option.some.injEq]
    have hl52 : ((2 : Nat) ^ 52).log2 = 52 := by decide +kernel
    have hfb : double.fractionBits + 2 = 54 := rfl
    rw [hl52, hfb]
    have hlm : m.log2 ≤ 52 := log2_lt hm
    by_cases h0 : m = 0
    · subst h0
      simp [Format.nearest]
    · generalize hmore : 54 + 52 - m.log2 = more
      have hmge : 54 ≤ more := by omega
      have e : m <<< more = (m * 2 ^ (more - 52)) * 2 ^ 52 := by
        rw [Nat.shiftLeft_eq, Nat.mul_assoc, ← Nat.pow_add]
        congr 2
        omega
      rw [e, Nat.mul_mod_left, Nat.mul_div_cancel _ (Nat.two_pow_pos _)]
      have e2 : 2 * (m * 2 ^ (more - 52)) + (0 != 0).toNat = m * 2 ^ (more - 51) := by
        have : more - 51 = (more - 52) + 1 := by omega
        rw [this, Nat.pow_succ]
        simp
        rw [Nat.mul_comm 2 (m * 2 ^ (more - 52)), Nat.mul_assoc]
      rw [e2]
      have h1 := nearest_scale s m (more - 51) (i + 1) h0 hlm (by omega)
      have h2 := nearest_scale s m 52 (i + 1) h0 hlm (by omega)
      rw [show i - (-53) - (more : Int) - 1 = i + 1 - ((more - 51 : Nat) : Int) from by omega, h1, ← h2]
      congr 1
      omega

theorem min_aux (E M : Nat) (h1 : E ≤ 1974) (h2 : M < 9007199254740992) : E * 4503599627370496 + M ≤ 9218868437227405312 := by omega
theorem read_aux (E M : Nat) (h1 : E ≤ 1974) (h2 : 4503599627370496 ≤ M) (h3 : M < 9007199254740992) :
    (E * 4503599627370496 + M) / 9223372036854775808 = 0 ∧ (E * 4503599627370496 + M) % 9223372036854775808 = E * 4503599627370496 + M ∧
    ¬ (E * 4503599627370496 + M < 4503599627370496) ∧ E * 4503599627370496 + M < 9218868437227405312 ∧
    (E * 4503599627370496 + M) % 4503599627370496 = M - 4503599627370496 ∧ (E * 4503599627370496 + M) / 4503599627370496 = E + 1 := by
  have q : E * 4503599627370496 + M < 9223372036854775808 := by omega
  refine ⟨Nat.div_eq_of_lt q, Nat.mod_eq_of_lt q, by omega, by omega, by omega, by omega⟩

/-- A number of at most 53 digits in the format's middle: read as it was written. -/
theorem read_nearest (m : Nat) (p : Int) (hm : m ≠ 0) (hl : m.log2 ≤ 52) (hp : -1000 ≤ p) (hp' : p ≤ 900) :
    double.read (double.nearest false m p) = .number false (m * 2 ^ (52 - m.log2)) (p + m.log2 - 52) := by
  have hlp : double.leastPlace = -1074 := by decide
  have hfb : (double.fractionBits : Int) = 52 := rfl
  have hb : double.binade = 4503599627370496 := rfl
  have hi : double.infRung = 9218868437227405312 := by decide +kernel
  have hsw : double.signWeight = 9223372036854775808 := by decide +kernel
  have hM1 : 2 ^ 52 ≤ m * 2 ^ (52 - m.log2) := by
    have h1 : 2 ^ m.log2 ≤ m := Nat.log2_self_le hm
    calc 2 ^ 52 = 2 ^ m.log2 * 2 ^ (52 - m.log2) := by rw [← Nat.pow_add]; congr 1; omega
      _ ≤ _ := Nat.mul_le_mul_right _ h1
  have hM2 : m * 2 ^ (52 - m.log2) < 2 ^ 53 := by
    have h1 : m < 2 ^ (m.log2 + 1) := Nat.lt_log2_self
    calc m * 2 ^ (52 - m.log2) < 2 ^ (m.log2 + 1) * 2 ^ (52 - m.log2) := Nat.mul_lt_mul_of_pos_right h1 (Nat.two_pow_pos _)
      _ = 2 ^ 53 := by rw [← Nat.pow_add]; congr 1; omega
  have e52 : (2 : Nat) ^ 52 = 4503599627370496 := by decide
  have e53 : (2 : Nat) ^ 53 = 9007199254740992 := by decide
  rw [e52] at hM1
  rw [e53] at hM2
  have hn : double.nearest false m p = (p + m.log2 - 52 + 1074).toNat * 4503599627370496 + m * 2 ^ (52 - m.log2) := by
    unfold Format.nearest
    rw [if_neg hm]
    simp only [hlp, hfb, hb, hi]
    have hL : max (p + (m.log2 : Int) - 52) (-1074) = p + m.log2 - 52 := by omega
    rw [hL]
    have hd : (p + (m.log2 : Int) - 52 - p).toNat = 0 := by omega
    have hs : (p - (p + (m.log2 : Int) - 52)).toNat = 52 - m.log2 := by omega
    rw [hd, cut_zero, hs, Nat.shiftLeft_eq]
    unfold Format.word
    simp only [Bool.false_eq_true, if_false]
    have e : (p + (m.log2 : Int) - 52 - -1074).toNat = (p + (m.log2 : Int) - 52 + 1074).toNat := by omega
    rw [e]
    refine Nat.min_eq_left ?_
    generalize m * 2 ^ (52 - m.log2) = M at hM1 hM2 ⊢
    generalize hE : (p + (m.log2 : Int) - 52 + 1074).toNat = E
    have hEle : E ≤ 1974 := by omega
    exact min_aux E M hEle hM2
  rw [hn]
  generalize m * 2 ^ (52 - m.log2) = M at *
  generalize hE : (p + (m.log2 : Int) - 52 + 1074).toNat = E
  have hE' : (E : Int) = p + m.log2 - 52 + 1074 := by omega
  have hEle : E ≤ 1974 := by omega
  unfold Format.read
  simp only [hlp, hb, hi, hsw]
  obtain ⟨q1, q2, q8, q9, q3, q4⟩ := read_aux E M hEle hM1 hM2
  rw [q1, q2, if_neg q8, if_pos q9]
  rw [q3, q4]
  have q5 : 4503599627370496 + (M - 4503599627370496) = M := by omega
  rw [q5]
  have q6 : ((E + 1 - 1 : Nat) : Int) = (E : Int) := by omega
  rw [q6]
  have q7 : (-1074 : Int) + (E : Int) = p + m.log2 - 52 := by omega
  rw [q7]
  have q0 : ((0 : Nat) % 2 == 1) = false := rfl
  rw [q0]

/-- k halves -/
def hs (k : Nat) : Nat := double.nearest false k (-1)

theorem hs_zero : hs 0 = 0 := rfl

theorem log2_small {k : Nat} (h : k ≤ 65536) : k.log2 ≤ 52 := log2_lt (Nat.lt_of_le_of_lt h (by decide))

theorem hs_add (k : Nat) (h : k ≤ 65535) : double.add (hs k) half = some (hs (k + 1)) := by
  unfold Format.add
  rw [read_half]
  by_cases h0 : k = 0
  · subst h0
    decide +kernel
  · have hl : k.log2 ≤ 52 := log2_small (by omega)
    unfold hs
    rw [read_nearest k (-1) h0 hl (by omega) (by omega)]
    simp only [Datum.sum, signed, Bool.false_eq_true, if_false, Option.map_some, Format.write]
    have hbase : min (-1 + (k.log2 : Int) - 52) (-53) = -53 := by omega
    rw [hbase]
    have e1 : (-1 + (k.log2 : Int) - 52 - -53).toNat = k.log2 := by omega
    have e2 : (-53 - -53 : Int).toNat = 0 := rfl
    rw [e1, e2, Nat.shiftLeft_eq, Nat.shiftLeft_zero, Nat.mul_assoc, ← Nat.pow_add, show 52 - k.log2 + k.log2 = 52 from by omega]
    have e3 : ((k * 2 ^ 52 : Nat) : Int) + ((2 ^ 52 : Nat) : Int) = (((k + 1) * 2 ^ 52 : Nat) : Int) := by
      rw [Nat.add_mul, Nat.one_mul, Int.natCast_add]
    rw [e3, Int.natAbs_natCast]
    have hpos : (k + 1) * 2 ^ 52 ≠ 0 := Nat.mul_ne_zero (by omega) (by decide)
    rw [if_neg (by omega)]
    have hneg : decide ((((k + 1) * 2 ^ 52 : Nat) : Int) < 0) = false := decide_eq_false (by omega)
    rw [hneg]
    have := nearest_scale false (k + 1) 52 (-1) (by omega) (log2_small (by omega)) (by omega)
    rw [← this]
    rfl

theorem floatOfInt_nat (n : Nat) : floatOfInt .f64 (n : Int) = double.nearest false n 0 := by
  show Format.write double (.number (decide ((n : Int) < 0)) (n : Int).natAbs 0) = _
  rw [Int.natAbs_natCast, decide_eq_false (by omega)]
  rfl

theorem hs_div (n : Nat) (h0 : n ≠ 0) (h : n ≤ 65536) : double.div (hs n) (floatOfInt .f64 (n : Int)) = some half := by
  have hl : n.log2 ≤ 52 := log2_small h
  unfold Format.div hs
  rw [floatOfInt_nat, read_nearest n (-1) h0 hl (by omega) (by omega), read_nearest n 0 h0 hl (by omega) (by omega)]
  have hM : n * 2 ^ (52 - n.log2) ≠ 0 := Nat.mul_ne_zero h0 (Nat.ne_of_gt (Nat.two_pow_pos _))
  generalize n * 2 ^ (52 - n.log2) = M at *
  simp only [Datum.quotient, if_neg hM, Option.map_some, Format.write, Bool.xor_false]
  have e1 : double.fractionBits + 2 + M.log2 - M.log2 = 54 := by
    have : double.fractionBits = 52 := rfl
    omega
  rw [e1, Nat.shiftLeft_eq, Nat.mul_mod_right, Nat.mul_div_cancel_left _ (Nat.pos_of_ne_zero hM)]
  have e2 : (-1 + (n.log2 : Int) - 52 - (0 + (n.log2 : Int) - 52) - (54 : Nat) - 1) = -56 := by omega
  rw [e2]
  decide +kernel

theorem one_mul : double.mul one one = some one := by decide +kernel
theorem one_div : double.div one two = some half := by decide +kernel
theorem foi_one : floatOfInt .f64 1 = one := by decide +kernel
theorem foi_two : floatOfInt .f64 2 = two := by decide +kernel
theorem half_div : double.div half half = some one := by decide +kernel

/-! order -/
theorem order_swap (x y : Nat) : double.order y x = (double.order x y).map Ordering.swap := by
  unfold Format.order
  cases double.read x with
  | nan _ _ => cases double.read y <;> rfl
  | infinity s =>
    cases double.read y with
    | nan _ _ => rfl
    | infinity t => cases s <;> cases t <;> rfl
    | number t n j => cases s <;> rfl
  | number s m i =>
    cases double.read y with
    | nan _ _ => rfl
    | infinity t => cases t <;> rfl
    | number t n j =>
      simp only [Datum.order, Option.map_some, Option.some.injEq]
      rw [Int.min_comm j i]
      rw [Std.OrientedCmp.eq_swap (cmp := (compare : Int → Int → Ordering))]

theorem order_self {x : Nat} (h : (double.read x).isNaN = false) : double.order x x = some .eq := by
  unfold Format.order
  cases hx : double.read x with
  | nan _ _ => rw [hx] at h; cases h
  | infinity s => cases s <;> rfl
  | number s m i => simp [Datum.order]

theorem order_nan_left {x : Nat} (h : (double.read x).isNaN = true) (y : Nat) : double.order x y = none := by
  unfold Format.order
  cases hx : double.read x with
  | nan _ _ => rfl
  | infinity s => rw [hx] at h; cases h
  | number s m i => rw [hx] at h; cases h

theorem order_nan_right {x : Nat} (h : (double.read x).isNaN = true) (y : Nat) : double.order y x = none := by
  rw [order_swap, order_nan_left h]; rfl

theorem div_nan {x : Nat} (h : (double.read x).isNaN = true) (y : Nat) : double.div x y = none := by
  unfold Format.div
  cases hx : double.read x with
  | nan _ _ => rfl
  | infinity s => rw [hx] at h; cases h
  | number s m i => rw [hx] at h; cases h

theorem read_word_notNaN (s : Bool) (r : Nat) (h : r ≤ double.infRung) : (double.read (double.word s r)).isNaN = false := by
  have hi : double.infRung = 9218868437227405312 := by decide +kernel
  have hsw : double.signWeight = 9223372036854775808 := by decide +kernel
  have hmod : double.word s r % double.signWeight = r := by
    unfold Format.word
    rw [hi] at h
    rw [hsw]
    split <;> omega
  unfold Format.read
  simp only [hmod]
  split
  · rfl
  · split
    · rfl
    · rw [if_pos (by omega)]
      rfl

theorem nearest_notNaN (s : Bool) (m : Nat) (p : Int) : (double.read (double.nearest s m p)).isNaN = false := by
  unfold Format.nearest
  dsimp only
  split
  · exact read_word_notNaN s 0 (Nat.zero_le _)
  · exact read_word_notNaN s _ (Nat.min_le_right _ _)

theorem mul_notNaN {x y r : Nat} (h : double.mul x y = some r) : (double.read r).isNaN = false := by
  unfold Format.mul at h
  cases hx : double.read x with
  | nan _ _ => rw [hx] at h; cases h
  | infinity s =>
    rw [hx] at h
    cases hy : double.read y with
    | nan _ _ => rw [hy] at h; cases h
    | infinity t =>
      rw [hy] at h
      cases h
      exact read_word_notNaN _ _ (Nat.le_refl _)
    | number t n j =>
      rw [hy] at h
      simp only [Datum.product] at h
      split at h
      · cases h
      · cases h
        exact read_word_notNaN _ _ (Nat.le_refl _)
  | number s m i =>
    rw [hx] at h
    cases hy : double.read y with
    | nan _ _ => rw [hy] at h; cases h
    | infinity t =>
      rw [hy] at h
      simp only [Datum.product] at h
      split at h
      · cases h
      · cases h
        exact read_word_notNaN _ _ (Nat.le_refl _)
    | number t n j =>
      rw [hy] at h
      cases h
      exact nearest_notNaN _ _ _

theorem mul_two_some {x : Nat} (h : (double.read x).isNaN = false) : ∃ r, double.mul x two = some r := by
  unfold Format.mul
  rw [read_two]
  cases hx : double.read x with
  | nan _ _ => rw [hx] at h; cases h
  | infinity s => simp [Datum.product]
  | number s m i => simp [Datum.product]

/-- the bits that the tape gives where an operation has no answer are a NaN's -/
theorem nan_bits (t : Nat) : (double.read ((t % 2) * 2 ^ 63 + 0x7ff0000000000000 + 1 + (t / 2) % (2 ^ 52 - 1))).isNaN = true := by
  have hi : double.infRung = 9218868437227405312 := by decide +kernel
  have hsw : double.signWeight = 9223372036854775808 := by decide +kernel
  have hb : double.binade = 4503599627370496 := rfl
  have h1 : t % 2 < 2 := Nat.mod_lt _ (by decide)
  have h2 : (t / 2) % (2 ^ 52 - 1) < 2 ^ 52 - 1 := Nat.mod_lt _ (by decide)
  generalize t % 2 = a at *
  generalize (t / 2) % (2 ^ 52 - 1) = c at *
  have e1 : (2 : Nat) ^ 52 - 1 = 4503599627370495 := by decide
  have e2 : (2 : Nat) ^ 63 = 9223372036854775808 := by decide
  have e3 : (0x7ff0000000000000 : Nat) = 9218868437227405312 := by decide
  rw [e1] at h2
  rw [e2, e3]
  have hmod : (a * 9223372036854775808 + 9218868437227405312 + 1 + c) % 9223372036854775808 = 9218868437227405312 + 1 + c := by omega
  unfold Format.read
  simp only [hsw, hi, hb, hmod]
  rw [if_neg (by omega), if_neg (by omega), if_neg (by omega)]
  rfl

end Go.Proofs.Qxb6617119a.Fl
