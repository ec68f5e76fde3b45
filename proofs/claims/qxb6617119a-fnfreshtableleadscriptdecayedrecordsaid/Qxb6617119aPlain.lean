/- The plain mathematics of the decayed record: no Go in sight. -/
set_option linter.unusedVariables false
namespace Go.Proofs.Qxb6617119a.Pl

/-! ### the record as 'lead' keeps it -/
def ld (s : Nat × Nat) (win : Bool) : Nat × Nat :=
  if s.1 + 1 = 32 then (16, (s.2 + win.toNat) / 2) else (s.1 + 1, s.2 + win.toNat)

def cntF (ids : Nat → Nat) : Nat → Nat → Nat
  | 0, _ => 0
  | j + 1, m => cntF ids j m + (if ids j = m then 1 else 0)

def stF (ids : Nat → Nat) (wins : Nat → Bool) : Nat → Nat → Nat × Nat
  | 0, _ => (0, 0)
  | j + 1, m => if ids j = m then ld (stF ids wins j m) (wins j) else stF ids wins j m

/-! ### the closed form -/
def Hf (k : Nat) : Nat := if k < 32 then 0 else 1 + (k - 32) / 16
def Gf (c : Nat) : Nat := if 32 < c then 1 + (c - 32 - 1) / 16 else 0
def Lf (k : Nat) : Nat := if k < 32 then k else 16 + (k - 32) % 16

def valF (ids : Nat → Nat) (wins : Nat → Bool) : Nat → Nat → Nat
  | 0, _ => 0
  | j + 1, m => valF ids wins j m + (if ids j = m ∧ wins j = true then 2 ^ Gf (cntF ids (j + 1) m) else 0)

theorem Gf_succ (k : Nat) : Gf (k + 1) = Hf k := by
  unfold Gf Hf
  by_cases h : k < 32
  · rw [if_neg (by omega), if_pos h]
  · rw [if_pos (by omega), if_neg h]
    congr 1

theorem Hf_step (k : Nat) : (Lf k + 1 = 32 ∧ Hf (k + 1) = Hf k + 1 ∧ Lf (k + 1) = 16) ∨ (Lf k + 1 ≠ 32 ∧ Hf (k + 1) = Hf k ∧ Lf (k + 1) = Lf k + 1) := by
  unfold Hf Lf
  by_cases h : k < 32
  · by_cases h2 : k + 1 < 32
    · right; rw [if_pos h, if_pos h, if_pos h2, if_pos h2]; omega
    · left; rw [if_pos h, if_pos h, if_neg h2, if_neg h2]; omega
  · rw [if_neg h, if_neg h, if_neg (by omega), if_neg (by omega)]
    by_cases h3 : (k - 32) % 16 = 15
    · left; omega
    · right; omega

theorem Hf_mono {a b : Nat} (h : a ≤ b) : Hf a ≤ Hf b := by
  unfold Hf
  by_cases h1 : a < 32
  · rw [if_pos h1]; exact Nat.zero_le _
  · rw [if_neg h1, if_neg (by omega)]
    have := Nat.div_le_div_right (c := 16) (show a - 32 ≤ b - 32 by omega)
    omega

theorem Hf_le (k : Nat) : Hf k ≤ k := by
  unfold Hf
  split
  · omega
  · have := Nat.div_le_self (k - 32) 16; omega

theorem cntF_le (ids : Nat → Nat) (j m : Nat) : cntF ids j m ≤ j := by
  induction j with
  | zero => exact Nat.le_refl _
  | succ j ih => simp only [cntF]; split <;> omega

theorem cntF_mono (ids : Nat → Nat) (m : Nat) {i j : Nat} (h : i ≤ j) : cntF ids i m ≤ cntF ids j m := by
  induction j with
  | zero => have : i = 0 := by omega
            subst this; exact Nat.le_refl _
  | succ j ih =>
    by_cases e : i = j + 1
    · subst e; exact Nat.le_refl _
    · have := ih (by omega)
      simp only [cntF]
      omega

theorem cntF_hit (ids : Nat → Nat) (j : Nat) : cntF ids (j + 1) (ids j) = cntF ids j (ids j) + 1 := by simp [cntF]
theorem cntF_miss (ids : Nat → Nat) (j m : Nat) (h : ids j ≠ m) : cntF ids (j + 1) m = cntF ids j m := by simp [cntF, h]
theorem valF_win (ids : Nat → Nat) (wins : Nat → Bool) (j : Nat) (h : wins j = true) : valF ids wins (j + 1) (ids j) = valF ids wins j (ids j) + 2 ^ Gf (cntF ids (j + 1) (ids j)) := by simp [valF, h]
theorem valF_lose (ids : Nat → Nat) (wins : Nat → Bool) (j m : Nat) (h : wins j = false) : valF ids wins (j + 1) m = valF ids wins j m := by simp [valF, h]
theorem valF_miss (ids : Nat → Nat) (wins : Nat → Bool) (j m : Nat) (h : ids j ≠ m) : valF ids wins (j + 1) m = valF ids wins j m := by simp [valF, h]

theorem Lf_lt (k : Nat) : Lf k ≤ 31 := by unfold Lf; split <;> omega

/-- THE LAW: the record that 'lead' keeps is the closed form. -/
theorem law (ids : Nat → Nat) (wins : Nat → Bool) (m : Nat) : ∀ j,
    (stF ids wins j m).1 = Lf (cntF ids j m) ∧ (stF ids wins j m).2 = valF ids wins j m / 2 ^ Hf (cntF ids j m) ∧ (stF ids wins j m).2 ≤ (stF ids wins j m).1 := by
  intro j
  induction j with
  | zero => exact ⟨rfl, by simp [stF, valF], Nat.le_refl _⟩
  | succ j ih =>
    obtain ⟨i1, i2, i3⟩ := ih
    by_cases hm : ids j = m
    · subst hm
      have hst : stF ids wins (j + 1) (ids j) = ld (stF ids wins j (ids j)) (wins j) := by simp [stF]
      rw [hst, cntF_hit]
      generalize hs : stF ids wins j (ids j) = s at *
      obtain ⟨l, v⟩ := s
      simp only at i1 i2 i3
      have hV : (v + (wins j).toNat) = valF ids wins (j + 1) (ids j) / 2 ^ Hf (cntF ids j (ids j)) := by
        cases hw : wins j with
        | false => rw [valF_lose _ _ _ _ hw]; simpa using i2
        | true =>
          rw [valF_win _ _ _ hw, cntF_hit, Gf_succ, Nat.add_div_right _ (Nat.two_pow_pos _), i2]
          rfl
      have ht : (wins j).toNat ≤ 1 := Bool.toNat_le _
      rcases Hf_step (cntF ids j (ids j)) with ⟨a1, a2, a3⟩ | ⟨a1, a2, a3⟩
      · have hl : l + 1 = 32 := by rw [i1]; exact a1
        simp only [ld, if_pos hl]
        refine ⟨a3.symm, ?_, ?_⟩
        · rw [hV, a2, Nat.pow_succ, Nat.div_div_eq_div_mul]
        · omega
      · have hl : ¬ l + 1 = 32 := by rw [i1]; exact a1
        simp only [ld, if_neg hl]
        refine ⟨by rw [a3, i1], ?_, by omega⟩
        rw [hV, a2]
    · have hst : stF ids wins (j + 1) m = stF ids wins j m := by simp [stF, hm]
      rw [hst, cntF_miss _ _ _ hm, valF_miss _ _ _ _ hm]
      exact ⟨i1, i2, i3⟩

theorem st_bd (ids : Nat → Nat) (wins : Nat → Bool) (j m : Nat) : (stF ids wins j m).1 ≤ 31 ∧ (stF ids wins j m).2 ≤ 31 := by
  obtain ⟨h1, _, h3⟩ := law ids wins m j
  have := Lf_lt (cntF ids j m)
  omega

/-- No member's sum outgrows her bits. -/
theorem val_lt (ids : Nat → Nat) (wins : Nat → Bool) (j N m : Nat) (h : j ≤ N) : valF ids wins j m < 2 ^ (Hf (cntF ids N m) + 24) := by
  obtain ⟨h1, h2, h3⟩ := law ids wins m j
  have hl := Lf_lt (cntF ids j m)
  have hH := Hf_mono (cntF_mono ids m h)
  have h4 : valF ids wins j m / 2 ^ Hf (cntF ids j m) < 32 := by omega
  have h5 := (Nat.div_lt_iff_lt_mul (Nat.two_pow_pos _)).1 h4
  calc valF ids wins j m < 32 * 2 ^ Hf (cntF ids j m) := h5
    _ = 2 ^ (Hf (cntF ids j m) + 5) := by rw [Nat.pow_add, Nat.mul_comm]
    _ ≤ 2 ^ (Hf (cntF ids N m) + 24) := Nat.pow_le_pow_right (by decide) (by omega)

/-! ### the places -/
def hsF (ids : Nat → Nat) (N m : Nat) : Nat := Hf (cntF ids N m)
def offF (ids : Nat → Nat) (N : Nat) : Nat → Nat
  | 0 => 0
  | m + 1 => offF ids N m + hsF ids N m + 24

theorem hsF_le (ids : Nat → Nat) (N m : Nat) (h : N ≤ 65536) : hsF ids N m ≤ 65536 := Nat.le_trans (Hf_le _) (Nat.le_trans (cntF_le ids N m) h)

theorem offF_le (ids : Nat → Nat) (N m : Nat) (h : N ≤ 65536) : offF ids N m ≤ m * 65560 := by
  induction m with
  | zero => exact Nat.le_refl _
  | succ m ih =>
    have := hsF_le ids N m h
    simp only [offF]
    omega

theorem offF_mono (ids : Nat → Nat) (N : Nat) {a b : Nat} (h : a ≤ b) : offF ids N a ≤ offF ids N b := by
  induction b with
  | zero => have : a = 0 := by omega
            subst this; exact Nat.le_refl _
  | succ b ih =>
    by_cases e : a = b + 1
    · subst e; exact Nat.le_refl _
    · have := ih (by omega)
      simp only [offF]
      omega

/-! ### binary numbers -/
def seg (B : Nat → Nat) (o : Nat) : Nat → Nat
  | 0 => 0
  | L + 1 => seg B o L + B (o + L) * 2 ^ L

theorem seg_congr {B B' : Nat → Nat} {o L : Nat} (h : ∀ q, o ≤ q → q < o + L → B q = B' q) : seg B o L = seg B' o L := by
  induction L with
  | zero => rfl
  | succ L ih =>
    simp only [seg]
    rw [ih (fun q h1 h2 => h q h1 (by omega)), h (o + L) (by omega) (by omega)]

theorem seg_lt {B : Nat → Nat} (hB : ∀ p, B p ≤ 1) (o L : Nat) : seg B o L < 2 ^ L := by
  induction L with
  | zero => exact Nat.one_pos
  | succ L ih =>
    simp only [seg]
    have h1 := hB (o + L)
    have h2 : B (o + L) * 2 ^ L ≤ 1 * 2 ^ L := Nat.mul_le_mul_right _ h1
    rw [Nat.pow_succ]
    omega

theorem seg_split (B : Nat → Nat) (o h L : Nat) : seg B o (h + L) = seg B o h + 2 ^ h * seg B (o + h) L := by
  induction L with
  | zero => simp [seg]
  | succ L ih =>
    rw [show h + (L + 1) = (h + L) + 1 from by omega]
    simp only [seg]
    rw [ih, Nat.mul_add, show o + (h + L) = o + h + L from by omega, Nat.pow_add, Nat.add_assoc]
    congr 2
    rw [Nat.mul_left_comm]

theorem seg_high {B : Nat → Nat} (hB : ∀ p, B p ≤ 1) (o h L : Nat) : seg B o (h + L) / 2 ^ h = seg B (o + h) L := by
  rw [seg_split, Nat.add_mul_div_left _ _ (Nat.two_pow_pos _), Nat.div_eq_of_lt (seg_lt hB o h), Nat.zero_add]

def set (B : Nat → Nat) (p v : Nat) : Nat → Nat := fun q => if q = p then v else B q

theorem seg_set_out {B : Nat → Nat} {p v o L : Nat} (h : p < o ∨ o + L ≤ p) : seg (set B p v) o L = seg B o L :=
  seg_congr fun q h1 h2 => by unfold set; rw [if_neg (by omega)]

theorem seg_set_in (B : Nat → Nat) (o x v L : Nat) (h : x < L) : seg (set B (o + x) v) o L + B (o + x) * 2 ^ x = seg B o L + v * 2 ^ x := by
  induction L with
  | zero => omega
  | succ L ih =>
    simp only [seg]
    by_cases e : x = L
    · subst e
      rw [seg_set_out (Or.inr (Nat.le_refl _))]
      have : set B (o + x) v (o + x) = v := by simp [set]
      rw [this]
      omega
    · have hi := ih (by omega)
      have : set B (o + x) v (o + L) = B (o + L) := by unfold set; rw [if_neg (by omega)]
      rw [this]
      omega

theorem set_le {B : Nat → Nat} (hB : ∀ p, B p ≤ 1) (p v : Nat) (hv : v ≤ 1) : ∀ q, set B p v q ≤ 1 := by
  intro q
  unfold set
  split
  · exact hv
  · exact hB q

/-- The bits after j calls. -/
structure BitsOk (ids : Nat → Nat) (wins : Nat → Bool) (N n j : Nat) (B : Nat → Nat) : Prop where
  le : ∀ p, B p ≤ 1
  val : ∀ m, m < n → seg B (offF ids N m) (hsF ids N m + 24) = valF ids wins j m

theorem seg_zero (o L : Nat) : seg (fun _ => 0) o L = 0 := by
  induction L with
  | zero => rfl
  | succ L ih => simp [seg, ih]

theorem BitsOk.start (ids : Nat → Nat) (wins : Nat → Bool) (N n : Nat) : BitsOk ids wins N n 0 (fun _ => 0) :=
  ⟨fun _ => Nat.zero_le _, fun m _ => seg_zero _ _⟩

theorem BitsOk.lose {ids : Nat → Nat} {wins : Nat → Bool} {N n j : Nat} {B : Nat → Nat} (h : BitsOk ids wins N n j B) (hw : wins j = false) : BitsOk ids wins N n (j + 1) B :=
  ⟨h.le, fun m hm => by rw [valF_lose _ _ _ _ hw]; exact h.val m hm⟩

/-- The carry under way. -/
structure Inc (o L T : Nat) (B0 : Nat → Nat) (p : Nat) (B : Nat → Nat) : Prop where
  le : ∀ q, B q ≤ 1
  out : ∀ q, q < o ∨ o + L ≤ q → B q = B0 q
  lo : o ≤ p
  hi : p ≤ o + L
  val : seg B o L + 2 ^ (p - o) = T

theorem Inc.start {o L g : Nat} {B0 : Nat → Nat} (h : ∀ q, B0 q ≤ 1) (hg : g ≤ L) : Inc o L (seg B0 o L + 2 ^ g) B0 (o + g) B0 :=
  ⟨h, fun _ _ => rfl, by omega, by omega, by rw [show o + g - o = g from by omega]⟩

theorem Inc.step {o L T : Nat} {B0 : Nat → Nat} {p : Nat} {B : Nat → Nat} (h : Inc o L T B0 p B) (hp : p < o + L) (h1 : B p = 1) : Inc o L T B0 (p + 1) (set B p 0) := by
  have hlo := h.lo
  refine ⟨set_le h.le p 0 (by omega), fun q hq => ?_, by omega, by omega, ?_⟩
  · rw [← h.out q hq]
    unfold set
    rw [if_neg (by omega)]
  · have e : p = o + (p - o) := by omega
    have hs := seg_set_in B o (p - o) 0 L (by omega)
    rw [← e, h1] at hs
    have hv := h.val
    rw [show p + 1 - o = (p - o) + 1 from by omega, Nat.pow_succ]
    omega

theorem Inc.done {o L T : Nat} {B0 : Nat → Nat} {p : Nat} {B : Nat → Nat} (h : Inc o L T B0 p B) (hp : p < o + L) (h0 : B p = 0) :
    (∀ q, set B p 1 q ≤ 1) ∧ (∀ q, q < o ∨ o + L ≤ q → set B p 1 q = B0 q) ∧ seg (set B p 1) o L = T := by
  have hlo := h.lo
  refine ⟨set_le h.le p 1 (Nat.le_refl _), fun q hq => ?_, ?_⟩
  · rw [← h.out q hq]
    unfold set
    rw [if_neg (by omega)]
  · have e : p = o + (p - o) := by omega
    have hs := seg_set_in B o (p - o) 1 L (by omega)
    rw [← e, h0] at hs
    have hv := h.val
    omega

theorem Inc.in {o L T : Nat} {B0 : Nat → Nat} {p : Nat} {B : Nat → Nat} (h : Inc o L T B0 p B) (hT : T < 2 ^ L) : p < o + L := by
  have hhi := h.hi
  by_cases e : p = o + L
  · have hv := h.val
    rw [e, show o + L - o = L from by omega] at hv
    omega
  · omega

theorem BitsOk.win {ids : Nat → Nat} {wins : Nat → Bool} {N n j : Nat} {B B' : Nat → Nat} (h : BitsOk ids wins N n j B) (hw : wins j = true) (hid : ids j < n)
    (hle : ∀ q, B' q ≤ 1) (hout : ∀ q, q < offF ids N (ids j) ∨ offF ids N (ids j) + (hsF ids N (ids j) + 24) ≤ q → B' q = B q)
    (hval : seg B' (offF ids N (ids j)) (hsF ids N (ids j) + 24) = valF ids wins j (ids j) + 2 ^ Gf (cntF ids (j + 1) (ids j))) : BitsOk ids wins N n (j + 1) B' := by
  refine ⟨hle, fun m hm => ?_⟩
  by_cases e : m = ids j
  · subst e
    rw [hval, valF_win _ _ _ hw]
  · rw [valF_miss _ _ _ _ (Ne.symm e), ← h.val m hm]
    refine seg_congr fun q h1 h2 => hout q ?_
    have e1 : offF ids N (m + 1) = offF ids N m + hsF ids N m + 24 := rfl
    have e2 : offF ids N (ids j + 1) = offF ids N (ids j) + hsF ids N (ids j) + 24 := rfl
    rcases Nat.lt_or_gt_of_ne e with hlt | hgt
    · left
      have := offF_mono ids N (show m + 1 ≤ ids j by omega)
      omega
    · right
      have := offF_mono ids N (show ids j + 1 ≤ m by omega)
      omega

theorem BitsOk.won {ids : Nat → Nat} {wins : Nat → Bool} {N n : Nat} {B : Nat → Nat} (h : BitsOk ids wins N n N B) (m : Nat) (hm : m < n) :
    seg B (offF ids N m + hsF ids N m) 24 = (stF ids wins N m).2 := by
  rw [(law ids wins m N).2.1, ← h.val m hm]
  exact (seg_high h.le _ _ _).symm

end Go.Proofs.Qxb6617119a.Pl
