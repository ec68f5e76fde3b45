import Derived.Test.Qxb6617119aLead
import Derived.Test.Qxb6617119aRow
namespace Go.Proofs.Qxb6617119a
open Go.RowKit
set_option linter.unusedVariables false

/-- A row of the call's own. -/
structure Row where
  b : Nat
  t : TypeId
  n : Nat
  f : Nat → Value

/-- The rows L lie in wr, in blocks that w had not, each in its own; nothing that w had has turned. -/
structure Rws (w wr : World) (L : List Row) : Prop where
  below : Below w.heap.size w wr
  row : ∀ (j : Nat) (r : Row), L[j]? = some r → w.heap.size ≤ r.b ∧ wr.rowIs r.b r.t r.n r.f
  ne : ∀ (i j : Nat) (r s : Row), L[i]? = some r → L[j]? = some s → i ≠ j → r.b ≠ s.b

theorem Rws.start (w : World) : Rws w w [] := ⟨Below.refl _ _, fun j r h => by simp at h, fun i j r s h => by simp at h⟩

theorem Rws.drew {w wr : World} {L : List Row} (h : Rws w wr L) : Rws w wr.drew L := ⟨h.below.drew, h.row, h.ne⟩
theorem Rws.drewN {w wr : World} {L : List Row} (h : Rws w wr L) (q : Nat) : Rws w (wr.drewN q) L := ⟨below_drewN h.below q, h.row, h.ne⟩

theorem Rws.alloc {w wr : World} {L : List Row} (h : Rws w wr L) (z : Value) (n : Nat) (t : TypeId) : Rws w (wr.alloc (.cells (madeCells #[z] n) t)) (L ++ [⟨wr.heap.size, t, n, fun _ => z⟩]) := by
  have key : ∀ (j : Nat) (r : Row), (L ++ [(⟨wr.heap.size, t, n, fun _ => z⟩ : Row)])[j]? = some r → (j < L.length ∧ L[j]? = some r) ∨ (j = L.length ∧ r = ⟨wr.heap.size, t, n, fun _ => z⟩) := by
    intro j r hj
    by_cases hl : j < L.length
    · rw [List.getElem?_append_left hl] at hj
      exact .inl ⟨hl, hj⟩
    · rw [List.getElem?_append_right (by omega)] at hj
      by_cases h0 : j - L.length = 0
      · rw [h0] at hj
        simp at hj
        exact .inr ⟨by omega, hj.symm⟩
      · rw [List.getElem?_eq_none (by simp; omega)] at hj
        cases hj
  refine ⟨h.below.alloc h.below.size _, fun j r hj => ?_, fun i j r s hi hj hne => ?_⟩
  · rcases key j r hj with ⟨_, h1⟩ | ⟨_, rfl⟩
    · exact ⟨(h.row j r h1).1, (h.row j r h1).2.alloc _⟩
    · exact ⟨h.below.size, World.rowIs_made wr z n t⟩
  · rcases key i r hi with ⟨_, h1⟩ | ⟨e1, rfl⟩
    · rcases key j s hj with ⟨_, h2⟩ | ⟨e2, rfl⟩
      · exact h.ne i j r s h1 h2 hne
      · have := (h.row i r h1).2.lt
        exact fun e => by simp only at e; omega
    · rcases key j s hj with ⟨_, h2⟩ | ⟨e2, rfl⟩
      · have := (h.row j s h2).2.lt
        exact fun e => by simp only at e; omega
      · omega

theorem Rws.set {w wr : World} {L : List Row} (h : Rws w wr L) (i : Nat) (r : Row) (hi : L[i]? = some r) (k : Nat) (v : Value) (f' : Nat → Value) (hf : ∀ m, m < r.n → (if m = k then v else r.f m) = f' m) :
    Rws w (wr.setCell ⟨r.b, k, none⟩ v) (L.set i { r with f := f' }) := by
  have hlt : i < L.length := by
    rcases Nat.lt_or_ge i L.length with h1 | h1
    · exact h1
    · rw [List.getElem?_eq_none h1] at hi; cases hi
  have key : ∀ (j : Nat) (s : Row), (L.set i { r with f := f' })[j]? = some s → (j = i ∧ s = { r with f := f' }) ∨ (j ≠ i ∧ L[j]? = some s) := by
    intro j s hj
    by_cases e : j = i
    · subst e
      rw [List.getElem?_set_self hlt] at hj
      exact .inl ⟨rfl, by simpa using hj.symm⟩
    · rw [List.getElem?_set_ne (Ne.symm e)] at hj
      exact .inr ⟨e, hj⟩
  obtain ⟨hb, hr⟩ := h.row i r hi
  refine ⟨h.below.setCell (p := ⟨r.b, k, none⟩) hb v, fun j s hj => ?_, fun a c x y ha hc hne => ?_⟩
  · rcases key j s hj with ⟨_, rfl⟩ | ⟨e, hs⟩
    · exact ⟨hb, (hr.set k v).congr hf⟩
    · exact ⟨(h.row j s hs).1, (h.row j s hs).2.setOther (a := ⟨r.b, k, none⟩) (h.ne j i s r hs hi e) v⟩
  · rcases key a x ha with ⟨ea, rfl⟩ | ⟨ea, h1⟩
    · rcases key c y hc with ⟨ec, rfl⟩ | ⟨ec, h2⟩
      · omega
      · exact h.ne i c r y hi h2 (Ne.symm ec)
    · rcases key c y hc with ⟨ec, rfl⟩ | ⟨ec, h2⟩
      · exact h.ne a i x r h1 hi ea
      · exact h.ne a c x y h1 h2 hne

/-- a row of ints, of bytes -/
def RI (b n : Nat) (f : Nat → Nat) : Row := ⟨b, 3, n, col f⟩
def RB (b n : Nat) (f : Nat → Nat) : Row := ⟨b, 5, n, fun p => .int .u8 (f p : Nat)⟩

theorem Rws.int {w wr : World} {L : List Row} (h : Rws w wr L) (i b n : Nat) (f : Nat → Nat) (hi : L[i]? = some (RI b n f)) {k : Nat} (hk : k < n) : wr.cell? ⟨b, k, none⟩ = some (.int .i64 (f k : Nat)) := (h.row i _ hi).2.cell hk
theorem Rws.intz {w wr : World} {L : List Row} (h : Rws w wr L) (i b n : Nat) (f : Nat → Nat) (hi : L[i]? = some (RI b n f)) (k : Nat) : wr.frozen? ⟨b, k, none⟩ = false := (h.row i _ hi).2.frozen k
theorem Rws.byte {w wr : World} {L : List Row} (h : Rws w wr L) (i b n : Nat) (f : Nat → Nat) (hi : L[i]? = some (RB b n f)) {k : Nat} (hk : k < n) : wr.cell? ⟨b, k, none⟩ = some (.int .u8 (f k : Nat)) := (h.row i _ hi).2.cell hk
theorem Rws.bytez {w wr : World} {L : List Row} (h : Rws w wr L) (i b n : Nat) (f : Nat → Nat) (hi : L[i]? = some (RB b n f)) (k : Nat) : wr.frozen? ⟨b, k, none⟩ = false := (h.row i _ hi).2.frozen k

theorem Rws.allocI {w wr : World} {L : List Row} (h : Rws w wr L) (n : Nat) : Rws w (wr.alloc (.cells (madeCells #[.int .i64 0] n) 3)) (L ++ [RI wr.heap.size n (fun _ => 0)]) := h.alloc (.int .i64 0) n 3
theorem Rws.allocB {w wr : World} {L : List Row} (h : Rws w wr L) (n : Nat) : Rws w (wr.alloc (.cells (madeCells #[.int .u8 0] n) 5)) (L ++ [RB wr.heap.size n (fun _ => 0)]) := h.alloc (.int .u8 0) n 5

theorem Rws.setI {w wr : World} {L : List Row} (h : Rws w wr L) (i b n : Nat) (f : Nat → Nat) (hi : L[i]? = some (RI b n f)) (k : Nat) (x : Int) (f' : Nat → Nat) (hx : x = (f' k : Nat)) (hf : ∀ m, m < n → m ≠ k → f m = f' m) :
    Rws w (wr.setCell ⟨b, k, none⟩ (.int .i64 x)) (L.set i (RI b n f')) :=
  h.set i (RI b n f) hi k _ (col f') fun m hm => by
    by_cases e : m = k
    · rw [if_pos e, hx, e]; rfl
    · rw [if_neg e]
      show Value.int .i64 (f m : Nat) = .int .i64 (f' m : Nat)
      rw [hf m hm e]

theorem Rws.setB {w wr : World} {L : List Row} (h : Rws w wr L) (i b n : Nat) (f : Nat → Nat) (hi : L[i]? = some (RB b n f)) (k : Nat) (x : Int) (f' : Nat → Nat) (hx : x = (f' k : Nat)) (hf : ∀ m, m < n → m ≠ k → f m = f' m) :
    Rws w (wr.setCell ⟨b, k, none⟩ (.int .u8 x)) (L.set i (RB b n f')) :=
  h.set i (RB b n f) hi k _ (fun p => .int .u8 (f' p : Nat)) fun m hm => by
    by_cases e : m = k
    · rw [if_pos e, hx, e]
    · rw [if_neg e]
      show Value.int .u8 (f m : Nat) = .int .u8 (f' m : Nat)
      rw [hf m hm e]

theorem Rws.congrL {w wr : World} {L L' : List Row} (h : Rws w wr L) (e : L = L') : Rws w wr L' := e ▸ h

def upto (k : Nat) (f : Nat → Nat) : Nat → Nat := fun m => if m < k then f m else 0
theorem upto_at (k : Nat) (f : Nat → Nat) : upto (k + 1) f k = f k := by simp [upto]
theorem upto_ne (k : Nat) (f : Nat → Nat) (m : Nat) (h : m ≠ k) : upto k f m = upto (k + 1) f m := by
  unfold upto
  by_cases e : m < k
  · rw [if_pos e, if_pos (by omega)]
  · rw [if_neg e, if_neg (by omega)]
theorem upto_zero (f : Nat → Nat) : upto 0 f = fun _ => 0 := by funext m; simp [upto]
theorem upto_one (f : Nat → Nat) (h : f 0 = 0) : upto 1 f = fun _ => 0 := by
  funext m
  unfold upto
  by_cases e : m < 1
  · rw [if_pos e, show m = 0 from by omega, h]
  · rw [if_neg e]

theorem upto_lt {k m : Nat} (f : Nat → Nat) (h : m < k) : upto k f m = f m := by simp [upto, h]

theorem Rws.congrI {w wr : World} {L : List Row} (h : Rws w wr L) (i b n : Nat) (f : Nat → Nat) (hi : L[i]? = some (RI b n f)) (f' : Nat → Nat) (hf : ∀ m, m < n → f m = f' m) : Rws w wr (L.set i (RI b n f')) := by
  have hlt : i < L.length := by
    rcases Nat.lt_or_ge i L.length with h1 | h1
    · exact h1
    · rw [List.getElem?_eq_none h1] at hi; cases hi
  have key : ∀ (j : Nat) (s : Row), (L.set i (RI b n f'))[j]? = some s → (j = i ∧ s = RI b n f') ∨ (j ≠ i ∧ L[j]? = some s) := by
    intro j s hj
    by_cases e : j = i
    · subst e
      rw [List.getElem?_set_self hlt] at hj
      exact .inl ⟨rfl, by simpa using hj.symm⟩
    · rw [List.getElem?_set_ne (Ne.symm e)] at hj
      exact .inr ⟨e, hj⟩
  obtain ⟨hb, hr⟩ := h.row i _ hi
  refine ⟨h.below, fun j s hj => ?_, fun a c x y ha hc hne => ?_⟩
  · rcases key j s hj with ⟨_, rfl⟩ | ⟨e, hs⟩
    · exact ⟨hb, hr.congr fun m hm => by show Value.int .i64 (f m : Nat) = .int .i64 (f' m : Nat); rw [hf m hm]⟩
    · exact h.row j s hs
  · rcases key a x ha with ⟨ea, rfl⟩ | ⟨ea, h1⟩
    · rcases key c y hc with ⟨ec, rfl⟩ | ⟨ec, h2⟩
      · omega
      · exact h.ne i c (RI b n f) y hi h2 (Ne.symm ec)
    · rcases key c y hc with ⟨ec, rfl⟩ | ⟨ec, h2⟩
      · exact h.ne a i x (RI b n f) h1 hi ea
      · exact h.ne a c x y h1 h2 hne

/-! ### what the rounds do -/
theorem rec2_step {w wr : World} {n k B0 b1 b2 : Nat} {cn hs off : Nat → Nat} (h : Rws w wr [RI B0 n cn, RI b1 n (upto k hs), RI b2 (n + 1) (upto (k + 1) off)]) (x y : Int) (hx : x = (hs k : Nat)) (hy : y = (off (k + 1) : Nat)) :
    Rws w ((wr.setCell ⟨b1, k, none⟩ (.int .i64 x)).setCell ⟨b2, k + 1, none⟩ (.int .i64 y)) [RI B0 n cn, RI b1 n (upto (k + 1) hs), RI b2 (n + 1) (upto (k + 1 + 1) off)] :=
  (h.setI 1 b1 n _ rfl k x (upto (k + 1) hs) (by rw [upto_at]; exact hx) (fun m _ hm => upto_ne k _ m hm)).setI 2 b2 (n + 1) _ rfl (k + 1) y (upto (k + 1 + 1) off) (by rw [upto_at]; exact hy) (fun m _ hm => upto_ne (k + 1) _ m hm)

theorem rec2_done {w wr : World} {n B0 b1 b2 : Nat} {cn hs off : Nat → Nat} (h : Rws w wr [RI B0 n cn, RI b1 n (upto n hs), RI b2 (n + 1) (upto (n + 1) off)]) : Rws w wr [RI B0 n cn, RI b1 n hs, RI b2 (n + 1) off] :=
  (h.congrI 1 b1 n _ rfl hs (fun m hm => upto_lt _ hm)).congrI 2 b2 (n + 1) _ rfl off (fun m hm => upto_lt _ hm)

theorem int_i {k : IntKind} {a b : Int} (h : a = b) : Value.int k a = .int k b := by rw [h]

theorem inc_facts {ids : Nat → Nat} {wins : Nat → Bool} {N n j : Nat} {B : Nat → Nat} (hB : Pl.BitsOk ids wins N n j B) (hlt : j < N) (hid : ids j < n) (hw : wins j = true) :
    Pl.Inc (Pl.offF ids N (ids j)) (Pl.hsF ids N (ids j) + 24) (Pl.seg B (Pl.offF ids N (ids j)) (Pl.hsF ids N (ids j) + 24) + 2 ^ Pl.Gf (Pl.cntF ids j (ids j) + 1)) B (Pl.offF ids N (ids j) + Pl.Gf (Pl.cntF ids j (ids j) + 1)) B ∧
    Pl.seg B (Pl.offF ids N (ids j)) (Pl.hsF ids N (ids j) + 24) + 2 ^ Pl.Gf (Pl.cntF ids j (ids j) + 1) < 2 ^ (Pl.hsF ids N (ids j) + 24) ∧
    (∀ B', (∀ q, B' q ≤ 1) → (∀ q, q < Pl.offF ids N (ids j) ∨ Pl.offF ids N (ids j) + (Pl.hsF ids N (ids j) + 24) ≤ q → B' q = B q) →
      Pl.seg B' (Pl.offF ids N (ids j)) (Pl.hsF ids N (ids j) + 24) = Pl.seg B (Pl.offF ids N (ids j)) (Pl.hsF ids N (ids j) + 24) + 2 ^ Pl.Gf (Pl.cntF ids j (ids j) + 1) → Pl.BitsOk ids wins N n (j + 1) B') := by
  have hg : Pl.Gf (Pl.cntF ids j (ids j) + 1) ≤ Pl.hsF ids N (ids j) + 24 := by
    rw [Pl.Gf_succ]
    exact Nat.le_trans (Pl.Hf_mono (Pl.cntF_mono ids (ids j) (Nat.le_of_lt hlt))) (Nat.le_add_right _ _)
  refine ⟨Pl.Inc.start hB.le hg, ?_, fun B' h1 h2 h3 => ?_⟩
  · have hv := Pl.val_lt ids wins (j + 1) N (ids j) hlt
    rw [Pl.valF_win _ _ _ hw, Pl.cntF_hit] at hv
    rw [hB.val (ids j) hid]
    exact hv
  · refine hB.win hw hid h1 h2 ?_
    rw [h3, hB.val (ids j) hid, Pl.cntF_hit]

/-- one winning call's carry, from its start to its end -/
structure IncK (ids : Nat → Nat) (wins : Nat → Bool) (N n j : Nat) (B : Nat → Nat) (T : Nat) : Prop where
  start : Pl.Inc (Pl.offF ids N (ids j)) (Pl.hsF ids N (ids j) + 24) T B (Pl.offF ids N (ids j) + Pl.Gf (Pl.cntF ids j (ids j) + 1)) B
  ends : ∀ q B', Pl.Inc (Pl.offF ids N (ids j)) (Pl.hsF ids N (ids j) + 24) T B q B' → q < Pl.offF ids N (ids j + 1)
  step : ∀ q B', Pl.Inc (Pl.offF ids N (ids j)) (Pl.hsF ids N (ids j) + 24) T B q B' → B' q = 1 → Pl.Inc (Pl.offF ids N (ids j)) (Pl.hsF ids N (ids j) + 24) T B (q + 1) (Pl.set B' q 0)
  fin : ∀ q B', Pl.Inc (Pl.offF ids N (ids j)) (Pl.hsF ids N (ids j) + 24) T B q B' → B' q = 0 → Pl.BitsOk ids wins N n (j + 1) (Pl.set B' q 1)

theorem incK {ids : Nat → Nat} {wins : Nat → Bool} {N n j : Nat} {B : Nat → Nat} (hB : Pl.BitsOk ids wins N n j B) (hlt : j < N) (hid : ids j < n) (hw : wins j = true) : ∃ T, IncK ids wins N n j B T := by
  obtain ⟨i1, i2, i3⟩ := inc_facts hB hlt hid hw
  have hoe : Pl.offF ids N (ids j + 1) = Pl.offF ids N (ids j) + (Pl.hsF ids N (ids j) + 24) := by simp only [Pl.offF]; omega
  refine ⟨_, i1, fun q B' h => ?_, fun q B' h h1 => ?_, fun q B' h h0 => ?_⟩
  · rw [hoe]
    exact h.in i2
  · exact h.step (h.in i2) h1
  · obtain ⟨d1, d2, d3⟩ := h.done (h.in i2) h0
    exact i3 _ d1 d2 d3

theorem set_at (B : Nat → Nat) (q v : Nat) : Pl.set B q v q = v := by simp [Pl.set]
theorem set_ne (B : Nat → Nat) (q v m : Nat) (h : m ≠ q) : B m = Pl.set B q v m := by simp [Pl.set, h]

theorem seg_bd {B : Nat → Nat} (hB : ∀ p, B p ≤ 1) (o x : Nat) (hx : x ≤ 24) : Pl.seg B o x < 16777216 :=
  Nat.lt_of_lt_of_le (Pl.seg_lt hB o x) (Nat.le_trans (Nat.pow_le_pow_right (by decide) hx) (by decide))
/-- the law's two columns -/
def LnF (ids : Nat → Nat) (N m : Nat) : Nat := Pl.Lf (Pl.cntF ids N m)
def WnF (ids : Nat → Nat) (wins : Nat → Bool) (N m : Nat) : Nat := (Pl.stF ids wins N m).2

theorem v_step {B : Nat → Nat} {o h x s : Nat} (hB : ∀ p, B p ≤ 1) (hs : s = Pl.seg B (o + h) x) (hb : B (o + h + x) = 1) (hx : x < 24) :
    wrap64 ((s : Int) + wrap64 (2 ^ (o + h + x - o - h))) = ((Pl.seg B (o + h) (x + 1) : Nat) : Int) := by
  have h1 := seg_bd hB (o + h) (x + 1) (by omega)
  have e : Pl.seg B (o + h) (x + 1) = s + 2 ^ x := by simp only [Pl.seg]; rw [hb, Nat.one_mul, hs]
  rw [e] at h1 ⊢
  rw [show o + h + x - o - h = x from by omega]
  have e2 : ((2 : Int) ^ x) = ((2 ^ x : Nat) : Int) := by simp
  rw [e2]
  generalize 2 ^ x = y at h1 ⊢
  unfold wrap64
  omega
theorem v_miss {B : Nat → Nat} {o h x s : Nat} (hs : s = Pl.seg B (o + h) x) (hb : B (o + h + x) = 0) : s = Pl.seg B (o + h) (x + 1) := by
  simp only [Pl.seg]; rw [hb, Nat.zero_mul, hs]; rfl

theorem Try.info5 : (Try.prog.info? 5).map (fun i => (i.zero, i.size, i.bytes)) = some (some (.int .u8 0), 1, 1) := by kernel_rfl

end Go.Proofs.Qxb6617119a
