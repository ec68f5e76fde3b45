import Derived.Test.Qxb6617882aUnl
import Derived.Deep.Slices
namespace Go.Proofs.Qxb6617882a
open Go.RowKit
set_option linter.unusedVariables false

/-- What the walks are told of a []T of one-cell elements that came in: it has no element; or its cells hold V i. -/
def RowAt (w : World) (a : Option Addr) (n : Nat) (V : Nat → Value) : Prop :=
  n = 0 ∨ ∃ b o, a = some ⟨b, o, none⟩ ∧ b < w.heap.size ∧ ∀ i, i < n → w.cell? ⟨b, o + i, none⟩ = some (V i)

theorem RowAt.below {w w' : World} {a : Option Addr} {n : Nat} {V : Nat → Value} (h : RowAt w a n V) (hb : Below w.heap.size w w') : RowAt w' a n V := by
  rcases h with h | ⟨b, o, rfl, hlt, hc⟩
  · exact .inl h
  · exact .inr ⟨b, o, rfl, Nat.lt_of_lt_of_le hlt hb.size, fun i hi => (hb.cell (p := ⟨b, o + i, none⟩) hlt).trans (hc i hi)⟩

theorem add_plain (b off i : Nat) : (⟨b, off, none⟩ : Addr).add i = ⟨b, off + i, none⟩ := by
  unfold Addr.add
  by_cases h : i = 0
  · subst h; rfl
  · simp [h]

/-- A slice of one-cell elements, opened for the walk. -/
theorem row_open {H : Type} {enc : TypeId × Value → H} {P : Program} {W : World} {t e : TypeId} {a : Option Addr} {len cap : Nat} {d : DataW H} {ps : List MemPlace}
    (ht : P.underlying t = some (.slice e)) (hc : P.cellsOf e = 1) (h : DataW.Trod enc P W 0 (fun _ => true) true t (.slice a len cap) d ps) :
    (a = none → len = 0 ∧ cap = 0) ∧ len ≤ maxLen ∧ ∃ V : Nat → Value, RowAt W a len V ∧ ∀ i, i < len → ∃ n y, DataW.trod enc P W 0 (fun _ => true) true n e [V i] = some y := by
  obtain ⟨fuel, hf⟩ := h
  rcases Deep.open_slice1 ht hc hf with ⟨hcs, _⟩ | ⟨x, l, c, m, n, V, D, Pl, hcs, _, hl, hm, hmm, _, hcell⟩
  · simp [Value.cells] at hcs
    obtain ⟨rfl, rfl, rfl⟩ := hcs
    exact ⟨fun _ => ⟨rfl, rfl⟩, Nat.zero_le _, fun _ => .bool false, .inl rfl, fun i hi => absurd hi (Nat.not_lt_zero _)⟩
  · simp [Value.cells] at hcs
    obtain ⟨rfl, rfl, rfl⟩ := hcs
    simp only [if_true] at hmm
    subst hmm
    refine ⟨(fun h => by cases h), Nat.le_trans hl hm, V, ?_, fun i hi => ⟨n, _, (hcell i (by omega)).2⟩⟩
    by_cases h0 : len = 0
    · exact .inl h0
    · obtain ⟨b, off, spot⟩ := x
      have h1 := (hcell 0 (by omega)).1
      have hspot : spot = none := by simpa [Addr.add] using World.cell?_spot h1
      subst hspot
      exact .inr ⟨b, off, rfl, World.block_lt_of_cell? _ _ h1, fun i hi => by
        have h2 := (hcell i (by omega)).1
        rw [add_plain] at h2
        exact h2⟩

theorem RowAt.congr {w : World} {a : Option Addr} {n : Nat} {V V' : Nat → Value} (h : RowAt w a n V) (e : ∀ i, i < n → V i = V' i) : RowAt w a n V' := by
  rcases h with h | ⟨b, o, rfl, hb, hc⟩
  · exact .inl h
  · exact .inr ⟨b, o, rfl, hb, fun i hi => by rw [← e i hi]; exact hc i hi⟩

theorem ints_open {H : Type} {enc : TypeId × Value → H} {P : Program} {W : World} {t e : TypeId} {k : IntKind} {a : Option Addr} {len cap : Nat} {d : DataW H} {ps : List MemPlace}
    (ht : P.underlying t = some (.slice e)) (he : P.underlying e = some (.int k)) (hc : P.cellsOf e = 1) (h : DataW.Trod enc P W 0 (fun _ => true) true t (.slice a len cap) d ps) :
    (a = none → len = 0 ∧ cap = 0) ∧ len ≤ maxLen ∧ ∃ S : Nat → Int, RowAt W a len (fun i => .int k (S i)) := by
  obtain ⟨hn, hm, V, hV, hx⟩ := row_open ht hc h
  have key : ∀ i, i < len → V i = .int k (intOf (V i)) := fun i hi => by
    obtain ⟨n, y, hy⟩ := hx i hi
    obtain ⟨s, hs, _⟩ := DataW.trod_int he hy
    simp only [List.cons.injEq, and_true] at hs
    rw [hs]
    rfl
  exact ⟨hn, hm, fun i => intOf (V i), hV.congr key⟩


/-- rows that lie at B or above stay -/
def Kept (B : Nat) (w w' : World) : Prop := ∀ b t m f, B ≤ b → w.rowIs b t m f → w'.rowIs b t m f
theorem Kept.refl (B : Nat) (w : World) : Kept B w w := fun _ _ _ _ _ h => h
theorem Kept.set {B : Nat} {w w' : World} (h : Kept B w w') {c off : Nat} (hc : c < B) {v : Value} : Kept B w (w'.setCell ⟨c, off, none⟩ v) :=
  fun b t m f hb hr => (h b t m f hb hr).setOther (a := ⟨c, off, none⟩) (by show b ≠ c; omega) _
theorem Kept.drewN {B : Nat} {w w' : World} (h : Kept B w w') (q : Nat) : Kept B w (w'.drewN q) := fun b t m f hb hr => h b t m f hb hr

theorem unlink_calls2 {w wr : World} {n : Nat} {hd tl : Option Nat} {o nw : Nat → Option Nat} {ord : List Nat} {p k : Nat} (h : LS w wr n n hd tl o nw) (g : Good n hd tl o nw ord) (hp : ord[p]? = some k) :
    Calls Try.prog 8 #[.pointer (some ⟨w.heap.size, 0, none⟩), .pointer (some ⟨w.heap.size + 2 + k, 0, none⟩)] wr fun e w' => e = .returned (.tuple #[]) ∧ (Kept (w.heap.size + 2 + n) wr w' ∧ LS w w' n n (unH k hd o nw) (unT k tl o nw) (unO k o nw) (unN k o nw)) := by
  have hk := g.lt p k hp
  have ho := g.old p k hp
  have hn := g.new p k hp
  have c1 := h.co hk
  have c2 := h.cn hk
  have fz := fun i (hi : i < n) j => (h.plc i hi).frozen j
  have fr := fun j => h.room.frozen j
  have ha : ∀ a, o k = some a → a < n ∧ a ≠ k ∧ p ≠ 0 ∧ ord[p - 1]? = some a := fun a e => by
    by_cases h0 : p = 0
    · rw [if_pos h0] at ho; rw [ho] at e; cases e
    · rw [if_neg h0] at ho
      rw [ho] at e
      exact ⟨g.lt _ _ e, fun e2 => by subst e2; have := g.inj _ _ _ e hp; omega, h0, e⟩
  have hb : ∀ b, nw k = some b → b < n ∧ b ≠ k ∧ ord[p + 1]? = some b := fun b e => by
    rw [hn] at e
    exact ⟨g.lt _ _ e, fun e2 => by subst e2; have := g.inj _ _ _ e hp; omega, e⟩
  refine zzUnlink_calls _ _ wr (fun w' => (Kept (w.heap.size + 2 + n) wr w' ∧ LS w w' n n (unH k hd o nw) (unT k tl o nw) (unO k o nw) (unN k o nw))) ?_
  cases eo : o k with
  | none =>
    rw [eo] at c1
    cases en : nw k with
    | none =>
      rw [en] at c2
      refine (unlink_only w.heap.size (w.heap.size + 2 + k) wr (by omega) _ _ c1 c2 h.c2 h.c3 (fr 2) (fr 3)).mono ?_
      rintro e w' ⟨rfl, q, rfl⟩
      refine ⟨rfl, ?_⟩
      simp only [unH, unT, unO, unN, eo, en]
      exact ⟨((((Kept.refl _ _).set (by omega)).set (by omega)).drewN q), ((h.setH none).setT none).drewN q⟩
    | some b =>
      obtain ⟨b1, b2, b3⟩ := hb b en
      rw [en] at c2
      refine (unlink_first w.heap.size (w.heap.size + 2 + k) (w.heap.size + 2 + b) wr (by omega) (by omega) (by omega) _ _ c1 c2 h.c2 (h.co b1) (fr 2) (fz b b1 20)).mono ?_
      rintro e w' ⟨rfl, q, rfl⟩
      refine ⟨rfl, ?_⟩
      simp only [unH, unT, unO, unN, eo, en]
      exact ⟨((((Kept.refl _ _).set (by omega)).set (by omega)).drewN q), ((h.setH (some b)).setO b1 none).drewN q⟩
  | some a =>
    obtain ⟨a1, a2, a3, a4⟩ := ha a eo
    rw [eo] at c1
    cases en : nw k with
    | none =>
      rw [en] at c2
      refine (unlink_last w.heap.size (w.heap.size + 2 + k) (w.heap.size + 2 + a) wr (by omega) (by omega) (by omega) _ _ c1 c2 h.c3 (h.cn a1) (fr 3) (fz a a1 21)).mono ?_
      rintro e w' ⟨rfl, q, rfl⟩
      refine ⟨rfl, ?_⟩
      simp only [unH, unT, unO, unN, eo, en]
      exact ⟨((((Kept.refl _ _).set (by omega)).set (by omega)).drewN q), ((h.setN a1 none).setT (some a)).drewN q⟩
    | some b =>
      obtain ⟨b1, b2, b3⟩ := hb b en
      rw [en] at c2
      have hab : a ≠ b := fun e => by subst e; have := g.inj _ _ _ a4 b3; omega
      refine (unlink_mid w.heap.size (w.heap.size + 2 + k) (w.heap.size + 2 + a) (w.heap.size + 2 + b) wr (by omega) (by omega) (by omega) _ _ c1 c2 (h.cn a1) (h.co b1) (fz a a1 21) (fz b b1 20)).mono ?_
      rintro e w' ⟨rfl, q, rfl⟩
      refine ⟨rfl, ?_⟩
      simp only [unH, unT, unO, unN, eo, en]
      exact ⟨((((Kept.refl _ _).set (by omega)).set (by omega)).drewN q), ((h.setN a1 (some b)).setO b1 (some a)).drewN q⟩


theorem bytes_calls (n : Int) (a : Option Addr) (len cap : Nat) (w : World) (hm : len ≤ maxLen) :
    Calls Try.prog 10 #[.int .i64 n, .slice a len cap] w fun e w' => (∃ b, e = .returned (.bool b) ∧ (len ≤ 1048576 → b = true)) ∧ w' = w := by
  have hm' : len ≤ 9223372036854775807 := hm
  by_cases h : len ≤ 1048576
  · go_enter Try.func10, Try.ntmps10
    go_wp2_with fail
    go_ret
    exact ⟨⟨true, rfl, fun _ => rfl⟩, rfl⟩
  · go_enter Try.func10, Try.ntmps10
    go_wp2_with fail
    go_ret
    exact ⟨⟨false, rfl, fun h' => absurd h' h⟩, rfl⟩

end Go.Proofs.Qxb6617882a
