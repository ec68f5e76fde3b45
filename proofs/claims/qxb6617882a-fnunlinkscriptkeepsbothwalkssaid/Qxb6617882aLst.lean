import Derived.Test.Qxb6617882aLink
import Derived.Test.Qxb6617882aOrd
namespace Go.Proofs.Qxb6617882a
open Go.RowKit
set_option linter.unusedVariables false

/-- node i's address, the room lying in block B -/
def PA (B : Nat) : Option Nat → Option Addr
  | none => none
  | some i => some ⟨B + 2 + i, 0, none⟩
def roomF (B : Nat) (hd tl : Option Nat) (j : Nat) : Value := if j = 2 then .pointer (PA B hd) else if j = 3 then .pointer (PA B tl) else .int .i64 0
def placeF (B : Nat) (x y : Option Nat) (j : Nat) : Value := if j = 20 then .pointer (PA B x) else if j = 21 then .pointer (PA B y) else .int .u8 0
def nodeF (B m j : Nat) : Value := if j < m then .pointer (some ⟨B + 2 + j, 0, none⟩) else .pointer none

/-- The room, the slice of its nodes (m of them made) and the nodes lie in wr, behind all that w had. -/
structure LS (w wr : World) (n m : Nat) (hd tl : Option Nat) (o nw : Nat → Option Nat) : Prop where
  below : Below w.heap.size w wr
  size : w.heap.size + 2 + m ≤ wr.heap.size
  nodes : wr.rowIs (w.heap.size + 1) 32 n (nodeF w.heap.size m)
  room : wr.rowIs w.heap.size 45 4 (roomF w.heap.size hd tl)
  plc : ∀ i, i < m → wr.rowIs (w.heap.size + 2 + i) 47 22 (placeF w.heap.size (o i) (nw i))

section
variable {w wr : World} {n m : Nat} {hd tl : Option Nat} {o nw : Nat → Option Nat}

theorem LS.drewN (h : LS w wr n m hd tl o nw) (q : Nat) : LS w (wr.drewN q) n m hd tl o nw := ⟨below_drewN h.below q, h.size, h.nodes, h.room, h.plc⟩
theorem LS.drew (h : LS w wr n m hd tl o nw) : LS w wr.drew n m hd tl o nw := ⟨h.below.drew, h.size, h.nodes, h.room, h.plc⟩

theorem LS.congr (h : LS w wr n m hd tl o nw) {o' nw' : Nat → Option Nat} (e1 : ∀ i, i < m → o i = o' i) (e2 : ∀ i, i < m → nw i = nw' i) : LS w wr n m hd tl o' nw' :=
  { h with plc := fun i hi => by rw [← e1 i hi, ← e2 i hi]; exact h.plc i hi }

theorem LS.above {wr' : World} (h : LS w wr n m hd tl o nw) (hb : Below (w.heap.size + 2 + m) wr wr') : LS w wr' n m hd tl o nw :=
  ⟨h.below.trans (hb.mono (by omega)), Nat.le_trans h.size hb.size, h.nodes.of_block (by
      by_cases e : m = 0
      · subst e; exact hb.block _ (by omega)
      · exact hb.block _ (by omega)), h.room.of_block (hb.block _ (by omega)), fun i hi => (h.plc i hi).of_block (hb.block _ (by omega))⟩

theorem LS.cnode (h : LS w wr n m hd tl o nw) {i : Nat} (hi : i < m) (hn : i < n) : wr.cell? ⟨w.heap.size + 1, i, none⟩ = some (.pointer (some ⟨w.heap.size + 2 + i, 0, none⟩)) := by
  rw [h.nodes.cell hn]; unfold nodeF; rw [if_pos hi]
theorem LS.c2 (h : LS w wr n m hd tl o nw) : wr.cell? ⟨w.heap.size, 2, none⟩ = some (.pointer (PA w.heap.size hd)) := h.room.cell (i := 2) (by omega)
theorem LS.c3 (h : LS w wr n m hd tl o nw) : wr.cell? ⟨w.heap.size, 3, none⟩ = some (.pointer (PA w.heap.size tl)) := h.room.cell (i := 3) (by omega)
theorem LS.co (h : LS w wr n m hd tl o nw) {i : Nat} (hi : i < m) : wr.cell? ⟨w.heap.size + 2 + i, 20, none⟩ = some (.pointer (PA w.heap.size (o i))) := (h.plc i hi).cell (i := 20) (by omega)
theorem LS.cn (h : LS w wr n m hd tl o nw) {i : Nat} (hi : i < m) : wr.cell? ⟨w.heap.size + 2 + i, 21, none⟩ = some (.pointer (PA w.heap.size (nw i))) := (h.plc i hi).cell (i := 21) (by omega)

theorem LS.setO (h : LS w wr n m hd tl o nw) {i : Nat} (hi : i < m) (x : Option Nat) : LS w (wr.setCell ⟨w.heap.size + 2 + i, 20, none⟩ (.pointer (PA w.heap.size x))) n m hd tl (upd o i x) nw := by
  refine ⟨h.below.setCell (p := ⟨w.heap.size + 2 + i, 20, none⟩) (by show _ ≤ w.heap.size + 2 + i; omega) _, by have := h.size; simpa [World.setCell] using this, h.nodes.setOther (a := ⟨w.heap.size + 2 + i, 20, none⟩) (by show _ ≠ w.heap.size + 2 + i; omega) _, h.room.setOther (a := ⟨w.heap.size + 2 + i, 20, none⟩) (by show _ ≠ w.heap.size + 2 + i; omega) _, fun j hj => ?_⟩
  by_cases e : j = i
  · subst e
    refine ((h.plc j hj).set 20 _).congr fun q hq => ?_
    rw [upd_same]
    unfold placeF
    by_cases h1 : q = 20
    · rw [if_pos h1, if_pos h1]
    · rw [if_neg h1, if_neg h1, if_neg h1]
  · rw [upd_ne e]
    exact (h.plc j hj).setOther (a := ⟨w.heap.size + 2 + i, 20, none⟩) (by show _ ≠ w.heap.size + 2 + i; omega) _

theorem LS.setN (h : LS w wr n m hd tl o nw) {i : Nat} (hi : i < m) (x : Option Nat) : LS w (wr.setCell ⟨w.heap.size + 2 + i, 21, none⟩ (.pointer (PA w.heap.size x))) n m hd tl o (upd nw i x) := by
  refine ⟨h.below.setCell (p := ⟨w.heap.size + 2 + i, 21, none⟩) (by show _ ≤ w.heap.size + 2 + i; omega) _, by have := h.size; simpa [World.setCell] using this, h.nodes.setOther (a := ⟨w.heap.size + 2 + i, 21, none⟩) (by show _ ≠ w.heap.size + 2 + i; omega) _, h.room.setOther (a := ⟨w.heap.size + 2 + i, 21, none⟩) (by show _ ≠ w.heap.size + 2 + i; omega) _, fun j hj => ?_⟩
  by_cases e : j = i
  · subst e
    refine ((h.plc j hj).set 21 _).congr fun q hq => ?_
    rw [upd_same]
    unfold placeF
    by_cases h1 : q = 21
    · rw [if_pos h1, if_neg (by omega), if_pos h1]
    · rw [if_neg h1]
      by_cases h2 : q = 20
      · rw [if_pos h2, if_pos h2]
      · rw [if_neg h2, if_neg h1, if_neg h2, if_neg h1]
  · rw [upd_ne e]
    exact (h.plc j hj).setOther (a := ⟨w.heap.size + 2 + i, 21, none⟩) (by show _ ≠ w.heap.size + 2 + i; omega) _

theorem LS.setH (h : LS w wr n m hd tl o nw) (x : Option Nat) : LS w (wr.setCell ⟨w.heap.size, 2, none⟩ (.pointer (PA w.heap.size x))) n m x tl o nw :=
  ⟨h.below.setCell (p := ⟨w.heap.size, 2, none⟩) (Nat.le_refl _) _, by have := h.size; simpa [World.setCell] using this, h.nodes.setOther (a := ⟨w.heap.size, 2, none⟩) (by show _ ≠ w.heap.size; omega) _,
    (h.room.set 2 _).congr (fun q hq => by
      unfold roomF
      by_cases h1 : q = 2
      · rw [if_pos h1, if_pos h1]
      · rw [if_neg h1, if_neg h1, if_neg h1]),
    fun j hj => (h.plc j hj).setOther (a := ⟨w.heap.size, 2, none⟩) (by show _ ≠ w.heap.size; omega) _⟩

theorem LS.setT (h : LS w wr n m hd tl o nw) (x : Option Nat) : LS w (wr.setCell ⟨w.heap.size, 3, none⟩ (.pointer (PA w.heap.size x))) n m hd x o nw :=
  ⟨h.below.setCell (p := ⟨w.heap.size, 3, none⟩) (Nat.le_refl _) _, by have := h.size; simpa [World.setCell] using this, h.nodes.setOther (a := ⟨w.heap.size, 3, none⟩) (by show _ ≠ w.heap.size; omega) _,
    (h.room.set 3 _).congr (fun q hq => by
      unfold roomF
      by_cases h1 : q = 3
      · rw [if_pos h1, if_neg (by omega), if_pos h1]
      · rw [if_neg h1]
        by_cases h2 : q = 2
        · rw [if_pos h2, if_pos h2]
        · rw [if_neg h2, if_neg h1, if_neg h2, if_neg h1]),
    fun j hj => (h.plc j hj).setOther (a := ⟨w.heap.size, 3, none⟩) (by show _ ≠ w.heap.size; omega) _⟩
end

/-- what is made first: the room and the slice -/
theorem LS.start (w : World) (n : Nat) (o nw : Nat → Option Nat) : LS w ((w.alloc (.cells #[.int .i64 0, .int .i64 0, .pointer none, .pointer none] 45)).alloc (.cells (madeCells #[.pointer none] n) 32)) n 0 none none o nw := by
  have hs : (w.alloc (.cells #[.int .i64 0, .int .i64 0, .pointer none, .pointer none] 45)).heap.size = w.heap.size + 1 := by simp
  refine ⟨((Below.refl _ _).alloc (Nat.le_refl _) _).alloc (by simp) _, by simp, ?_, ?_, fun i hi => absurd hi (Nat.not_lt_zero _)⟩
  · rw [← hs]
    exact (World.rowIs_made _ _ n 32).congr fun i hi => by unfold nodeF; rw [if_neg (by omega)]
  · refine World.rowIs.alloc (World.rowIs_alloc w #[.int .i64 0, .int .i64 0, .pointer none, .pointer none] 45 (roomF w.heap.size none none) fun i hi => ?_) _
    have hi' : i < 4 := hi
    match i, hi' with
    | 0, _ => rfl
    | 1, _ => rfl
    | 2, _ => rfl
    | 3, _ => rfl

theorem zp_get (B : Nat) (j : Nat) (hj : j < zp.size) : zp[j]? = some (placeF B none none j) := by
  have hj' : j < 22 := hj
  clear hj
  match j, hj' with
  | j + 22, h => exact absurd h (by omega)
  | 0, _ => rfl
  | 1, _ => rfl
  | 2, _ => rfl
  | 3, _ => rfl
  | 4, _ => rfl
  | 5, _ => rfl
  | 6, _ => rfl
  | 7, _ => rfl
  | 8, _ => rfl
  | 9, _ => rfl
  | 10, _ => rfl
  | 11, _ => rfl
  | 12, _ => rfl
  | 13, _ => rfl
  | 14, _ => rfl
  | 15, _ => rfl
  | 16, _ => rfl
  | 17, _ => rfl
  | 18, _ => rfl
  | 19, _ => rfl
  | 20, _ => rfl
  | 21, _ => rfl

/-- one more node -/
theorem LS.more {w wr : World} {n m : Nat} (h : LS w wr n m none none (fun _ => none) (fun _ => none)) (hsz : wr.heap.size = w.heap.size + 2 + m) :
    LS w ((wr.setCell ⟨w.heap.size + 1, m, none⟩ (.pointer (some ⟨w.heap.size + 2 + m, 0, none⟩))).alloc (.cells zp 47)) n (m + 1) none none (fun _ => none) (fun _ => none) := by
  have hs2 : (wr.setCell ⟨w.heap.size + 1, m, none⟩ (.pointer (some ⟨w.heap.size + 2 + m, 0, none⟩))).heap.size = w.heap.size + 2 + m := by simpa [World.setCell] using hsz
  refine ⟨(h.below.setCell (p := ⟨w.heap.size + 1, m, none⟩) (by show _ ≤ w.heap.size + 1; omega) _).alloc (by rw [hs2]; omega) _, ?_, ?_, ?_, fun i hi => ?_⟩
  · have : ((wr.setCell ⟨w.heap.size + 1, m, none⟩ (.pointer (some ⟨w.heap.size + 2 + m, 0, none⟩))).alloc (.cells zp 47)).heap.size = (wr.setCell ⟨w.heap.size + 1, m, none⟩ (.pointer (some ⟨w.heap.size + 2 + m, 0, none⟩))).heap.size + 1 := by simp
    rw [this, hs2]
    omega
  · refine World.rowIs.alloc ((h.nodes.set m _).congr fun q hq => ?_) _
    unfold nodeF
    by_cases e : q = m
    · subst e
      rw [if_pos rfl, if_pos (by omega)]
    · rw [if_neg e]
      by_cases e2 : q < m
      · rw [if_pos e2, if_pos (by omega)]
      · rw [if_neg e2, if_neg (by omega)]
  · exact (h.room.setOther (a := ⟨w.heap.size + 1, m, none⟩) (by show _ ≠ w.heap.size + 1; omega) _).alloc _
  · by_cases e : i = m
    · subst e
      have key := World.rowIs_alloc (wr.setCell ⟨w.heap.size + 1, i, none⟩ (.pointer (some ⟨w.heap.size + 2 + i, 0, none⟩))) zp 47 (placeF w.heap.size none none) (zp_get w.heap.size)
      rw [hs2] at key
      exact key
    · exact ((h.plc i (by omega)).setOther (a := ⟨w.heap.size + 1, m, none⟩) (by show _ ≠ w.heap.size + 1; omega) _).alloc _

/-! ### unlink over a good list -/
theorem unlink_calls {w wr : World} {n : Nat} {hd tl : Option Nat} {o nw : Nat → Option Nat} {ord : List Nat} {p k : Nat} (h : LS w wr n n hd tl o nw) (g : Good n hd tl o nw ord) (hp : ord[p]? = some k) :
    Calls Try.prog 8 #[.pointer (some ⟨w.heap.size, 0, none⟩), .pointer (some ⟨w.heap.size + 2 + k, 0, none⟩)] wr fun e w' => e = .returned (.tuple #[]) ∧ LS w w' n n (unH k hd o nw) (unT k tl o nw) (unO k o nw) (unN k o nw) := by
  have hk := g.lt p k hp
  have ho := g.old p k hp
  have hn := g.new p k hp
  have c1 := h.co hk
  have c2 := h.cn hk
  have fz := fun i (hi : i < n) j => (h.plc i hi).frozen j
  have fr := fun j => h.room.frozen j
  have ha : ∀ a, o k = some a → a < n ∧ a ≠ k ∧ p ≠ 0 ∧ ord[p - 1]? = some a := fun a e => by
    by_cases h0 : p = 0
    · rw [if_pos h0] at ho; rw [ho] at e; cases e
    · rw [if_neg h0] at ho
      rw [ho] at e
      exact ⟨g.lt _ _ e, fun e2 => by subst e2; have := g.inj _ _ _ e hp; omega, h0, e⟩
  have hb : ∀ b, nw k = some b → b < n ∧ b ≠ k ∧ ord[p + 1]? = some b := fun b e => by
    rw [hn] at e
    exact ⟨g.lt _ _ e, fun e2 => by subst e2; have := g.inj _ _ _ e hp; omega, e⟩
  refine zzUnlink_calls _ _ wr (fun w' => LS w w' n n (unH k hd o nw) (unT k tl o nw) (unO k o nw) (unN k o nw)) ?_
  cases eo : o k with
  | none =>
    rw [eo] at c1
    cases en : nw k with
    | none =>
      rw [en] at c2
      refine (unlink_only w.heap.size (w.heap.size + 2 + k) wr (by omega) _ _ c1 c2 h.c2 h.c3 (fr 2) (fr 3)).mono ?_
      rintro e w' ⟨rfl, q, rfl⟩
      refine ⟨rfl, ?_⟩
      simp only [unH, unT, unO, unN, eo, en]
      exact ((h.setH none).setT none).drewN q
    | some b =>
      obtain ⟨b1, b2, b3⟩ := hb b en
      rw [en] at c2
      refine (unlink_first w.heap.size (w.heap.size + 2 + k) (w.heap.size + 2 + b) wr (by omega) (by omega) (by omega) _ _ c1 c2 h.c2 (h.co b1) (fr 2) (fz b b1 20)).mono ?_
      rintro e w' ⟨rfl, q, rfl⟩
      refine ⟨rfl, ?_⟩
      simp only [unH, unT, unO, unN, eo, en]
      exact ((h.setH (some b)).setO b1 none).drewN q
  | some a =>
    obtain ⟨a1, a2, a3, a4⟩ := ha a eo
    rw [eo] at c1
    cases en : nw k with
    | none =>
      rw [en] at c2
      refine (unlink_last w.heap.size (w.heap.size + 2 + k) (w.heap.size + 2 + a) wr (by omega) (by omega) (by omega) _ _ c1 c2 h.c3 (h.cn a1) (fr 3) (fz a a1 21)).mono ?_
      rintro e w' ⟨rfl, q, rfl⟩
      refine ⟨rfl, ?_⟩
      simp only [unH, unT, unO, unN, eo, en]
      exact ((h.setN a1 none).setT (some a)).drewN q
    | some b =>
      obtain ⟨b1, b2, b3⟩ := hb b en
      rw [en] at c2
      have hab : a ≠ b := fun e => by subst e; have := g.inj _ _ _ a4 b3; omega
      refine (unlink_mid w.heap.size (w.heap.size + 2 + k) (w.heap.size + 2 + a) (w.heap.size + 2 + b) wr (by omega) (by omega) (by omega) _ _ c1 c2 (h.cn a1) (h.co b1) (fz a a1 21) (fz b b1 20)).mono ?_
      rintro e w' ⟨rfl, q, rfl⟩
      refine ⟨rfl, ?_⟩
      simp only [unH, unT, unO, unN, eo, en]
      exact ((h.setN a1 (some b)).setO b1 (some a)).drewN q

end Go.Proofs.Qxb6617882a
