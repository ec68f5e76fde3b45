import Derived.Test.Qxb6617119aTab
import Derived.Test.Qxb6617119aPlain
import Derived.Deep.QuietTactic
import Derived.BigQuiet
namespace Go.Proofs.Qxb6617119a
open Go.RowKit
set_option linter.unusedVariables false

/-- a column of numbers -/
def col (l : Nat → Nat) : Nat → Value := fun m => .int .i64 (l m : Nat)

theorem Tab.setL {w wr : World} {n bt bh bl bw : Nat} {hf lf wf : Nat → Value} (h : Tab w wr n bt bh bl bw hf lf wf) (k : Nat) (v : Value) : Tab w (wr.setCell ⟨bl, k, none⟩ v) n bt bh bl bw hf (fun j => if j = k then v else lf j) wf := by
  have hc : ∀ o, (wr.setCell ⟨bl, k, none⟩ v).cell? ⟨bt, o, none⟩ = wr.cell? ⟨bt, o, none⟩ := fun o => World.cell?_of_block (w := wr) (Deep.blk_setCell_other _ _ _ _ h.tl)
  exact { h with below := h.below.setCell (p := ⟨bl, k, none⟩) h.gl v, c0 := (hc 0).trans h.c0, c1 := (hc 1).trans h.c1, c2 := (hc 2).trans h.c2,
                 rh := h.rh.setOther (a := ⟨bl, k, none⟩) h.hl v, rl := h.rl.set k v, rw := h.rw.setOther (a := ⟨bl, k, none⟩) (Ne.symm h.lw) v }

theorem Tab.setW {w wr : World} {n bt bh bl bw : Nat} {hf lf wf : Nat → Value} (h : Tab w wr n bt bh bl bw hf lf wf) (k : Nat) (v : Value) : Tab w (wr.setCell ⟨bw, k, none⟩ v) n bt bh bl bw hf lf (fun j => if j = k then v else wf j) := by
  have hc : ∀ o, (wr.setCell ⟨bw, k, none⟩ v).cell? ⟨bt, o, none⟩ = wr.cell? ⟨bt, o, none⟩ := fun o => World.cell?_of_block (w := wr) (Deep.blk_setCell_other _ _ _ _ h.tw)
  exact { h with below := h.below.setCell (p := ⟨bw, k, none⟩) h.gw v, c0 := (hc 0).trans h.c0, c1 := (hc 1).trans h.c1, c2 := (hc 2).trans h.c2,
                 rh := h.rh.setOther (a := ⟨bw, k, none⟩) h.hw v, rl := h.rl.setOther (a := ⟨bw, k, none⟩) h.lw v, rw := h.rw.set k v }

def put (l : Nat → Nat) (i x : Nat) : Nat → Nat := fun m => if m = i then x else l m

theorem col1 {l : Nat → Nat} {i y j : Nat} {x : Int} (h : x = ((y : Nat) : Int)) : (if j = i then Value.int .i64 x else col l j) = col (put l i y) j := by
  unfold col put
  by_cases e : j = i
  · rw [if_pos e, if_pos e, h]
  · rw [if_neg e, if_neg e]
theorem col2 (j i : Nat) (a b c : Value) : (if j = i then a else (if j = i then b else c)) = if j = i then a else c := by
  by_cases e : j = i
  · rw [if_pos e, if_pos e]
  · rw [if_neg e, if_neg e, if_neg e]
theorem col0 {l : Nat → Nat} {i y j : Nat} (h : y = l i) : col l j = col (put l i y) j := by
  unfold col put
  by_cases e : j = i
  · rw [if_pos e, h, e]
  · rw [if_neg e]

theorem lead_calls (n bt bh bl bw i : Nat) (l v : Nat → Nat) (win : Bool) (w0 w : World) (hi : i < n) (hn : n ≤ 65536) (bl1 : l i ≤ 31) (bv1 : v i ≤ 31)
    (hT : Tab w0 w n bt bh bl bw ones (col l) (col v)) :
    Calls Try.prog 18 #[.pointer (some ⟨bt, 0, none⟩), .int .i64 i, .bool win] w fun e w' => e = .returned (.tuple #[]) ∧
      Tab w0 w' n bt bh bl bw ones (col (put l i (Pl.ld (l i, v i) win).1)) (col (put v i (Pl.ld (l i, v i) win).2)) := by
  have q1 := hT.c1
  have q2 := hT.c2
  have g1 : w.cell? ⟨bl, i, none⟩ = some (.int .i64 (l i : Nat)) := hT.rl.cell hi
  have g2 : w.cell? ⟨bw, i, none⟩ = some (.int .i64 (v i : Nat)) := hT.rw.cell hi
  have z1 := hT.rl.frozen i
  have z2 := hT.rw.frozen i
  have n1 := hT.tl
  have n2 := hT.tw
  have n3 := hT.lw
  have n1' := Ne.symm hT.tl
  have n2' := Ne.symm hT.tw
  have n3' := Ne.symm hT.lw
  cases win with
  | false =>
    by_cases h32 : l i + 1 = 32
    · have hb : (((l i : Nat) : Int) + 1 == 32) = true := by rw [beq_iff_eq]; omega
      have e1 : Hid ((Pl.ld (l i, v i) false).1 = (l i + 1) / 2) := by show _ = _; simp only [Pl.ld]; rw [if_pos h32]; omega
      have e2 : Hid ((Pl.ld (l i, v i) false).2 = (v i) / 2) := by show _ = _; simp only [Pl.ld]; rw [if_pos h32]; rfl
      clear h32
      go_enter Try.func18, Try.ntmps18
      go_wp2
      go_end0
      exact ⟨rfl, (((hT.setL i _).setL i _).setW i _).congr (fun _ _ => rfl) (fun j _ => (col2 j i _ _ _).trans (col1 (by rw [e1.out]; omega))) (fun j _ => col1 (by rw [e2.out]; omega))⟩
    · have hb : (((l i : Nat) : Int) + 1 == 32) = false := by rw [beq_eq_false_iff_ne]; omega
      have e1 : Hid ((Pl.ld (l i, v i) false).1 = l i + 1) := by show _ = _; simp only [Pl.ld]; rw [if_neg h32]
      have e2 : Hid ((Pl.ld (l i, v i) false).2 = v i) := by show _ = _; simp only [Pl.ld]; rw [if_neg h32]; rfl
      clear h32
      go_enter Try.func18, Try.ntmps18
      go_wp2
      go_end0
      exact ⟨rfl, (hT.setL i _).congr (fun _ _ => rfl) (fun j _ => col1 (by rw [e1.out]; omega)) (fun j _ => col0 (by rw [e2.out]))⟩
  | true =>
    by_cases h32 : l i + 1 = 32
    · have hb : (((l i : Nat) : Int) + 1 == 32) = true := by rw [beq_iff_eq]; omega
      have e1 : Hid ((Pl.ld (l i, v i) true).1 = (l i + 1) / 2) := by show _ = _; simp only [Pl.ld]; rw [if_pos h32]; omega
      have e2 : Hid ((Pl.ld (l i, v i) true).2 = (v i + 1) / 2) := by show _ = _; simp only [Pl.ld]; rw [if_pos h32]; rfl
      clear h32
      go_enter Try.func18, Try.ntmps18
      go_wp2
      go_end0
      exact ⟨rfl, ((((hT.setL i _).setW i _).setL i _).setW i _).congr (fun _ _ => rfl) (fun j _ => (col2 j i _ _ _).trans (col1 (by rw [e1.out]; omega))) (fun j _ => (col2 j i _ _ _).trans (col1 (by rw [e2.out]; omega)))⟩
    · have hb : (((l i : Nat) : Int) + 1 == 32) = false := by rw [beq_eq_false_iff_ne]; omega
      have e1 : Hid ((Pl.ld (l i, v i) true).1 = l i + 1) := by show _ = _; simp only [Pl.ld]; rw [if_neg h32]
      have e2 : Hid ((Pl.ld (l i, v i) true).2 = v i + 1) := by show _ = _; simp only [Pl.ld]; rw [if_neg h32]; rfl
      clear h32
      go_enter Try.func18, Try.ntmps18
      go_wp2
      go_end0
      exact ⟨rfl, ((hT.setL i _).setW i _).congr (fun _ _ => rfl) (fun j _ => col1 (by rw [e1.out]; omega)) (fun j _ => col1 (by rw [e2.out]; omega))⟩

theorem zzLead_calls (n bt bh bl bw i : Nat) (l v : Nat → Nat) (win : Bool) (w0 w : World) (hi : i < n) (hn : n ≤ 65536) (bl1 : l i ≤ 31) (bv1 : v i ≤ 31)
    (hT : Tab w0 w n bt bh bl bw ones (col l) (col v)) :
    Calls Try.prog 12 #[.pointer (some ⟨bt, 0, none⟩), .int .i64 i, .bool win] w fun e w' => e = .returned (.tuple #[]) ∧
      Tab w0 w' n bt bh bl bw ones (col (put l i (Pl.ld (l i, v i) win).1)) (col (put v i (Pl.ld (l i, v i) win).2)) := by
  go_enter Try.func12, Try.ntmps12
  go_wp2_with fail
  refine (lead_calls n bt bh bl bw i l v win w0 w hi hn bl1 bv1 hT).mono ?_
  rintro e w' ⟨rfl, hT'⟩
  go_wp2_with fail
  go_end0
  exact ⟨rfl, hT'⟩

theorem zzFields_calls (bt : Nat) (a0 a1 a2 : Option Addr) (n0 n1 n2 k0 k1 k2 : Nat) (w : World) (c0 : w.cell? ⟨bt, 0, none⟩ = some (.slice a0 n0 k0)) (c1 : w.cell? ⟨bt, 1, none⟩ = some (.slice a1 n1 k1)) (c2 : w.cell? ⟨bt, 2, none⟩ = some (.slice a2 n2 k2)) :
    Calls Try.prog 13 #[.pointer (some ⟨bt, 0, none⟩)] w fun e w' => e = .returned (.tuple #[.slice a0 n0 k0, .slice a1 n1 k1, .slice a2 n2 k2]) ∧ ∃ q, w' = w.drewN q := by
  go_enter Try.func13, Try.ntmps13
  go_wp2
  go_quiet (fail)
  go_wp2
  go_ret3
  exact ⟨rfl, _, rfl⟩

end Go.Proofs.Qxb6617119a
