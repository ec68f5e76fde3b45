import Derived.Test.Qxb6617119aRows
import Derived.Test.Qxb6617119aFloat
import Derived.WalkKit
import Derived.ProofKit
import Derived.WalkSpells
import Derived.WalkLawsBesides
import Derived.BigRegion
import Derived.Deep.OwnRows
import Derived.Deep.DeepCutAuto
namespace Go.Proofs.Qxb6617119a
open Go.RowKit
set_option linter.unusedVariables false

/-- The law that the kit lacks: a float stored. -/
theorem run_store_float (P : Program) (w : World) (a : Addr) (m : Mode) (k : FloatKind) (b : Nat) : (store a (.float k b) m).run P w = stored P w a (.float k b) m := run_store P w a _ m rfl
attribute [local go_sem] run_store_float

theorem Try.info22 : (Try.prog.info? 22).map (fun i => (i.zero, i.size, i.bytes)) = some (some (.float .f64 0), 1, 8) := by kernel_rfl
theorem Try.info3 : (Try.prog.info? 3).map (fun i => (i.zero, i.size, i.bytes)) = some (some (.int .i64 0), 1, 8) := by kernel_rfl

/-- A table of n members lies in wr, in blocks that w had not; nothing that w had has turned. -/
structure Tab (w wr : World) (n bt bh bl bw : Nat) (hf lf wf : Nat → Value) : Prop where
  below : Below w.heap.size w wr
  gt : w.heap.size ≤ bt
  gh : w.heap.size ≤ bh
  gl : w.heap.size ≤ bl
  gw : w.heap.size ≤ bw
  th : bt ≠ bh
  tl : bt ≠ bl
  tw : bt ≠ bw
  hl : bh ≠ bl
  hw : bh ≠ bw
  lw : bl ≠ bw
  c0 : wr.cell? ⟨bt, 0, none⟩ = some (.slice (some ⟨bh, 0, none⟩) n n)
  c1 : wr.cell? ⟨bt, 1, none⟩ = some (.slice (some ⟨bl, 0, none⟩) n n)
  c2 : wr.cell? ⟨bt, 2, none⟩ = some (.slice (some ⟨bw, 0, none⟩) n n)
  rh : wr.rowIs bh 22 n hf
  rl : wr.rowIs bl 3 n lf
  rw : wr.rowIs bw 3 n wf

section
variable (w : World) (z : Value) (n : Nat) (t : TypeId) (A B C T : Obj)
theorem row0 : ((((w.alloc (.cells (madeCells #[z] n) t)).alloc B).alloc C).alloc T).drew.rowIs w.heap.size t n (fun _ => z) :=
  ((((World.rowIs_made w z n t).alloc _).alloc _).alloc _).drew
theorem row1 : ((((w.alloc A).alloc (.cells (madeCells #[z] n) t)).alloc C).alloc T).drew.rowIs (w.heap.size + 1) t n (fun _ => z) := by
  have h := World.rowIs_made (w.alloc A) z n t
  rw [show (w.alloc A).heap.size = w.heap.size + 1 from by simp] at h
  exact ((h.alloc _).alloc _).drew
theorem row2 : ((((w.alloc A).alloc B).alloc (.cells (madeCells #[z] n) t)).alloc T).drew.rowIs (w.heap.size + 1 + 1) t n (fun _ => z) := by
  have h := World.rowIs_made ((w.alloc A).alloc B) z n t
  rw [show ((w.alloc A).alloc B).heap.size = w.heap.size + 1 + 1 from by simp] at h
  exact (h.alloc _).drew
theorem below4 : Below w.heap.size w ((((w.alloc A).alloc B).alloc C).alloc T).drew :=
  (((((Below.refl _ _).alloc (Nat.le_refl _) _).alloc (by simp) _).alloc (by simp; omega) _).alloc (by simp; omega) _).drew
theorem cell4 (c : Array Value) (k : Nat) (v : Value) (h : c[k]? = some v) : ((((w.alloc A).alloc B).alloc C).alloc (.cells c t)).drew.cell? ⟨w.heap.size + 1 + 1 + 1, k, none⟩ = some v := by
  have hs : (((w.alloc A).alloc B).alloc C).heap.size = w.heap.size + 1 + 1 + 1 := by simp
  have hb : ((((w.alloc A).alloc B).alloc C).alloc (.cells c t)).drew.heap[w.heap.size + 1 + 1 + 1]? = some (.cells c t) := by
    rw [← hs]
    exact Deep.blk_alloc_new _ _
  unfold World.cell?
  rw [hb]
  exact h
end

/-- The table as 'NewTable' lays it, k of its scores set. -/
def upTo (k : Nat) (i : Nat) : Value := if i < k then .float .f64 Fl.one else .float .f64 0
def zeros (_ : Nat) : Value := .int .i64 0
def ones (_ : Nat) : Value := .float .f64 Fl.one

theorem Tab.congr {w wr : World} {n bt bh bl bw : Nat} {hf lf wf hf' lf' wf' : Nat → Value} (h : Tab w wr n bt bh bl bw hf lf wf) (e1 : ∀ i, i < n → hf i = hf' i) (e2 : ∀ i, i < n → lf i = lf' i) (e3 : ∀ i, i < n → wf i = wf' i) : Tab w wr n bt bh bl bw hf' lf' wf' :=
  { h with rh := h.rh.congr e1, rl := h.rl.congr e2, rw := h.rw.congr e3 }

theorem Tab.setH {w wr : World} {n bt bh bl bw : Nat} {hf lf wf : Nat → Value} (h : Tab w wr n bt bh bl bw hf lf wf) (k : Nat) (v : Value) : Tab w (wr.setCell ⟨bh, k, none⟩ v) n bt bh bl bw (fun j => if j = k then v else hf j) lf wf := by
  have hc : ∀ o, (wr.setCell ⟨bh, k, none⟩ v).cell? ⟨bt, o, none⟩ = wr.cell? ⟨bt, o, none⟩ := fun o => World.cell?_of_block (w := wr) (Deep.blk_setCell_other _ _ _ _ h.th)
  exact { h with below := h.below.setCell (p := ⟨bh, k, none⟩) h.gh v, c0 := (hc 0).trans h.c0, c1 := (hc 1).trans h.c1, c2 := (hc 2).trans h.c2,
                 rh := h.rh.set k v, rl := h.rl.setOther (a := ⟨bh, k, none⟩) (Ne.symm h.hl) v, rw := h.rw.setOther (a := ⟨bh, k, none⟩) (Ne.symm h.hw) v }

theorem Tab.step {w wr : World} {n bt bh bl bw k : Nat} (h : Tab w wr n bt bh bl bw (upTo k) zeros zeros) : Tab w (wr.setCell ⟨bh, k, none⟩ (.float .f64 Fl.one)) n bt bh bl bw (upTo (k + 1)) zeros zeros :=
  (h.setH k _).congr (fun i _ => by
    unfold upTo
    by_cases e : i = k
    · subst e; simp
    · rw [if_neg e]
      by_cases e2 : i < k
      · rw [if_pos e2, if_pos (by omega)]
      · rw [if_neg e2, if_neg (by omega)]) (fun _ _ => rfl) (fun _ _ => rfl)

set_option maxHeartbeats 1000000 in
theorem newTable_calls (n : Nat) (w : World) (hn : n ≤ 65536) :
    Calls Try.prog 6 #[.int .i64 n] w fun e w' => ∃ bt bh bl bw, e = .returned (.pointer (some ⟨bt, 0, none⟩)) ∧ Tab w w' n bt bh bl bw ones zeros zeros := by
  have hmf := run_make_row' (P := Try.prog) 25 22 (.float .f64 0) 8 Try.underlying25 Try.info22 rfl .i64 .i64 n (by omega) (by omega)
  have hmi := run_make_row' (P := Try.prog) 28 3 (.int .i64 0) 8 Try.underlying28 Try.info3 rfl .i64 .i64 n (by omega) (by omega)
  go_enter Try.func6, Try.ntmps6
  go_wp2
  go_cut [3] (fun t wc => ∃ bt bh bl bw, t = .pointer (some ⟨bt, 0, none⟩) ∧ Tab w wc n bt bh bl bw (upTo 0) zeros zeros)
  case first =>
    go_region
    all_goals
      go_wp2_with fail
      go_meet
      refine ⟨w.heap.size + 1 + 1 + 1, _, _, _, rfl, below4 _ _ _ _ _, by omega, ?_, ?_, ?_, ?_, ?_, ?_, ?_, ?_, ?_, cell4 _ _ _ _ _ _ _ _ rfl, cell4 _ _ _ _ _ _ _ _ rfl, cell4 _ _ _ _ _ _ _ _ rfl, ?_, ?_, ?_⟩
      all_goals first | omega | exact row0 _ _ _ _ _ _ _ | exact row1 _ _ _ _ _ _ _ | exact row2 _ _ _ _ _ _ _
  case rest =>
    obtain ⟨bt, bh, bl, bw, rfl, hT⟩ := hcut
    have q0 := hT.c0
    clear hmf hmi
    go_wp2
    go_loopw [4, 18] (fun _ i wr => ∃ k : Nat, k ≤ n ∧ i = .int .i64 k ∧ Tab w wr n bt bh bl bw (upTo k) zeros zeros) (fun _ i _ => n - (intOf i).toNat)
    case atStart => exact ⟨0, Nat.zero_le _, rfl, hT⟩
    case round =>
      obtain ⟨k, hk, rfl, hr⟩ := hrel
      clear q0
      have q0 := hr.c0
      by_cases hlt : k < n
      · have g := hr.rh.cell hlt
        have z := hr.rh.frozen k
        go_wp2
        go_roundw
        case rel => exact ⟨k + 1, by omega, by go_num, hr.step⟩
        case measure => simp [intOf]; omega
      · obtain rfl : k = n := by omega
        go_wp2
        go_ret
        exact ⟨bt, bh, bl, bw, rfl, hr.congr (fun i hi => by unfold upTo; rw [if_pos hi]; rfl) (fun _ _ => rfl) (fun _ _ => rfl)⟩

end Go.Proofs.Qxb6617119a
