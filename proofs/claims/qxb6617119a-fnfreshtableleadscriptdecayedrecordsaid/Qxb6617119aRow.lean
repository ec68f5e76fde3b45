import Derived.Test.Qxb6617119aRows
import Derived.WalkKit
import Derived.ProofKit
import Derived.WalkSpells
import Derived.WalkLawsBesides
import Derived.Deep.OwnRows
import Derived.Deep.Slices
import Derived.Laws.CopyRow
import Derived.Laws.IdiomCopy
import Derived.Laws.CopyOwn
namespace Go.Proofs.Qxb6617119a
open Go.RowKit
set_option linter.unusedVariables false

/-- What the walks are told of a []T of one-cell elements that came in: it has no element; or its cells hold V i. -/
def RowAt (w : World) (a : Option Addr) (n : Nat) (V : Nat → Value) : Prop :=
  n = 0 ∨ ∃ b o, a = some ⟨b, o, none⟩ ∧ b < w.heap.size ∧ ∀ i, i < n → w.cell? ⟨b, o + i, none⟩ = some (V i)

theorem RowAt.below {w w' : World} {a : Option Addr} {n : Nat} {V : Nat → Value} (h : RowAt w a n V) (hb : Below w.heap.size w w') : RowAt w' a n V := by
  rcases h with h | ⟨b, o, rfl, hlt, hc⟩
  · exact .inl h
  · exact .inr ⟨b, o, rfl, Nat.lt_of_lt_of_le hlt hb.size, fun i hi => (hb.cell (p := ⟨b, o + i, none⟩) hlt).trans (hc i hi)⟩

theorem add_plain (b off i : Nat) : (⟨b, off, none⟩ : Addr).add i = ⟨b, off + i, none⟩ := by
  unfold Addr.add
  by_cases h : i = 0
  · subst h; rfl
  · simp [h]

/-- A slice of one-cell elements, opened for the walk. -/
theorem row_open {H : Type} {enc : TypeId × Value → H} {P : Program} {W : World} {t e : TypeId} {a : Option Addr} {len cap : Nat} {d : DataW H} {ps : List MemPlace}
    (ht : P.underlying t = some (.slice e)) (hc : P.cellsOf e = 1) (h : DataW.Trod enc P W 0 (fun _ => true) true t (.slice a len cap) d ps) :
    (a = none → len = 0 ∧ cap = 0) ∧ len ≤ maxLen ∧ ∃ V : Nat → Value, RowAt W a len V ∧ ∀ i, i < len → ∃ n y, DataW.trod enc P W 0 (fun _ => true) true n e [V i] = some y := by
  obtain ⟨fuel, hf⟩ := h
  rcases Deep.open_slice1 ht hc hf with ⟨hcs, _⟩ | ⟨x, l, c, m, n, V, D, Pl, hcs, _, hl, hm, hmm, _, hcell⟩
  · simp [Value.cells] at hcs
    obtain ⟨rfl, rfl, rfl⟩ := hcs
    exact ⟨fun _ => ⟨rfl, rfl⟩, Nat.zero_le _, fun _ => .bool false, .inl rfl, fun i hi => absurd hi (Nat.not_lt_zero _)⟩
  · simp [Value.cells] at hcs
    obtain ⟨rfl, rfl, rfl⟩ := hcs
    simp only [if_true] at hmm
    subst hmm
    refine ⟨(fun h => by cases h), Nat.le_trans hl hm, V, ?_, fun i hi => ⟨n, _, (hcell i (by omega)).2⟩⟩
    by_cases h0 : len = 0
    · exact .inl h0
    · obtain ⟨b, off, spot⟩ := x
      have h1 := (hcell 0 (by omega)).1
      have hspot : spot = none := by simpa [Addr.add] using World.cell?_spot h1
      subst hspot
      exact .inr ⟨b, off, rfl, World.block_lt_of_cell? _ _ h1, fun i hi => by
        have h2 := (hcell i (by omega)).1
        rw [add_plain] at h2
        exact h2⟩

theorem RowAt.congr {w : World} {a : Option Addr} {n : Nat} {V V' : Nat → Value} (h : RowAt w a n V) (e : ∀ i, i < n → V i = V' i) : RowAt w a n V' := by
  rcases h with h | ⟨b, o, rfl, hb, hc⟩
  · exact .inl h
  · exact .inr ⟨b, o, rfl, hb, fun i hi => by rw [← e i hi]; exact hc i hi⟩

def boolOf : Value → Bool | .bool b => b | _ => false

theorem bools_open {H : Type} {enc : TypeId × Value → H} {P : Program} {W : World} {t e : TypeId} {a : Option Addr} {len cap : Nat} {d : DataW H} {ps : List MemPlace}
    (ht : P.underlying t = some (.slice e)) (he : P.underlying e = some .bool) (hc : P.cellsOf e = 1) (h : DataW.Trod enc P W 0 (fun _ => true) true t (.slice a len cap) d ps) :
    (a = none → len = 0 ∧ cap = 0) ∧ len ≤ maxLen ∧ ∃ S : Nat → Bool, RowAt W a len (fun i => .bool (S i)) := by
  obtain ⟨hn, hm, V, hV, hx⟩ := row_open ht hc h
  have key : ∀ i, i < len → V i = .bool (boolOf (V i)) := fun i hi => by
    obtain ⟨n, y, hy⟩ := hx i hi
    obtain ⟨s, hs, _⟩ := DataW.trod_bool he hy
    simp only [List.cons.injEq, and_true] at hs
    rw [hs]
    rfl
  exact ⟨hn, hm, fun i => boolOf (V i), hV.congr key⟩

theorem ints_open {H : Type} {enc : TypeId × Value → H} {P : Program} {W : World} {t e : TypeId} {k : IntKind} {a : Option Addr} {len cap : Nat} {d : DataW H} {ps : List MemPlace}
    (ht : P.underlying t = some (.slice e)) (he : P.underlying e = some (.int k)) (hc : P.cellsOf e = 1) (h : DataW.Trod enc P W 0 (fun _ => true) true t (.slice a len cap) d ps) :
    (a = none → len = 0 ∧ cap = 0) ∧ len ≤ maxLen ∧ ∃ S : Nat → Int, RowAt W a len (fun i => .int k (S i)) := by
  obtain ⟨hn, hm, V, hV, hx⟩ := row_open ht hc h
  have key : ∀ i, i < len → V i = .int k (intOf (V i)) := fun i hi => by
    obtain ⟨n, y, hy⟩ := hx i hi
    obtain ⟨s, hs, _⟩ := DataW.trod_int he hy
    simp only [List.cons.injEq, and_true] at hs
    rw [hs]
    rfl
  exact ⟨hn, hm, fun i => intOf (V i), hV.congr key⟩


/-! ### copies -/
/-- 'c := make([]T, n); copy(c, s)': what copy does -/
theorem copy_made {P : Program} (w : World) (dT ty e : TypeId) (z : Value) (n c b o : Nat) (V : Nat → Value) (hu : P.underlying dT = some (.slice e)) (hs : (P.info? e).map (·.size) = some 1)
    (hb : b < w.heap.size) (hc : ∀ i, i < n → w.cell? ⟨b, o + i, none⟩ = some (V i)) (h1 : ∀ i, i < n → (V i).oneCell' = true) :
    ∃ w1, (Builtin.copy_ #[dT, dT] ty #[.slice (some ⟨w.heap.size, 0, none⟩) n n, .slice (some ⟨b, o, none⟩) n c]).run P (w.alloc (.cells (madeCells #[z] n) e)) = .ok (goInt n) w1 ∧
      Below w.heap.size w w1 ∧ w1.rowIs w.heap.size e n V := by
  have hg : (w.alloc (.cells (madeCells #[z] n) e)).heap[w.heap.size]? = some (.cells (madeCells #[z] n) e (0, 0)) := Deep.blk_alloc_new _ _
  have hlen : ((List.range n).map V).length = n := by simp
  have hrun := run_copy_row (P := P) (w.alloc (.cells (madeCells #[z] n) e)) dT dT ty e w.heap.size 0 n n ⟨b, o, none⟩ n c (madeCells #[z] n) e ((List.range n).map V) hu hs hg
    (by rw [hlen]; exact (Nat.min_self n).symm)
    (fun j v hv => by
      rw [List.getElem?_map] at hv
      by_cases hj : j < n
      · rw [List.getElem?_range hj] at hv
        simp only [Option.map_some, Option.some.injEq] at hv
        subst hv
        rw [add_plain, ((Below.refl _ w).alloc (Nat.le_refl _) _).cell (p := ⟨b, o + j, none⟩) hb]
        exact hc j hj
      · rw [List.getElem?_eq_none (by simp; omega)] at hv
        cases hv)
    (by rw [hlen, size_madeCells]; omega)
    (fun v hv => by
      obtain ⟨i, hi, rfl⟩ := List.mem_map.1 hv
      exact h1 i (List.mem_range.1 hi))
  rw [hlen] at hrun
  refine ⟨_, hrun, below_setRow ((Below.refl _ _).alloc (Nat.le_refl _) _) (Nat.le_refl _) _, ?_⟩
  have hl : ((madeCells #[z] n).toList.drop (0 + n)) = [] := List.drop_of_length_le (by simp [size_madeCells])
  rw [hl, List.append_nil, List.take_zero, List.nil_append]
  refine ⟨_, setRow_heap _ _ _ _ _ _ hg, by simp, fun i hi => by simp [hi]⟩

theorem Try.size3 : (Try.prog.info? 3).map (·.size) = some 1 := by kernel_rfl
theorem Try.size4 : (Try.prog.info? 4).map (·.size) = some 1 := by kernel_rfl
theorem Try.info4 : (Try.prog.info? 4).map (fun i => (i.zero, i.size, i.bytes)) = some (some (.bool false), 1, 1) := by kernel_rfl
theorem Try.info3' : (Try.prog.info? 3).map (fun i => (i.zero, i.size, i.bytes)) = some (some (.int .i64 0), 1, 8) := by kernel_rfl

/-- what a clone answers -/
def CRes (w : World) (n : Nat) (V : Nat → Value) (e : Ending) (w' : World) : Prop :=
  ∃ a c, e = .returned (.slice a n c) ∧ Below w.heap.size w w' ∧ RowAt w' a n V

theorem cloneInts_nil (V : Nat → Value) (w : World) : Calls Try.prog 9 #[.slice none 0 0] w (CRes w 0 V) := by
  have heq := fun w => Lib.run_eql_slice_nil (P := Try.prog) w 28 3 none 0 0 0 0 Try.underlying28
  go_enter Try.func9, Try.ntmps9
  go_wp2
  go_ret
  exact ⟨none, 0, rfl, Below.refl _ _, .inl rfl⟩

theorem cloneInts_zero (x : Addr) (c : Nat) (V : Nat → Value) (w : World) : Calls Try.prog 9 #[.slice (some x) 0 c] w (CRes w 0 V) := by
  have heq := fun w => Lib.run_eql_slice_nil (P := Try.prog) w 28 3 (some x) 0 c 0 0 Try.underlying28
  have hmk : ∀ w, (Instr.makeSlice 28 (.int .i64 0) (.int .i64 0)).run Try.prog w = .ok (.slice (some ⟨w.heap.size, 0, none⟩) 0 0) (w.alloc (.cells (madeCells #[.int .i64 0] 0) 3)) :=
    fun w => run_make_row' (P := Try.prog) 28 3 (.int .i64 0) 8 Try.underlying28 Try.info3' rfl .i64 .i64 0 (by omega) (by omega) w
  have hcp := fun w d => run_copy_none (P := Try.prog) w 28 28 3 3 d (some x) 0 0 0 c Try.underlying28 Try.size3 rfl
  go_enter Try.func9, Try.ntmps9
  go_wp2
  go_ret
  exact ⟨_, 0, rfl, (Below.refl _ _).alloc (Nat.le_refl _) _, .inl rfl⟩

theorem cloneInts_some (b o n c : Nat) (I : Nat → Int) (w : World) (hn : n ≤ 65536) (hb : b < w.heap.size) (hc : ∀ i, i < n → w.cell? ⟨b, o + i, none⟩ = some (.int .i64 (I i))) :
    Calls Try.prog 9 #[.slice (some ⟨b, o, none⟩) n c] w (CRes w n (fun i => .int .i64 (I i))) := by
  have heq := fun w => Lib.run_eql_slice_nil (P := Try.prog) w 28 3 (some ⟨b, o, none⟩) n c 0 0 Try.underlying28
  have hmk := run_make_row' (P := Try.prog) 28 3 (.int .i64 0) 8 Try.underlying28 Try.info3' rfl .i64 .i64 n (by omega) (by omega)
  obtain ⟨w1, hcp, b1, r1⟩ := copy_made (P := Try.prog) w 28 3 3 (.int .i64 0) n c b o (fun i => .int .i64 (I i)) Try.underlying28 Try.size3 hb hc (fun _ _ => rfl)
  clear hc
  go_enter Try.func9, Try.ntmps9
  go_wp2
  go_ret
  exact ⟨_, n, rfl, b1, .inr ⟨_, 0, rfl, r1.lt, fun i hi => by rw [Nat.zero_add]; exact r1.cell hi⟩⟩

theorem cloneInts_calls (a : Option Addr) (n c : Nat) (I : Nat → Int) (w : World) (hn : n ≤ 65536) (hnil : a = none → n = 0 ∧ c = 0) (h : RowAt w a n (fun i => .int .i64 (I i))) :
    Calls Try.prog 9 #[.slice a n c] w (CRes w n (fun i => .int .i64 (I i))) := by
  cases a with
  | none =>
    obtain ⟨rfl, rfl⟩ := hnil rfl
    exact cloneInts_nil _ w
  | some x =>
    rcases h with rfl | ⟨b, o, hx, hb, hc⟩
    · exact cloneInts_zero x c _ w
    · cases hx
      exact cloneInts_some b o n c I w hn hb hc

theorem cloneBools_nil (V : Nat → Value) (w : World) : Calls Try.prog 10 #[.slice none 0 0] w (CRes w 0 V) := by
  have heq := fun w => Lib.run_eql_slice_nil (P := Try.prog) w 29 4 none 0 0 0 0 Try.underlying29
  go_enter Try.func10, Try.ntmps10
  go_wp2
  go_ret
  exact ⟨none, 0, rfl, Below.refl _ _, .inl rfl⟩

theorem cloneBools_zero (x : Addr) (c : Nat) (V : Nat → Value) (w : World) : Calls Try.prog 10 #[.slice (some x) 0 c] w (CRes w 0 V) := by
  have heq := fun w => Lib.run_eql_slice_nil (P := Try.prog) w 29 4 (some x) 0 c 0 0 Try.underlying29
  have hmk : ∀ w, (Instr.makeSlice 29 (.int .i64 0) (.int .i64 0)).run Try.prog w = .ok (.slice (some ⟨w.heap.size, 0, none⟩) 0 0) (w.alloc (.cells (madeCells #[.bool false] 0) 4)) :=
    fun w => run_make_row' (P := Try.prog) 29 4 (.bool false) 1 Try.underlying29 Try.info4 rfl .i64 .i64 0 (by omega) (by omega) w
  have hcp := fun w d => run_copy_none (P := Try.prog) w 29 29 3 4 d (some x) 0 0 0 c Try.underlying29 Try.size4 rfl
  go_enter Try.func10, Try.ntmps10
  go_wp2
  go_ret
  exact ⟨_, 0, rfl, (Below.refl _ _).alloc (Nat.le_refl _) _, .inl rfl⟩

theorem cloneBools_some (b o n c : Nat) (I : Nat → Bool) (w : World) (hn : n ≤ 65536) (hb : b < w.heap.size) (hc : ∀ i, i < n → w.cell? ⟨b, o + i, none⟩ = some (.bool (I i))) :
    Calls Try.prog 10 #[.slice (some ⟨b, o, none⟩) n c] w (CRes w n (fun i => .bool (I i))) := by
  have heq := fun w => Lib.run_eql_slice_nil (P := Try.prog) w 29 4 (some ⟨b, o, none⟩) n c 0 0 Try.underlying29
  have hmk := run_make_row' (P := Try.prog) 29 4 (.bool false) 1 Try.underlying29 Try.info4 rfl .i64 .i64 n (by omega) (by omega)
  obtain ⟨w1, hcp, b1, r1⟩ := copy_made (P := Try.prog) w 29 3 4 (.bool false) n c b o (fun i => .bool (I i)) Try.underlying29 Try.size4 hb hc (fun _ _ => rfl)
  clear hc
  go_enter Try.func10, Try.ntmps10
  go_wp2
  go_ret
  exact ⟨_, n, rfl, b1, .inr ⟨_, 0, rfl, r1.lt, fun i hi => by rw [Nat.zero_add]; exact r1.cell hi⟩⟩

theorem cloneBools_calls (a : Option Addr) (n c : Nat) (I : Nat → Bool) (w : World) (hn : n ≤ 65536) (hnil : a = none → n = 0 ∧ c = 0) (h : RowAt w a n (fun i => .bool (I i))) :
    Calls Try.prog 10 #[.slice a n c] w (CRes w n (fun i => .bool (I i))) := by
  cases a with
  | none =>
    obtain ⟨rfl, rfl⟩ := hnil rfl
    exact cloneBools_nil _ w
  | some x =>
    rcases h with rfl | ⟨b, o, hx, hb, hc⟩
    · exact cloneBools_zero x c _ w
    · cases hx
      exact cloneBools_some b o n c I w hn hb hc

/-! ### the guard -/
theorem zzBytes_yes (n : Int) (a1 a2 : Option Addr) (n1 c1 n2 c2 : Nat) (w : World) (h : n1 + n2 ≤ 1048576) :
    Calls Try.prog 8 #[.int .i64 n, .slice a1 n1 c1, .slice a2 n2 c2] w fun e w' => e = .returned (.bool true) ∧ w' = w := by
  go_enter Try.func8, Try.ntmps8
  go_wp2
  go_ret
  exact ⟨rfl, rfl⟩

theorem zzBytes_no (n : Int) (a1 a2 : Option Addr) (n1 c1 n2 c2 : Nat) (w : World) (h1 : n1 ≤ maxLen) (h2 : n2 ≤ maxLen) (h : 1048576 < n1 + n2) :
    Calls Try.prog 8 #[.int .i64 n, .slice a1 n1 c1, .slice a2 n2 c2] w fun e w' => e = .returned (.bool false) ∧ w' = w := by
  unfold maxLen at h1 h2
  go_enter Try.func8, Try.ntmps8
  go_wp2
  all_goals (go_ret; exact ⟨rfl, rfl⟩)

end Go.Proofs.Qxb6617119a
