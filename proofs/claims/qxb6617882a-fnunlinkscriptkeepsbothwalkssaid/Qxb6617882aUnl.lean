import Derived.Test.Qxb6617882aMatch
import Derived.Laws.CopyOwn
import Derived.Laws.AppendOwn
namespace Go.Proofs.Qxb6617882a
open Go.RowKit
set_option linter.unusedVariables false

theorem Try.info3 : (Try.prog.info? 3).map (fun i => (i.zero, i.size, i.bytes)) = some (some (.int .i64 0), 1, 8) := by kernel_rfl

/-- 'make([]int, 0, n)' -/
theorem run_make0 (n : Nat) (hn : n ≤ 65536) (w : World) :
    (Instr.makeSlice 33 (.int .i64 0) (.int .i64 (n : Int))).run Try.prog w = .ok (.slice (some ⟨w.heap.size, 0, none⟩) 0 n) (w.alloc (.cells (madeCells #[.int .i64 0] n) 3)) := by
  obtain ⟨i, hi, hzz⟩ := Option.map_eq_some_iff.1 Try.info3
  simp only [Prod.mk.injEq] at hzz
  obtain ⟨hz, hs, hb⟩ := hzz
  have hr := run_make (P := Try.prog) w 33 3 i _ Try.underlying33 hi hz .i64 .i64 0 n (by omega) (by omega) (by rw [hb]; omega) (by omega)
  simp only [Int.toNat_natCast, hs, Nat.mul_one, Int.toNat_zero] at hr
  exact hr

/-- element j of 0 .. n-1 without k; how many of them are below i -/
def ordF (k j : Nat) : Nat := if j < k then j else j + 1
def cntI (k i : Nat) : Nat := if i ≤ k then i else i - 1

theorem ord_get (n k j x : Nat) (hk : k < n) (h : ((List.range n).eraseIdx k)[j]? = some x) : j < n - 1 ∧ x = ordF k j := by
  have hlt := lt_of_get h
  rw [List.length_eraseIdx_of_lt (by simpa using hk), List.length_range] at hlt
  refine ⟨hlt, ?_⟩
  rw [List.getElem?_eraseIdx] at h
  unfold ordF
  by_cases e : j < k
  · rw [if_pos e, List.getElem?_range (by omega)] at h
    rw [if_pos e]
    exact (Option.some.inj h).symm
  · rw [if_neg e, List.getElem?_range (by omega)] at h
    rw [if_neg e]
    exact (Option.some.inj h).symm

/-- what the loop that gathers the others keeps -/
structure Ga (bo : Nat) (w2 w4 : World) (n k i : Nat) : Prop where
  below : Below bo w2 w4
  row : ∃ f, w4.rowIs bo 3 n f ∧ ∀ j, j < cntI k i → f j = .int .i64 (ordF k j : Nat)

theorem Ga.start (w2 : World) (n k : Nat) : Ga w2.heap.size w2 (w2.alloc (.cells (madeCells #[.int .i64 0] n) 3)) n k 0 :=
  ⟨(Below.refl _ _).alloc (Nat.le_refl _) _, _, World.rowIs_made w2 _ n 3, fun j hj => by simp [cntI] at hj⟩

theorem Ga.skip {bo : Nat} {w2 w4 : World} {n k : Nat} (h : Ga bo w2 w4 n k k) : Ga bo w2 w4 n k (k + 1) := by
  obtain ⟨f, hf, hc⟩ := h.row
  exact ⟨h.below, f, hf, fun j hj => hc j (by
    have e1 : cntI k (k + 1) = k := by unfold cntI; rw [if_neg (by omega)]; rfl
    have e2 : cntI k k = k := by unfold cntI; rw [if_pos (Nat.le_refl _)]
    rw [e1] at hj
    rw [e2]
    exact hj)⟩

theorem Ga.step {bo : Nat} {w2 w4 W' : World} {n k i : Nat} {f : Nat → Value} (h : Ga bo w2 w4 n k i) (hc : ∀ j, j < cntI k i → f j = .int .i64 (ordF k j : Nat)) (hik : i ≠ k) (hb : Below bo w4 W')
    (hr : W'.rowIs bo 3 n (fun j => if j = cntI k i then .int .i64 (i : Int) else f j)) : Ga bo w2 W' n k (i + 1) ∧ cntI k (i + 1) = cntI k i + 1 := by
  have e : cntI k (i + 1) = cntI k i + 1 := by
    unfold cntI
    by_cases h1 : i ≤ k
    · rw [if_pos h1, if_pos (by omega)]
    · rw [if_neg h1, if_neg (by omega)]; omega
  refine ⟨⟨h.below.trans hb, _, hr, fun j hj => ?_⟩, e⟩
  rw [e] at hj
  by_cases ej : j = cntI k i
  · subst ej
    rw [if_pos rfl]
    congr 1
    unfold ordF cntI
    by_cases h1 : i ≤ k
    · rw [if_pos h1, if_pos (by omega)]
    · rw [if_neg h1, if_neg (by omega)]; omega
  · rw [if_neg ej]
    exact hc j (by omega)

theorem cntI_end {n k : Nat} (hk : k < n) : cntI k n = n - 1 := by unfold cntI; rw [if_neg (by omega)]
theorem cntI_skip (k : Nat) : cntI k (k + 1) = cntI k k := by unfold cntI; rw [if_neg (by omega), if_pos (Nat.le_refl _)]; rfl
theorem cntI_lt {n k i : Nat} (hi : i < n) : cntI k i < n := by unfold cntI; split <;> omega

set_option maxHeartbeats 1000000 in
theorem unl_core (n k : Nat) (w : World) (h1 : 1 ≤ n) (hn : n ≤ 65536) (hk : k < n) :
    Calls Try.prog 4 #[.int .i64 n, .int .i64 k] w fun e w' => e = .returned (.bool true) ∧ Below w.heap.size w w' := by
  have hmk := run_make0 n hn
  have d1 : decide ((n : Int) < 1) = false := decide_eq_false (by omega)
  have d2 : decide (65536 < (n : Int)) = false := decide_eq_false (by omega)
  have d3 : decide ((k : Int) < 0) = false := decide_eq_false (by omega)
  have d4 : decide ((n : Int) ≤ (k : Int)) = false := decide_eq_false (by omega)
  go_enter Try.func4, Try.ntmps4
  go_wp2_with fail
  refine (build_calls n w hn).mono ?_
  rintro e w1 ⟨rfl, hL⟩
  have g0 := Good.start n
  have hgk : (List.range n)[k]? = some k := List.getElem?_range hk
  have hU := unlink_calls hL g0 hgk
  have hG := g0.unlink hgk
  have HU : Hid (Calls Try.prog 8 #[.pointer (some ⟨w.heap.size, 0, none⟩), .pointer (some ⟨w.heap.size + 2 + k, 0, none⟩)] w1 fun e w' => e = .returned (.tuple #[]) ∧ LS w w' n n _ _ _ _) := hU
  have cn := hL.cnode hk hk
  clear hU hgk g0 hL
  go_wp2_with fail
  refine HU.out.mono ?_
  rintro e w2 ⟨rfl, hL2⟩
  clear HU cn
  go_wp2_with fail
  go_loopw [7, 8] (fun v i w4 => ∃ i' : Nat, i' ≤ n ∧ i = .int .i64 i' ∧ v = .slice (some ⟨w2.heap.size, 0, none⟩) (cntI k i') n ∧ Ga w2.heap.size w2 w4 n k i') (fun _ i _ => n - (intOf i).toNat)
  case atStart => exact ⟨0, Nat.zero_le _, rfl, rfl, Ga.start w2 n k⟩
  case round =>
    obtain ⟨i, hi, rfl, rfl, hga⟩ := hrel
    by_cases hlt : i < n
    · by_cases hik : i = k
      · subst hik
        have dk : ((i : Int) != (i : Int)) = false := by simp
        go_wp2_with fail
        go_roundw
        case rel => exact ⟨i + 1, by omega, by go_num, by rw [cntI_skip], hga.skip⟩
        case measure => simp [intOf]; omega
      · have dk : ((i : Int) != (k : Int)) = true := by simp; omega
        obtain ⟨f, hf, hfc⟩ := hga.row
        have hL := cntI_lt (k := k) hlt
        have hra := hf.alloc (.cells #[.int .i64 (i : Int)] 3)
        have c := hra.cell hL
        have fz := hra.frozen (cntI k i)
        have hb : Below w2.heap.size wr ((wr.alloc (.cells #[.int .i64 (i : Int)] 3)).setCell ⟨w2.heap.size, cntI k i, none⟩ (.int .i64 (i : Int))) := ((Below.refl _ _).alloc (Nat.le_of_lt hf.lt) _).setCell (p := ⟨w2.heap.size, cntI k i, none⟩) (Nat.le_refl _) _
        obtain ⟨hga', hce⟩ := hga.step hfc hik hb (hra.set (cntI k i) _)
        clear hf hfc hb hra
        go_wp2_with fail
        go_roundw
        case rel => exact ⟨i + 1, by omega, by go_num, by rw [hce], hga'⟩
        case measure => simp [intOf]; omega
    · obtain rfl : n = i := by omega
      obtain ⟨f, hf, hfc⟩ := hga.row
      have hlen : ((List.range n).eraseIdx k).length = n - 1 := by rw [List.length_eraseIdx_of_lt (by simpa using hk), List.length_range]
      have hL3 := hL2.above (hga.below.mono hL2.size)
      have hM : Hid (Calls Try.prog 9 #[.pointer (some ⟨w.heap.size, 0, none⟩), .slice (some ⟨w.heap.size + 1, 0, none⟩) n n, .slice (some ⟨w2.heap.size, 0, none⟩) (cntI k n) n] wr fun e w' => e = .returned (.bool true) ∧ w' = wr) := by
        rw [cntI_end hk]
        refine match_calls hL3 hG w2.heap.size n (n - 1) hlen hn (by omega) fun j x hx => ?_
        obtain ⟨hj, rfl⟩ := ord_get n k j x hk hx
        rw [hf.cell (by omega), hfc j (by rw [cntI_end hk]; exact hj)]
      have hB := hL3.below
      clear hf hfc hlen hL3 hga hG hL2
      go_wp2_with fail
      refine hM.out.mono ?_
      rintro e w' ⟨rfl, hw⟩
      subst hw
      go_wp2_with fail
      go_ret
      exact ⟨rfl, hB⟩

/-- func 4 answers true at every n and k -/
theorem unl_walk (n k : Int) (w : World) :
    Calls Try.prog 4 #[.int .i64 n, .int .i64 k] w fun e w' => e = .returned (.bool true) ∧ Below w.heap.size w w' := by
  by_cases h1 : n < 1
  · go_enter Try.func4, Try.ntmps4
    go_wp2_with fail
    go_ret
    exact ⟨rfl, Below.refl _ _⟩
  · by_cases h2 : 65536 < n
    · go_enter Try.func4, Try.ntmps4
      go_wp2_with fail
      go_ret
      exact ⟨rfl, Below.refl _ _⟩
    · by_cases h3 : k < 0
      · go_enter Try.func4, Try.ntmps4
        go_wp2_with fail
        go_ret
        exact ⟨rfl, Below.refl _ _⟩
      · by_cases h4 : n ≤ k
        · go_enter Try.func4, Try.ntmps4
          go_wp2_with fail
          go_ret
          exact ⟨rfl, Below.refl _ _⟩
        · obtain ⟨n', rfl⟩ := Int.eq_ofNat_of_zero_le (show 0 ≤ n by omega)
          obtain ⟨k', rfl⟩ := Int.eq_ofNat_of_zero_le (show 0 ≤ k by omega)
          exact unl_core n' k' w (by omega) (by omega) (by omega)

end Go.Proofs.Qxb6617882a
