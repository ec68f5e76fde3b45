import Derived.Test.Qxb6617882aBuild
import Derived.LaidEql
namespace Go.Proofs.Qxb6617882a
open Go.RowKit
set_option linter.unusedVariables false

theorem PA_none (B : Nat) : PA B none = none := rfl
theorem PA_some (B i : Nat) : PA B (some i) = some ⟨B + 2 + i, 0, none⟩ := rfl

theorem Try.size47 : (Try.prog.info? 47).map (·.size) = some 22 := by kernel_rfl

/-- 'p != p' -/
theorem run_neq_ptr_same (a : Addr) (w : World) : (binOp .neq 32 (.pointer (some a)) (.pointer (some a))).run Try.prog w = .ok (.bool false) w := by
  obtain ⟨i, hi, _⟩ := Option.map_eq_some_iff.1 Try.size47
  have h : ∀ d, (Op.equalIn (d + 1) 32 (.pointer (some a)) (.pointer (some a))).run Try.prog w = .ok true w := fun d => by
    simp [Op.equalIn, run_underlying Try.underlying32, sizeOf, typeInfo, hi, run_sameAddr_same]
  simp only [binOp]
  simp [Op.equal, Op.maxDepth, h 9999]

set_option maxHeartbeats 1000000 in
theorem match_calls {w wr : World} {n : Nat} {hd tl : Option Nat} {o nw : Nat → Option Nat} {ord : List Nat} (h : LS w wr n n hd tl o nw) (g : Good n hd tl o nw ord) (bo cap len : Nat) (hl : ord.length = len) (hn : n ≤ 65536) (hlen : len ≤ 65536)
    (hc : ∀ j x, ord[j]? = some x → wr.cell? ⟨bo, j, none⟩ = some (.int .i64 (x : Nat))) :
    Calls Try.prog 9 #[.pointer (some ⟨w.heap.size, 0, none⟩), .slice (some ⟨w.heap.size + 1, 0, none⟩) n n, .slice (some ⟨bo, 0, none⟩) len cap] wr fun e w' => e = .returned (.bool true) ∧ w' = wr := by
  have HC : Hid (∀ (j x : Nat), ord[j]? = some x → wr.cell? ⟨bo, j, none⟩ = some (.int .i64 (x : Nat))) := hc
  clear hc
  have hne := run_neq_ptr_same
  go_enter Try.func9, Try.ntmps9
  go_wp2_with fail
  refine (oldest_calls w.heap.size _ wr h.c2).mono ?_
  rintro e w' ⟨rfl, hw⟩
  subst w'
  go_wp2_with fail
  go_loop [7, 8] (fun q i => ∃ j : Nat, j ≤ len ∧ i = .int .i64 j ∧ q = .pointer (PA w.heap.size (ord[j]?))) (fun _ i => len - (intOf i).toNat)
  case atStart => exact ⟨0, Nat.zero_le _, rfl, by rw [g.hd]⟩
  case round =>
    obtain ⟨j, hj, rfl, rfl⟩ := hrel
    by_cases hlt : j < len
    · obtain ⟨x, hx⟩ : ∃ x, ord[j]? = some x := ⟨ord[j]'(by omega), List.getElem?_eq_getElem (by omega)⟩
      have hxn := g.lt j x hx
      have c1 := HC.out j x hx
      have c2 := h.cnode hxn hxn
      have c3 := h.cn hxn
      rw [g.new j x hx] at c3
      rw [hx, PA_some]
      clear hx
      go_wp2_with fail
      refine (newer_calls (w.heap.size + 2 + x) _ wr c3).mono ?_
      rintro e w' ⟨rfl, hw⟩
      subst w'
      go_wp2_with fail
      go_round
      case rel => exact ⟨j + 1, by omega, by go_num, rfl⟩
      case measure => simp [intOf]; omega
    · have hx : ord[j]? = none := List.getElem?_eq_none (by omega)
      rw [hx, PA_none]
      clear hx
      go_wp2_with fail
      refine (newest_calls w.heap.size _ wr h.c3).mono ?_
      rintro e w' ⟨rfl, hw⟩
      subst w'
      go_wp2_with fail
      go_loop [7, 9] (fun q i => ∃ (m : Nat) (z : Int), m ≤ len ∧ i = .int .i64 z ∧ Hid (z = (m : Int) - 1) ∧ q = .pointer (PA w.heap.size (if m = 0 then none else ord[m - 1]?))) (fun _ i => (intOf i + 1).toNat)
      case atStart => exact ⟨len, _, Nat.le_refl _, rfl, rfl, by rw [g.tl, hl]⟩
      case round =>
        obtain ⟨m, z, hm, rfl, hz, rfl⟩ := hrel
        by_cases h0 : m = 0
        · obtain rfl : z = -1 := by have := hz.out; omega
          rw [if_pos h0, PA_none]
          go_wp2_with fail
          go_ret
          exact ⟨rfl, rfl⟩
        · obtain ⟨k, rfl⟩ : ∃ k, m = k + 1 := ⟨m - 1, by omega⟩
          obtain rfl : z = (k : Int) := by have := hz.out; omega
          obtain ⟨x, hx⟩ : ∃ x, ord[k]? = some x := ⟨ord[k]'(by omega), List.getElem?_eq_getElem (by omega)⟩
          have hxn := g.lt k x hx
          have c1 := HC.out k x hx
          have c2 := h.cnode hxn hxn
          have c3 := h.co hxn
          rw [g.old k x hx] at c3
          rw [if_neg h0, show k + 1 - 1 = k from rfl, hx, PA_some]
          clear hx
          go_wp2_with fail
          refine (older_calls (w.heap.size + 2 + x) _ wr c3).mono ?_
          rintro e w' ⟨rfl, hw⟩
          subst w'
          go_wp2_with fail
          go_round
          case rel => exact ⟨k, _, by omega, rfl, rfl, rfl⟩
          case measure => simp [intOf]

end Go.Proofs.Qxb6617882a
