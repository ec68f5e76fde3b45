import Derived.Test.Qxb6617882aLst
namespace Go.Proofs.Qxb6617882a
open Go.RowKit
set_option linter.unusedVariables false

theorem Try.info32 : (Try.prog.info? 32).map (fun i => (i.zero, i.size, i.bytes)) = some (some (.pointer none), 1, 8) := by kernel_rfl

def upO (k : Nat) (f : Nat → Option Nat) : Nat → Option Nat := fun j => if j < k then f j else none
theorem upO_step (k : Nat) (f : Nat → Option Nat) : ∀ j, upd (upO k f) k (f k) j = upO (k + 1) f j := fun j => by
  unfold upd upO
  by_cases e : j = k
  · subst e; rw [if_pos rfl, if_pos (by omega)]
  · rw [if_neg e]
    by_cases e2 : j < k
    · rw [if_pos e2, if_pos (by omega)]
    · rw [if_neg e2, if_neg (by omega)]

/-- what zzBuildCopies answers -/
def BRes (n : Nat) (w : World) (e : Ending) (w' : World) : Prop :=
  e = .returned (.tuple #[.pointer (some ⟨w.heap.size, 0, none⟩), .slice (some ⟨w.heap.size + 1, 0, none⟩) n n]) ∧ LS w w' n n (if n = 0 then none else some 0) (if n = 0 then none else some (n - 1)) oF (nF n)

set_option maxHeartbeats 2000000 in
theorem build_calls (n : Nat) (w : World) (hn : n ≤ 65536) : Calls Try.prog 7 #[.int .i64 n] w (BRes n w) := by
  have hmk := run_make_row' (P := Try.prog) 28 32 (.pointer none) 8 Try.underlying28 Try.info32 rfl .i64 .i64 n (by omega) (by omega)
  go_enter Try.func7, Try.ntmps7
  go_wp2_with fail
  refine (newRoom_calls w).mono ?_
  rintro e w' ⟨rfl, hw⟩
  subst hw
  go_wp2_with fail
  go_loopw [6] (fun i wr => ∃ k : Nat, k ≤ n ∧ i = .int .i64 k ∧ LS w wr n k none none (fun _ => none) (fun _ => none) ∧ Hid (wr.heap.size = w.heap.size + 2 + k)) (fun i _ => n - (intOf i).toNat)
  case atStart => exact ⟨0, Nat.zero_le _, rfl, LS.start w n _ _, by simp [Hid]⟩
  case round =>
    obtain ⟨k, hk, rfl, hL, hs⟩ := hrel
    by_cases hlt : k < n
    · have g := hL.nodes.cell hlt
      have z := hL.nodes.frozen k
      have hlt1 : w.heap.size + 1 < wr.heap.size := by rw [hs.out]; omega
      have hm : LS w ((wr.setCell ⟨w.heap.size + 1, k, none⟩ (.pointer (some ⟨wr.heap.size, 0, none⟩))).alloc (.cells zp 47)) n (k + 1) none none (fun _ => none) (fun _ => none) := by
        have := hL.more hs.out
        rw [← hs.out] at this
        exact this
      have hz : Hid (((wr.setCell ⟨w.heap.size + 1, k, none⟩ (.pointer (some ⟨wr.heap.size, 0, none⟩))).alloc (.cells zp 47)).heap.size = w.heap.size + 2 + (k + 1)) := by
        have := hs.out
        simp [Hid, World.setCell]
        omega
      go_wp2_with fail
      refine (newPlace_calls wr).mono ?_
      rintro e w' ⟨rfl, hw⟩
      subst hw
      go_wp2_with fail
      go_roundw
      case rel => exact ⟨k + 1, by omega, by go_num, hm, hz⟩
      case measure => simp [intOf]; omega
    · obtain rfl : n = k := by omega
      have hL2 : LS w wr n n none none (upO 0 oF) (upO 0 (nF n)) := hL.congr (fun i _ => by simp [upO]) (fun i _ => by simp [upO])
      clear hL hs hmk
      go_wp2_with fail
      go_loopw [7] (fun i w2 => ∃ k : Nat, k ≤ n ∧ i = .int .i64 k ∧ LS w w2 n n none none (upO k oF) (upO k (nF n))) (fun i _ => n - (intOf i).toNat)
      case atStart => exact ⟨0, Nat.zero_le _, rfl, hL2⟩
      case round =>
        clear hL2
        obtain ⟨k, hk, rfl, hL⟩ := hrel
        by_cases hlt : k < n
        · have g := hL.cnode hlt hlt
          have co := hL.co hlt
          have cn := hL.cn hlt
          have f1 := (hL.plc k hlt).frozen 20
          have f2 := (hL.plc k hlt).frozen 21
          have hset : ∀ X Y : Option Addr, X = PA w.heap.size (oF k) → Y = PA w.heap.size (nF n k) → LS w ((wr.setCell ⟨w.heap.size + 2 + k, 20, none⟩ (.pointer X)).setCell ⟨w.heap.size + 2 + k, 21, none⟩ (.pointer Y)) n n none none (upO (k + 1) oF) (upO (k + 1) (nF n)) :=
            fun X Y hX hY => by
              rw [hX, hY]
              exact ((hL.setO hlt (oF k)).setN hlt (nF n k)).congr (fun i _ => upO_step k oF i) (fun i _ => upO_step k (nF n) i)
          have HS : Hid _ := hset
          clear hset
          by_cases h0 : 0 < k
          · have g0 := hL.cnode (show k - 1 < n by omega) (show k - 1 < n by omega)
            have e1 : some (⟨w.heap.size + 2 + (k - 1), 0, none⟩ : Addr) = PA w.heap.size (oF k) := by unfold oF; rw [if_neg (by omega)]; rfl
            have E1 : Hid _ := e1
            clear e1
            by_cases h1 : k + 1 < n
            · have g1 := hL.cnode h1 h1
              have hs := HS.out _ _ E1.out (show some (⟨w.heap.size + 2 + (k + 1), 0, none⟩ : Addr) = PA w.heap.size (nF n k) from by unfold nF; rw [if_pos h1]; rfl)
              clear HS E1
              go_wp2_with fail
              refine (setLinks_calls (w.heap.size + 2 + k) _ _ _ _ wr co cn f1 f2).mono ?_
              rintro e w' ⟨rfl, hw⟩
              subst hw
              go_wp2_with fail
              go_roundw
              case rel => exact ⟨k + 1, by omega, by go_num, hs⟩
              case measure => simp [intOf]; omega
            · have hs := HS.out _ _ E1.out (show (none : Option Addr) = PA w.heap.size (nF n k) from by unfold nF; rw [if_neg h1]; rfl)
              clear HS E1
              go_wp2_with fail
              refine (setLinks_calls (w.heap.size + 2 + k) _ _ _ _ wr co cn f1 f2).mono ?_
              rintro e w' ⟨rfl, hw⟩
              subst hw
              go_wp2_with fail
              go_roundw
              case rel => exact ⟨k + 1, by omega, by go_num, hs⟩
              case measure => simp [intOf]; omega
          · have e1 : (none : Option Addr) = PA w.heap.size (oF k) := by unfold oF; rw [if_pos (by omega)]; rfl
            have E1 : Hid _ := e1
            clear e1
            by_cases h1 : k + 1 < n
            · have g1 := hL.cnode h1 h1
              have hs := HS.out _ _ E1.out (show some (⟨w.heap.size + 2 + (k + 1), 0, none⟩ : Addr) = PA w.heap.size (nF n k) from by unfold nF; rw [if_pos h1]; rfl)
              clear HS E1
              go_wp2_with fail
              refine (setLinks_calls (w.heap.size + 2 + k) _ _ _ _ wr co cn f1 f2).mono ?_
              rintro e w' ⟨rfl, hw⟩
              subst hw
              go_wp2_with fail
              go_roundw
              case rel => exact ⟨k + 1, by omega, by go_num, hs⟩
              case measure => simp [intOf]; omega
            · have hs := HS.out _ _ E1.out (show (none : Option Addr) = PA w.heap.size (nF n k) from by unfold nF; rw [if_neg h1]; rfl)
              clear HS E1
              go_wp2_with fail
              refine (setLinks_calls (w.heap.size + 2 + k) _ _ _ _ wr co cn f1 f2).mono ?_
              rintro e w' ⟨rfl, hw⟩
              subst hw
              go_wp2_with fail
              go_roundw
              case rel => exact ⟨k + 1, by omega, by go_num, hs⟩
              case measure => simp [intOf]; omega
        · obtain rfl : n = k := by omega
          have hL3 : LS w wr n n none none oF (nF n) := hL.congr (fun i hi => by unfold upO; rw [if_pos hi]) (fun i hi => by unfold upO; rw [if_pos hi])
          clear hL
          by_cases h0 : 0 < n
          · have g0 := hL3.cnode h0 h0
            obtain ⟨m, hm⟩ : ∃ m, m = n - 1 := ⟨_, rfl⟩
            have hmn : m < n := by omega
            have hwr : IntKind.i64.wrap ((n : Int) - 1) = (m : Int) := by rw [IntKind.wrap_i64]; omega
            have hmi : (m : Int) < (n : Int) := by omega
            have g1 := hL3.cnode hmn hmn
            have c2 := hL3.c2
            have c3 := hL3.c3
            have f2 := hL3.room.frozen 2
            have f3 := hL3.room.frozen 3
            have hend : Hid (LS w (((wr.setCell ⟨w.heap.size, 2, none⟩ (.pointer (some ⟨w.heap.size + 2, 0, none⟩))).setCell ⟨w.heap.size, 3, none⟩ (.pointer (some ⟨w.heap.size + 2 + m, 0, none⟩))).drew) n n (if n = 0 then none else some 0) (if n = 0 then none else some (n - 1)) oF (nF n)) := by
              rw [if_neg (by omega), if_neg (by omega), ← hm]
              exact ((hL3.setH (some 0)).setT (some m)).drew
            have hC : Hid (Calls Try.prog 15 #[.pointer (some ⟨w.heap.size, 0, none⟩), .pointer (some ⟨w.heap.size + 2, 0, none⟩), .pointer (some ⟨w.heap.size + 2 + m, 0, none⟩)] wr.drew fun e w' => e = .returned (.tuple #[]) ∧
                w' = (wr.drew.setCell ⟨w.heap.size, 2, none⟩ (.pointer (some ⟨w.heap.size + 2, 0, none⟩))).setCell ⟨w.heap.size, 3, none⟩ (.pointer (some ⟨w.heap.size + 2 + m, 0, none⟩))) :=
              setEnds_calls w.heap.size _ _ _ _ wr.drew c2 c3 f2 f3
            clear hL3 hm c2 c3 f2 f3
            go_wp2_with fail
            go_region_with (go_at_call 15; refine hC.out.mono ?_; rintro e w' ⟨rfl, rfl⟩)
            all_goals
              go_wp2_with fail
              go_ret2
              exact ⟨rfl, hend.out⟩
          · go_wp2_with fail
            go_ret2
            refine ⟨rfl, ?_⟩
            rw [if_pos (by omega), if_pos (by omega)]
            exact hL3

end Go.Proofs.Qxb6617882a
