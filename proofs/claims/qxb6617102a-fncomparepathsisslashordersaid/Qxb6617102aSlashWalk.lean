import Derived.Test.Qxb6617102aCmp2
import Derived.Test.Qxb6617102aSlashPlain
namespace Go.Proofs.Qxb6617102a
open Go.RowKit
set_option linter.unusedVariables false

theorem sb_in (p : ByteArray) (k : Nat) (h : k < p.size) : (p[k].toNat : Int) = Plain.sb p.data.toList k := by
  unfold Plain.sb
  rw [List.getElem?_append_left (by simpa using h), List.getElem?_eq_getElem (by simpa using h), ← byte_get p k h]
  rfl
theorem sb_out (p : ByteArray) : Plain.sb p.data.toList p.size = 47 := by
  unfold Plain.sb
  rw [List.getElem?_append_right (by simp)]
  simp

theorem slashByte_calls (p : ByteArray) (k : Nat) (w : World) (hp : p.size ≤ 1048576) (hk : k ≤ p.size) :
    Calls Try.prog 25 #[.string p, .int .i64 k] w fun e w' => e = .returned (.int .u8 (Plain.sb p.data.toList k)) ∧ w' = w := by
  by_cases h : k < p.size
  · go_enter Try.func25, Try.ntmps25
    go_wp2
    go_ret
    exact ⟨ret_i (sb_in p k h), rfl⟩
  · obtain rfl : k = p.size := by omega
    go_enter Try.func25, Try.ntmps25
    go_wp2
    go_ret
    exact ⟨ret_i (sb_out p).symm, rfl⟩

theorem slashOrder_le (p q : ByteArray) (w : World) (hp : p.size ≤ 1048576) (hq : q.size ≤ 1048576) (hle : ¬ q.size < p.size) :
    Calls Try.prog 19 #[.string p, .string q] w fun e w' => e = .returned (.int .i64 (Plain.cp p.data.toList q.data.toList)) ∧ w' = w := by
  go_enter Try.func19, Try.ntmps19
  go_wp2
  go_loop [8] (fun i => ∃ k : Nat, k ≤ p.size + 1 ∧ i = .int .i64 k ∧ Hid (Plain.cp p.data.toList q.data.toList = Plain.so p.data.toList q.data.toList k)) (fun i => p.size + 1 - (intOf i).toNat)
  case atStart => exact ⟨0, Nat.zero_le _, rfl, rfl⟩
  case round =>
    obtain ⟨k, hk, rfl, H⟩ := hrel
    by_cases hkp : k < p.size + 1
    · have b1 := Plain.sb_bd p.data.toList k
      have b2 := Plain.sb_bd q.data.toList k
      go_wp2_with fail
      refine (slashByte_calls p k _ hp (by omega)).mono ?_
      rintro e w' ⟨rfl, rfl⟩
      go_wp2_with fail
      refine (slashByte_calls q k _ hq (by omega)).mono ?_
      rintro e w' ⟨rfl, rfl⟩
      go_wp2_with fail
      · go_ret
        exact ⟨ret_i (by rw [H.out]; exact (Plain.so_lt _ _ k (by simp; omega) (by simp; omega) ‹_›).symm), rfl⟩
      · go_ret
        exact ⟨ret_i (by rw [H.out]; exact (Plain.so_gt _ _ k (by simp; omega) (by simp; omega) ‹_›).symm), rfl⟩
      · go_round
        case rel => exact ⟨k + 1, by omega, by go_num, (show Hid _ from by rw [Hid, H.out]; exact Plain.so_eq _ _ k (by simp; omega) (by simp; omega) ‹_› ‹_›)⟩
        case measure => simp [intOf]; omega
    · obtain rfl : k = p.size + 1 := by omega
      by_cases hl : p.size < q.size
      · go_wp2
        go_ret
        exact ⟨ret_i (by rw [H.out, ← len_data p]; exact (Plain.so_end_lt _ _ (by simpa using hl)).symm), rfl⟩
      · go_wp2
        go_ret
        exact ⟨ret_i (by rw [H.out, ← len_data p]; exact (Plain.so_end_eq _ _ (by simp; omega)).symm), rfl⟩

theorem slashOrder_gt (p q : ByteArray) (w : World) (hp : p.size ≤ 1048576) (hq : q.size ≤ 1048576) (hle : q.size < p.size) :
    Calls Try.prog 19 #[.string p, .string q] w fun e w' => e = .returned (.int .i64 (Plain.cp p.data.toList q.data.toList)) ∧ w' = w := by
  go_enter Try.func19, Try.ntmps19
  go_wp2
  go_loop [8] (fun i => ∃ k : Nat, k ≤ q.size + 1 ∧ i = .int .i64 k ∧ Hid (Plain.cp p.data.toList q.data.toList = Plain.so p.data.toList q.data.toList k)) (fun i => q.size + 1 - (intOf i).toNat)
  case atStart => exact ⟨0, Nat.zero_le _, rfl, rfl⟩
  case round =>
    obtain ⟨k, hk, rfl, H⟩ := hrel
    by_cases hkp : k < q.size + 1
    · have b1 := Plain.sb_bd p.data.toList k
      have b2 := Plain.sb_bd q.data.toList k
      go_wp2_with fail
      refine (slashByte_calls p k _ hp (by omega)).mono ?_
      rintro e w' ⟨rfl, rfl⟩
      go_wp2_with fail
      refine (slashByte_calls q k _ hq (by omega)).mono ?_
      rintro e w' ⟨rfl, rfl⟩
      go_wp2_with fail
      · go_ret
        exact ⟨ret_i (by rw [H.out]; exact (Plain.so_lt _ _ k (by simp; omega) (by simp; omega) ‹_›).symm), rfl⟩
      · go_ret
        exact ⟨ret_i (by rw [H.out]; exact (Plain.so_gt _ _ k (by simp; omega) (by simp; omega) ‹_›).symm), rfl⟩
      · go_round
        case rel => exact ⟨k + 1, by omega, by go_num, (show Hid _ from by rw [Hid, H.out]; exact Plain.so_eq _ _ k (by simp; omega) (by simp; omega) ‹_› ‹_›)⟩
        case measure => simp [intOf]; omega
    · obtain rfl : k = q.size + 1 := by omega
      go_wp2
      go_ret
      exact ⟨ret_i (by rw [H.out, ← len_data q]; exact (Plain.so_end_gt _ _ (by simpa using hle)).symm), rfl⟩

theorem slashOrder_calls (p q : ByteArray) (w : World) (hp : p.size ≤ 1048576) (hq : q.size ≤ 1048576) :
    Calls Try.prog 19 #[.string p, .string q] w fun e w' => e = .returned (.int .i64 (Plain.cp p.data.toList q.data.toList)) ∧ w' = w := by
  by_cases h : p.size ≤ q.size
  · exact slashOrder_le p q w hp hq (by omega)
  · exact slashOrder_gt p q w hp hq (by omega)

theorem slash_core (a0 a1 : ByteArray) (x : Int) (hx : -1 ≤ x ∧ x ≤ 1) (hz : a0.size + a1.size ≤ 1048576)
    (h0 : a0.size ≤ 524288) (h1 : a1.size ≤ 524288)
    (c1 : Hid (∀ w, Calls Try.prog 18 #[.string a0, .string a1] w fun e w' => e = .returned (.int .i64 x) ∧ ∃ n, w' = w.drewN n))
    (c2 : Hid (∀ w, Calls Try.prog 18 #[.string a1, .string a0] w fun e w' => e = .returned (.int .i64 (-x)) ∧ ∃ n, w' = w.drewN n))
    (c3 : Hid (∀ w, Calls Try.prog 19 #[.string a0, .string a1] w fun e w' => e = .returned (.int .i64 x) ∧ w' = w)) (w : World) :
    Calls Try.prog 6 #[.string a0, .string a1] w fun e w' => e = .returned (.bool true) ∧ Grown w w' := by
  go_enter Try.func6, Try.ntmps6
  go_wp2_with (go_at_call 17; refine (zzBytes2_yes _ _ _ hz).mono ?_; rintro e w' ⟨rfl, rfl⟩)
  refine (c1.out _).mono ?_
  rintro e w' ⟨rfl, n1, rfl⟩
  go_wp2_with fail
  refine (c2.out _).mono ?_
  rintro e w' ⟨rfl, n2, rfl⟩
  go_wp2_with fail
  refine (c3.out _).mono ?_
  rintro e w' ⟨rfl, rfl⟩
  go_wp2_with fail
  go_ret
  exact ⟨rfl, Grown.refl _⟩

theorem slash_walk (a0 a1 : ByteArray) (w0 : a0.size ≤ maxLen) (w1 : a1.size ≤ maxLen) (w : World) :
    Calls Try.prog 6 #[.string a0, .string a1] w fun e w' => e = .returned (.bool true) ∧ Grown w w' := by
  by_cases hz : a0.size + a1.size ≤ 1048576
  · clear w0 w1
    by_cases h0 : a0.size ≤ 524288
    · by_cases h1 : a1.size ≤ 524288
      · refine slash_core a0 a1 (Plain.cp a0.data.toList a1.data.toList) ?_ hz h0 h1 (fun w => ?_) (fun w => ?_) (fun w => ?_) w
        · have := Plain.cb_range (a0.data.toList ++ [47]) (a1.data.toList ++ [47])
          unfold Plain.cp
          omega
        · exact zzCompare_calls a0 a1 w (by omega) (by omega)
        · have := zzCompare_calls a1 a0 w (by omega) (by omega)
          rw [Plain.cp_neg] at this
          exact this
        · exact slashOrder_calls a0 a1 w (by omega) (by omega)
      · go_enter Try.func6, Try.ntmps6
        go_wp2_with (go_at_call 17; refine (zzBytes2_yes _ _ _ hz).mono ?_; rintro e w' ⟨rfl, rfl⟩)
        go_ret
        exact ⟨rfl, Grown.refl _⟩
    · go_enter Try.func6, Try.ntmps6
      go_wp2_with (go_at_call 17; refine (zzBytes2_yes _ _ _ hz).mono ?_; rintro e w' ⟨rfl, rfl⟩)
      go_ret
      exact ⟨rfl, Grown.refl _⟩
  · have hz' : 1048576 < a0.size + a1.size := by omega
    go_enter Try.func6, Try.ntmps6
    go_wp2_with (go_at_call 17; refine (zzBytes2_no _ _ _ w0 w1 hz').mono ?_; rintro e w' ⟨rfl, rfl⟩)
    go_ret
    exact ⟨rfl, Grown.refl _⟩

end Go.Proofs.Qxb6617102a
