import Derived.Test.Qxb6617102aCmp
import Derived.Test.Qxb6617102aPlain
namespace Go.Proofs.Qxb6617102a
open Go.RowKit
set_option linter.unusedVariables false
open Go.Lib (compareBytes)

theorem len_data (p : ByteArray) : p.data.toList.length = p.size := by simp

theorem cp_a (p q : ByteArray) (h : p.size < q.size) (h0 : compareBytes p.data.toList (List.take p.size q.data.toList) = 0) (hc : (q[p.size].toNat : Int) < 47) :
    Plain.cp p.data.toList q.data.toList = 1 := by
  have e := Plain.cp_lt_eq p.data.toList q.data.toList (by simpa using h) (by simpa using h0)
  rw [e, if_pos]
  rw [UInt8.lt_iff_toNat_lt]
  have : q.data.toList[p.data.toList.length]'(by simpa using h) = q[p.size] := by
    simp [ByteArray.getElem_eq_getElem_data]
  rw [this]
  exact Int.ofNat_lt.1 hc

theorem cp_b (p q : ByteArray) (h : p.size < q.size) (h0 : compareBytes p.data.toList (List.take p.size q.data.toList) = 0) (hc : 47 ≤ (q[p.size].toNat : Int)) :
    Plain.cp p.data.toList q.data.toList = -1 := by
  have e := Plain.cp_lt_eq p.data.toList q.data.toList (by simpa using h) (by simpa using h0)
  rw [e, if_neg]
  rw [UInt8.lt_iff_toNat_lt]
  have : q.data.toList[p.data.toList.length]'(by simpa using h) = q[p.size] := by
    simp [ByteArray.getElem_eq_getElem_data]
  rw [this]
  have : (47 : UInt8).toNat = 47 := rfl
  omega

theorem cp_c (p q : ByteArray) (h : p.size < q.size) (h0 : ¬ compareBytes p.data.toList (List.take p.size q.data.toList) = 0) :
    Plain.cp p.data.toList q.data.toList = compareBytes p.data.toList (List.take p.size q.data.toList) := by
  have e := Plain.cp_lt_ne p.data.toList q.data.toList (by simpa using h) (by simpa using h0)
  rw [e, len_data]

theorem cp_a' (p q : ByteArray) (h : q.size < p.size) (h0 : compareBytes (List.take q.size p.data.toList) q.data.toList = 0) (hc : (p[q.size].toNat : Int) < 47) :
    Plain.cp p.data.toList q.data.toList = -1 := by
  rw [Plain.cp_neg, cp_a q p h (by rw [Plain.cb_neg, h0]; rfl) hc]

theorem cp_b' (p q : ByteArray) (h : q.size < p.size) (h0 : compareBytes (List.take q.size p.data.toList) q.data.toList = 0) (hc : 47 ≤ (p[q.size].toNat : Int)) :
    Plain.cp p.data.toList q.data.toList = 1 := by
  rw [Plain.cp_neg, cp_b q p h (by rw [Plain.cb_neg, h0]; rfl) hc]; rfl

theorem cp_c' (p q : ByteArray) (h : q.size < p.size) (h0 : ¬ compareBytes (List.take q.size p.data.toList) q.data.toList = 0) :
    Plain.cp p.data.toList q.data.toList = compareBytes (List.take q.size p.data.toList) q.data.toList := by
  rw [Plain.cp_neg, cp_c q p h (by rw [Plain.cb_neg]; omega), Plain.cb_neg, Int.neg_neg]

theorem cp_e (p q : ByteArray) (h : p.size = q.size) :
    Plain.cp p.data.toList q.data.toList = compareBytes p.data.toList q.data.toList :=
  Plain.cp_eqlen _ _ (by simpa using h)

theorem cp_e1 (p q : ByteArray) (h : p.size = q.size) (h0 : compareBytes (List.take q.size p.data.toList) q.data.toList = 0) :
    Plain.cp p.data.toList q.data.toList = 0 := by
  rw [cp_e p q h, ← h0, List.take_of_length_le (by simp; omega)]

theorem cp_e2 (p q : ByteArray) (h : p.size = q.size) :
    Plain.cp p.data.toList q.data.toList = compareBytes (List.take q.size p.data.toList) q.data.toList := by
  rw [cp_e p q h, List.take_of_length_le (by simp; omega)]

theorem ret_i {k : IntKind} {a b : Int} (h : a = b) : Ending.returned (.int k a) = .returned (.int k b) := by rw [h]

set_option maxHeartbeats 1000000 in
theorem comparePaths_lt (p q : ByteArray) (w : World) (hp : p.size ≤ 1048576) (hq : q.size ≤ 1048576) (hlt : p.size < q.size) :
    Calls Try.prog 24 #[.string p, .string q] w fun e w' => e = .returned (.int .i64 (Plain.cp p.data.toList q.data.toList)) ∧ ∃ n, w' = w.drewN n := by
  go_enter Try.func24, Try.ntmps24
  go_wp2
  go_quiet ((go_at_call 26; exact Calls.quiet_of_same (compare_calls _ _ _)))
  go_wp2
  · go_ret
    exact ⟨ret_i (cp_a p q hlt ‹_› ‹_›).symm, _, rfl⟩
  · go_ret
    exact ⟨ret_i (cp_b p q hlt ‹_› ‹_›).symm, _, rfl⟩
  · go_ret
    exact ⟨ret_i (cp_c p q hlt ‹_›).symm, _, rfl⟩

set_option maxHeartbeats 1000000 in
theorem comparePaths_gt (p q : ByteArray) (w : World) (hp : p.size ≤ 1048576) (hq : q.size ≤ 1048576) (hlt : q.size < p.size) :
    Calls Try.prog 24 #[.string p, .string q] w fun e w' => e = .returned (.int .i64 (Plain.cp p.data.toList q.data.toList)) ∧ ∃ n, w' = w.drewN n := by
  go_enter Try.func24, Try.ntmps24
  go_wp2
  go_quiet ((go_at_call 26; exact Calls.quiet_of_same (compare_calls _ _ _)))
  go_wp2
  · go_ret
    exact ⟨ret_i (cp_a' p q hlt ‹_› ‹_›).symm, _, rfl⟩
  · go_ret
    exact ⟨ret_i (cp_b' p q hlt ‹_› ‹_›).symm, _, rfl⟩
  · go_ret
    exact ⟨ret_i (cp_c' p q hlt ‹_›).symm, _, rfl⟩

set_option maxHeartbeats 1000000 in
theorem comparePaths_eq (p q : ByteArray) (w : World) (hp : p.size ≤ 1048576) (hq : q.size ≤ 1048576) (hlt : p.size = q.size) :
    Calls Try.prog 24 #[.string p, .string q] w fun e w' => e = .returned (.int .i64 (Plain.cp p.data.toList q.data.toList)) ∧ ∃ n, w' = w.drewN n := by
  go_enter Try.func24, Try.ntmps24
  go_wp2
  go_quiet ((go_at_call 26; exact Calls.quiet_of_same (compare_calls _ _ _)))
  go_wp2
  · go_ret
    exact ⟨ret_i (cp_e1 p q hlt ‹_›).symm, _, rfl⟩
  · go_ret
    exact ⟨ret_i (cp_e2 p q hlt).symm, _, rfl⟩

theorem comparePaths_calls (p q : ByteArray) (w : World) (hp : p.size ≤ 1048576) (hq : q.size ≤ 1048576) :
    Calls Try.prog 24 #[.string p, .string q] w fun e w' => e = .returned (.int .i64 (Plain.cp p.data.toList q.data.toList)) ∧ ∃ n, w' = w.drewN n := by
  rcases Nat.lt_trichotomy p.size q.size with h | h | h
  · exact comparePaths_lt p q w hp hq h
  · exact comparePaths_eq p q w hp hq h
  · exact comparePaths_gt p q w hp hq h

set_option maxHeartbeats 1000000 in
theorem zzCompare_calls (p q : ByteArray) (w : World) (hp : p.size ≤ 1048576) (hq : q.size ≤ 1048576) :
    Calls Try.prog 18 #[.string p, .string q] w fun e w' => e = .returned (.int .i64 (Plain.cp p.data.toList q.data.toList)) ∧ ∃ n, w' = w.drewN n := by
  go_enter Try.func18, Try.ntmps18
  go_wp2_with (go_at_call 24; refine (comparePaths_calls _ _ _ hp hq).mono ?_; rintro e w' ⟨rfl, n, rfl⟩)
  go_ret
  exact ⟨rfl, _, rfl⟩

theorem byte_get (p : ByteArray) (k : Nat) (h : k < p.size) : p.data.toList[k]'(by simpa using h) = p[k] := by
  simp [ByteArray.getElem_eq_getElem_data]

theorem below_ne' (q p : ByteArray) (k : Nat) (hq : k < q.size) (hp : k < p.size) (h : ((q[k].toNat : Int) != (p[k].toNat : Int)) = true) : Plain.below q.data.toList p.data.toList = false := by
  refine Plain.below_ne _ _ k (by simpa using hq) (by simpa using hp) ?_
  rw [byte_get q k hq, byte_get p k hp]
  rintro e
  rw [e] at h
  simp at h

theorem below_eq' (q p : ByteArray) (h : p.size < q.size) (hall : ∀ j (h1 : j < q.size) (h2 : j < p.size), q[j] = p[j]) :
    Plain.below q.data.toList p.data.toList = ((q[p.size].toNat : Int) == 47) := by
  rw [Plain.below_eq _ _ (by simpa using h) (fun j h1 h2 => by rw [byte_get q j (by simpa using h1), byte_get p j (by simpa using h2)]; exact hall j _ _)]
  have e : q.data.toList[p.data.toList.length]'(by simpa using h) = q[p.size] := by
    simp [ByteArray.getElem_eq_getElem_data]
  rw [e, Bool.eq_iff_iff, beq_iff_eq, beq_iff_eq, ← UInt8.toNat_inj]
  have : (47 : UInt8).toNat = 47 := rfl
  omega

theorem ret_b {a b : Bool} (h : a = b) : Ending.returned (.bool a) = .returned (.bool b) := by rw [h]

theorem all_succ {q p : ByteArray} {k : Nat} (H : ∀ j (h1 : j < q.size) (h2 : j < k) (h3 : j < p.size), q[j] = p[j]) {hkq : k < q.size} {hkp : k < p.size} (hb : ((q[k].toNat : Int) != (p[k].toNat : Int)) = false) :
    ∀ j (h1 : j < q.size) (h2 : j < k + 1) (h3 : j < p.size), q[j] = p[j] := by
  intro j h1 h2 h3
  by_cases hj : j = k
  · subst hj
    rw [bne_eq_false_iff_eq] at hb
    exact UInt8.toNat_inj.1 (by omega)
  · exact H j h1 (by omega) h3

set_option maxHeartbeats 1000000 in
theorem startsBelow_calls (q p : ByteArray) (w : World) (hp : p.size ≤ 1048576) (hq : q.size ≤ 1048576) :
    Calls Try.prog 21 #[.string q, .string p] w fun e w' => e = .returned (.bool (Plain.below q.data.toList p.data.toList)) ∧ ∃ n, w' = w.drewN n := by
  by_cases hle : q.size ≤ p.size
  · go_enter Try.func21, Try.ntmps21
    go_wp2
    go_ret
    exact ⟨ret_b (Plain.below_len _ _ (by simpa using hle)).symm, 0, rfl⟩
  · have hlt : p.size < q.size := by omega
    clear hle
    go_enter Try.func21, Try.ntmps21
    go_wp2
    go_loopw [5] (fun i w' => ∃ k n : Nat, k ≤ p.size ∧ i = .int .i64 k ∧ (∀ j (h1 : j < q.size) (h2 : j < k) (h3 : j < p.size), q[j] = p[j]) ∧ w' = w.drewN n) (fun i _ => p.size - (intOf i).toNat)
    case atStart => exact ⟨0, 0, Nat.zero_le _, rfl, fun j h1 h2 => absurd h2 (Nat.not_lt_zero _), rfl⟩
    case round =>
      obtain ⟨k, n, hk, rfl, hall, rfl⟩ := hrel
      have H : Hid (∀ j (h1 : j < q.size) (h2 : j < k) (h3 : j < p.size), q[j] = p[j]) := hall
      clear hall
      by_cases hkp : k < p.size
      · have hkq : k < q.size := by omega
        go_wp2
        go_quiet (fail)
        go_wp2
        · go_ret
          exact ⟨ret_b (below_ne' q p k hkq hkp ‹_›).symm, _, World.drewN_drewN _ _ _⟩
        · have hb : ((q[k].toNat : Int) != (p[k].toNat : Int)) = false := ‹_›
          go_roundw
          case rel => exact ⟨k + 1, _, by omega, by go_num, all_succ H.out hb, rfl⟩
          case measure => simp [intOf]; omega
      · have hkk : k = p.size := by omega
        subst hkk
        go_wp2
        go_ret
        exact ⟨ret_b (below_eq' q p hlt (fun j h1 h2 => H.out j h1 h2 h2)).symm, n, rfl⟩

/-! the two guards -/
set_option maxHeartbeats 1000000 in
theorem zzBytes3_yes (p q s : ByteArray) (w : World) (h : p.size + q.size + s.size ≤ 1048576) :
    Calls Try.prog 20 #[.string p, .string q, .string s] w fun e w' => e = .returned (.bool true) ∧ w' = w := by
  go_enter Try.func20, Try.ntmps20
  go_wp2
  go_ret
  exact ⟨rfl, rfl⟩

set_option maxHeartbeats 1000000 in
theorem zzBytes3_no (p q s : ByteArray) (w : World) (hp : p.size ≤ maxLen) (hq : q.size ≤ maxLen) (hs : s.size ≤ maxLen) (h : 1048576 < p.size + q.size + s.size) :
    Calls Try.prog 20 #[.string p, .string q, .string s] w fun e w' => e = .returned (.bool false) ∧ w' = w := by
  unfold maxLen at hp hq hs
  go_enter Try.func20, Try.ntmps20
  go_wp2
  all_goals
    go_ret
    exact ⟨rfl, rfl⟩

set_option maxHeartbeats 1000000 in
theorem zzBytes2_yes (p q : ByteArray) (w : World) (h : p.size + q.size ≤ 1048576) :
    Calls Try.prog 17 #[.string p, .string q] w fun e w' => e = .returned (.bool true) ∧ w' = w := by
  go_enter Try.func17, Try.ntmps17
  go_wp2
  go_ret
  exact ⟨rfl, rfl⟩

set_option maxHeartbeats 1000000 in
theorem zzBytes2_no (p q : ByteArray) (w : World) (hp : p.size ≤ maxLen) (hq : q.size ≤ maxLen) (h : 1048576 < p.size + q.size) :
    Calls Try.prog 17 #[.string p, .string q] w fun e w' => e = .returned (.bool false) ∧ w' = w := by
  unfold maxLen at hp hq
  go_enter Try.func17, Try.ntmps17
  go_wp2
  all_goals
    go_ret
    exact ⟨rfl, rfl⟩

end Go.Proofs.Qxb6617102a
