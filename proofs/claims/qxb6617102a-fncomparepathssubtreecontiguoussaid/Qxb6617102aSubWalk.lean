import Derived.Test.Qxb6617102aCmp2
namespace Go.Proofs.Qxb6617102a
open Go.RowKit

theorem Grown.drewN' {W w' : World} (h : Grown W w') (n : Nat) : Grown W (w'.drewN n) := h

theorem child_data (a b : ByteArray) : (a ++ { data := #[47] } ++ b).data.toList = a.data.toList ++ [47] ++ b.data.toList := by
  simp

/-- The walk with the five answers as hypotheses. -/
theorem sub_core (a0 : ByteArray) (a1 : ByteArray) (a2 : ByteArray) (b : Bool) (x y : Int) (hz : a0.size + a1.size + a2.size ≤ 1048576)
    (h0 : a0.size ≤ 262144) (h1 : a1.size ≤ 262144) (h2 : a2.size ≤ 262144)
    (c1 : Hid (∀ w, Calls Try.prog 18 #[.string a0, .string (a0 ++ { data := #[47] } ++ a2)] w fun e w' => e = .returned (.int .i64 (-1)) ∧ ∃ n, w' = w.drewN n))
    (c2 : Hid (∀ w, Calls Try.prog 18 #[.string (a0 ++ { data := #[47] } ++ a2), .string a0] w fun e w' => e = .returned (.int .i64 1) ∧ ∃ n, w' = w.drewN n))
    (c3 : Hid (∀ w, Calls Try.prog 21 #[.string a1, .string a0] w fun e w' => e = .returned (.bool b) ∧ ∃ n, w' = w.drewN n))
    (c4 : Hid (∀ w, Calls Try.prog 18 #[.string a0, .string a1] w fun e w' => e = .returned (.int .i64 x) ∧ ∃ n, w' = w.drewN n))
    (c5 : Hid (∀ w, Calls Try.prog 18 #[.string a1, .string (a0 ++ { data := #[47] } ++ a2)] w fun e w' => e = .returned (.int .i64 y) ∧ ∃ n, w' = w.drewN n))
    (l1 : b = true → x = -1) (l2 : b = false → x < 0 → 0 < y) (w : World) :
    Calls Try.prog 7 #[.string a0, .string a1, .string a2] w fun e w' => e = .returned (.bool true) ∧ Grown w w' := by
  cases b with
  | true =>
    obtain rfl := l1 rfl
    clear l1 l2
    by_cases hy : y ≤ 0
    all_goals
      go_enter Try.func7, Try.ntmps7
      go_wp2_with (go_at_call 20; refine (zzBytes3_yes _ _ _ _ hz).mono ?_; rintro e w' ⟨rfl, rfl⟩)
      refine (c1.out _).mono ?_
      rintro e w' ⟨rfl, n1, rfl⟩
      go_wp2_with fail
      refine (c2.out _).mono ?_
      rintro e w' ⟨rfl, n2, rfl⟩
      go_wp2_with fail
      refine (c3.out _).mono ?_
      rintro e w' ⟨rfl, n3, rfl⟩
      go_wp2_with fail
      refine (c4.out _).mono ?_
      rintro e w' ⟨rfl, n4, rfl⟩
      go_wp2_with fail
      refine (c5.out _).mono ?_
      rintro e w' ⟨rfl, n5, rfl⟩
      go_wp2_with fail
      go_ret
      exact ⟨rfl, Grown.drewN' (Grown.refl _) _⟩
  | false =>
    clear l1
    by_cases hx : x < 0
    · have hy := l2 rfl hx
      clear l2
      go_enter Try.func7, Try.ntmps7
      go_wp2_with (go_at_call 20; refine (zzBytes3_yes _ _ _ _ hz).mono ?_; rintro e w' ⟨rfl, rfl⟩)
      refine (c1.out _).mono ?_
      rintro e w' ⟨rfl, n1, rfl⟩
      go_wp2_with fail
      refine (c2.out _).mono ?_
      rintro e w' ⟨rfl, n2, rfl⟩
      go_wp2_with fail
      refine (c3.out _).mono ?_
      rintro e w' ⟨rfl, n3, rfl⟩
      go_wp2_with fail
      refine (c4.out _).mono ?_
      rintro e w' ⟨rfl, n4, rfl⟩
      go_wp2_with fail
      refine (c5.out _).mono ?_
      rintro e w' ⟨rfl, n5, rfl⟩
      go_wp2_with fail
      go_ret
      exact ⟨rfl, Grown.drewN' (Grown.refl _) _⟩
    · clear l2
      go_enter Try.func7, Try.ntmps7
      go_wp2_with (go_at_call 20; refine (zzBytes3_yes _ _ _ _ hz).mono ?_; rintro e w' ⟨rfl, rfl⟩)
      refine (c1.out _).mono ?_
      rintro e w' ⟨rfl, n1, rfl⟩
      go_wp2_with fail
      refine (c2.out _).mono ?_
      rintro e w' ⟨rfl, n2, rfl⟩
      go_wp2_with fail
      refine (c3.out _).mono ?_
      rintro e w' ⟨rfl, n3, rfl⟩
      go_wp2_with fail
      refine (c4.out _).mono ?_
      rintro e w' ⟨rfl, n4, rfl⟩
      go_wp2_with fail
      refine (c5.out _).mono ?_
      rintro e w' ⟨rfl, n5, rfl⟩
      go_wp2_with fail
      go_ret
      exact ⟨rfl, Grown.drewN' (Grown.refl _) _⟩

theorem sub_walk (a0 : ByteArray) (a1 : ByteArray) (a2 : ByteArray) (w0 : a0.size ≤ maxLen) (w1 : a1.size ≤ maxLen) (w2 : a2.size ≤ maxLen) (w : World) :
    Calls Try.prog 7 #[.string a0, .string a1, .string a2] w fun e w' => e = .returned (.bool true) ∧ Grown w w' := by
  by_cases hz : a0.size + a1.size + a2.size ≤ 1048576
  · clear w0 w1 w2
    by_cases h0 : a0.size ≤ 262144
    · by_cases h1 : a1.size ≤ 262144
      · by_cases h2 : a2.size ≤ 262144
        · have hc : (a0 ++ { data := #[47] } ++ a2).size ≤ 1048576 := by
            have : (a0 ++ { data := #[47] } ++ a2).size = a0.size + 1 + a2.size := by rw [ByteArray.size_append, ByteArray.size_append]; rfl
            omega
          refine sub_core a0 a1 a2 (Plain.below a1.data.toList a0.data.toList) (Plain.cp a0.data.toList a1.data.toList) (Plain.cp a1.data.toList (a0.data.toList ++ [47] ++ a2.data.toList)) hz h0 h1 h2
            (fun w => ?_) (fun w => ?_) (fun w => ?_) (fun w => ?_) (fun w => ?_) (Plain.cp_below _ _) ?_ w
          · have := zzCompare_calls a0 (a0 ++ { data := #[47] } ++ a2) w (by omega) hc
            rw [child_data, Plain.cp_child] at this
            exact this
          · have := zzCompare_calls (a0 ++ { data := #[47] } ++ a2) a0 w hc (by omega)
            rw [child_data, Plain.cp_neg, Plain.cp_child] at this
            exact this
          · exact startsBelow_calls a1 a0 w (by omega) (by omega)
          · exact zzCompare_calls a0 a1 w (by omega) (by omega)
          · have := zzCompare_calls a1 (a0 ++ { data := #[47] } ++ a2) w (by omega) hc
            rw [child_data] at this
            exact this
          · intro hb hx
            refine Int.not_le.1 fun h => ?_
            rw [Plain.cp_between _ _ _ hx h] at hb
            cases hb
        · go_enter Try.func7, Try.ntmps7
          go_wp2_with (go_at_call 20; refine (zzBytes3_yes _ _ _ _ hz).mono ?_; rintro e w' ⟨rfl, rfl⟩)
          go_ret
          exact ⟨rfl, Grown.refl _⟩
      · go_enter Try.func7, Try.ntmps7
        go_wp2_with (go_at_call 20; refine (zzBytes3_yes _ _ _ _ hz).mono ?_; rintro e w' ⟨rfl, rfl⟩)
        go_ret
        exact ⟨rfl, Grown.refl _⟩
    · go_enter Try.func7, Try.ntmps7
      go_wp2_with (go_at_call 20; refine (zzBytes3_yes _ _ _ _ hz).mono ?_; rintro e w' ⟨rfl, rfl⟩)
      go_ret
      exact ⟨rfl, Grown.refl _⟩
  · have hz' : 1048576 < a0.size + a1.size + a2.size := by omega
    go_enter Try.func7, Try.ntmps7
    go_wp2_with (go_at_call 20; refine (zzBytes3_no _ _ _ _ w0 w1 w2 hz').mono ?_; rintro e w' ⟨rfl, rfl⟩)
    go_ret
    exact ⟨rfl, Grown.refl _⟩

end Go.Proofs.Qxb6617102a
