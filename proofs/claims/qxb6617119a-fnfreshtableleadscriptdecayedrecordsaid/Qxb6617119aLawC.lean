import Derived.Test.Qxb6617119aLawB
namespace Go.Proofs.Qxb6617119a
open Go.RowKit
set_option linter.unusedVariables false

set_option maxHeartbeats 1000000 in
set_option maxRecDepth 100000 in
theorem lawB_walk (n : Int) (a1 a2 : Option Addr) (n1 c1 n2 c2 : Nat) (I : Nat → Int) (wins : Nat → Bool) (w : World) (m1 : n1 ≤ maxLen) (m2 : n2 ≤ maxLen)
    (nil1 : a1 = none → n1 = 0 ∧ c1 = 0) (nil2 : a2 = none → n2 = 0 ∧ c2 = 0) (r1 : RowAt w a1 n1 (fun j => .int .i64 (I j))) (r2 : RowAt w a2 n2 (fun j => .bool (wins j))) :
    Calls Try.prog 4 #[.int .i64 n, .slice a1 n1 c1, .slice a2 n2 c2] w fun e w' => e = .returned (.bool true) ∧ Below w.heap.size w w' := by
  by_cases hz : n1 + n2 ≤ 1048576
  · by_cases h0 : n < 0
    · clear r1 r2 nil1 nil2 m1 m2
      go_enter Try.func4, Try.ntmps4
      go_wp2_with (go_at_call 8; refine (zzBytes_yes _ _ _ _ _ _ _ _ hz).mono ?_; rintro e w' ⟨rfl, rfl⟩)
      go_ret
      exact ⟨rfl, Below.refl _ _⟩
    by_cases h1 : 65536 < n
    · clear r1 r2 nil1 nil2 m1 m2
      go_enter Try.func4, Try.ntmps4
      go_wp2_with (go_at_call 8; refine (zzBytes_yes _ _ _ _ _ _ _ _ hz).mono ?_; rintro e w' ⟨rfl, rfl⟩)
      go_ret
      exact ⟨rfl, Below.refl _ _⟩
    by_cases h2 : 65536 < n1
    · clear r1 r2 nil1 nil2 m1 m2
      go_enter Try.func4, Try.ntmps4
      go_wp2_with (go_at_call 8; refine (zzBytes_yes _ _ _ _ _ _ _ _ hz).mono ?_; rintro e w' ⟨rfl, rfl⟩)
      go_ret
      exact ⟨rfl, Below.refl _ _⟩
    by_cases h3 : 65536 < n2
    · clear r1 r2 nil1 nil2 m1 m2
      go_enter Try.func4, Try.ntmps4
      go_wp2_with (go_at_call 8; refine (zzBytes_yes _ _ _ _ _ _ _ _ hz).mono ?_; rintro e w' ⟨rfl, rfl⟩)
      go_ret
      exact ⟨rfl, Below.refl _ _⟩
    by_cases h5 : n1 = n2
    · subst h5
      obtain ⟨k, rfl⟩ := Int.eq_ofNat_of_zero_le (show 0 ≤ n by omega)
      exact lawB_core k n1 a1 a2 c1 c2 I wins w (by omega) (by omega) hz (by omega) nil1 nil2 r1 r2
    · have hne : ((n1 : Int) != (n2 : Int)) = true := by rw [bne_iff_ne]; omega
      clear r1 r2 nil1 nil2 m1 m2 h5
      go_enter Try.func4, Try.ntmps4
      go_wp2_with (go_at_call 8; refine (zzBytes_yes _ _ _ _ _ _ _ _ hz).mono ?_; rintro e w' ⟨rfl, rfl⟩)
      go_ret
      exact ⟨rfl, Below.refl _ _⟩
  · have hz' : 1048576 < n1 + n2 := by omega
    go_enter Try.func4, Try.ntmps4
    go_wp2_with (go_at_call 8; refine (zzBytes_no _ _ _ _ _ _ _ _ m1 m2 hz').mono ?_; rintro e w' ⟨rfl, rfl⟩)
    go_ret
    exact ⟨rfl, Below.refl _ _⟩

end Go.Proofs.Qxb6617119a
