import Derived.Test.Qxb6617119aWei
import Derived.Deep.QuietTactic
import Derived.BigQuiet
namespace Go.Proofs.Qxb6617119a
open Go.RowKit
set_option linter.unusedVariables false

set_option maxHeartbeats 1000000 in
theorem law_nan (n om : Nat) (w : World) (hn : n ≤ 65536)
    (cW : Hid (∀ w bt bh bl bw, TabIn w n bt bh bl bw → Calls Try.prog 7 #[.pointer (some ⟨bt, 0, none⟩), .float .f64 om] w (WRes (fun y => (Ieee.double.read y).isNaN = true) w n)))
    (o1 : FloatKind.f64.format.order om om = none) (o2 : FloatKind.f64.format.order om 4602678819172646912 = none) :
    Calls Try.prog 3 #[.int .i64 n, .float .f64 om] w fun e w' => e = .returned (.bool true) ∧ Below w.heap.size w w' := by
  go_enter Try.func3, Try.ntmps3
  go_wp2_with fail
  refine (newTable_calls n w hn).mono ?_
  rintro e w1 ⟨bt, bh, bl, bw, rfl, hT⟩
  have b1 := hT.below
  have hI := hT.tabIn
  clear hT
  go_wp2_with fail
  refine (cW.out w1 bt bh bl bw hI).mono ?_
  rintro e w2 ⟨b, rfl, b2, hc⟩
  have bb : Below w.heap.size w w2 := b1.trans (b2.mono b1.size)
  clear b1 b2 hI
  have HC : Hid (∀ i, i < n → ∃ y, w2.cell? ⟨b, i, none⟩ = some (.float .f64 y) ∧ (Ieee.double.read y).isNaN = true) := hc
  clear hc
  go_wp2_with fail
  go_loopw [9] (fun i wr => ∃ k q : Nat, k ≤ n ∧ i = .int .i64 k ∧ wr = w2.drewN q) (fun i _ => n - (intOf i).toNat)
  case atStart => exact ⟨0, 0, Nat.zero_le _, rfl, rfl⟩
  case round =>
    obtain ⟨k, q, hk, rfl, rfl⟩ := hrel
    by_cases hlt : k < n
    · obtain ⟨y, hy, hN⟩ := HC.out k hlt
      have hyy : FloatKind.f64.format.order y y = none := Fl.order_nan_left hN y
      clear hN
      go_wp2_with fail
      go_quiet (fail)
      go_wp2_with fail
      go_roundw
      case rel => exact ⟨k + 1, _, by omega, by go_num, rfl⟩
      case measure => simp [intOf]; omega
    · go_wp2_with fail
      go_ret
      exact ⟨rfl, below_drewN bb _⟩

set_option maxHeartbeats 1000000 in
theorem law_big (n om r : Nat) (w : World) (hn : n ≤ 65536)
    (cW : Hid (∀ w bt bh bl bw, TabIn w n bt bh bl bw → Calls Try.prog 7 #[.pointer (some ⟨bt, 0, none⟩), .float .f64 om] w (WRes (fun y => y = r) w n)))
    (o1 : FloatKind.f64.format.order om om = some .eq) (o2 : FloatKind.f64.format.order om 4602678819172646912 = some .gt)
    (hm : ∀ w, (binOp .mul 22 (.float .f64 om) (.float .f64 4611686018427387904)).run Try.prog w = .ok (.float .f64 r) w) (o3 : FloatKind.f64.format.order r r = some .eq) :
    Calls Try.prog 3 #[.int .i64 n, .float .f64 om] w fun e w' => e = .returned (.bool true) ∧ Below w.heap.size w w' := by
  go_enter Try.func3, Try.ntmps3
  go_wp2_with fail
  refine (newTable_calls n w hn).mono ?_
  rintro e w1 ⟨bt, bh, bl, bw, rfl, hT⟩
  have b1 := hT.below
  have hI := hT.tabIn
  clear hT
  go_wp2_with fail
  refine (cW.out w1 bt bh bl bw hI).mono ?_
  rintro e w2 ⟨b, rfl, b2, hc⟩
  have bb : Below w.heap.size w w2 := b1.trans (b2.mono b1.size)
  clear b1 b2 hI
  have HC : Hid (∀ i, i < n → w2.cell? ⟨b, i, none⟩ = some (.float .f64 r)) := fun i hi => by
    obtain ⟨y, hy, rfl⟩ := hc i hi
    exact hy
  clear hc
  go_wp2_with fail
  go_loop [9] (fun i => ∃ k : Nat, k ≤ n ∧ i = .int .i64 k) (fun i => n - (intOf i).toNat)
  case atStart => exact ⟨0, Nat.zero_le _, rfl⟩
  case round =>
    obtain ⟨k, hk, rfl⟩ := hrel
    by_cases hlt : k < n
    · have hy := HC.out k hlt
      go_wp2_with fail
      go_round
      case rel => exact ⟨k + 1, by omega, by go_num⟩
      case measure => simp [intOf]; omega
    · go_wp2_with fail
      go_ret
      exact ⟨rfl, bb⟩

set_option maxHeartbeats 1000000 in
theorem law_small (n om : Nat) (w : World) (hn : n ≤ 65536)
    (cW : Hid (∀ w bt bh bl bw, TabIn w n bt bh bl bw → Calls Try.prog 7 #[.pointer (some ⟨bt, 0, none⟩), .float .f64 om] w (WRes (fun y => y = Fl.one) w n)))
    (o1 : FloatKind.f64.format.order om om = some .eq) (o2 : (FloatKind.f64.format.order om 4602678819172646912 == some .gt) = false)
    (o3 : FloatKind.f64.format.order Fl.one 4607182418800017408 = some .eq) :
    Calls Try.prog 3 #[.int .i64 n, .float .f64 om] w fun e w' => e = .returned (.bool true) ∧ Below w.heap.size w w' := by
  go_enter Try.func3, Try.ntmps3
  go_wp2_with fail
  refine (newTable_calls n w hn).mono ?_
  rintro e w1 ⟨bt, bh, bl, bw, rfl, hT⟩
  have b1 := hT.below
  have hI := hT.tabIn
  clear hT
  go_wp2_with fail
  refine (cW.out w1 bt bh bl bw hI).mono ?_
  rintro e w2 ⟨b, rfl, b2, hc⟩
  have bb : Below w.heap.size w w2 := b1.trans (b2.mono b1.size)
  clear b1 b2 hI
  have HC : Hid (∀ i, i < n → w2.cell? ⟨b, i, none⟩ = some (.float .f64 Fl.one)) := fun i hi => by
    obtain ⟨y, hy, rfl⟩ := hc i hi
    exact hy
  clear hc
  go_wp2_with fail
  go_loop [9] (fun i => ∃ k : Nat, k ≤ n ∧ i = .int .i64 k) (fun i => n - (intOf i).toNat)
  case atStart => exact ⟨0, Nat.zero_le _, rfl⟩
  case round =>
    obtain ⟨k, hk, rfl⟩ := hrel
    by_cases hlt : k < n
    · have hy := HC.out k hlt
      go_wp2_with fail
      go_round
      case rel => exact ⟨k + 1, by omega, by go_num⟩
      case measure => simp [intOf]; omega
    · go_wp2_with fail
      go_ret
      exact ⟨rfl, bb⟩

theorem weights_calls_num (n om mx r : Nat) (hn : n ≤ 65536)
    (hmx : ∀ w, (Builtin.max_ #[22, 22] 22 #[.float .f64 Fl.half, .float .f64 om]).run Try.prog w = .ok (.float .f64 mx) w)
    (hq : ∀ w, (binOp .quo 22 (.float .f64 mx) (.float .f64 Fl.half)).run Try.prog w = .ok (.float .f64 r) w) :
    ∀ w bt bh bl bw, TabIn w n bt bh bl bw → Calls Try.prog 7 #[.pointer (some ⟨bt, 0, none⟩), .float .f64 om] w (WRes (fun y => y = r) w n) := by
  intro w bt bh bl bw hT
  by_cases h0 : n = 0
  · subst h0
    exact weights_zero bt bh bl bw om _ w hT
  · exact weights_num n bt bh bl bw om mx r w h0 hn hT hmx hq

theorem weights_walk (n : Int) (om : Nat) (w : World) :
    Calls Try.prog 3 #[.int .i64 n, .float .f64 om] w fun e w' => e = .returned (.bool true) ∧ Below w.heap.size w w' := by
  by_cases h0 : n < 0
  · go_enter Try.func3, Try.ntmps3
    go_wp2
    go_ret
    exact ⟨rfl, Below.refl _ _⟩
  by_cases h1 : 65536 < n
  · go_enter Try.func3, Try.ntmps3
    go_wp2
    go_ret
    exact ⟨rfl, Below.refl _ _⟩
  obtain ⟨k, rfl⟩ := Int.eq_ofNat_of_zero_le (show 0 ≤ n by omega)
  have hk : k ≤ 65536 := by omega
  cases hN : (Ieee.double.read om).isNaN with
  | true =>
    refine law_nan k om w hk ?_ (Fl.order_nan_left hN _) (Fl.order_nan_left hN _)
    intro w bt bh bl bw hT
    by_cases hz : k = 0
    · subst hz
      exact weights_zero bt bh bl bw om _ w hT
    · exact weights_nan k bt bh bl bw om (nanOf (.nanMinMax .f64 true Fl.half om)) (fun x => nanOf (.nanBits .f64 x Fl.half)) w hz hk hT
        (fun w => run_max_nan _ _ _ _ _ w (Fl.order_nan_right hN _)) (fun w' w => run_quo_nan _ _ _ _ w (Fl.div_nan (nanOf_max _ _ _) _)) (fun x w => nanOf_bits _ _ _)
  | false =>
    have hself := Fl.order_self hN
    have hsw := Fl.order_swap Fl.half om
    by_cases hg : Ieee.double.order om Fl.half = some .gt
    · have hlt : Ieee.double.order Fl.half om = some .lt := by
        rw [Fl.order_swap om Fl.half, hg]; rfl
      obtain ⟨r, hr⟩ := Fl.mul_two_some hN
      refine law_big k om r w hk ?_ hself hg (fun w => run_float_arith w .mul 22 .f64 om Fl.two r hr) (Fl.order_self (Fl.mul_notNaN hr))
      exact weights_calls_num k om om r hk (fun w => run_max_num _ _ _ _ _ _ w (.inl ⟨hlt, rfl⟩)) (fun w => run_float_arith w .quo 22 .f64 om Fl.half r ((Fl.div_half om).trans hr))
    · refine law_small k om w hk ?_ hself (by
        show (Ieee.double.order om Fl.half == some .gt) = false
        rw [beq_eq_false_iff_ne]
        exact hg) (by decide +kernel)
      refine weights_calls_num k om Fl.half Fl.one hk (fun w => run_max_num _ _ _ _ _ _ w ?_) (fun w => run_float_arith w .quo 22 .f64 Fl.half Fl.half Fl.one Fl.half_div)
      have hne : ∃ o, Ieee.double.order Fl.half om = some o := by
        unfold Ieee.Format.order
        rw [Fl.read_half]
        cases hx : Ieee.double.read om with
        | nan _ _ => rw [hx] at hN; cases hN
        | infinity s => exact ⟨_, rfl⟩
        | number s m i => exact ⟨_, rfl⟩
      obtain ⟨o, ho⟩ := hne
      cases o with
      | lt => exact absurd (by rw [hsw, ho]; rfl) hg
      | gt => exact .inr (.inl ⟨ho, rfl⟩)
      | eq => exact .inr (.inr ⟨ho, by rw [Fl.read_half]; rfl, rfl⟩)

end Go.Proofs.Qxb6617119a
