import Derived.Test.Qxb6617119aRecW
import Derived.Deep.RegionWith
namespace Go.Proofs.Qxb6617119a
open Go.RowKit
set_option linter.unusedVariables false

theorem tab_lead {w0 w : World} {n bt bh bl bw j : Nat} {ids : Nat → Nat} {wins : Nat → Bool}
    (h : Tab w0 w n bt bh bl bw ones (col (put (fun m => (Pl.stF ids wins j m).1) (ids j) (Pl.ld ((Pl.stF ids wins j (ids j)).1, (Pl.stF ids wins j (ids j)).2) (wins j)).1)) (col (put (fun m => (Pl.stF ids wins j m).2) (ids j) (Pl.ld ((Pl.stF ids wins j (ids j)).1, (Pl.stF ids wins j (ids j)).2) (wins j)).2))) :
    Tab w0 w n bt bh bl bw ones (col (fun m => (Pl.stF ids wins (j + 1) m).1)) (col (fun m => (Pl.stF ids wins (j + 1) m).2)) :=
  h.congr (fun _ _ => rfl) (fun m _ => by
    unfold col put
    by_cases e : m = ids j
    · subst e; simp [Pl.stF]
    · rw [if_neg e]; simp [Pl.stF, Ne.symm e]) (fun m _ => by
    unfold col put
    by_cases e : m = ids j
    · subst e; simp [Pl.stF]
    · rw [if_neg e]; simp [Pl.stF, Ne.symm e])

theorem Tab.drew {w0 w : World} {n bt bh bl bw : Nat} {hf lf wf : Nat → Value} (h : Tab w0 w n bt bh bl bw hf lf wf) : Tab w0 w.drew n bt bh bl bw hf lf wf := { h with below := h.below.drew }
theorem Tab.drewN {w0 w : World} {n bt bh bl bw : Nat} {hf lf wf : Nat → Value} (h : Tab w0 w n bt bh bl bw hf lf wf) (q : Nat) : Tab w0 (w.drewN q) n bt bh bl bw hf lf wf := { h with below := below_drewN h.below q }

set_option maxHeartbeats 4000000 in
set_option maxRecDepth 100000 in
/-- from the clones on -/
theorem lawB_core (n N : Nat) (a1 a2 : Option Addr) (c1 c2 : Nat) (I : Nat → Int) (wins : Nat → Bool) (w : World) (hn : n ≤ 65536) (hN : N ≤ 65536) (hz : N + N ≤ 1048576) (h9 : 8 * N + N ≤ 1048576)
    (nil1 : a1 = none → N = 0 ∧ c1 = 0) (nil2 : a2 = none → N = 0 ∧ c2 = 0) (r1 : RowAt w a1 N (fun j => .int .i64 (I j))) (r2 : RowAt w a2 N (fun j => .bool (wins j))) :
    Calls Try.prog 4 #[.int .i64 n, .slice a1 N c1, .slice a2 N c2] w fun e w' => e = .returned (.bool true) ∧ Below w.heap.size w w' := by
  have hmk := run_make_row' (P := Try.prog) 28 3 (.int .i64 0) 8 Try.underlying28 Try.info3 rfl .i64 .i64 n (by omega) (by omega)
  have d1 : decide ((n : Int) < 0) = false := decide_eq_false (by omega)
  have d2 : decide (65536 < (n : Int)) = false := decide_eq_false (by omega)
  have d3 : decide (65536 < (N : Int)) = false := decide_eq_false (by omega)
  have d4 : decide (1048576 < 8 * (N : Int) + (N : Int)) = false := decide_eq_false (by omega)
  go_enter Try.func4, Try.ntmps4
  go_wp2_with fail
  refine (zzBytes_yes _ _ _ _ _ _ _ _ hz).mono ?_
  rintro e w' ⟨rfl, hw⟩
  subst w'
  go_wp2_with fail
  go_loop [7] (fun i => ∃ k : Nat, k ≤ N ∧ i = .int .i64 k ∧ Hid (∀ j, j < k → 0 ≤ I j ∧ I j < n)) (fun i => N - (intOf i).toNat)
  case atStart => exact ⟨0, Nat.zero_le _, rfl, fun j hj => absurd hj (Nat.not_lt_zero _)⟩
  case round =>
    obtain ⟨k, hk, rfl, hall⟩ := hrel
    by_cases hlt : k < N
    · rcases r1 with h | ⟨b, o, rfl, hb, hc⟩
      · exact absurd h (by omega)
      have g := hc k hlt
      clear hc r2 hmk
      by_cases hlo : I k < 0
      · go_wp2_with fail
        go_ret
        exact ⟨rfl, Below.refl _ _⟩
      · by_cases hhi : (n : Int) ≤ I k
        · go_wp2_with fail
          go_ret
          exact ⟨rfl, Below.refl _ _⟩
        · have hall' : Hid (∀ j, j < k + 1 → 0 ≤ I j ∧ I j < n) := fun j hj => by
            by_cases e : j = k
            · subst e; omega
            · exact hall.out j (by omega)
          have q1 : ¬ I k < 0 := hlo
          go_wp2_with fail
          go_round
          case rel => exact ⟨k + 1, by omega, by go_num, hall'⟩
          case measure => simp [intOf]; omega
    · obtain rfl : N = k := by omega
      go_wp2_with fail
      refine (cloneInts_calls a1 N c1 I w hN nil1 r1).mono ?_
      rintro e w1 ⟨x1, y1, rfl, b1, q1⟩
      go_wp2_with fail
      refine (cloneBools_calls a2 N c2 wins w1 hN nil2 (r2.below b1)).mono ?_
      rintro e w2 ⟨x2, y2, rfl, b2, q2⟩
      have q1' := q1.below b2
      clear q1
      go_wp2_with fail
      obtain ⟨ids, hids⟩ : ∃ ids : Nat → Nat, ids = fun j => (I j).toNat := ⟨_, rfl⟩
      have hI : RowAt w2 x1 N (fun j => .int .i64 (ids j : Nat)) := q1'.congr fun j hj => by
        have := hall.out j hj
        rw [hids]
        show Value.int .i64 (I j) = .int .i64 ((I j).toNat : Nat)
        rw [show (((I j).toNat : Nat) : Int) = I j from by omega]
      have hid : Hid (∀ j, j < N → ids j < n) := fun j hj => by
        have := hall.out j hj
        rw [hids]
        show (I j).toNat < n
        omega
      clear q1' hids hall
      have z3 := ((Rws.start w2).allocI n).allocI n
      have zb := z3.below
      have zr1 := z3.row 0 _ rfl
      have zr2 := z3.row 1 _ rfl
      have lz : ((w2.alloc (.cells (madeCells #[.int .i64 0] n) 3)).heap.size) = w2.heap.size + 1 := by simp
      refine (decayed_calls n N ids wins w2.heap.size (w2.heap.size + 1) x1 x2 y1 y2 _ hn hN (fun m hm => zr1.2.cell hm) zr1.2.lt (fun m hm => ?_) ?_ (hI.below zb) (q2.below zb) hid).mono ?_
      · have := zr2.2.cell hm
        rw [← lz]
        exact this
      · have := zr2.2.lt
        rw [← lz]
        exact this
      rintro e w4 ⟨c1', c2', rfl, b4, l1, l2, k1, k2⟩
      have B4 : Below w2.heap.size w2 w4 := zb.trans (b4.mono zb.size)
      have hI4 := hI.below B4
      have hW4 := q2.below B4
      have BB : Below w.heap.size w w4 := b1.trans ((b2.mono b1.size).trans (B4.mono (Nat.le_trans b1.size b2.size)))
      have K1 : Hid _ := k1
      have K2 : Hid _ := k2
      clear z3 zb zr1 zr2 lz b4 B4 hI q2 b1 b2 k1 k2 hmk r1 r2
      go_wp2_with fail
      refine (newTable_calls n w4 hn).mono ?_
      rintro e w5 ⟨bt, bh, bl, bw, rfl, hT5⟩
      go_wp2_with fail
      go_loopw [13] (fun i wr => ∃ j : Nat, j ≤ N ∧ i = .int .i64 j ∧ Tab w4 wr n bt bh bl bw ones (col (fun m => (Pl.stF ids wins j m).1)) (col (fun m => (Pl.stF ids wins j m).2))) (fun i _ => N - (intOf i).toNat)
      case atStart => exact ⟨0, Nat.zero_le _, rfl, hT5.congr (fun _ _ => rfl) (fun _ _ => rfl) (fun _ _ => rfl)⟩
      case round =>
        clear hT5
        obtain ⟨j, hj, rfl, hT⟩ := hrel
        by_cases hlt2 : j < N
        · have hIr := hI4.below hT.below
          have hWr := hW4.below hT.below
          rcases hIr with h | ⟨bi, oi, rfl, _, hc⟩
          · exact absurd h (by omega)
          rcases hWr with h | ⟨bv, ov, rfl, _, hcw⟩
          · exact absurd h (by omega)
          have g0 := hc j hlt2
          have g1 := hcw j hlt2
          have hlid := hid.out j hlt2
          have bd := Pl.st_bd ids wins j (ids j)
          have hTd := hT.drew
          have HT : Hid _ := hTd
          clear hc hcw hTd
          go_wp2_with fail
          go_region_with (go_at_call 12; refine (zzLead_calls n bt bh bl bw (ids j) (fun m => (Pl.stF ids wins j m).1) (fun m => (Pl.stF ids wins j m).2) (wins j) w4 _ hlid hn bd.1 bd.2 ?_).mono ?_; exact HT.out; rintro e w' ⟨rfl, hT'⟩)
          all_goals
            go_wp2_with fail
            go_roundw
            case rel => exact ⟨j + 1, by omega, by go_num, tab_lead hT'⟩
            case measure => simp [intOf]; omega
        · obtain rfl : N = j := by omega
          go_wp2_with fail
          refine (zzFields_calls bt _ _ _ _ _ _ _ _ _ wr hT.c0 hT.c1 hT.c2).mono ?_
          rintro e w6 ⟨rfl, q6, hw6⟩
          have BB6 : Below w.heap.size w w6 := by
            rw [hw6]
            exact below_drewN (BB.trans (hT.below.mono BB.size)) _
          have hT6 : Tab w4 w6 n bt bh bl bw ones (col (fun m => (Pl.stF ids wins N m).1)) (col (fun m => (Pl.stF ids wins N m).2)) := by
            rw [hw6]
            exact hT.drewN _
          clear hw6 hT hI4 hW4 hid
          go_wp2_with fail
          go_loopw [17] (fun i w9 => ∃ k q : Nat, k ≤ n ∧ i = .int .i64 k ∧ w9 = w6.drewN q) (fun i _ => n - (intOf i).toNat)
          case atStart => exact ⟨0, 0, Nat.zero_le _, rfl, rfl⟩
          case round =>
            obtain ⟨k, q, hk, rfl, rfl⟩ := hrel
            by_cases hlt9 : k < n
            · have g0 : w6.cell? ⟨bh, k, none⟩ = some (.float .f64 Fl.one) := hT6.rh.cell hlt9
              have g1 : w6.cell? ⟨bl, k, none⟩ = some (.int .i64 ((Pl.stF ids wins N k).1 : Nat)) := hT6.rl.cell hlt9
              have g2 : w6.cell? ⟨bw, k, none⟩ = some (.int .i64 ((Pl.stF ids wins N k).2 : Nat)) := hT6.rw.cell hlt9
              have g3 := (hT6.below.cell (p := ⟨c1', k, none⟩) l1).trans (K1.out k hlt9)
              have g4 := (hT6.below.cell (p := ⟨c2', k, none⟩) l2).trans (K2.out k hlt9)
              rw [(Pl.law ids wins k N).1] at g1
              have o3 : FloatKind.f64.format.order Fl.one 4607182418800017408 = some .eq := by decide +kernel
              clear K1 K2 hT6
              go_wp2_with fail
              go_quiet (fail)
              go_wp2_with fail
              go_roundw
              case rel => exact ⟨k + 1, _, by omega, by go_num, rfl⟩
              case measure => simp [intOf]; omega
            · go_wp2_with fail
              go_ret
              exact ⟨rfl, below_drewN BB6 _⟩

end Go.Proofs.Qxb6617119a
