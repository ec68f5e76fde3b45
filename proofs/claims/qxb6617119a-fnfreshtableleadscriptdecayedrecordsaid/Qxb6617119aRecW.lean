import Derived.Test.Qxb6617119aRec
import Derived.BigRegion
namespace Go.Proofs.Qxb6617119a
open Go.RowKit
set_option linter.unusedVariables false

def DRes (ids : Nat → Nat) (wins : Nat → Bool) (n N : Nat) (w : World) (e : Ending) (w' : World) : Prop :=
  ∃ b1 b2, e = .returned (.tuple #[.slice (some ⟨b1, 0, none⟩) n n, .slice (some ⟨b2, 0, none⟩) n n]) ∧ Below w.heap.size w w' ∧ b1 < w'.heap.size ∧ b2 < w'.heap.size ∧
    (∀ m, m < n → w'.cell? ⟨b1, m, none⟩ = some (.int .i64 (Pl.Lf (Pl.cntF ids N m) : Nat))) ∧ (∀ m, m < n → w'.cell? ⟨b2, m, none⟩ = some (.int .i64 ((Pl.stF ids wins N m).2 : Nat)))

set_option maxHeartbeats 4000000 in
set_option maxRecDepth 100000 in
theorem decayed_calls (n N : Nat) (ids : Nat → Nat) (wins : Nat → Bool) (z1 z2 : Nat) (ai aw : Option Addr) (ci cw : Nat) (w : World) (hn : n ≤ 65536) (hN : N ≤ 65536)
    (hz1 : ∀ m, m < n → w.cell? ⟨z1, m, none⟩ = some (.int .i64 0)) (lz1 : z1 < w.heap.size) (hz2 : ∀ m, m < n → w.cell? ⟨z2, m, none⟩ = some (.int .i64 0)) (lz2 : z2 < w.heap.size)
    (hI : RowAt w ai N (fun j => .int .i64 (ids j : Nat))) (hW : RowAt w aw N (fun j => .bool (wins j))) (hid : Hid (∀ j, j < N → ids j < n)) :
    Calls Try.prog 11 #[.slice (some ⟨z1, 0, none⟩) n n, .slice (some ⟨z2, 0, none⟩) n n, .slice ai N ci, .slice aw N cw] w (DRes ids wins n N w) := by
  have hmk := run_make_row' (P := Try.prog) 28 3 (.int .i64 0) 8 Try.underlying28 Try.info3 rfl .i64 .i64 n (by omega) (by omega)
  have hmk1 := run_make_row' (P := Try.prog) 28 3 (.int .i64 0) 8 Try.underlying28 Try.info3 rfl .i64 .i64 (n + 1) (by omega) (by omega)
  rw [show ((n + 1 : Nat) : Int) = (n : Int) + 1 from by omega] at hmk1
  have Z1 : Hid (∀ m, m < n → w.cell? ⟨z1, m, none⟩ = some (.int .i64 0)) := hz1
  have Z2 : Hid (∀ m, m < n → w.cell? ⟨z2, m, none⟩ = some (.int .i64 0)) := hz2
  clear hz1 hz2
  go_enter Try.func11, Try.ntmps11
  go_wp2
  go_loopw [12] (fun i wr => ∃ j : Nat, j ≤ N ∧ i = .int .i64 j ∧ Rws w wr [RI w.heap.size n (Pl.cntF ids j)]) (fun i _ => N - (intOf i).toNat)
  case atStart => exact ⟨0, Nat.zero_le _, rfl, (Rws.start w).allocI n⟩
  case round =>
    obtain ⟨j, hj, rfl, hr⟩ := hrel
    by_cases hlt : j < N
    · rcases hI with h | ⟨bi, oi, rfl, li, hc⟩
      · exact absurd h (by omega)
      have g0 : _ = some (Value.int .i64 (ids j : Nat)) := (hr.below.cell (p := ⟨bi, oi + j, none⟩) li).trans (hc j hlt)
      have hlid := hid.out j hlt
      have g1 := hr.int 0 _ _ _ rfl hlid
      have f1 := hr.intz 0 _ _ _ rfl (ids j)
      have bd := Pl.cntF_le ids j (ids j)
      clear hc hmk hmk1
      go_wp2
      go_roundw
      case rel => exact ⟨j + 1, by omega, by go_num, hr.setI 0 _ _ _ rfl (ids j) _ (Pl.cntF ids (j + 1)) (by rw [Pl.cntF_hit]; omega) (fun m _ hm => (Pl.cntF_miss ids j m (Ne.symm hm)).symm)⟩
      case measure => simp [intOf]; omega
    · obtain rfl : N = j := by omega
      have hr1 := hr
      clear hr
      have hst : Rws w ((wr.alloc (.cells (madeCells #[.int .i64 0] n) 3)).alloc (.cells (madeCells #[.int .i64 0] (n + 1)) 3)) [RI w.heap.size n (Pl.cntF ids N), RI wr.heap.size n (upto 0 (Pl.hsF ids N)), RI (wr.heap.size + 1) (n + 1) (upto 1 (Pl.offF ids N))] :=
        ((hr1.allocI n).allocI (n + 1)).congrL (by rw [upto_zero, upto_one _ rfl]; simp)
      go_wp2
      generalize hb1 : wr.heap.size = b1 at *
      go_loopw [15] (fun i w2 => ∃ k : Nat, k ≤ n ∧ i = .int .i64 k ∧ Rws w w2 [RI w.heap.size n (Pl.cntF ids N), RI b1 n (upto k (Pl.hsF ids N)), RI (b1 + 1) (n + 1) (upto (k + 1) (Pl.offF ids N))]) (fun i _ => n - (intOf i).toNat)
      case atStart => exact ⟨0, Nat.zero_le _, rfl, hst⟩
      case round =>
        clear hst hr1 hb1
        obtain ⟨k, hk, rfl, hr⟩ := hrel
        by_cases hlt2 : k < n
        · have g0 := (hr.below.cell (p := ⟨z1, k, none⟩) lz1).trans (Z1.out k hlt2)
          have g1 := hr.int 0 _ _ _ rfl hlt2
          have g2 := hr.int 1 _ _ _ rfl hlt2
          have f2 := hr.intz 1 _ _ _ rfl k
          have g3 := hr.int 2 _ _ _ rfl (show k < n + 1 by omega)
          have g4 := hr.int 2 _ _ _ rfl (show k + 1 < n + 1 by omega)
          have f4 := hr.intz 2 _ _ _ rfl (k + 1)
          rw [upto_at] at g3
          have bo := Pl.offF_le ids N k hN
          have bc := Pl.cntF_le ids N k
          have ho : Hid (Pl.offF ids N (k + 1) = Pl.offF ids N k + Pl.hsF ids N k + 24) := rfl
          by_cases h32 : Pl.cntF ids N k < 32
          · have eh : Hid (Pl.hsF ids N k = 0) := by show Pl.Hf _ = 0; unfold Pl.Hf; rw [if_pos h32]
            clear hmk hmk1
            go_wp2
            go_roundw
            case rel => exact ⟨k + 1, by omega, by go_num, rec2_step hr _ _ (by rw [eh.out]; rfl) (by rw [ho.out, eh.out]; omega)⟩
            case measure => simp [intOf]; omega
          · have eh : Hid (Pl.hsF ids N k = 1 + (Pl.cntF ids N k - 32) / 16) := by show Pl.Hf _ = _; unfold Pl.Hf; rw [if_neg h32]
            clear hmk hmk1
            go_wp2
            go_roundw
            case rel => exact ⟨k + 1, by omega, by go_num, rec2_step hr _ _ (by rw [eh.out]; omega) (by rw [ho.out, eh.out]; omega)⟩
            case measure => simp [intOf]; omega
        · obtain rfl : n = k := by omega
          have hr2 := rec2_done hr
          clear hr
          have bo := Pl.offF_le ids N n hN
          have hmkb := run_make_row' (P := Try.prog) 44 5 (.int .u8 0) 1 Try.underlying44 Try.info5 rfl .i64 .i64 (Pl.offF ids N n) (by omega) (by omega)
          have g3 := hr2.int 2 _ _ _ rfl (show n < n + 1 by omega)
          have hst := hr2.allocB (Pl.offF ids N n)
          go_wp2
          generalize hb3 : wr.heap.size = b3 at *
          go_loop [19] (fun i => ∃ k : Nat, k ≤ n ∧ i = .int .i64 k) (fun i => n - (intOf i).toNat)
          case atStart => exact ⟨0, Nat.zero_le _, rfl⟩
          case round =>
            obtain ⟨k, hk, rfl⟩ := hrel
            by_cases hlt3 : k < n
            · have g0 := (hst.below.cell (p := ⟨z2, k, none⟩) lz2).trans (Z2.out k hlt3)
              clear hmk hmk1 hmkb g3
              go_wp2
              go_loop [20] (fun i => ∃ b : Nat, b ≤ 5 ∧ i = .int .i64 b) (fun i => 5 - (intOf i).toNat)
              case atStart => exact ⟨0, by omega, rfl⟩
              case round =>
                obtain ⟨b, hb, rfl⟩ := hrel
                by_cases hlt4 : b < 5
                · go_wp2
                  go_round
                  case rel => exact ⟨b + 1, by omega, by go_num⟩
                  case measure => simp [intOf]; omega
                · go_wp2
                  go_round
                  case rel => exact ⟨k + 1, by omega, by go_num⟩
                  case measure => simp [intOf]; omega
            · have hst5 : Rws w ((wr.alloc (.cells (madeCells #[.int .u8 0] (Pl.offF ids N n)) 5)).alloc (.cells (madeCells #[.int .i64 0] n) 3)) [RI w.heap.size n (Pl.cntF ids N), RI b1 n (Pl.hsF ids N), RI (b1 + 1) (n + 1) (Pl.offF ids N), RB b3 (Pl.offF ids N n) (fun _ => 0), RI (b3 + 1) n (Pl.cntF ids 0)] :=
                (hst.allocI n).congrL (by simp [hb3]; rfl)
              clear hst hr2 g3 hmkb
              go_wp2
              clear hb3
              go_loopw [22] (fun i w5 => ∃ (j : Nat) (B : Nat → Nat), j ≤ N ∧ i = .int .i64 j ∧ Rws w w5 [RI w.heap.size n (Pl.cntF ids N), RI b1 n (Pl.hsF ids N), RI (b1 + 1) (n + 1) (Pl.offF ids N), RB b3 (Pl.offF ids N n) B, RI (b3 + 1) n (Pl.cntF ids j)] ∧ Hid (Pl.BitsOk ids wins N n j B)) (fun i _ => N - (intOf i).toNat)
              case atStart => exact ⟨0, _, Nat.zero_le _, rfl, hst5, Pl.BitsOk.start ids wins N n⟩
              case round =>
                obtain ⟨j, B, hj, rfl, hr, hB⟩ := hrel
                clear hst5
                by_cases hlt5 : j < N
                · rcases hI with h | ⟨bi, oi, rfl, li, hc⟩
                  · exact absurd h (by omega)
                  rcases hW with h | ⟨bw, ow, rfl, lw, hcw⟩
                  · exact absurd h (by omega)
                  have g0 : _ = some (Value.int .i64 (ids j : Nat)) := (hr.below.cell (p := ⟨bi, oi + j, none⟩) li).trans (hc j hlt5)
                  have hlid := hid.out j hlt5
                  have g1 := hr.int 4 _ _ _ rfl hlid
                  have f1 := hr.intz 4 _ _ _ rfl (ids j)
                  have bd := Pl.cntF_le ids j (ids j)
                  have hr' := hr.setI 4 _ _ _ rfl (ids j) (((Pl.cntF ids j (ids j) : Nat) : Int) + 1) (Pl.cntF ids (j + 1)) (by rw [Pl.cntF_hit]; omega) (fun m _ hm => (Pl.cntF_miss ids j m (Ne.symm hm)).symm)
                  have gw : _ = some (Value.bool (wins j)) := (hr'.below.cell (p := ⟨bw, ow + j, none⟩) lw).trans (hcw j hlt5)
                  clear hc hcw hmk hmk1
                  cases hw : wins j with
                  | false =>
                    rw [hw] at gw
                    have hB' : Hid (Pl.BitsOk ids wins N n (j + 1) B) := hB.out.lose hw
                    clear hw
                    go_wp2
                    go_roundw
                    case rel => exact ⟨j + 1, B, by omega, by go_num, hr', hB'⟩
                    case measure => simp [intOf]; omega
                  | true =>
                    rw [hw] at gw
                    have gz := (hr'.below.cell (p := ⟨z1, ids j, none⟩) lz1).trans (Z1.out (ids j) hlid)
                    have go1 := hr'.int 2 _ _ _ rfl (show ids j < n + 1 by omega)
                    have bo1 := Pl.offF_le ids N (ids j) hN
                    obtain ⟨T, hK⟩ := incK hB.out hlt5 hlid hw
                    have hom := Pl.offF_mono ids N (show ids j + 1 ≤ n by omega)
                    clear hw
                    have eg : Hid ((32 < Pl.cntF ids j (ids j) + 1 ∧ Pl.Gf (Pl.cntF ids j (ids j) + 1) = 1 + (Pl.cntF ids j (ids j) + 1 - 32 - 1) / 16) ∨ (¬ 32 < Pl.cntF ids j (ids j) + 1 ∧ Pl.Gf (Pl.cntF ids j (ids j) + 1) = 0)) := by
                      by_cases h33 : 32 < Pl.cntF ids j (ids j) + 1
                      · exact .inl ⟨h33, by unfold Pl.Gf; rw [if_pos h33]⟩
                      · exact .inr ⟨h33, by unfold Pl.Gf; rw [if_neg h33]⟩
                    by_cases h33 : 32 < Pl.cntF ids j (ids j) + 1
                    all_goals
                      go_wp2
                      go_loopw [27] (fun p w6 => ∃ (q : Nat) (B' : Nat → Nat), p = .int .i64 q ∧ Rws w w6 [RI w.heap.size n (Pl.cntF ids N), RI b1 n (Pl.hsF ids N), RI (b1 + 1) (n + 1) (Pl.offF ids N), RB b3 (Pl.offF ids N n) B', RI (b3 + 1) n (Pl.cntF ids (j + 1))] ∧
                        Hid (Pl.Inc (Pl.offF ids N (ids j)) (Pl.hsF ids N (ids j) + 24) T B q B')) (fun p _ => Pl.offF ids N n - (intOf p).toNat)
                      case atStart => exact ⟨Pl.offF ids N (ids j) + Pl.Gf (Pl.cntF ids j (ids j) + 1), B, int_i (by rcases eg.out with ⟨_, e⟩ | ⟨_, e⟩ <;> rw [e] <;> omega), hr', hK.start⟩
                      case round =>
                        obtain ⟨q, B', rfl, hr6, hInc⟩ := hrel
                        clear hr' gw gz go1 g0 g1 f1
                        have hq1 := hK.ends q B' hInc.out
                        have go2 := hr6.int 2 _ _ _ rfl (show ids j + 1 < n + 1 by omega)
                        have gb := hr6.byte 3 _ _ _ rfl (show q < Pl.offF ids N n by omega)
                        have fb := hr6.bytez 3 _ _ _ rfl q
                        by_cases hb1 : B' q = 1
                        · have hr7 := hr6.setB 3 _ _ _ rfl q 0 (Pl.set B' q 0) (by rw [set_at]; rfl) (fun m _ hm => set_ne B' q 0 m hm)
                          have hI7 : Hid _ := hK.step q B' hInc.out hb1
                          rw [hb1] at gb
                          clear hb1 hInc
                          go_wp2
                          go_roundw
                          case rel => exact ⟨q + 1, Pl.set B' q 0, by go_num, hr7, hI7⟩
                          case measure => simp [intOf]; omega
                        · have hb0 : B' q = 0 := by have := hInc.out.le q; omega
                          have hr7 := hr6.setB 3 _ _ _ rfl q 1 (Pl.set B' q 1) (by rw [set_at]; rfl) (fun m _ hm => set_ne B' q 1 m hm)
                          have hB7 : Hid (Pl.BitsOk ids wins N n (j + 1) (Pl.set B' q 1)) := hK.fin q B' hInc.out hb0
                          rw [hb0] at gb
                          clear hb1 hb0 hInc
                          go_wp2
                          go_roundw
                          case rel => exact ⟨j + 1, Pl.set B' q 1, by omega, by go_num, hr7, hB7⟩
                          case measure => simp [intOf]; omega
                · obtain rfl : N = j := by omega
                  have hst7 : Rws w ((wr.alloc (.cells (madeCells #[.int .i64 0] n) 3)).alloc (.cells (madeCells #[.int .i64 0] n) 3)) [RI w.heap.size n (Pl.cntF ids N), RI b1 n (Pl.hsF ids N), RI (b1 + 1) (n + 1) (Pl.offF ids N), RB b3 (Pl.offF ids N n) B, RI (b3 + 1) n (Pl.cntF ids N), RI wr.heap.size n (upto 0 (LnF ids N)), RI (wr.heap.size + 1) n (upto 0 (WnF ids wins N))] :=
                    ((hr.allocI n).allocI n).congrL (by rw [upto_zero, upto_zero]; simp)
                  clear hr hI hW hid Z2
                  go_wp2
                  generalize hb5 : wr.heap.size = b5 at *
                  go_loopw [30] (fun i w7 => ∃ k : Nat, k ≤ n ∧ i = .int .i64 k ∧ Rws w w7 [RI w.heap.size n (Pl.cntF ids N), RI b1 n (Pl.hsF ids N), RI (b1 + 1) (n + 1) (Pl.offF ids N), RB b3 (Pl.offF ids N n) B, RI (b3 + 1) n (Pl.cntF ids N), RI b5 n (upto k (LnF ids N)), RI (b5 + 1) n (upto k (WnF ids wins N))]) (fun i _ => n - (intOf i).toNat)
                  case atStart => exact ⟨0, Nat.zero_le _, rfl, hst7⟩
                  case round =>
                    clear hst7 hb5
                    obtain ⟨k, hk, rfl, hr⟩ := hrel
                    by_cases hlt7 : k < n
                    · have g0 := (hr.below.cell (p := ⟨z1, k, none⟩) lz1).trans (Z1.out k hlt7)
                      have g1 := hr.int 0 _ _ _ rfl hlt7
                      have gl := hr.int 5 _ _ _ rfl hlt7
                      have fl := hr.intz 5 _ _ _ rfl k
                      have bc := Pl.cntF_le ids N k
                      have bo1 := Pl.offF_le ids N k hN
                      have bh1 := Pl.hsF_le ids N k hN
                      have hom := Pl.offF_mono ids N (show k + 1 ≤ n by omega)
                      have hoe1 : Pl.offF ids N (k + 1) ≤ Pl.offF ids N k + Pl.hsF ids N k + 24 := Nat.le_refl _
                      have hoe2 : Pl.offF ids N k + Pl.hsF ids N k + 24 ≤ Pl.offF ids N (k + 1) := Nat.le_refl _
                      clear hmk hmk1
                      have eL : Hid ((Pl.cntF ids N k < 32 ∧ LnF ids N k = Pl.cntF ids N k) ∨ (¬ Pl.cntF ids N k < 32 ∧ LnF ids N k = 16 + (Pl.cntF ids N k - 32) % 16)) := by
                        by_cases h32 : Pl.cntF ids N k < 32
                        · exact .inl ⟨h32, by unfold LnF Pl.Lf; rw [if_pos h32]⟩
                        · exact .inr ⟨h32, by unfold LnF Pl.Lf; rw [if_neg h32]⟩
                      have hset : ∀ x : Int, x = (LnF ids N k : Nat) → Rws w (wr.setCell ⟨b5, k, none⟩ (.int .i64 x)) [RI w.heap.size n (Pl.cntF ids N), RI b1 n (Pl.hsF ids N), RI (b1 + 1) (n + 1) (Pl.offF ids N), RB b3 (Pl.offF ids N n) B, RI (b3 + 1) n (Pl.cntF ids N), RI b5 n (upto (k + 1) (LnF ids N)), RI (b5 + 1) n (upto k (WnF ids wins N))] :=
                        fun x hx => hr.setI 5 _ _ _ rfl k x (upto (k + 1) (LnF ids N)) (by rw [upto_at]; exact hx) (fun m _ hm => upto_ne k _ m hm)
                      have HS : Hid _ := hset
                      clear hset
                      have hcase : (Pl.cntF ids N k < 32 ∧ Rws w (wr.setCell ⟨b5, k, none⟩ (.int .i64 (Pl.cntF ids N k : Nat))) [RI w.heap.size n (Pl.cntF ids N), RI b1 n (Pl.hsF ids N), RI (b1 + 1) (n + 1) (Pl.offF ids N), RB b3 (Pl.offF ids N n) B, RI (b3 + 1) n (Pl.cntF ids N), RI b5 n (upto (k + 1) (LnF ids N)), RI (b5 + 1) n (upto k (WnF ids wins N))]) ∨
          (¬ Pl.cntF ids N k < 32 ∧ Rws w (wr.setCell ⟨b5, k, none⟩ (.int .i64 (16 + (((Pl.cntF ids N k : Nat) : Int) - 32) % 16))) [RI w.heap.size n (Pl.cntF ids N), RI b1 n (Pl.hsF ids N), RI (b1 + 1) (n + 1) (Pl.offF ids N), RB b3 (Pl.offF ids N n) B, RI (b3 + 1) n (Pl.cntF ids N), RI b5 n (upto (k + 1) (LnF ids N)), RI (b5 + 1) n (upto k (WnF ids wins N))]) := by
                        rcases eL.out with ⟨h, e⟩ | ⟨h, e⟩
                        · exact .inl ⟨h, HS.out _ (by omega)⟩
                        · exact .inr ⟨h, HS.out _ (by omega)⟩
                      clear HS eL
                      rcases hcase with ⟨h32, hr'⟩ | ⟨h32, hr'⟩
                      all_goals
                        have go1 := hr'.int 2 _ _ _ rfl (show k < n + 1 by omega)
                        have gh1 := hr'.int 1 _ _ _ rfl hlt7
                        go_wp2
                        go_quiet (fail)
                        go_wp2
                        go_loopw [33, 34] (fun v p w8 => ∃ x s : Nat, x ≤ 24 ∧ p = .int .i64 (Pl.offF ids N k + Pl.hsF ids N k + x : Nat) ∧ v = .int .i64 s ∧ Hid (s = Pl.seg B (Pl.offF ids N k + Pl.hsF ids N k) x) ∧ s < 16777216 ∧ Rws w w8 [RI w.heap.size n (Pl.cntF ids N), RI b1 n (Pl.hsF ids N), RI (b1 + 1) (n + 1) (Pl.offF ids N), RB b3 (Pl.offF ids N n) B, RI (b3 + 1) n (Pl.cntF ids N), RI b5 n (upto (k + 1) (LnF ids N)), RI (b5 + 1) n (upto k (WnF ids wins N))])
                          (fun _ p _ => Pl.offF ids N (k + 1) - (intOf p).toNat)
                        case atStart => exact ⟨0, 0, by omega, by go_num, rfl, rfl, by omega, hr'.drewN _⟩
                        case round =>
                          obtain ⟨x, s, hx, rfl, rfl, hs, hs24, hr8⟩ := hrel
                          clear hr' go1 gh1 g0 g1 gl fl hr
                          have go1 := hr8.int 2 _ _ _ rfl (show k < n + 1 by omega)
                          have go2 := hr8.int 2 _ _ _ rfl (show k + 1 < n + 1 by omega)
                          have gh1 := hr8.int 1 _ _ _ rfl hlt7
                          by_cases hx24 : x < 24
                          · have gb := hr8.byte 3 _ _ _ rfl (show Pl.offF ids N k + Pl.hsF ids N k + x < Pl.offF ids N n by omega)
                            have hs' := seg_bd hB.out.le (Pl.offF ids N k + Pl.hsF ids N k) (x + 1) (by omega)
                            have hle := hB.out.le (Pl.offF ids N k + Pl.hsF ids N k + x)
                            by_cases hb1 : B (Pl.offF ids N k + Pl.hsF ids N k + x) = 1
                            · rw [hb1] at gb
                              have hv : Hid _ := v_step hB.out.le hs.out hb1 hx24
                              clear hb1 hle
                              go_wp2
                              go_quiet (fail)
                              go_wp2
                              go_roundw
                              case rel => exact ⟨x + 1, Pl.seg B (Pl.offF ids N k + Pl.hsF ids N k) (x + 1), by omega, by go_num, int_i hv.out, rfl, hs', hr8.drewN _⟩
                              case measure => simp [intOf]; omega
                            · have hb0 : B (Pl.offF ids N k + Pl.hsF ids N k + x) = 0 := by omega
                              have hv : Hid _ := v_miss hs.out hb0
                              rw [hb0] at gb
                              clear hb1 hb0 hle hs'
                              go_wp2
                              go_roundw
                              case rel => exact ⟨x + 1, s, by omega, by go_num, rfl, hv, hs24, hr8⟩
                              case measure => simp [intOf]; omega
                          · obtain rfl : x = 24 := by omega
                            have gq := hr8.int 6 _ _ _ rfl hlt7
                            have fq := hr8.intz 6 _ _ _ rfl k
                            have hr9 := hr8.setI 6 _ _ _ rfl k (s : Nat) (upto (k + 1) (WnF ids wins N)) (by rw [upto_at]; rw [hs.out, hB.out.won k hlt7]; rfl) (fun m _ hm => upto_ne k _ m hm)
                            go_wp2
                            go_roundw
                            case rel => exact ⟨k + 1, by omega, by go_num, hr9⟩
                            case measure => simp [intOf]; omega
                    · obtain rfl : n = k := by omega
                      have r1 := (hr.row 5 _ rfl).2
                      have r2 := (hr.row 6 _ rfl).2
                      have k1 : Hid (∀ m, m < n → wr.cell? ⟨b5, m, none⟩ = some (.int .i64 (Pl.Lf (Pl.cntF ids N m) : Nat))) := fun m hm => by
                        have := hr.int 5 _ _ _ rfl hm
                        rw [upto_lt _ hm] at this
                        exact this
                      have k2 : Hid (∀ m, m < n → wr.cell? ⟨b5 + 1, m, none⟩ = some (.int .i64 ((Pl.stF ids wins N m).2 : Nat))) := fun m hm => by
                        have := hr.int 6 _ _ _ rfl hm
                        rw [upto_lt _ hm] at this
                        exact this
                      go_wp2
                      go_ret2
                      exact ⟨b5, b5 + 1, rfl, hr.below, r1.lt, r2.lt, k1, k2⟩

end Go.Proofs.Qxb6617119a
