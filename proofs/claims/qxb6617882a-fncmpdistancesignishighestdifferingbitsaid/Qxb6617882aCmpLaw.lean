import Derived.Test.Qxb6617882aArr
import Derived.Test.Qxb6617882aBit
namespace Go.Proofs.Qxb6617882a
open Go.RowKit
set_option linter.unusedVariables false

/-- the three arrays lie in W at b, b+1, b+1+1 -/
structure Three (W : World) (n : Nat) (t a b : Nat → Nat) : Prop where
  x1 : W.heap[n]? = some (.cells (cellsA t) 22 (0, 0))
  x2 : W.heap[n + 1]? = some (.cells (cellsA a) 22 (0, 0))
  x3 : W.heap[n + 1 + 1]? = some (.cells (cellsA b) 22 (0, 0))

theorem Three.below {W W' : World} {n : Nat} {t a b : Nat → Nat} (h : Three W n t a b) (hb : Below W.heap.size W W') : Three W' n t a b := by
  have lt : ∀ {i : Nat} {o : Obj}, W.heap[i]? = some o → i < W.heap.size := fun h => (Array.getElem?_eq_some_iff.1 h).1
  exact ⟨(hb.block _ (lt h.x1)).trans h.x1, (hb.block _ (lt h.x2)).trans h.x2, (hb.block _ (lt h.x3)).trans h.x3⟩

theorem Three.drewN {W : World} {n : Nat} {t a b : Nat → Nat} (h : Three W n t a b) (q : Nat) : Three (W.drewN q) n t a b := ⟨h.x1, h.x2, h.x3⟩

theorem sz22 (f : Nat → Nat) : (Try.prog.info? 22).map (·.size) = some (cellsA f).size := by rw [cellsA_size]; exact Try.size22

set_option maxHeartbeats 2000000 in
/-- a and b part first at k -/
theorem law_diff (t a b : Nat → Nat) (k : Nat) (got self : Int) (eqb : Bool) (w : World) (ht : Hid (∀ i, t i < 256)) (ha : Hid (∀ i, a i < 256)) (hb : Hid (∀ i, b i < 256)) (hk : k < 20) (hsame : Hid (∀ i, i < k → a i = b i)) (hne : Hid (a k ≠ b k))
    (c1 : Hid (∀ w, Calls Try.prog 6 #[.agg (cellsA t), .agg (cellsA a), .agg (cellsA b)] w fun e w' => e = .returned (.int .i64 got) ∧ Below w.heap.size w w'))
    (c2 : Hid (∀ w, Calls Try.prog 6 #[.agg (cellsA t), .agg (cellsA t), .agg (cellsA a)] w fun e w' => e = .returned (.int .i64 self) ∧ Below w.heap.size w w'))
    (hgot : Hid (got = ((a k ^^^ t k : Nat) : Int) - ((b k ^^^ t k : Nat) : Int))) (hg1 : -255 ≤ got) (hg2 : got ≤ 255)
    (heq : ∀ w, (Op.equalIn 10000 22 (.agg (cellsA a)) (.agg (cellsA t))).run Try.prog w = .ok eqb w) (hs1 : Hid (eqb = true → self = 0)) (hs2 : Hid (eqb = false → self < 0)) :
    Calls Try.prog 3 #[.agg (cellsA t), .agg (cellsA a), .agg (cellsA b)] w fun e w' => e = .returned (.bool true) ∧ Below w.heap.size w w' := by
  obtain ⟨x1, x2, x3⟩ := boxes w (.cells (cellsA t) 22) (.cells (cellsA a) 22) (.cells (cellsA b) 22)
  have bel := below3 w (.cells (cellsA t) 22) (.cells (cellsA a) 22) (.cells (cellsA b) 22)
  have X : Three _ w.heap.size t a b := ⟨x1, x2, x3⟩
  clear x1 x2 x3
  go_enter Try.func3, Try.ntmps3
  go_wp2_with (first
    | (refine wpList_load_row rfl 22 _ rfl w.heap.size rfl 22 (cellsA t) (0, 0) _ X.x1 Try.underlying22 rfl (sz22 t) ?_)
    | (refine wpList_load_row rfl 22 _ rfl (w.heap.size + 1) rfl 22 (cellsA a) (0, 0) _ X.x2 Try.underlying22 rfl (sz22 a) ?_)
    | (refine wpList_load_row rfl 22 _ rfl (w.heap.size + 1 + 1) rfl 22 (cellsA b) (0, 0) _ X.x3 Try.underlying22 rfl (sz22 b) ?_))
  refine (c1.out _).mono ?_
  rintro e w1 ⟨rfl, b1⟩
  have X1 := X.below b1
  have bel1 := below6 bel b1
  clear X bel b1
  go_wp2_with (first
    | (refine wpList_load_row rfl 22 _ rfl w.heap.size rfl 22 (cellsA t) (0, 0) _ X1.x1 Try.underlying22 rfl (sz22 t) ?_)
    | (refine wpList_load_row rfl 22 _ rfl (w.heap.size + 1) rfl 22 (cellsA a) (0, 0) _ X1.x2 Try.underlying22 rfl (sz22 a) ?_))
  refine (c2.out _).mono ?_
  rintro e w2 ⟨rfl, b2⟩
  have X2 := X1.below b2
  have bel2 := below6 bel1 b2
  clear X1 bel1 b2
  go_wp2_with fail
  go_loopw [9] (fun i wr => ∃ j q : Nat, j ≤ k ∧ i = .int .i64 j ∧ wr = w2.drewN q) (fun i _ => k - (intOf i).toNat)
  case atStart => exact ⟨0, 0, Nat.zero_le _, rfl, rfl⟩
  case round =>
    obtain ⟨j, q, hj, rfl, rfl⟩ := hrel
    have g1 := cell_blk X2.x1 (show j < 20 by omega)
    have g2 := cell_blk X2.x2 (show j < 20 by omega)
    have g3 := cell_blk X2.x3 (show j < 20 by omega)
    have hj20 : (j : Int) < 20 := by omega
    by_cases hjk : j < k
    · have hd : (((a j : Nat) : Int) == ((b j : Nat) : Int)) = true := by rw [hsame.out j hjk]; simp
      go_wp2_with fail
      go_quiet (fail)
      go_wp2_with fail
      go_roundw
      case rel => exact ⟨j + 1, _, by omega, by go_num, rfl⟩
      case measure => simp [intOf]; omega
    · obtain rfl : j = k := by omega
      have hd : (((a j : Nat) : Int) == ((b j : Nat) : Int)) = false := by rw [beq_eq_false_iff_ne]; have := hne.out; omega
      have e1 := u8_xor_nat (a j) (b j) (ha.out j) (hb.out j)
      have l1 : (a j ^^^ b j) < 256 := Nat.xor_lt_two_pow (n := 8) (ha.out j) (hb.out j)
      have x0 : Hid (a j ^^^ b j ≠ 0) := fun e => hne.out (xor_inj (t := b j) (by rw [e, Nat.xor_self]))
      go_wp2_with fail
      go_quiet (fail)
      go_wp2_with fail
      go_quiet (fail)
      go_wp2_with fail
      go_loopw [12] (fun v w3 => ∃ e h q : Nat, v = .int .u8 h ∧ BitH (a j ^^^ b j) e h ∧ w3 = w2.drewN q) (fun v _ => (intOf v).toNat)
      case atStart => exact ⟨7, 128, _, rfl, BitH.start l1, World.drewN_drewN _ _ _⟩
      case round =>
        obtain ⟨e, h, q3, rfl, hB, rfl⟩ := hrel
        have hbd := hB.bd
        have hn0 : ((h : Int) != 0) = true := by rw [bne_iff_ne]; omega
        have e2 := u8_and_nat h (a j ^^^ b j) (by omega) l1
        by_cases hz : h &&& (a j ^^^ b j) = 0
        · obtain ⟨hpos, hB'⟩ := hB.step hz x0.out
          have hz' : (((h &&& (a j ^^^ b j) : Nat) : Int) == 0) = true := by rw [hz]; rfl
          clear hz
          go_wp2_with fail
          go_roundw
          case rel => exact ⟨e - 1, h / 2, q3, by go_num, hB', rfl⟩
          case measure => simp [intOf]; omega
        · have hz' : (((h &&& (a j ^^^ b j) : Nat) : Int) == 0) = false := by rw [beq_eq_false_iff_ne]; omega
          obtain ⟨s1, s2⟩ := hB.sign (T := t j) hz
          have e3 := u8_and_nat (a j) h (ha.out j) (by omega)
          have e4 := u8_and_nat (t j) h (ht.out j) (by omega)
          clear hz hB
          by_cases hw : a j &&& h = t j &&& h
          · have hneg : got < 0 := by have := hgot.out; have := s1 hw; omega
            have hw' : (((a j &&& h : Nat) : Int) == ((t j &&& h : Nat) : Int)) = true := by rw [hw]; simp
            clear hw s1 s2 hgot
            all_goals
              cases eqb with
              | true =>
                have h0 : self = 0 := hs1.out rfl
                subst h0
                clear hs1 hs2
                go_wp2_with fail
                go_quiet (fail)
                go_wp2_with (first
                  | (refine wpList_load_row rfl 22 _ rfl (w.heap.size + 1) rfl 22 (cellsA a) (0, 0) _ (X2.drewN _).x2 Try.underlying22 rfl (sz22 a) ?_)
                  | (refine wpList_load_row rfl 22 _ rfl w.heap.size rfl 22 (cellsA t) (0, 0) _ (X2.drewN _).x1 Try.underlying22 rfl (sz22 t) ?_))
                go_ret
                exact ⟨rfl, below_drewN bel2 _⟩
              | false =>
                have h0 : self < 0 := hs2.out rfl
                clear hs1 hs2
                go_wp2_with fail
                go_quiet (fail)
                go_wp2_with (first
                  | (refine wpList_load_row rfl 22 _ rfl (w.heap.size + 1) rfl 22 (cellsA a) (0, 0) _ (X2.drewN _).x2 Try.underlying22 rfl (sz22 a) ?_)
                  | (refine wpList_load_row rfl 22 _ rfl w.heap.size rfl 22 (cellsA t) (0, 0) _ (X2.drewN _).x1 Try.underlying22 rfl (sz22 t) ?_))
                go_ret
                exact ⟨rfl, below_drewN bel2 _⟩
          · have hpos : 0 < got := by have := hgot.out; have := s2 hw; omega
            have hw' : (((a j &&& h : Nat) : Int) == ((t j &&& h : Nat) : Int)) = false := by rw [beq_eq_false_iff_ne]; omega
            clear hw s1 s2 hgot
            all_goals
              cases eqb with
              | true =>
                have h0 : self = 0 := hs1.out rfl
                subst h0
                clear hs1 hs2
                go_wp2_with fail
                go_quiet (fail)
                go_wp2_with (first
                  | (refine wpList_load_row rfl 22 _ rfl (w.heap.size + 1) rfl 22 (cellsA a) (0, 0) _ (X2.drewN _).x2 Try.underlying22 rfl (sz22 a) ?_)
                  | (refine wpList_load_row rfl 22 _ rfl w.heap.size rfl 22 (cellsA t) (0, 0) _ (X2.drewN _).x1 Try.underlying22 rfl (sz22 t) ?_))
                go_ret
                exact ⟨rfl, below_drewN bel2 _⟩
              | false =>
                have h0 : self < 0 := hs2.out rfl
                clear hs1 hs2
                go_wp2_with fail
                go_quiet (fail)
                go_wp2_with (first
                  | (refine wpList_load_row rfl 22 _ rfl (w.heap.size + 1) rfl 22 (cellsA a) (0, 0) _ (X2.drewN _).x2 Try.underlying22 rfl (sz22 a) ?_)
                  | (refine wpList_load_row rfl 22 _ rfl w.heap.size rfl 22 (cellsA t) (0, 0) _ (X2.drewN _).x1 Try.underlying22 rfl (sz22 t) ?_))
                go_ret
                exact ⟨rfl, below_drewN bel2 _⟩

set_option maxHeartbeats 2000000 in
/-- a and b are one -/
theorem law_same (t a b : Nat → Nat) (self : Int) (eqb : Bool) (w : World) (hsame : Hid (∀ i, i < 20 → a i = b i))
    (c1 : Hid (∀ w, Calls Try.prog 6 #[.agg (cellsA t), .agg (cellsA a), .agg (cellsA b)] w fun e w' => e = .returned (.int .i64 0) ∧ Below w.heap.size w w'))
    (c2 : Hid (∀ w, Calls Try.prog 6 #[.agg (cellsA t), .agg (cellsA t), .agg (cellsA a)] w fun e w' => e = .returned (.int .i64 self) ∧ Below w.heap.size w w'))
    (heq : ∀ w, (Op.equalIn 10000 22 (.agg (cellsA a)) (.agg (cellsA t))).run Try.prog w = .ok eqb w) (hs1 : Hid (eqb = true → self = 0)) (hs2 : Hid (eqb = false → self < 0)) :
    Calls Try.prog 3 #[.agg (cellsA t), .agg (cellsA a), .agg (cellsA b)] w fun e w' => e = .returned (.bool true) ∧ Below w.heap.size w w' := by
  obtain ⟨x1, x2, x3⟩ := boxes w (.cells (cellsA t) 22) (.cells (cellsA a) 22) (.cells (cellsA b) 22)
  have bel := below3 w (.cells (cellsA t) 22) (.cells (cellsA a) 22) (.cells (cellsA b) 22)
  have X : Three _ w.heap.size t a b := ⟨x1, x2, x3⟩
  clear x1 x2 x3
  go_enter Try.func3, Try.ntmps3
  go_wp2_with (first
    | (refine wpList_load_row rfl 22 _ rfl w.heap.size rfl 22 (cellsA t) (0, 0) _ X.x1 Try.underlying22 rfl (sz22 t) ?_)
    | (refine wpList_load_row rfl 22 _ rfl (w.heap.size + 1) rfl 22 (cellsA a) (0, 0) _ X.x2 Try.underlying22 rfl (sz22 a) ?_)
    | (refine wpList_load_row rfl 22 _ rfl (w.heap.size + 1 + 1) rfl 22 (cellsA b) (0, 0) _ X.x3 Try.underlying22 rfl (sz22 b) ?_))
  refine (c1.out _).mono ?_
  rintro e w1 ⟨rfl, b1⟩
  have X1 := X.below b1
  have bel1 := below6 bel b1
  clear X bel b1
  go_wp2_with (first
    | (refine wpList_load_row rfl 22 _ rfl w.heap.size rfl 22 (cellsA t) (0, 0) _ X1.x1 Try.underlying22 rfl (sz22 t) ?_)
    | (refine wpList_load_row rfl 22 _ rfl (w.heap.size + 1) rfl 22 (cellsA a) (0, 0) _ X1.x2 Try.underlying22 rfl (sz22 a) ?_))
  refine (c2.out _).mono ?_
  rintro e w2 ⟨rfl, b2⟩
  have X2 := X1.below b2
  have bel2 := below6 bel1 b2
  clear X1 bel1 b2
  go_wp2_with fail
  go_loopw [9] (fun i wr => ∃ j q : Nat, j ≤ 20 ∧ i = .int .i64 j ∧ wr = w2.drewN q) (fun i _ => 20 - (intOf i).toNat)
  case atStart => exact ⟨0, 0, Nat.zero_le _, rfl, rfl⟩
  case round =>
    obtain ⟨j, q, hj, rfl, rfl⟩ := hrel
    by_cases hjk : j < 20
    · have g1 := cell_blk X2.x1 hjk
      have g2 := cell_blk X2.x2 hjk
      have g3 := cell_blk X2.x3 hjk
      have hj20 : (j : Int) < 20 := by omega
      have hd : (((a j : Nat) : Int) == ((b j : Nat) : Int)) = true := by rw [hsame.out j hjk]; simp
      go_wp2_with fail
      go_quiet (fail)
      go_wp2_with fail
      go_roundw
      case rel => exact ⟨j + 1, _, by omega, by go_num, rfl⟩
      case measure => simp [intOf]; omega
    · have hd : decide ((j : Int) < 20) = false := decide_eq_false (by omega)
      clear hsame
      cases eqb with
      | true =>
        have h0 : self = 0 := hs1.out rfl
        subst h0
        clear hs1 hs2
        go_wp2_with fail
        go_quiet (fail)
        go_wp2_with (first
          | (refine wpList_load_row rfl 22 _ rfl (w.heap.size + 1) rfl 22 (cellsA a) (0, 0) _ (X2.drewN _).x2 Try.underlying22 rfl (sz22 a) ?_)
          | (refine wpList_load_row rfl 22 _ rfl w.heap.size rfl 22 (cellsA t) (0, 0) _ (X2.drewN _).x1 Try.underlying22 rfl (sz22 t) ?_))
        go_ret
        exact ⟨rfl, below_drewN bel2 _⟩
      | false =>
        have h0 : self < 0 := hs2.out rfl
        clear hs1 hs2
        go_wp2_with fail
        go_quiet (fail)
        go_wp2_with (first
          | (refine wpList_load_row rfl 22 _ rfl (w.heap.size + 1) rfl 22 (cellsA a) (0, 0) _ (X2.drewN _).x2 Try.underlying22 rfl (sz22 a) ?_)
          | (refine wpList_load_row rfl 22 _ rfl w.heap.size rfl 22 (cellsA t) (0, 0) _ (X2.drewN _).x1 Try.underlying22 rfl (sz22 t) ?_))
        go_ret
        exact ⟨rfl, below_drewN bel2 _⟩

theorem cmp_walk (t a b : Nat → Nat) (w : World) (ht : ∀ i, t i < 256) (ha : ∀ i, a i < 256) (hb : ∀ i, b i < 256) :
    Calls Try.prog 3 #[.agg (cellsA t), .agg (cellsA a), .agg (cellsA b)] w fun e w' => e = .returned (.bool true) ∧ Below w.heap.size w w' := by
  obtain ⟨k, k1, k2, k3⟩ := first_diff a b 20
  obtain ⟨m, m1, m2, m3⟩ := first_diff t a 20
  have c2 := fun w => zzCmp_calls t t a m w ht ht ha m1 m2 m3
  have heq := fun w => run_equal_arr a t w
  have hs1 : ((List.range 20).all fun i => a i == t i) = true → cmpV t t a m = 0 := by
    intro h
    unfold cmpV
    by_cases hm : m < 20
    · rw [all_no hm (Ne.symm (m3 hm))] at h
      cases h
    · rw [if_neg hm]
  have hs2 : ((List.range 20).all fun i => a i == t i) = false → cmpV t t a m < 0 := by
    intro h
    unfold cmpV
    by_cases hm : m < 20
    · rw [if_pos hm, Nat.xor_self]
      have : a m ^^^ t m ≠ 0 := fun e => m3 hm (xor_inj (t := t m) (by rw [e, Nat.xor_self])).symm
      omega
    · have : m = 20 := by omega
      subst this
      rw [all_yes (fun i hi => (m2 i hi).symm)] at h
      cases h
  by_cases hk : k < 20
  · have c1 := fun w => zzCmp_calls t a b k w ht ha hb k1 k2 k3
    have hv : cmpV t a b k = ((a k ^^^ t k : Nat) : Int) - ((b k ^^^ t k : Nat) : Int) := by unfold cmpV; rw [if_pos hk]
    have l1 : (a k ^^^ t k) < 256 := Nat.xor_lt_two_pow (n := 8) (ha k) (ht k)
    have l2 : (b k ^^^ t k) < 256 := Nat.xor_lt_two_pow (n := 8) (hb k) (ht k)
    exact law_diff t a b k _ _ _ w ht ha hb hk k2 (k3 hk) c1 c2 hv (by rw [hv]; omega) (by rw [hv]; omega) heq hs1 hs2
  · have hk20 : k = 20 := by omega
    subst hk20
    have c1 := fun w => zzCmp_calls t a b 20 w ht ha hb k1 k2 k3
    exact law_same t a b _ _ w k2 c1 c2 heq hs1 hs2

end Go.Proofs.Qxb6617882a
