import Derived.Test.Qxb6617882aRows
import Derived.WalkKit
import Derived.ProofKit
import Derived.WalkSpells
import Derived.WalkLawsBesides
import Derived.Deep.QuietTactic
import Derived.BigQuiet
import Derived.BigRegion
import Derived.Laws.BitsAllLaws
import Derived.Laws.Rows
import Derived.ChangeKeysEq
import Derived.Deep.OwnRows
namespace Go.Proofs.Qxb6617882a
open Go.RowKit
set_option linter.unusedVariables false

/-- Twenty bytes. -/
def cellsA (f : Nat → Nat) : Array Value := (Array.range 20).map fun i => .int .u8 (f i : Nat)
theorem cellsA_size (f : Nat → Nat) : (cellsA f).size = 20 := by simp [cellsA]
theorem cellsA_get (f : Nat → Nat) {i : Nat} (h : i < 20) : (cellsA f)[i]? = some (.int .u8 (f i : Nat)) := by simp [cellsA, h]

theorem Try.size24 : (Try.prog.info? 24).map (·.size) = some 20 := by kernel_rfl
theorem Try.size22 : (Try.prog.info? 22).map (·.size) = some 20 := by kernel_rfl

/-- An array's block. -/
theorem cell_blk {w : World} {b : Nat} {f : Nat → Nat} {t : TypeId} (h : w.heap[b]? = some (.cells (cellsA f) t (0, 0))) {i : Nat} (hi : i < 20) : w.cell? ⟨b, i, none⟩ = some (.int .u8 (f i : Nat)) := by
  rw [cell_of_row w b i _ t _ h]
  exact cellsA_get f hi

theorem boxes (w : World) (A B C : Obj) : (((w.alloc A).alloc B).alloc C).heap[w.heap.size]? = some A ∧ (((w.alloc A).alloc B).alloc C).heap[w.heap.size + 1]? = some B ∧ (((w.alloc A).alloc B).alloc C).heap[w.heap.size + 1 + 1]? = some C := by
  have h1 : (w.alloc A).heap.size = w.heap.size + 1 := by simp
  have h2 : ((w.alloc A).alloc B).heap.size = w.heap.size + 1 + 1 := by simp
  refine ⟨?_, ?_, ?_⟩
  · rw [Deep.blk_alloc_lt _ _ _ (by omega), Deep.blk_alloc_lt _ _ _ (by omega)]; exact Deep.blk_alloc_new _ _
  · rw [Deep.blk_alloc_lt _ _ _ (by omega), ← h1]; exact Deep.blk_alloc_new _ _
  · rw [← h2]; exact Deep.blk_alloc_new _ _

theorem below3 (w : World) (A B C : Obj) : Below w.heap.size w (((w.alloc A).alloc B).alloc C) :=
  (((Below.refl _ _).alloc (Nat.le_refl _) _).alloc (by simp) _).alloc (by simp; omega) _

/-- what cmpDistance answers, the first place at which a and b part being k (20: none) -/
def cmpV (t a b : Nat → Nat) (k : Nat) : Int := if k < 20 then ((a k ^^^ t k : Nat) : Int) - ((b k ^^^ t k : Nat) : Int) else 0

theorem xor_inj {a b t : Nat} (h : a ^^^ t = b ^^^ t) : a = b := by
  have h2 := congrArg (· ^^^ t) h
  simpa [Nat.xor_assoc, Nat.xor_self] using h2

theorem ret_i {k : IntKind} {a b : Int} (h : a = b) : Ending.returned (.int k a) = .returned (.int k b) := by rw [h]

set_option maxHeartbeats 1000000 in
theorem cmpDistance_calls (t a b : Nat → Nat) (k : Nat) (w : World) (ht : ∀ i, t i < 256) (ha : ∀ i, a i < 256) (hb : ∀ i, b i < 256) (hk : k ≤ 20) (hsame : ∀ i, i < k → a i = b i) (hne : k < 20 → a k ≠ b k) :
    Calls Try.prog 11 #[.agg (cellsA t), .agg (cellsA a), .agg (cellsA b)] w fun e w' => e = .returned (.int .i64 (cmpV t a b k)) ∧ Below w.heap.size w w' := by
  obtain ⟨x1, x2, x3⟩ := boxes w (.cells (cellsA t) 24) (.cells (cellsA a) 24) (.cells (cellsA b) 24)
  have bel := below3 w (.cells (cellsA t) 24) (.cells (cellsA a) 24) (.cells (cellsA b) 24)
  have X1 : Hid _ := x1
  have X2 : Hid _ := x2
  have X3 : Hid _ := x3
  have HS : Hid (∀ i, i < k → a i = b i) := hsame
  have HT : Hid (∀ i, t i < 256) := ht
  have HA : Hid (∀ i, a i < 256) := ha
  have HB : Hid (∀ i, b i < 256) := hb
  have HN : Hid (k < 20 → a k ≠ b k) := hne
  clear x1 x2 x3 ht ha hb hsame hne
  go_enter Try.func11, Try.ntmps11
  go_wp2
  generalize hW : ((w.alloc (Obj.cells (cellsA t) 24)).alloc (Obj.cells (cellsA a) 24)).alloc (Obj.cells (cellsA b) 24) = W at *
  clear hW
  go_loopw [10] (fun i wr => ∃ j q : Nat, j ≤ k ∧ i = .int .i64 j ∧ wr = W.drewN q) (fun i _ => 20 - (intOf i).toNat)
  case atStart => exact ⟨0, 0, Nat.zero_le _, rfl, rfl⟩
  case round =>
    obtain ⟨j, q, hj, rfl, rfl⟩ := hrel
    by_cases hlt : j < 20
    · have g1 := cell_blk X1.out hlt
      have g2 := cell_blk X2.out hlt
      have g3 := cell_blk X3.out hlt
      have e1 := u8_xor_nat (a j) (t j) (HA.out j) (HT.out j)
      have e2 := u8_xor_nat (b j) (t j) (HB.out j) (HT.out j)
      have l1 : (a j ^^^ t j) < 256 := Nat.xor_lt_two_pow (n := 8) (HA.out j) (HT.out j)
      have l2 : (b j ^^^ t j) < 256 := Nat.xor_lt_two_pow (n := 8) (HB.out j) (HT.out j)
      by_cases hjk : j < k
      · have hd : (((a j ^^^ t j : Nat) : Int) != ((b j ^^^ t j : Nat) : Int)) = false := by rw [HS.out j hjk]; simp
        go_wp2
        go_quiet (fail)
        go_wp2
        go_roundw
        case rel => exact ⟨j + 1, _, by omega, by go_num, rfl⟩
        case measure => simp [intOf]; omega
      · obtain rfl : j = k := by omega
        have hd : (((a j ^^^ t j : Nat) : Int) != ((b j ^^^ t j : Nat) : Int)) = true := by
          rw [bne_iff_ne]
          intro e
          have e' : a j ^^^ t j = b j ^^^ t j := by omega
          exact HN.out hlt (xor_inj e')
        go_wp2
        go_quiet (fail)
        go_wp2
        go_ret
        exact ⟨ret_i (by unfold cmpV; rw [if_pos hlt]), below_drewN bel _⟩
    · go_wp2
      go_ret
      exact ⟨ret_i (by unfold cmpV; rw [if_neg (by omega)]), below_drewN bel _⟩

/-! ### the wrapper: three arrays boxed, loaded whole, handed on -/
theorem below6 {w W : World} (h : Below w.heap.size w W) {w' : World} (h' : Below W.heap.size W w') : Below w.heap.size w w' := h.trans (h'.mono h.size)

set_option maxHeartbeats 1000000 in
theorem zzCmp_calls (t a b : Nat → Nat) (k : Nat) (w : World) (ht : ∀ i, t i < 256) (ha : ∀ i, a i < 256) (hb : ∀ i, b i < 256) (hk : k ≤ 20) (hsame : ∀ i, i < k → a i = b i) (hne : k < 20 → a k ≠ b k) :
    Calls Try.prog 6 #[.agg (cellsA t), .agg (cellsA a), .agg (cellsA b)] w fun e w' => e = .returned (.int .i64 (cmpV t a b k)) ∧ Below w.heap.size w w' := by
  obtain ⟨x1, x2, x3⟩ := boxes w (.cells (cellsA t) 24) (.cells (cellsA a) 24) (.cells (cellsA b) 24)
  have bel := below3 w (.cells (cellsA t) 24) (.cells (cellsA a) 24) (.cells (cellsA b) 24)
  have C := fun W => cmpDistance_calls t a b k W ht ha hb hk hsame hne
  have HC : Hid _ := C
  have s1 : (Try.prog.info? 24).map (·.size) = some (cellsA t).size := by rw [cellsA_size]; exact Try.size24
  have s2 : (Try.prog.info? 24).map (·.size) = some (cellsA a).size := by rw [cellsA_size]; exact Try.size24
  have s3 : (Try.prog.info? 24).map (·.size) = some (cellsA b).size := by rw [cellsA_size]; exact Try.size24
  have S1 : Hid _ := s1
  have S2 : Hid _ := s2
  have S3 : Hid _ := s3
  have X1 : Hid _ := x1
  have X2 : Hid _ := x2
  have X3 : Hid _ := x3
  clear C s1 s2 s3 x1 x2 x3 ht ha hb hsame hne
  go_enter Try.func6, Try.ntmps6
  go_wp2_with (first
    | (refine wpList_load_row rfl 24 _ rfl w.heap.size rfl 24 (cellsA t) (0, 0) _ X1.out Try.underlying24 rfl S1.out ?_)
    | (refine wpList_load_row rfl 24 _ rfl (w.heap.size + 1) rfl 24 (cellsA a) (0, 0) _ X2.out Try.underlying24 rfl S2.out ?_)
    | (refine wpList_load_row rfl 24 _ rfl (w.heap.size + 1 + 1) rfl 24 (cellsA b) (0, 0) _ X3.out Try.underlying24 rfl S3.out ?_))
  refine (HC.out _).mono ?_
  rintro e w' ⟨rfl, hb⟩
  go_wp2_with fail
  go_ret
  exact ⟨rfl, below6 bel hb⟩

/-! ### '==' on two arrays -/
theorem run_part (f : Nat → Nat) {i : Nat} (hi : i < 20) (w : World) : (part 5 (cellsA f) i).run Try.prog w = .ok (.int .u8 (f i : Nat)) w := by
  have hagg : (isAgg 5).run Try.prog w = .ok false w := by
    unfold isAgg
    rw [Sem.run_bind, run_underlying Try.underlying5 w]
    simp
  unfold part
  rw [Sem.run_bind, hagg]
  simp [cellsA_get f hi]

theorem run_eqItems (f g : Nat → Nat) (d : Nat) (w : World) : ∀ is : List Nat, (∀ i ∈ is, i < 20) → (Op.eqItems (d + 1) 5 1 (cellsA f) (cellsA g) is).run Try.prog w = .ok (is.all fun i => f i == g i) w
  | [], _ => by simp [Op.eqItems]
  | i :: is, h => by
    have hi := h i (by simp)
    have ih := run_eqItems f g d w is (fun j hj => h j (by simp [hj]))
    have he : (Op.equalIn (d + 1) 5 (.int .u8 (f i : Nat)) (.int .u8 (g i : Nat))).run Try.prog w = .ok (f i == g i) w := by
      simp only [Op.equalIn, Sem.run_bind, run_underlying Try.underlying5, Result.andThen_ok]
      simp
      rw [Bool.eq_iff_iff]
      simp
      omega
    simp only [Op.eqItems, Sem.run_bind, Nat.mul_one, run_part f hi, run_part g hi, Result.andThen_ok, he, List.all_cons]
    cases hb : (f i == g i) with
    | false => simp
    | true => simpa using ih

theorem Try.cells5 : Try.prog.cellsOf 5 = 1 := by kernel_rfl
theorem Try.has5 : (Try.prog.info? 5).isSome = true := by kernel_rfl

theorem run_equal_arr (f g : Nat → Nat) (w : World) : (Op.equalIn 10000 22 (.agg (cellsA f)) (.agg (cellsA g))).run Try.prog w = .ok ((List.range 20).all fun i => f i == g i) w := by
  obtain ⟨i, hi⟩ := Option.isSome_iff_exists.1 Try.has5
  rw [run_equalIn_array (P := Try.prog) w 9999 (cellsA f) (cellsA g) Try.underlying22 hi, Try.cells5]
  exact run_eqItems f g 9998 w (List.range 20) (fun i hi => List.mem_range.1 hi)

theorem all_yes {f g : Nat → Nat} (h : ∀ i, i < 20 → f i = g i) : ((List.range 20).all fun i => f i == g i) = true := by
  rw [List.all_eq_true]
  intro i hi
  rw [beq_iff_eq]
  exact h i (List.mem_range.1 hi)
theorem all_no {f g : Nat → Nat} {k : Nat} (hk : k < 20) (h : f k ≠ g k) : ((List.range 20).all fun i => f i == g i) = false := by
  rw [List.all_eq_false]
  exact ⟨k, List.mem_range.2 hk, by simpa using h⟩

end Go.Proofs.Qxb6617882a
