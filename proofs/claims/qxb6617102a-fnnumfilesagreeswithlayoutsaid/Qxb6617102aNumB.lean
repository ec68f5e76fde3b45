import Derived.Test.Qxb6617102aNumA
import Derived.BigRegion
import Derived.Deep.OwnRows
namespace Go.Proofs.Qxb6617102a
open Go.RowKit
set_option linter.unusedVariables false

/-- How many of the first k are true. -/
def cnt (pd : Nat → Bool) : Nat → Nat
  | 0 => 0
  | k + 1 => cnt pd k + (if pd k then 1 else 0)
theorem cnt_le (pd : Nat → Bool) (k : Nat) : cnt pd k ≤ k := by
  induction k with
  | zero => exact Nat.le_refl _
  | succ k ih => simp only [cnt]; split <;> omega
theorem cnt_true (pd : Nat → Bool) (k : Nat) (h : pd k = true) : cnt pd (k + 1) = cnt pd k + 1 := by simp [cnt, h]
theorem cnt_false (pd : Nat → Bool) (k : Nat) (h : pd k = false) : cnt pd (k + 1) = cnt pd k := by simp [cnt, h]

/-- n files lie in block b, four cells a file. -/
structure FilesAt (w : World) (b n : Nat) (S : Nat → ByteArray) (L : Nat → Int) (pd ex : Nat → Bool) : Prop where
  lt : b < w.heap.size
  c0 : ∀ i, i < n → w.cell? ⟨b, i * 4, none⟩ = some (.string (S i))
  c1 : ∀ i, i < n → w.cell? ⟨b, i * 4 + 1, none⟩ = some (.int .i64 (L i))
  c2 : ∀ i, i < n → w.cell? ⟨b, i * 4 + 2, none⟩ = some (.bool (pd i))
  c3 : ∀ i, i < n → w.cell? ⟨b, i * 4 + 3, none⟩ = some (.bool (ex i))

theorem FilesAt.below {w w' : World} {b n : Nat} {S : Nat → ByteArray} {L : Nat → Int} {pd ex : Nat → Bool} (h : FilesAt w b n S L pd ex) {B : Nat} (hb : Below B w w') (hB : b < B) : FilesAt w' b n S L pd ex :=
  ⟨Nat.lt_of_lt_of_le h.lt hb.size, fun i hi => (hb.cell (p := ⟨b, _, none⟩) hB).trans (h.c0 i hi), fun i hi => (hb.cell (p := ⟨b, _, none⟩) hB).trans (h.c1 i hi),
    fun i hi => (hb.cell (p := ⟨b, _, none⟩) hB).trans (h.c2 i hi), fun i hi => (hb.cell (p := ⟨b, _, none⟩) hB).trans (h.c3 i hi)⟩

/-! NumFiles -/
theorem numFiles_nil (bi : Nat) (w : World) (hi : w.cell? ⟨bi, 4, none⟩ = some (.slice none 0 0)) :
    Calls Try.prog 15 #[.pointer (some ⟨bi, 0, none⟩)] w fun e w' => e = .returned (.int .i64 1) ∧ w' = w := by
  have heq := fun w => Lib.run_eql_slice_nil (P := Try.prog) w 31 33 none 0 0 0 0 Try.underlying31
  go_enter Try.func15, Try.ntmps15
  go_wp2
  go_ret
  exact ⟨rfl, rfl⟩

theorem ret_i {k : IntKind} {a b : Int} (h : a = b) : Ending.returned (.int k a) = .returned (.int k b) := by rw [h]
theorem int_i {k : IntKind} {a b : Int} (h : a = b) : Value.int k a = .int k b := by rw [h]

set_option maxHeartbeats 1000000 in
theorem numFiles_some (bi bf n : Nat) (S : Nat → ByteArray) (L : Nat → Int) (pd ex : Nat → Bool) (w : World) (hn : n ≤ 131072)
   (hi : w.cell? ⟨bi, 4, none⟩ = some (.slice (some ⟨bf, 0, none⟩) n n)) (hF : FilesAt w bf n S L pd ex) :
    Calls Try.prog 15 #[.pointer (some ⟨bi, 0, none⟩)] w fun e w' => e = .returned (.int .i64 ((n : Int) - (cnt pd n : Nat))) ∧ Below w.heap.size w w' := by
  have heq := fun w => Lib.run_eql_slice_nil (P := Try.prog) w 31 33 (some ⟨bf, 0, none⟩) n n 0 0 Try.underlying31
  go_enter Try.func15, Try.ntmps15
  go_wp2
  go_loopw [3, 16] (fun c i wr => ∃ (k : Nat) (z : Int), k ≤ n ∧ i = .int .i64 k ∧ c = .int .i64 z ∧ Hid (z = (k : Int) - (cnt pd k : Nat)) ∧ 0 ≤ z ∧ z ≤ k ∧ Below w.heap.size w wr) (fun _ i _ => n - (intOf i).toNat)
  case atStart => exact ⟨0, 0, Nat.zero_le _, rfl, rfl, rfl, Int.le_refl _, Int.le_refl _, Below.refl _ _⟩
  case round =>
    obtain ⟨k, z, hk, rfl, rfl, hz, hz0, hz1, hb⟩ := hrel
    by_cases hlt : k < n
    · have hFr := hF.below hb hF.lt
      have g0 := hFr.c0 k hlt
      have g1 := hFr.c1 k hlt
      have g2 := hFr.c2 k hlt
      have g3 := hFr.c3 k hlt
      clear hFr
      cases hp : pd k with
      | true =>
        have e : Hid (z = ((k + 1 : Nat) : Int) - (cnt pd (k + 1) : Nat)) := by rw [Hid, cnt_true pd k hp, hz.out]; omega
        rw [hp] at g2
        clear hp
        go_wp2
        go_roundw
        case rel => exact ⟨k + 1, z, by omega, by go_num, rfl, e, hz0, by omega, hb.alloc hb.size _⟩
        case measure => simp [intOf]; omega
      | false =>
        have e : Hid (z + 1 = ((k + 1 : Nat) : Int) - (cnt pd (k + 1) : Nat)) := by rw [Hid, cnt_false pd k hp, hz.out]; omega
        rw [hp] at g2
        clear hp
        go_wp2
        go_roundw
        case rel => exact ⟨k + 1, z + 1, by omega, by go_num, rfl, e, by omega, by omega, hb.alloc hb.size _⟩
        case measure => simp [intOf]; omega
    · obtain rfl : k = n := by omega
      go_wp2
      go_ret
      exact ⟨ret_i hz.out, hb⟩

/-! mkInfo -/
theorem mkInfo_calls (nm : ByteArray) (pl : Int) (pc : Value) (ln : Int) (fs : Value) (x : Bool) (w : World) (apc af : Option Addr) (npc cpc nf cf : Nat) (hpc : pc = .slice apc npc cpc) (hfs : fs = .slice af nf cf) :
    Calls Try.prog 11 #[.string nm, .int .i64 pl, pc, .int .i64 ln, fs, .bool x] w
      fun e w' => e = .returned (.pointer (some ⟨w.heap.size, 0, none⟩)) ∧ w' = w.alloc (.cells #[.string nm, .int .i64 pl, pc, .int .i64 ln, fs, .bool x] 44) := by
  subst hpc hfs
  go_enter Try.func11, Try.ntmps11
  go_wp2
  go_ret
  exact ⟨rfl, rfl⟩

/-! Layout -/
theorem layout_nil (bi : Nat) (ln : Int) (w : World) (hi : w.cell? ⟨bi, 4, none⟩ = some (.slice none 0 0)) (hl : w.cell? ⟨bi, 3, none⟩ = some (.int .i64 ln)) :
    Calls Try.prog 22 #[.pointer (some ⟨bi, 0, none⟩)] w fun e w' => e = .returned (.pointer (some ⟨w.heap.size + 1, 0, none⟩)) ∧
      w' = (w.alloc (.cells #[.int .i64 ln] 2)).alloc (.cells #[.slice (some ⟨w.heap.size, 0, none⟩) 1 1] 50) := by
  have heq := fun w => Lib.run_eql_slice_nil (P := Try.prog) w 31 33 none 0 0 0 0 Try.underlying31
  go_enter Try.func22, Try.ntmps22
  go_wp2
  go_ret
  exact ⟨rfl, rfl⟩

theorem Try.info2 : (Try.prog.info? 2).map (fun i => (i.zero, i.size, i.bytes)) = some (some (.int .i64 0), 1, 8) := by kernel_rfl

/-- what Layout's loop keeps -/
structure LayRel (w wr : World) (n : Nat) : Prop where
  below : Below w.heap.size w wr
  row : ∃ f, wr.rowIs w.heap.size 2 n f

theorem LayRel.start (w : World) (n : Nat) : LayRel w (w.alloc (.cells (madeCells #[.int .i64 0] n) 2)) n :=
  ⟨(Below.refl _ _).alloc (Nat.le_refl _) _, _, World.rowIs_made w _ n 2⟩

theorem LayRel.step {w wr : World} {n : Nat} (h : LayRel w wr n) (k : Nat) (v : Value) (c : Array Value) : LayRel w ((wr.setCell ⟨w.heap.size, k, none⟩ v).alloc (.cells c 33)) n := by
  obtain ⟨f, hf⟩ := h.row
  exact ⟨(h.below.setCell (p := ⟨w.heap.size, k, none⟩) (Nat.le_refl _) v).alloc (by have := h.below.size; simpa [World.setCell] using this) _, _, (hf.set k v).alloc _⟩

set_option maxHeartbeats 1000000 in
theorem layout_some (bi bf n : Nat) (S : Nat → ByteArray) (L : Nat → Int) (pd ex : Nat → Bool) (w : World) (hn : n ≤ 131072)
   (hi : w.cell? ⟨bi, 4, none⟩ = some (.slice (some ⟨bf, 0, none⟩) n n)) (hbi : bi < w.heap.size) (hF : FilesAt w bf n S L pd ex) :
    Calls Try.prog 22 #[.pointer (some ⟨bi, 0, none⟩)] w fun e w' => ∃ wr : World, e = .returned (.pointer (some ⟨wr.heap.size, 0, none⟩)) ∧ LayRel w wr n ∧ w' = wr.alloc (.cells #[.slice (some ⟨w.heap.size, 0, none⟩) n n] 50) := by
  have heq := fun w => Lib.run_eql_slice_nil (P := Try.prog) w 31 33 (some ⟨bf, 0, none⟩) n n 0 0 Try.underlying31
  have hmk := run_make_row' (P := Try.prog) 24 2 (.int .i64 0) 8 Try.underlying24 Try.info2 rfl .i64 .i64 n (by omega) (by omega)
  have hi' : ∀ o, (w.alloc o).cell? ⟨bi, 4, none⟩ = some (.slice (some ⟨bf, 0, none⟩) n n) := fun o => by
    rw [((Below.refl _ w).alloc (Nat.le_refl _) o).cell (p := ⟨bi, 4, none⟩) hbi]; exact hi
  go_enter Try.func22, Try.ntmps22
  go_wp2
  go_loopw [4, 30] (fun t i wr => ∃ (k : Nat) (z : Int), k ≤ n ∧ i = .int .i64 k ∧ t = .int .i64 z ∧ LayRel w wr n) (fun _ i _ => n - (intOf i).toNat)
  case atStart => exact ⟨0, 0, Nat.zero_le _, rfl, rfl, LayRel.start w n⟩
  case round =>
    obtain ⟨k, z, hk, rfl, rfl, hr⟩ := hrel
    obtain ⟨f, hf⟩ := hr.row
    by_cases hlt : k < n
    · have hFr := hF.below hr.below hF.lt
      have g0 := hFr.c0 k hlt
      have g1 := hFr.c1 k hlt
      have g2 := hFr.c2 k hlt
      have g3 := hFr.c3 k hlt
      have c0 := hf.cell hlt
      have z0 := hf.frozen k
      have lt := hf.lt
      clear hFr hmk hi hi'
      go_wp2
      go_roundw
      case rel => exact ⟨k + 1, _, by omega, by go_num, rfl, hr.step k _ _⟩
      case measure => simp [intOf]; omega
    · have lt := hf.lt
      go_wp2
      go_ret
      exact ⟨wr, rfl, hr, rfl⟩

theorem zzEnds_calls (b n c : Nat) (a : Option Addr) (w : World) (h : w.cell? ⟨b, 0, none⟩ = some (.slice a n c)) :
    Calls Try.prog 23 #[.pointer (some ⟨b, 0, none⟩)] w fun e w' => e = .returned (.slice a n c) ∧ w' = w := by
  go_enter Try.func23, Try.ntmps23
  go_wp2
  go_ret
  exact ⟨rfl, rfl⟩

theorem layoutEnds_nil (bi : Nat) (ln : Int) (w : World) (hi : w.cell? ⟨bi, 4, none⟩ = some (.slice none 0 0)) (hl : w.cell? ⟨bi, 3, none⟩ = some (.int .i64 ln)) :
    Calls Try.prog 12 #[.pointer (some ⟨bi, 0, none⟩)] w fun e w' => e = .returned (.tuple #[.slice (some ⟨w.heap.size, 0, none⟩) 1 1, .bool true]) ∧
      w' = (w.alloc (.cells #[.int .i64 ln] 2)).alloc (.cells #[.slice (some ⟨w.heap.size, 0, none⟩) 1 1] 50) := by
  go_enter Try.func12, Try.ntmps12
  go_wp2_with fail
  refine (layout_nil bi ln w hi hl).mono ?_
  rintro e w' ⟨rfl, rfl⟩
  go_wp2_with fail
  refine (zzEnds_calls _ 1 1 (some ⟨w.heap.size, 0, none⟩) _ (by simp)).mono ?_
  rintro e w' ⟨rfl, rfl⟩
  go_wp2_with fail
  go_ret2
  exact ⟨rfl, rfl⟩

theorem layoutEnds_some (bi bf n : Nat) (S : Nat → ByteArray) (L : Nat → Int) (pd ex : Nat → Bool) (w : World) (hn : n ≤ 131072)
   (hi : w.cell? ⟨bi, 4, none⟩ = some (.slice (some ⟨bf, 0, none⟩) n n)) (hbi : bi < w.heap.size) (hF : FilesAt w bf n S L pd ex) :
    Calls Try.prog 12 #[.pointer (some ⟨bi, 0, none⟩)] w fun e w' => e = .returned (.tuple #[.slice (some ⟨w.heap.size, 0, none⟩) n n, .bool true]) ∧ Below w.heap.size w w' := by
  go_enter Try.func12, Try.ntmps12
  go_wp2_with fail
  refine (layout_some bi bf n S L pd ex w hn hi hbi hF).mono ?_
  rintro e w' ⟨wr, rfl, hr, rfl⟩
  go_wp2_with fail
  refine (zzEnds_calls _ n n (some ⟨w.heap.size, 0, none⟩) _ (by simp)).mono ?_
  rintro e w' ⟨rfl, rfl⟩
  go_wp2_with fail
  go_ret2
  exact ⟨rfl, hr.below.alloc hr.below.size _⟩

/-! mkFiles -/
theorem Try.info33 : (Try.prog.info? 33).map (fun i => (i.zero, i.size, i.bytes)) = some (some (.agg #[.string ByteArray.empty, .int .i64 0, .bool false, .bool false]), 4, 32) := by kernel_rfl

theorem run_make_files (n : Nat) (hn : n ≤ 131072) (w : World) :
    (Instr.makeSlice 31 (.int .i64 (n : Int)) (.int .i64 (n : Int))).run Try.prog w = .ok (.slice (some ⟨w.heap.size, 0, none⟩) n n) (w.alloc (.cells (madeCells #[.string ByteArray.empty, .int .i64 0, .bool false, .bool false] (n * 4)) 33)) := by
  obtain ⟨i, hi, hzz⟩ := Option.map_eq_some_iff.1 Try.info33
  simp only [Prod.mk.injEq] at hzz
  obtain ⟨hz, hs, hb⟩ := hzz
  have hr := run_make (P := Try.prog) w 31 33 i _ Try.underlying31 hi hz .i64 .i64 n n (by omega) (Int.le_refl _) (by rw [hb]; omega) (by omega)
  simp only [Int.toNat_natCast, hs] at hr
  exact hr

/-- what mkFiles's loop keeps: a row of n * 4 cells, the first k files laid -/
structure MkRel (w wr : World) (n k : Nat) (S : Nat → ByteArray) (L : Nat → Int) (pd ex : Nat → Bool) : Prop where
  below : Below w.heap.size w wr
  row : ∃ f, wr.rowIs w.heap.size 33 (n * 4) f ∧ ∀ i, i < k → f (i * 4) = .string (S i) ∧ f (i * 4 + 1) = .int .i64 (L i) ∧ f (i * 4 + 2) = .bool (pd i) ∧ f (i * 4 + 3) = .bool (ex i)

theorem MkRel.start (w : World) (n : Nat) (S : Nat → ByteArray) (L : Nat → Int) (pd ex : Nat → Bool) (z : Array Value) : MkRel w (w.alloc (.cells (madeCells z (n * 4)) 33)) n 0 S L pd ex := by
  refine ⟨(Below.refl _ _).alloc (Nat.le_refl _) _, fun i => z[i % z.size]!, ?_, fun i hi => absurd hi (Nat.not_lt_zero _)⟩
  have h := World.rowIs_alloc w (madeCells z (n * 4)) 33 (fun i => z[i % z.size]!) (fun i hi => by
    rw [size_madeCells] at hi
    simp [madeCells, hi])
  rw [size_madeCells] at h
  exact h

theorem MkRel.step {w wr : World} {n k : Nat} {S : Nat → ByteArray} {L : Nat → Int} {pd ex : Nat → Bool} (h : MkRel w wr n k S L pd ex) :
    MkRel w ((((wr.setCell ⟨w.heap.size, k * 4, none⟩ (.string (S k))).setCell ⟨w.heap.size, k * 4 + 1, none⟩ (.int .i64 (L k))).setCell ⟨w.heap.size, k * 4 + 2, none⟩ (.bool (pd k))).setCell ⟨w.heap.size, k * 4 + 3, none⟩ (.bool (ex k))).drew n (k + 1) S L pd ex := by
  obtain ⟨f, hf, hc⟩ := h.row
  refine ⟨((((h.below.setCell (p := ⟨w.heap.size, k * 4, none⟩) (Nat.le_refl _) _).setCell (p := ⟨w.heap.size, k * 4 + 1, none⟩) (Nat.le_refl _) _).setCell (p := ⟨w.heap.size, k * 4 + 2, none⟩) (Nat.le_refl _) _).setCell (p := ⟨w.heap.size, k * 4 + 3, none⟩) (Nat.le_refl _) _).drew, _, ((((hf.set (k * 4) _).set (k * 4 + 1) _).set (k * 4 + 2) _).set (k * 4 + 3) _).drew, ?_⟩
  intro i hi
  by_cases e : i = k
  · subst e
    refine ⟨?_, ?_, ?_, ?_⟩
    · rw [if_neg (by omega), if_neg (by omega), if_neg (by omega), if_pos rfl]
    · rw [if_neg (by omega), if_neg (by omega), if_pos rfl]
    · rw [if_neg (by omega), if_pos rfl]
    · rw [if_pos rfl]
  · obtain ⟨q0, q1, q2, q3⟩ := hc i (by omega)
    refine ⟨?_, ?_, ?_, ?_⟩
    all_goals rw [if_neg (by omega), if_neg (by omega), if_neg (by omega), if_neg (by omega)]; assumption

theorem MkRel.files {w wr : World} {n : Nat} {S : Nat → ByteArray} {L : Nat → Int} {pd ex : Nat → Bool} (h : MkRel w wr n n S L pd ex) : FilesAt wr w.heap.size n S L pd ex := by
  obtain ⟨f, hf, hc⟩ := h.row
  exact ⟨hf.lt, fun i hi => by rw [hf.cell (i := i * 4) (by omega), (hc i hi).1], fun i hi => by rw [hf.cell (i := i * 4 + 1) (by omega), (hc i hi).2.1],
    fun i hi => by rw [hf.cell (i := i * 4 + 2) (by omega), (hc i hi).2.2.1], fun i hi => by rw [hf.cell (i := i * 4 + 3) (by omega), (hc i hi).2.2.2]⟩

set_option maxHeartbeats 1000000 in
theorem mkFiles_some (bp op bl ol bd od bx ox n cp cl cd cx : Nat) (S : Nat → ByteArray) (L : Nat → Int) (pd ex : Nat → Bool) (w : World) (hn : n ≤ 131072)
   (kp : bp < w.heap.size) (kl : bl < w.heap.size) (kd : bd < w.heap.size) (kx : bx < w.heap.size)
   (h0 : ∀ i, i < n → w.cell? ⟨bp, op + i, none⟩ = some (.string (S i)))
   (h1 : ∀ i, i < n → w.cell? ⟨bl, ol + i, none⟩ = some (.int .i64 (L i)))
   (h2 : ∀ i, i < n → w.cell? ⟨bd, od + i, none⟩ = some (.bool (pd i)))
   (h3 : ∀ i, i < n → w.cell? ⟨bx, ox + i, none⟩ = some (.bool (ex i))) :
    Calls Try.prog 13 #[.slice (some ⟨bp, op, none⟩) n cp, .slice (some ⟨bl, ol, none⟩) n cl, .slice (some ⟨bd, od, none⟩) n cd, .slice (some ⟨bx, ox, none⟩) n cx, .int .i64 0, .int .i64 n] w
      fun e w' => e = .returned (.slice (some ⟨w.heap.size, 0, none⟩) n n) ∧ MkRel w w' n n S L pd ex := by
  have hmk := run_make_files n hn
  go_enter Try.func13, Try.ntmps13
  go_wp2
  go_loopw [14] (fun i wr => ∃ k : Nat, k ≤ n ∧ i = .int .i64 k ∧ MkRel w wr n k S L pd ex) (fun i _ => n - (intOf i).toNat)
  case atStart => exact ⟨0, Nat.zero_le _, rfl, MkRel.start w n S L pd ex _⟩
  case round =>
    obtain ⟨k, hk, rfl, hr⟩ := hrel
    by_cases hlt : k < n
    · obtain ⟨f, hf, hc⟩ := hr.row
      have g0 := (hr.below.cell (p := ⟨bp, op + k, none⟩) kp).trans (h0 k hlt)
      have g1 := (hr.below.cell (p := ⟨bl, ol + k, none⟩) kl).trans (h1 k hlt)
      have g2 := (hr.below.cell (p := ⟨bd, od + k, none⟩) kd).trans (h2 k hlt)
      have g3 := (hr.below.cell (p := ⟨bx, ox + k, none⟩) kx).trans (h3 k hlt)
      have f0 := hf.cell (i := k * 4) (by omega)
      have f1 := hf.cell (i := k * 4 + 1) (by omega)
      have f2 := hf.cell (i := k * 4 + 2) (by omega)
      have f3 := hf.cell (i := k * 4 + 3) (by omega)
      have z0 := hf.frozen (k * 4)
      have z1 := hf.frozen (k * 4 + 1)
      have z2 := hf.frozen (k * 4 + 2)
      have z3 := hf.frozen (k * 4 + 3)
      clear h0 h1 h2 h3 hmk hc
      go_wp2
      go_region
      go_wp2
      go_roundw
      case rel => exact ⟨k + 1, by omega, by go_num, hr.step⟩
      case measure => simp [intOf]; omega
    · obtain rfl : k = n := by omega
      go_wp2
      go_ret
      exact ⟨rfl, hr⟩

theorem mkFiles_zero (ap al ad ax : Option Addr) (cp cl cd cx : Nat) (S : Nat → ByteArray) (L : Nat → Int) (pd ex : Nat → Bool) (w : World) :
    Calls Try.prog 13 #[.slice ap 0 cp, .slice al 0 cl, .slice ad 0 cd, .slice ax 0 cx, .int .i64 0, .int .i64 (0 : Nat)] w
      fun e w' => e = .returned (.slice (some ⟨w.heap.size, 0, none⟩) 0 0) ∧ MkRel w w' 0 0 S L pd ex := by
  have hmk : ∀ w, (Instr.makeSlice 31 (.int .i64 0) (.int .i64 0)).run Try.prog w = .ok (.slice (some ⟨w.heap.size, 0, none⟩) 0 0) (w.alloc (.cells (madeCells #[.string ByteArray.empty, .int .i64 0, .bool false, .bool false] (0 * 4)) 33)) := fun w => run_make_files 0 (by omega) w
  go_enter Try.func13, Try.ntmps13
  go_wp2
  go_loopw [14] (fun i wr => i = .int .i64 0 ∧ MkRel w wr 0 0 S L pd ex) (fun _ _ => 0)
  case atStart => exact ⟨rfl, MkRel.start w 0 S L pd ex _⟩
  case round =>
    obtain ⟨rfl, hr⟩ := hrel
    go_wp2
    go_ret
    exact ⟨rfl, hr⟩

end Go.Proofs.Qxb6617102a
