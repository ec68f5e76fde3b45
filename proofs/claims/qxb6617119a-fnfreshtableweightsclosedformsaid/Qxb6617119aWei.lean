import Derived.Test.Qxb6617119aTab
namespace Go.Proofs.Qxb6617119a
open Go.RowKit
set_option linter.unusedVariables false
attribute [local go_sem] run_store_float

/-- A fresh table lies in w. -/
structure TabIn (w : World) (n bt bh bl bw : Nat) : Prop where
  c0 : w.cell? ⟨bt, 0, none⟩ = some (.slice (some ⟨bh, 0, none⟩) n n)
  c1 : w.cell? ⟨bt, 1, none⟩ = some (.slice (some ⟨bl, 0, none⟩) n n)
  c2 : w.cell? ⟨bt, 2, none⟩ = some (.slice (some ⟨bw, 0, none⟩) n n)
  lt : bt < w.heap.size
  lh : bh < w.heap.size
  ll : bl < w.heap.size
  lw : bw < w.heap.size
  rh : ∀ i, i < n → w.cell? ⟨bh, i, none⟩ = some (.float .f64 Fl.one)
  rl : ∀ i, i < n → w.cell? ⟨bl, i, none⟩ = some (.int .i64 0)
  rw : ∀ i, i < n → w.cell? ⟨bw, i, none⟩ = some (.int .i64 0)

theorem Tab.tabIn {w0 w : World} {n bt bh bl bw : Nat} (h : Tab w0 w n bt bh bl bw ones zeros zeros) : TabIn w n bt bh bl bw :=
  ⟨h.c0, h.c1, h.c2, World.block_lt_of_cell? _ _ h.c0, h.rh.lt, h.rl.lt, h.rw.lt, fun i hi => h.rh.cell hi, fun i hi => h.rl.cell hi, fun i hi => h.rw.cell hi⟩

theorem TabIn.below {w w' : World} {n bt bh bl bw : Nat} (h : TabIn w n bt bh bl bw) (b : Below w.heap.size w w') : TabIn w' n bt bh bl bw :=
  ⟨(b.cell (p := ⟨bt, 0, none⟩) h.lt).trans h.c0, (b.cell (p := ⟨bt, 1, none⟩) h.lt).trans h.c1, (b.cell (p := ⟨bt, 2, none⟩) h.lt).trans h.c2,
   Nat.lt_of_lt_of_le h.lt b.size, Nat.lt_of_lt_of_le h.lh b.size, Nat.lt_of_lt_of_le h.ll b.size, Nat.lt_of_lt_of_le h.lw b.size,
   fun i hi => (b.cell (p := ⟨bh, i, none⟩) h.lh).trans (h.rh i hi), fun i hi => (b.cell (p := ⟨bl, i, none⟩) h.ll).trans (h.rl i hi), fun i hi => (b.cell (p := ⟨bw, i, none⟩) h.lw).trans (h.rw i hi)⟩

/-- A row of floats that the call makes at block w.heap.size: of the first k each meets Ok. -/
structure FRow (Ok : Nat → Prop) (w wr : World) (n k : Nat) : Prop where
  below : Below w.heap.size w wr
  row : ∃ f, wr.rowIs w.heap.size 22 n f ∧ ∀ i, i < k → ∃ y, f i = .float .f64 y ∧ Ok y

theorem FRow.start (Ok : Nat → Prop) (w : World) (n : Nat) : FRow Ok w (w.alloc (.cells (madeCells #[.float .f64 0] n) 22)) n 0 :=
  ⟨(Below.refl _ _).alloc (Nat.le_refl _) _, _, World.rowIs_made w _ n 22, fun i hi => absurd hi (Nat.not_lt_zero _)⟩

theorem FRow.drew {Ok : Nat → Prop} {w wr : World} {n k : Nat} (h : FRow Ok w wr n k) : FRow Ok w wr.drew n k := ⟨h.below.drew, h.row⟩
theorem FRow.drewN {Ok : Nat → Prop} {w wr : World} {n k : Nat} (h : FRow Ok w wr n k) (q : Nat) : FRow Ok w (wr.drewN q) n k := ⟨⟨h.below.os, h.below.tape, h.below.output, h.below.size, h.below.block⟩, h.row⟩

theorem FRow.step {Ok : Nat → Prop} {w wr : World} {n k : Nat} (h : FRow Ok w wr n k) (y : Nat) (hy : Ok y) : FRow Ok w (wr.setCell ⟨w.heap.size, k, none⟩ (.float .f64 y)) n (k + 1) := by
  obtain ⟨f, hf, hc⟩ := h.row
  refine ⟨h.below.setCell (p := ⟨w.heap.size, k, none⟩) (Nat.le_refl _) _, _, hf.set k _, fun i hi => ?_⟩
  by_cases e : i = k
  · subst e
    exact ⟨y, by rw [if_pos rfl], hy⟩
  · rw [if_neg e]
    exact hc i (by omega)

/-! what 'max' and '/' give -/
def nanOf (q : Question) (w : World) : Nat := q.cut (w.tape w.drawn q)

theorem nanOf_bits (x y : Nat) (w : World) : (Ieee.double.read (nanOf (.nanBits .f64 x y) w)).isNaN = true := Fl.nan_bits _
theorem nanOf_max (x y : Nat) (w : World) : (Ieee.double.read (nanOf (.nanMinMax .f64 true x y) w)).isNaN = true := Fl.nan_bits _

theorem run_max_num (P : Program) (ts : Array TypeId) (t : TypeId) (x y m : Nat) (w : World)
    (h : (Ieee.double.order x y = some .lt ∧ m = y) ∨ (Ieee.double.order x y = some .gt ∧ m = x) ∨ (Ieee.double.order x y = some .eq ∧ (Ieee.double.read x).neg = false ∧ m = x)) :
    (Builtin.max_ ts t #[.float .f64 x, .float .f64 y]).run P w = .ok (.float .f64 m) w := by
  have hf : FloatKind.f64.format = Ieee.double := rfl
  rcases h with ⟨h, rfl⟩ | ⟨h, rfl⟩ | ⟨h, h2, rfl⟩
  · simp [Builtin.max_, Builtin.max2, hf, h]
  · simp [Builtin.max_, Builtin.max2, hf, h]
  · simp [Builtin.max_, Builtin.max2, hf, h, FloatKind.decode, h2]

theorem run_max_nan (P : Program) (ts : Array TypeId) (t : TypeId) (x y : Nat) (w : World) (h : Ieee.double.order x y = none) :
    (Builtin.max_ ts t #[.float .f64 x, .float .f64 y]).run P w = .ok (.float .f64 (nanOf (.nanMinMax .f64 true x y) w)) w.drew := by
  have hf : FloatKind.f64.format = Ieee.double := rfl
  simp [Builtin.max_, Builtin.max2, hf, h, Question.forced, nanOf]

theorem run_quo_nan (P : Program) (t : TypeId) (x y : Nat) (w : World) (h : Ieee.double.div x y = none) :
    (binOp .quo t (.float .f64 x) (.float .f64 y)).run P w = .ok (.float .f64 (nanOf (.nanBits .f64 x y) w)) w.drew := by
  have hf : FloatKind.f64.format = Ieee.double := rfl
  simp [binOp, Op.floatArith, hf, h, Question.forced, nanOf]

/-- What Weights answers: n floats in new memory, each of which meets Ok. -/
def WRes (Ok : Nat → Prop) (w : World) (n : Nat) (e : Ending) (w' : World) : Prop :=
  ∃ b, e = .returned (.slice (some ⟨b, 0, none⟩) n n) ∧ Below w.heap.size w w' ∧ ∀ i, i < n → ∃ y, w'.cell? ⟨b, i, none⟩ = some (.float .f64 y) ∧ Ok y

theorem FRow.res {Ok Ok' : Nat → Prop} {w wr w2 : World} {n k : Nat} (h : FRow Ok' w wr n k) (h2 : FRow Ok wr w2 n n) : WRes Ok w n (.returned (.slice (some ⟨wr.heap.size, 0, none⟩) n n)) w2 := by
  obtain ⟨f, hf, hc⟩ := h2.row
  refine ⟨_, rfl, h.below.trans (h2.below.mono h.below.size), fun i hi => ?_⟩
  obtain ⟨y, hy, ho⟩ := hc i hi
  exact ⟨y, (hf.cell hi).trans (congrArg some hy), ho⟩

set_option maxHeartbeats 2000000 in
theorem weights_num (n bt bh bl bw om mx r : Nat) (w : World) (h0 : n ≠ 0) (hn : n ≤ 65536) (hT : TabIn w n bt bh bl bw)
    (hmx : ∀ w, (Builtin.max_ #[22, 22] 22 #[.float .f64 Fl.half, .float .f64 om]).run Try.prog w = .ok (.float .f64 mx) w)
    (hq : ∀ w, (binOp .quo 22 (.float .f64 mx) (.float .f64 Fl.half)).run Try.prog w = .ok (.float .f64 r) w) :
    Calls Try.prog 7 #[.pointer (some ⟨bt, 0, none⟩), .float .f64 om] w (WRes (fun y => y = r) w n) := by
  have hmf := run_make_row' (P := Try.prog) 25 22 (.float .f64 0) 8 Try.underlying25 Try.info22 rfl .i64 .i64 n (by omega) (by omega)
  have q0 := hT.c0
  have k1 := ((Below.refl _ w).alloc (Nat.le_refl _) (.cells (madeCells #[.float .f64 0] n) 22))
  have q0' := (hT.below k1).c0
  clear k1
  go_enter Try.func7, Try.ntmps7
  go_wp2
  go_loopw [6, 24] (fun s i wr => ∃ k : Nat, k ≤ n ∧ i = .int .i64 k ∧ s = .float .f64 (Fl.hs k) ∧ FRow (fun y => y = Fl.half) w wr n k) (fun _ i _ => n - (intOf i).toNat)
  case atStart => exact ⟨0, Nat.zero_le _, rfl, rfl, FRow.start _ w n⟩
  case round =>
    obtain ⟨k, hk, rfl, rfl, hr⟩ := hrel
    obtain ⟨f, hf, hall⟩ := hr.row
    clear q0 q0'
    by_cases hlt : k < n
    · have hTr := hT.below hr.below
      have q1 := hTr.c1
      have q2 := hTr.c2
      have g0 := hTr.rh k hlt
      have g1 := hTr.rl k hlt
      have g2 := hTr.rw k hlt
      have f0 := hf.cell hlt
      have z0 := hf.frozen k
      have e1 : floatOfInt .f64 1 = Fl.one := Fl.foi_one
      have e2 : floatOfInt .f64 2 = Fl.two := Fl.foi_two
      have r1 : ∀ w, (binOp .mul 22 (.float .f64 Fl.one) (.float .f64 Fl.one)).run Try.prog w = .ok (.float .f64 Fl.one) w := fun w => run_float_arith w .mul 22 .f64 _ _ _ Fl.one_mul
      have r2 : ∀ w, (binOp .quo 22 (.float .f64 Fl.one) (.float .f64 Fl.two)).run Try.prog w = .ok (.float .f64 Fl.half) w := fun w => run_float_arith w .quo 22 .f64 _ _ _ Fl.one_div
      have r3 : ∀ w, (binOp .add 22 (.float .f64 (Fl.hs k)) (.float .f64 Fl.half)).run Try.prog w = .ok (.float .f64 (Fl.hs (k + 1))) w := fun w => run_float_arith w .add 22 .f64 _ _ _ (Fl.hs_add k (by omega))
      clear hTr hall hmf
      go_wp2
      go_region
      go_wp2
      go_roundw
      case rel => exact ⟨k + 1, by omega, by go_num, rfl, (hr.step Fl.half rfl).drew⟩
      case measure => simp [intOf]; omega
    · obtain rfl : k = n := by omega
      have r4 : ∀ w, (binOp .quo 22 (.float .f64 (Fl.hs k)) (.float .f64 (floatOfInt .f64 k))).run Try.prog w = .ok (.float .f64 Fl.half) w := fun w => run_float_arith w .quo 22 .f64 _ _ _ (Fl.hs_div k h0 hn)
      go_wp2
      go_loopw [70] (fun i w2 => ∃ j : Nat, j ≤ k ∧ i = .int .i64 j ∧ FRow (fun y => y = r) wr w2 k j) (fun i _ => k - (intOf i).toNat)
      case atStart => exact ⟨0, Nat.zero_le _, rfl, FRow.start _ wr k⟩
      case round =>
        obtain ⟨j, hj, rfl, hr2⟩ := hrel
        obtain ⟨f2, hf2, hall2⟩ := hr2.row
        by_cases hlt2 : j < k
        · obtain ⟨y, hy, rfl⟩ := hall j hlt2
          have g0 : _ = some (Value.float .f64 Fl.half) := (hr2.below.cell (p := ⟨w.heap.size, j, none⟩) hf.lt).trans ((hf.cell hlt2).trans (congrArg some hy))
          have f0 := hf2.cell hlt2
          have z0 := hf2.frozen j
          clear hall hall2 hmf r4 hy
          go_wp2
          go_roundw
          case rel => exact ⟨j + 1, by omega, by go_num, hr2.step r rfl⟩
          case measure => simp [intOf]; omega
        · obtain rfl : j = k := by omega
          go_wp2
          go_ret
          exact hr.res hr2

set_option maxHeartbeats 2000000 in
theorem weights_nan (n bt bh bl bw om : Nat) (A : World → Nat) (B : Nat → World → Nat) (w : World) (h0 : n ≠ 0) (hn : n ≤ 65536) (hT : TabIn w n bt bh bl bw)
    (hmx : ∀ w, (Builtin.max_ #[22, 22] 22 #[.float .f64 Fl.half, .float .f64 om]).run Try.prog w = .ok (.float .f64 (A w)) w.drew)
    (hq : ∀ w' w, (binOp .quo 22 (.float .f64 (A w')) (.float .f64 Fl.half)).run Try.prog w = .ok (.float .f64 (B (A w') w)) w.drew)
    (hB : Hid (∀ x w, (Ieee.double.read (B x w)).isNaN = true)) :
    Calls Try.prog 7 #[.pointer (some ⟨bt, 0, none⟩), .float .f64 om] w (WRes (fun y => (Ieee.double.read y).isNaN = true) w n) := by
  have hmf := run_make_row' (P := Try.prog) 25 22 (.float .f64 0) 8 Try.underlying25 Try.info22 rfl .i64 .i64 n (by omega) (by omega)
  have q0 := hT.c0
  have k1 := ((Below.refl _ w).alloc (Nat.le_refl _) (.cells (madeCells #[.float .f64 0] n) 22))
  have q0' := (hT.below k1).c0
  clear k1
  go_enter Try.func7, Try.ntmps7
  go_wp2
  go_loopw [6, 24] (fun s i wr => ∃ k : Nat, k ≤ n ∧ i = .int .i64 k ∧ s = .float .f64 (Fl.hs k) ∧ FRow (fun y => y = Fl.half) w wr n k) (fun _ i _ => n - (intOf i).toNat)
  case atStart => exact ⟨0, Nat.zero_le _, rfl, rfl, FRow.start _ w n⟩
  case round =>
    obtain ⟨k, hk, rfl, rfl, hr⟩ := hrel
    obtain ⟨f, hf, hall⟩ := hr.row
    clear q0 q0'
    by_cases hlt : k < n
    · have hTr := hT.below hr.below
      have q1 := hTr.c1
      have q2 := hTr.c2
      have g0 := hTr.rh k hlt
      have g1 := hTr.rl k hlt
      have g2 := hTr.rw k hlt
      have f0 := hf.cell hlt
      have z0 := hf.frozen k
      have e1 : floatOfInt .f64 1 = Fl.one := Fl.foi_one
      have e2 : floatOfInt .f64 2 = Fl.two := Fl.foi_two
      have r1 : ∀ w, (binOp .mul 22 (.float .f64 Fl.one) (.float .f64 Fl.one)).run Try.prog w = .ok (.float .f64 Fl.one) w := fun w => run_float_arith w .mul 22 .f64 _ _ _ Fl.one_mul
      have r2 : ∀ w, (binOp .quo 22 (.float .f64 Fl.one) (.float .f64 Fl.two)).run Try.prog w = .ok (.float .f64 Fl.half) w := fun w => run_float_arith w .quo 22 .f64 _ _ _ Fl.one_div
      have r3 : ∀ w, (binOp .add 22 (.float .f64 (Fl.hs k)) (.float .f64 Fl.half)).run Try.prog w = .ok (.float .f64 (Fl.hs (k + 1))) w := fun w => run_float_arith w .add 22 .f64 _ _ _ (Fl.hs_add k (by omega))
      clear hTr hall hmf
      go_wp2
      go_region
      go_wp2
      go_roundw
      case rel => exact ⟨k + 1, by omega, by go_num, rfl, (hr.step Fl.half rfl).drew⟩
      case measure => simp [intOf]; omega
    · obtain rfl : k = n := by omega
      have r4 : ∀ w, (binOp .quo 22 (.float .f64 (Fl.hs k)) (.float .f64 (floatOfInt .f64 k))).run Try.prog w = .ok (.float .f64 Fl.half) w := fun w => run_float_arith w .quo 22 .f64 _ _ _ (Fl.hs_div k h0 hn)
      go_wp2
      go_loopw [70] (fun i w2 => ∃ j : Nat, j ≤ k ∧ i = .int .i64 j ∧ FRow (fun y => (Ieee.double.read y).isNaN = true) wr w2 k j) (fun i _ => k - (intOf i).toNat)
      case atStart => exact ⟨0, Nat.zero_le _, rfl, FRow.start _ wr k⟩
      case round =>
        obtain ⟨j, hj, rfl, hr2⟩ := hrel
        obtain ⟨f2, hf2, hall2⟩ := hr2.row
        by_cases hlt2 : j < k
        · obtain ⟨y, hy, rfl⟩ := hall j hlt2
          have g0 : _ = some (Value.float .f64 Fl.half) := (hr2.below.cell (p := ⟨w.heap.size, j, none⟩) hf.lt).trans ((hf.cell hlt2).trans (congrArg some hy))
          have f0 := hf2.cell hlt2
          have z0 := hf2.frozen j
          clear hall hall2 hmf r4 hy
          go_wp2
          go_roundw
          case rel => exact ⟨j + 1, by omega, by go_num, ((hr2.step _ (hB.out _ _)).drew).drew⟩
          case measure => simp [intOf]; omega
        · obtain rfl : j = k := by omega
          go_wp2
          go_ret
          exact hr.res hr2

set_option maxHeartbeats 2000000 in
theorem weights_zero (bt bh bl bw om : Nat) (Ok : Nat → Prop) (w : World) (hT : TabIn w 0 bt bh bl bw) :
    Calls Try.prog 7 #[.pointer (some ⟨bt, 0, none⟩), .float .f64 om] w (WRes Ok w 0) := by
  have hmf : ∀ w, (Instr.makeSlice 25 (.int .i64 0) (.int .i64 0)).run Try.prog w = .ok (.slice (some ⟨w.heap.size, 0, none⟩) 0 0) (w.alloc (.cells (madeCells #[.float .f64 0] 0) 22)) :=
    fun w => run_make_row' (P := Try.prog) 25 22 (.float .f64 0) 8 Try.underlying25 Try.info22 rfl .i64 .i64 0 (by omega) (by omega) w
  have q0 := hT.c0
  have k1 := ((Below.refl _ w).alloc (Nat.le_refl _) (.cells (madeCells #[.float .f64 0] 0) 22))
  have q0' := (hT.below k1).c0
  clear k1
  go_enter Try.func7, Try.ntmps7
  go_wp2
  go_loopw [6, 24] (fun s i wr => i = .int .i64 0 ∧ s = .float .f64 (Fl.hs 0) ∧ FRow (fun y => y = Fl.half) w wr 0 0) (fun _ i _ => 0)
  case atStart => exact ⟨rfl, rfl, FRow.start _ w 0⟩
  case round =>
    obtain ⟨rfl, rfl, hr⟩ := hrel
    clear q0 q0'
    have r4 : ∀ w, (binOp .quo 22 (.float .f64 (Fl.hs 0)) (.float .f64 (floatOfInt .f64 0))).run Try.prog w = .ok (.float .f64 (nanOf (.nanBits .f64 (Fl.hs 0) (floatOfInt .f64 0)) w)) w.drew := fun w => run_quo_nan Try.prog 22 _ _ w (by decide +kernel)
    go_wp2
    go_loopw [70] (fun i w2 => i = .int .i64 0 ∧ FRow Ok wr.drew w2 0 0) (fun i _ => 0)
    case atStart => exact ⟨rfl, FRow.start _ wr.drew 0⟩
    case round =>
      obtain ⟨rfl, hr2⟩ := hrel
      go_wp2
      go_ret
      exact (hr.drew).res hr2

end Go.Proofs.Qxb6617119a
