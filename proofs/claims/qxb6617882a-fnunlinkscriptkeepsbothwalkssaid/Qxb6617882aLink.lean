import Derived.Test.Qxb6617882aRows
import Derived.WalkKit
import Derived.ProofKit
import Derived.WalkSpells
import Derived.WalkLawsBesides
import Derived.Deep.QuietTactic
import Derived.BigQuiet
import Derived.BigRegion
import Derived.Deep.OwnRows
import Derived.Deep.RegionWith
namespace Go.Proofs.Qxb6617882a
open Go.RowKit
set_option linter.unusedVariables false

/-- a fresh place's cells; a fresh room's -/
def zp : Array Value := #[.int .u8 0, .int .u8 0, .int .u8 0, .int .u8 0, .int .u8 0, .int .u8 0, .int .u8 0, .int .u8 0, .int .u8 0, .int .u8 0, .int .u8 0, .int .u8 0, .int .u8 0, .int .u8 0, .int .u8 0, .int .u8 0, .int .u8 0, .int .u8 0, .int .u8 0, .int .u8 0, .pointer none, .pointer none]

theorem newRoom_calls (w : World) : Calls Try.prog 12 #[] w fun e w' => e = .returned (.pointer (some ⟨w.heap.size, 0, none⟩)) ∧ w' = w.alloc (.cells #[.int .i64 0, .int .i64 0, .pointer none, .pointer none] 45) := by
  go_enter Try.func12, Try.ntmps12
  go_wp2
  go_ret
  exact ⟨rfl, rfl⟩

theorem newPlace_calls (w : World) : Calls Try.prog 13 #[] w fun e w' => e = .returned (.pointer (some ⟨w.heap.size, 0, none⟩)) ∧ w' = w.alloc (.cells zp 47) := by
  go_enter Try.func13, Try.ntmps13
  go_wp2
  go_ret
  exact ⟨rfl, rfl⟩

theorem setLinks_calls (b : Nat) (x y v1 v2 : Option Addr) (w : World) (c1 : w.cell? ⟨b, 20, none⟩ = some (.pointer v1)) (c2 : w.cell? ⟨b, 21, none⟩ = some (.pointer v2)) (f1 : w.frozen? ⟨b, 20, none⟩ = false) (f2 : w.frozen? ⟨b, 21, none⟩ = false) :
    Calls Try.prog 14 #[.pointer (some ⟨b, 0, none⟩), .pointer x, .pointer y] w fun e w' => e = .returned (.tuple #[]) ∧ w' = (w.setCell ⟨b, 20, none⟩ (.pointer x)).setCell ⟨b, 21, none⟩ (.pointer y) := by
  go_enter Try.func14, Try.ntmps14
  go_wp2
  go_end0
  exact ⟨rfl, rfl⟩

theorem setEnds_calls (b : Nat) (x y v1 v2 : Option Addr) (w : World) (c1 : w.cell? ⟨b, 2, none⟩ = some (.pointer v1)) (c2 : w.cell? ⟨b, 3, none⟩ = some (.pointer v2)) (f1 : w.frozen? ⟨b, 2, none⟩ = false) (f2 : w.frozen? ⟨b, 3, none⟩ = false) :
    Calls Try.prog 15 #[.pointer (some ⟨b, 0, none⟩), .pointer x, .pointer y] w fun e w' => e = .returned (.tuple #[]) ∧ w' = (w.setCell ⟨b, 2, none⟩ (.pointer x)).setCell ⟨b, 3, none⟩ (.pointer y) := by
  go_enter Try.func15, Try.ntmps15
  go_wp2
  go_end0
  exact ⟨rfl, rfl⟩

theorem oldest_calls (b : Nat) (v : Option Addr) (w : World) (c : w.cell? ⟨b, 2, none⟩ = some (.pointer v)) : Calls Try.prog 17 #[.pointer (some ⟨b, 0, none⟩)] w fun e w' => e = .returned (.pointer v) ∧ w' = w := by
  go_enter Try.func17, Try.ntmps17
  go_wp2
  go_ret
  exact ⟨rfl, rfl⟩
theorem newer_calls (b : Nat) (v : Option Addr) (w : World) (c : w.cell? ⟨b, 21, none⟩ = some (.pointer v)) : Calls Try.prog 18 #[.pointer (some ⟨b, 0, none⟩)] w fun e w' => e = .returned (.pointer v) ∧ w' = w := by
  go_enter Try.func18, Try.ntmps18
  go_wp2
  go_ret
  exact ⟨rfl, rfl⟩
theorem newest_calls (b : Nat) (v : Option Addr) (w : World) (c : w.cell? ⟨b, 3, none⟩ = some (.pointer v)) : Calls Try.prog 19 #[.pointer (some ⟨b, 0, none⟩)] w fun e w' => e = .returned (.pointer v) ∧ w' = w := by
  go_enter Try.func19, Try.ntmps19
  go_wp2
  go_ret
  exact ⟨rfl, rfl⟩
theorem older_calls (b : Nat) (v : Option Addr) (w : World) (c : w.cell? ⟨b, 20, none⟩ = some (.pointer v)) : Calls Try.prog 20 #[.pointer (some ⟨b, 0, none⟩)] w fun e w' => e = .returned (.pointer v) ∧ w' = w := by
  go_enter Try.func20, Try.ntmps20
  go_wp2
  go_ret
  exact ⟨rfl, rfl⟩

/-! ### unlink, by its four ways -/
section
variable (r p a b : Nat) (w : World)

theorem unlink_mid (hpa : p ≠ a) (hpb : p ≠ b) (hab : a ≠ b) (va vb : Option Addr)
    (c1 : w.cell? ⟨p, 20, none⟩ = some (.pointer (some ⟨a, 0, none⟩))) (c2 : w.cell? ⟨p, 21, none⟩ = some (.pointer (some ⟨b, 0, none⟩)))
    (ca : w.cell? ⟨a, 21, none⟩ = some (.pointer va)) (cb : w.cell? ⟨b, 20, none⟩ = some (.pointer vb)) (fa : w.frozen? ⟨a, 21, none⟩ = false) (fb : w.frozen? ⟨b, 20, none⟩ = false) :
    Calls Try.prog 16 #[.pointer (some ⟨r, 0, none⟩), .pointer (some ⟨p, 0, none⟩)] w fun e w' => e = .returned (.tuple #[]) ∧ ∃ q, w' = ((w.setCell ⟨a, 21, none⟩ (.pointer (some ⟨b, 0, none⟩))).setCell ⟨b, 20, none⟩ (.pointer (some ⟨a, 0, none⟩))).drewN q := by
  have hpa' := Ne.symm hpa
  have hpb' := Ne.symm hpb
  have hab' := Ne.symm hab
  go_enter Try.func16, Try.ntmps16
  go_wp2
  go_region
  go_wp2
  go_region
  go_wp2
  go_end0
  exact ⟨rfl, 2, rfl⟩

theorem unlink_first (hpb : p ≠ b) (hpr : p ≠ r) (hbr : b ≠ r) (v2 vb : Option Addr)
    (c1 : w.cell? ⟨p, 20, none⟩ = some (.pointer none)) (c2 : w.cell? ⟨p, 21, none⟩ = some (.pointer (some ⟨b, 0, none⟩)))
    (cr : w.cell? ⟨r, 2, none⟩ = some (.pointer v2)) (cb : w.cell? ⟨b, 20, none⟩ = some (.pointer vb)) (fr : w.frozen? ⟨r, 2, none⟩ = false) (fb : w.frozen? ⟨b, 20, none⟩ = false) :
    Calls Try.prog 16 #[.pointer (some ⟨r, 0, none⟩), .pointer (some ⟨p, 0, none⟩)] w fun e w' => e = .returned (.tuple #[]) ∧ ∃ q, w' = ((w.setCell ⟨r, 2, none⟩ (.pointer (some ⟨b, 0, none⟩))).setCell ⟨b, 20, none⟩ (.pointer none)).drewN q := by
  have hpb' := Ne.symm hpb
  have hpr' := Ne.symm hpr
  have hbr' := Ne.symm hbr
  go_enter Try.func16, Try.ntmps16
  go_wp2
  go_region
  go_wp2
  go_end0
  exact ⟨rfl, 1, rfl⟩

theorem unlink_last (hpa : p ≠ a) (hpr : p ≠ r) (har : a ≠ r) (v3 va : Option Addr)
    (c1 : w.cell? ⟨p, 20, none⟩ = some (.pointer (some ⟨a, 0, none⟩))) (c2 : w.cell? ⟨p, 21, none⟩ = some (.pointer none))
    (cr : w.cell? ⟨r, 3, none⟩ = some (.pointer v3)) (ca : w.cell? ⟨a, 21, none⟩ = some (.pointer va)) (fr : w.frozen? ⟨r, 3, none⟩ = false) (fa : w.frozen? ⟨a, 21, none⟩ = false) :
    Calls Try.prog 16 #[.pointer (some ⟨r, 0, none⟩), .pointer (some ⟨p, 0, none⟩)] w fun e w' => e = .returned (.tuple #[]) ∧ ∃ q, w' = ((w.setCell ⟨a, 21, none⟩ (.pointer none)).setCell ⟨r, 3, none⟩ (.pointer (some ⟨a, 0, none⟩))).drewN q := by
  have hpa' := Ne.symm hpa
  have hpr' := Ne.symm hpr
  have har' := Ne.symm har
  go_enter Try.func16, Try.ntmps16
  go_wp2
  go_region
  go_wp2
  go_end0
  exact ⟨rfl, 1, rfl⟩

theorem unlink_only (hpr : p ≠ r) (v2 v3 : Option Addr)
    (c1 : w.cell? ⟨p, 20, none⟩ = some (.pointer none)) (c2 : w.cell? ⟨p, 21, none⟩ = some (.pointer none))
    (cr2 : w.cell? ⟨r, 2, none⟩ = some (.pointer v2)) (cr3 : w.cell? ⟨r, 3, none⟩ = some (.pointer v3)) (fr2 : w.frozen? ⟨r, 2, none⟩ = false) (fr3 : w.frozen? ⟨r, 3, none⟩ = false) :
    Calls Try.prog 16 #[.pointer (some ⟨r, 0, none⟩), .pointer (some ⟨p, 0, none⟩)] w fun e w' => e = .returned (.tuple #[]) ∧ ∃ q, w' = ((w.setCell ⟨r, 2, none⟩ (.pointer none)).setCell ⟨r, 3, none⟩ (.pointer none)).drewN q := by
  have hpr' := Ne.symm hpr
  go_enter Try.func16, Try.ntmps16
  go_wp2
  go_end0
  exact ⟨rfl, 0, rfl⟩

theorem zzUnlink_calls (R : World → Prop) (h : Calls Try.prog 16 #[.pointer (some ⟨r, 0, none⟩), .pointer (some ⟨p, 0, none⟩)] w fun e w' => e = .returned (.tuple #[]) ∧ R w') :
    Calls Try.prog 8 #[.pointer (some ⟨r, 0, none⟩), .pointer (some ⟨p, 0, none⟩)] w fun e w' => e = .returned (.tuple #[]) ∧ R w' := by
  have H : Hid (Calls Try.prog 16 #[.pointer (some ⟨r, 0, none⟩), .pointer (some ⟨p, 0, none⟩)] w fun e w' => e = .returned (.tuple #[]) ∧ R w') := h
  clear h
  go_enter Try.func8, Try.ntmps8
  go_wp2_with fail
  refine H.out.mono ?_
  rintro e w' ⟨rfl, hR⟩
  go_wp2_with fail
  go_end0
  exact ⟨rfl, hR⟩

end
end Go.Proofs.Qxb6617882a
