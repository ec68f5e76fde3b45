import Derived.Test.Qxb6617102aRows
import Derived.WalkKit
import Derived.ProofKit
import Derived.WalkSpells
import Derived.WalkLawsBesides
namespace Go.Proofs.Qxb6617102a
open Go.RowKit
set_option linter.unusedVariables false

/-- What the walks are told of a []string that came in: it has no element; or its cells hold strings. -/
def PathsAt (w : World) (a : Option Addr) (n : Nat) (S : Nat → ByteArray) : Prop :=
  n = 0 ∨ ∃ b o, a = some ⟨b, o, none⟩ ∧ b < w.heap.size ∧ ∀ i, i < n → w.cell? ⟨b, o + i, none⟩ = some (.string (S i)) ∧ (S i).size ≤ 9223372036854775807

/-- 'it returned a bool' -/
def RB (e : Ending) : Prop := ∃ b, e = .returned (.bool b)

set_option maxHeartbeats 2000000 in
theorem zzBytes9_calls (nm : ByteArray) (pl : Int) (apc : Option Addr) (npc cpc : Nat) (ln : Int) (ap : Option Addr) (np cp : Nat) (al : Option Addr) (nl cl : Nat) (ad : Option Addr) (nd cd : Nat) (ax : Option Addr) (nx cx : Nat) (xc : Bool)
    (S : Nat → ByteArray) (w : World) (hS : PathsAt w ap np S) (h1 : nm.size ≤ 9223372036854775807) (h2 : npc ≤ 9223372036854775807) (h3 : np ≤ 9223372036854775807) (h4 : nl ≤ 9223372036854775807) (h5 : nd ≤ 9223372036854775807) (h6 : nx ≤ 9223372036854775807) :
    Calls Try.prog 16 #[.string nm, .int .i64 pl, .slice apc npc cpc, .int .i64 ln, .slice ap np cp, .slice al nl cl, .slice ad nd cd, .slice ax nx cx, .bool xc] w
      fun e w' => RB e ∧ w' = w := by
  rcases hS with rfl | ⟨b, o, rfl, hb, hc⟩
  · go_enter Try.func16, Try.ntmps16
    go_wp2
    any_goals (go_ret; exact ⟨⟨_, rfl⟩, rfl⟩)
    go_loop [19, 20] (fun t i => ∃ z : Int, i = .int .i64 0 ∧ 0 ≤ z ∧ z ≤ 1048576 ∧ t = .int .i64 z) (fun _ _ => 0)
    case atStart => exact ⟨_, rfl, by omega, by omega, rfl⟩
    case round =>
      obtain ⟨z, rfl, hz0, hz1, rfl⟩ := hrel
      go_wp2
      all_goals (go_ret; exact ⟨⟨_, rfl⟩, rfl⟩)
  · go_enter Try.func16, Try.ntmps16
    go_wp2
    any_goals (go_ret; exact ⟨⟨_, rfl⟩, rfl⟩)
    go_loop [19, 20] (fun t i => ∃ (k : Nat) (z : Int), k ≤ np ∧ i = .int .i64 k ∧ 0 ≤ z ∧ z ≤ 1048576 ∧ t = .int .i64 z) (fun _ i => np - (intOf i).toNat)
    case atStart => exact ⟨0, _, Nat.zero_le _, rfl, by omega, by omega, rfl⟩
    case round =>
      obtain ⟨k, z, hk, rfl, hz0, hz1, rfl⟩ := hrel
      by_cases hlt : k < np
      · obtain ⟨hcell, hsz⟩ := hc k hlt
        clear hc
        go_wp2
        any_goals (go_ret; exact ⟨⟨_, rfl⟩, rfl⟩)
        go_round
        case rel => exact ⟨k + 1, _, by omega, by go_num, by omega, by omega, rfl⟩
        case measure => simp [intOf]; omega
      · clear hc
        go_wp2
        all_goals (go_ret; exact ⟨⟨_, rfl⟩, rfl⟩)

/-- 'it returned true; or false, and then the number is small' -/
def TB (nl : Nat) (e : Ending) : Prop := e = .returned (.bool true) ∨ (e = .returned (.bool false) ∧ nl ≤ 131072)

set_option maxHeartbeats 2000000 in
theorem infoTooBig_calls (nm : ByteArray) (apc : Option Addr) (npc cpc : Nat) (ap : Option Addr) (np cp : Nat) (al : Option Addr) (nl cl : Nat) (ad : Option Addr) (nd cd : Nat) (ax : Option Addr) (nx cx : Nat)
    (S : Nat → ByteArray) (w : World) (hS : PathsAt w ap np S) (h1 : nm.size ≤ 9223372036854775807) (h2 : npc ≤ 9223372036854775807) (h3 : np ≤ 9223372036854775807) (h4 : nl ≤ 9223372036854775807) (h5 : nd ≤ 9223372036854775807) (h6 : nx ≤ 9223372036854775807) :
    Calls Try.prog 9 #[.string nm, .slice apc npc cpc, .slice ap np cp, .slice al nl cl, .slice ad nd cd, .slice ax nx cx] w
      fun e w' => TB nl e ∧ w' = w := by
  rcases hS with rfl | ⟨b, o, rfl, hb, hc⟩
  · go_enter Try.func9, Try.ntmps9
    go_wp2
    any_goals (go_ret; exact ⟨.inl rfl, rfl⟩)
    go_loop [13, 14] (fun t i => ∃ z : Int, i = .int .i64 0 ∧ 0 ≤ z ∧ z ≤ 1048576 ∧ t = .int .i64 z) (fun _ _ => 0)
    case atStart => exact ⟨_, rfl, by omega, by omega, rfl⟩
    case round =>
      obtain ⟨z, rfl, hz0, hz1, rfl⟩ := hrel
      go_wp2
      go_ret
      exact ⟨.inr ⟨rfl, by omega⟩, rfl⟩
  · go_enter Try.func9, Try.ntmps9
    go_wp2
    any_goals (go_ret; exact ⟨.inl rfl, rfl⟩)
    go_loop [13, 14] (fun t i => ∃ (k : Nat) (z : Int), k ≤ np ∧ i = .int .i64 k ∧ 0 ≤ z ∧ z ≤ 1048576 ∧ t = .int .i64 z) (fun _ i => np - (intOf i).toNat)
    case atStart => exact ⟨0, _, Nat.zero_le _, rfl, by omega, by omega, rfl⟩
    case round =>
      obtain ⟨k, z, hk, rfl, hz0, hz1, rfl⟩ := hrel
      by_cases hlt : k < np
      · obtain ⟨hcell, hsz⟩ := hc k hlt
        clear hc
        go_wp2
        any_goals (go_ret; exact ⟨.inl rfl, rfl⟩)
        go_round
        case rel => exact ⟨k + 1, _, by omega, by go_num, by omega, by omega, rfl⟩
        case measure => simp [intOf]; omega
      · clear hc
        go_wp2
        go_ret
        exact ⟨.inr ⟨rfl, by omega⟩, rfl⟩

theorem sameShape_yes (ap : Option Addr) (n cp : Nat) (al : Option Addr) (cl : Nat) (ad : Option Addr) (cd : Nat) (ax : Option Addr) (cx : Nat) (w : World) :
    Calls Try.prog 10 #[.slice ap n cp, .slice al n cl, .slice ad n cd, .slice ax n cx] w fun e w' => e = .returned (.bool true) ∧ w' = w := by
  go_enter Try.func10, Try.ntmps10
  go_wp2
  go_ret
  exact ⟨rfl, rfl⟩

theorem sameShape_no (ap : Option Addr) (np cp : Nat) (al : Option Addr) (nl cl : Nat) (ad : Option Addr) (nd cd : Nat) (ax : Option Addr) (nx cx : Nat) (w : World)
    (h : ¬ (np = nl ∧ nd = nl ∧ nx = nl)) :
    Calls Try.prog 10 #[.slice ap np cp, .slice al nl cl, .slice ad nd cd, .slice ax nx cx] w fun e w' => e = .returned (.bool false) ∧ w' = w := by
  by_cases h1 : np = nl
  · subst h1
    by_cases h2 : nd = np
    · subst h2
      have h3 : ((nx : Int) == (nd : Int)) = false := by
        rw [beq_eq_false_iff_ne]
        intro e
        exact h ⟨rfl, rfl, by omega⟩
      clear h
      go_enter Try.func10, Try.ntmps10
      go_wp2
      go_ret
      exact ⟨rfl, rfl⟩
    · have h3 : ((nd : Int) == (np : Int)) = false := by
        rw [beq_eq_false_iff_ne]
        omega
      clear h h2
      go_enter Try.func10, Try.ntmps10
      go_wp2
      go_ret
      exact ⟨rfl, rfl⟩
  · have h3 : ((np : Int) == (nl : Int)) = false := by
      rw [beq_eq_false_iff_ne]
      omega
    clear h h1
    go_enter Try.func10, Try.ntmps10
    go_wp2
    go_ret
    exact ⟨rfl, rfl⟩

end Go.Proofs.Qxb6617102a
