/-
  No cell of these rows narrows 'for every input' (looked for: loops, veiled, ifaces, maps, wideKeys, modest, calm, conditions, laid).
  DERIVED. THE GIVEN ROWS OF THIS SEAT. 3 by the template 'for every input the law returns true; each argument reads behind the call as it read before'; 0 by the template 'total and deterministic' (their statements: Qxb6617119aTotals.lean).
  GIVEN WITH THE SEED: the statements are not yours to turn. If you find one false, say at which input.
  Laid BY PROGRAM, IN A SANDBOX (cutbox-rows.mjs): the forced cells as the released guide's own fill.sh prints them over the translation ccfc1dc107af9000… (all of the seat's roots in one cut). By AI agents, Wed Nov 11 2026. No macro, syntax, notation, axiom, sorry.
-/
import Derived.Test.Qxb6617119aChecked
import GoSem.Claim
import GoSem.ClaimJoined
import GoSem.ClaimMapViews
import Derived.JoinedTies
import Derived.KernelRfl
namespace Go.Proofs.Qxb6617119a
/- THE CELL 'sum', in the pinned program and in every row, IS THE sha256 OF THE DUMP (.gsa) THAT Qxb6617119aProg.lean LOADS. Nothing in Lean hashes anything: it is a label: what it is worth is what the hold of that sum in a sandbox is worth. -/
noncomputable def Try.pinned : Pinned := { name := "qxb6617119a", sum := "ccfc1dc107af9000aa8639a8719d5800ffacfa0134709b6626255a77c77146ec", checked := Try.checked }
namespace Rows
def none {H : Type} : Left H := { results := [], args := [] }

/-- 'zzlaws_cale_b1.FnFreshTableWeightsClosedForm': WHATEVER THE INPUT: true; the input reads as it did. -/
def fnFreshTableWeightsClosedFormSpec : ChangeSpec := { name := "fnFreshTableWeightsClosedForm", fn := fun _ => fun
  | [d1, d2] => { results := [.lit (.bool true)], args := [d1, d2] }
  | _ => none }
def fnFreshTableWeightsClosedFormRow : OpenClaim := { program := "qxb6617119a", sum := "ccfc1dc107af9000aa8639a8719d5800ffacfa0134709b6626255a77c77146ec", func := "example.com/airquorum/airquorum/zzlaws_cale_b1.FnFreshTableWeightsClosedForm", spec := "fnFreshTableWeightsClosedForm", apart := false }
def FnFreshTableWeightsClosedFormSaid : Prop := fnFreshTableWeightsClosedFormRow.holds Try.pinned (OpenSpec.ofChange fnFreshTableWeightsClosedFormSpec)

/-- ITS FALSE NEIGHBOUR: 'it returns false'. Refute it at one input. -/
def fnFreshTableWeightsClosedFormWrong : ChangeSpec := { name := "fnFreshTableWeightsClosedForm", fn := fun _ => fun
  | [d1, d2] => { results := [.lit (.bool false)], args := [d1, d2] }
  | _ => none }
def FnFreshTableWeightsClosedFormWrongFalsely : Prop := fnFreshTableWeightsClosedFormRow.holds Try.pinned (OpenSpec.ofChange fnFreshTableWeightsClosedFormWrong)

/-- 'zzlaws_cale_b1.FnFreshTableLeadScriptDecayedRecord': WHATEVER THE INPUT: true; the input reads as it did. -/
def fnFreshTableLeadScriptDecayedRecordSpec : ChangeSpec := { name := "fnFreshTableLeadScriptDecayedRecord", fn := fun _ => fun
  | [d1, d2, d3] => { results := [.lit (.bool true)], args := [d1, d2, d3] }
  | _ => none }
def fnFreshTableLeadScriptDecayedRecordRow : OpenClaim := { program := "qxb6617119a", sum := "ccfc1dc107af9000aa8639a8719d5800ffacfa0134709b6626255a77c77146ec", func := "example.com/airquorum/airquorum/zzlaws_cale_b1.FnFreshTableLeadScriptDecayedRecord", spec := "fnFreshTableLeadScriptDecayedRecord", apart := false }
def FnFreshTableLeadScriptDecayedRecordSaid : Prop := fnFreshTableLeadScriptDecayedRecordRow.holds Try.pinned (OpenSpec.ofChange fnFreshTableLeadScriptDecayedRecordSpec)

/-- ITS FALSE NEIGHBOUR: 'it returns false'. Refute it at one input. -/
def fnFreshTableLeadScriptDecayedRecordWrong : ChangeSpec := { name := "fnFreshTableLeadScriptDecayedRecord", fn := fun _ => fun
  | [d1, d2, d3] => { results := [.lit (.bool false)], args := [d1, d2, d3] }
  | _ => none }
def FnFreshTableLeadScriptDecayedRecordWrongFalsely : Prop := fnFreshTableLeadScriptDecayedRecordRow.holds Try.pinned (OpenSpec.ofChange fnFreshTableLeadScriptDecayedRecordWrong)

/-- 'zzlaws_cale_b1.FnLeadScriptDecayedRecordFromAnyRecord': WHATEVER THE INPUT: true; the input reads as it did. -/
def fnLeadScriptDecayedRecordFromAnyRecordSpec : ChangeSpec := { name := "fnLeadScriptDecayedRecordFromAnyRecord", fn := fun _ => fun
  | [d1, d2, d3, d4, d5] => { results := [.lit (.bool true)], args := [d1, d2, d3, d4, d5] }
  | _ => none }
def fnLeadScriptDecayedRecordFromAnyRecordRow : OpenClaim := { program := "qxb6617119a", sum := "ccfc1dc107af9000aa8639a8719d5800ffacfa0134709b6626255a77c77146ec", func := "example.com/airquorum/airquorum/zzlaws_cale_b1.FnLeadScriptDecayedRecordFromAnyRecord", spec := "fnLeadScriptDecayedRecordFromAnyRecord", apart := false }
def FnLeadScriptDecayedRecordFromAnyRecordSaid : Prop := fnLeadScriptDecayedRecordFromAnyRecordRow.holds Try.pinned (OpenSpec.ofChange fnLeadScriptDecayedRecordFromAnyRecordSpec)

/-- ITS FALSE NEIGHBOUR: 'it returns false'. Refute it at one input. -/
def fnLeadScriptDecayedRecordFromAnyRecordWrong : ChangeSpec := { name := "fnLeadScriptDecayedRecordFromAnyRecord", fn := fun _ => fun
  | [d1, d2, d3, d4, d5] => { results := [.lit (.bool false)], args := [d1, d2, d3, d4, d5] }
  | _ => none }
def FnLeadScriptDecayedRecordFromAnyRecordWrongFalsely : Prop := fnLeadScriptDecayedRecordFromAnyRecordRow.holds Try.pinned (OpenSpec.ofChange fnLeadScriptDecayedRecordFromAnyRecordWrong)

end Rows
end Go.Proofs.Qxb6617119a
