/-
  No cell of these rows narrows 'for every input' (looked for: loops, veiled, ifaces, maps, wideKeys, modest, calm, conditions, laid).
  DERIVED. THE GIVEN ROWS OF THIS SEAT. 3 by the template 'for every input the law returns true; each argument reads behind the call as it read before'; 0 by the template 'total and deterministic' (their statements: Qxb6617882aTotals.lean).
  GIVEN WITH THE SEED: the statements are not yours to turn. If you find one false, say at which input.
  Laid BY PROGRAM, IN A SANDBOX (cutbox-rows.mjs): the forced cells as the released guide's own fill.sh prints them over the translation 1568d46c15d93a30… (all of the seat's roots in one cut). By AI agents, Wed Nov 11 2026. No macro, syntax, notation, axiom, sorry.
-/
import Derived.Test.Qxb6617882aChecked
import GoSem.Claim
import GoSem.ClaimJoined
import GoSem.ClaimMapViews
import Derived.JoinedTies
import Derived.KernelRfl
namespace Go.Proofs.Qxb6617882a
/- THE CELL 'sum', in the pinned program and in every row, IS THE sha256 OF THE DUMP (.gsa) THAT Qxb6617882aProg.lean LOADS. Nothing in Lean hashes anything: it is a label: what it is worth is what the hold of that sum in a sandbox is worth. -/
noncomputable def Try.pinned : Pinned := { name := "qxb6617882a", sum := "1568d46c15d93a3032bcd0cb1dba6ab4abdafc7cb99fcf2c2873c32d44e5cacb", checked := Try.checked }
namespace Rows
def none {H : Type} : Left H := { results := [], args := [] }

/-- 'zzlaws_internal_overlay_b1.FnCmpDistanceSignIsHighestDifferingBit': WHATEVER THE INPUT: true; the input reads as it did. -/
def fnCmpDistanceSignIsHighestDifferingBitSpec : ChangeSpec := { name := "fnCmpDistanceSignIsHighestDifferingBit", fn := fun _ => fun
  | [d1, d2, d3] => { results := [.lit (.bool true)], args := [d1, d2, d3] }
  | _ => none }
def fnCmpDistanceSignIsHighestDifferingBitRow : OpenClaim := { program := "qxb6617882a", sum := "1568d46c15d93a3032bcd0cb1dba6ab4abdafc7cb99fcf2c2873c32d44e5cacb", func := "example.com/driftmesh/driftmesh/zzlaws_internal_overlay_b1.FnCmpDistanceSignIsHighestDifferingBit", spec := "fnCmpDistanceSignIsHighestDifferingBit", apart := false }
def FnCmpDistanceSignIsHighestDifferingBitSaid : Prop := fnCmpDistanceSignIsHighestDifferingBitRow.holds Try.pinned (OpenSpec.ofChange fnCmpDistanceSignIsHighestDifferingBitSpec)

/-- ITS FALSE NEIGHBOUR: 'it returns false'. Refute it at one input. -/
def fnCmpDistanceSignIsHighestDifferingBitWrong : ChangeSpec := { name := "fnCmpDistanceSignIsHighestDifferingBit", fn := fun _ => fun
  | [d1, d2, d3] => { results := [.lit (.bool false)], args := [d1, d2, d3] }
  | _ => none }
def FnCmpDistanceSignIsHighestDifferingBitWrongFalsely : Prop := fnCmpDistanceSignIsHighestDifferingBitRow.holds Try.pinned (OpenSpec.ofChange fnCmpDistanceSignIsHighestDifferingBitWrong)

/-- 'zzlaws_internal_overlay_b1.FnUnlinkTakesOutExactlyThatCopy': WHATEVER THE INPUT: true; the input reads as it did. -/
def fnUnlinkTakesOutExactlyThatCopySpec : ChangeSpec := { name := "fnUnlinkTakesOutExactlyThatCopy", fn := fun _ => fun
  | [d1, d2] => { results := [.lit (.bool true)], args := [d1, d2] }
  | _ => none }
def fnUnlinkTakesOutExactlyThatCopyRow : OpenClaim := { program := "qxb6617882a", sum := "1568d46c15d93a3032bcd0cb1dba6ab4abdafc7cb99fcf2c2873c32d44e5cacb", func := "example.com/driftmesh/driftmesh/zzlaws_internal_overlay_b1.FnUnlinkTakesOutExactlyThatCopy", spec := "fnUnlinkTakesOutExactlyThatCopy", apart := false }
def FnUnlinkTakesOutExactlyThatCopySaid : Prop := fnUnlinkTakesOutExactlyThatCopyRow.holds Try.pinned (OpenSpec.ofChange fnUnlinkTakesOutExactlyThatCopySpec)

/-- ITS FALSE NEIGHBOUR: 'it returns false'. Refute it at one input. -/
def fnUnlinkTakesOutExactlyThatCopyWrong : ChangeSpec := { name := "fnUnlinkTakesOutExactlyThatCopy", fn := fun _ => fun
  | [d1, d2] => { results := [.lit (.bool false)], args := [d1, d2] }
  | _ => none }
def FnUnlinkTakesOutExactlyThatCopyWrongFalsely : Prop := fnUnlinkTakesOutExactlyThatCopyRow.holds Try.pinned (OpenSpec.ofChange fnUnlinkTakesOutExactlyThatCopyWrong)

/-- 'zzlaws_internal_overlay_b1.FnUnlinkScriptKeepsBothWalks': WHATEVER THE INPUT: true; the input reads as it did. -/
def fnUnlinkScriptKeepsBothWalksSpec : ChangeSpec := { name := "fnUnlinkScriptKeepsBothWalks", fn := fun _ => fun
  | [d1, d2] => { results := [.lit (.bool true)], args := [d1, d2] }
  | _ => none }
def fnUnlinkScriptKeepsBothWalksRow : OpenClaim := { program := "qxb6617882a", sum := "1568d46c15d93a3032bcd0cb1dba6ab4abdafc7cb99fcf2c2873c32d44e5cacb", func := "example.com/driftmesh/driftmesh/zzlaws_internal_overlay_b1.FnUnlinkScriptKeepsBothWalks", spec := "fnUnlinkScriptKeepsBothWalks", apart := false }
def FnUnlinkScriptKeepsBothWalksSaid : Prop := fnUnlinkScriptKeepsBothWalksRow.holds Try.pinned (OpenSpec.ofChange fnUnlinkScriptKeepsBothWalksSpec)

/-- ITS FALSE NEIGHBOUR: 'it returns false'. Refute it at one input. -/
def fnUnlinkScriptKeepsBothWalksWrong : ChangeSpec := { name := "fnUnlinkScriptKeepsBothWalks", fn := fun _ => fun
  | [d1, d2] => { results := [.lit (.bool false)], args := [d1, d2] }
  | _ => none }
def FnUnlinkScriptKeepsBothWalksWrongFalsely : Prop := fnUnlinkScriptKeepsBothWalksRow.holds Try.pinned (OpenSpec.ofChange fnUnlinkScriptKeepsBothWalksWrong)

end Rows
end Go.Proofs.Qxb6617882a
