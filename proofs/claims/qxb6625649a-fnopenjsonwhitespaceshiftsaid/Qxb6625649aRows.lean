/-
  No cell of these rows narrows 'for every input' (looked for: loops, veiled, ifaces, maps, wideKeys, modest, calm, conditions, laid).
  DERIVED. THE GIVEN ROWS OF THIS SEAT. 2 by the template 'for every input the law returns true; each argument reads behind the call as it read before'; 0 by the template 'total and deterministic' (their statements: Qxb6625649aTotals.lean).
  GIVEN WITH THE SEED: the statements are not yours to turn. If you find one false, say at which input.
  Laid BY PROGRAM, IN A SANDBOX (cutbox-rows.mjs): the forced cells as the released guide's own fill.sh prints them over the translation 16c484e2d09534d8… (all of the seat's roots in one cut). By AI agents, Wed Nov 11 2026. No macro, syntax, notation, axiom, sorry.
-/
import Derived.Test.Qxb6625649aChecked
import GoSem.Claim
import GoSem.ClaimJoined
import GoSem.ClaimMapViews
import Derived.JoinedTies
import Derived.KernelRfl
namespace Go.Proofs.Qxb6625649a
/- THE CELL 'sum', in the pinned program and in every row, IS THE sha256 OF THE DUMP (.gsa) THAT Qxb6625649aProg.lean LOADS. Nothing in Lean hashes anything: it is a label: what it is worth is what the hold of that sum in a sandbox is worth. -/
noncomputable def Try.pinned : Pinned := { name := "qxb6625649a", sum := "16c484e2d09534d8b99d1e25c2060037c9d54737ac53dbeb1c1d9c9939acd4ce", checked := Try.checked }
namespace Rows
def none {H : Type} : Left H := { results := [], args := [] }

/-- 'zzlaws_snapshot_b1.FnOpenJSONWhitespaceShift': WHATEVER THE INPUT: true; the input reads as it did. -/
def fnOpenJSONWhitespaceShiftSpec : ChangeSpec := { name := "fnOpenJSONWhitespaceShift", fn := fun _ => fun
  | [d1, d2] => { results := [.lit (.bool true)], args := [d1, d2] }
  | _ => none }
def fnOpenJSONWhitespaceShiftRow : OpenClaim := { program := "qxb6625649a", sum := "16c484e2d09534d8b99d1e25c2060037c9d54737ac53dbeb1c1d9c9939acd4ce", func := "example.com/tideline/tideline/zzlaws_snapshot_b1.FnOpenJSONWhitespaceShift", spec := "fnOpenJSONWhitespaceShift", apart := false }
def FnOpenJSONWhitespaceShiftSaid : Prop := fnOpenJSONWhitespaceShiftRow.holds Try.pinned (OpenSpec.ofChange fnOpenJSONWhitespaceShiftSpec)

/-- ITS FALSE NEIGHBOUR: 'it returns false'. Refute it at one input. -/
def fnOpenJSONWhitespaceShiftWrong : ChangeSpec := { name := "fnOpenJSONWhitespaceShift", fn := fun _ => fun
  | [d1, d2] => { results := [.lit (.bool false)], args := [d1, d2] }
  | _ => none }
def FnOpenJSONWhitespaceShiftWrongFalsely : Prop := fnOpenJSONWhitespaceShiftRow.holds Try.pinned (OpenSpec.ofChange fnOpenJSONWhitespaceShiftWrong)

/-- 'zzlaws_snapshot_b1.FnOpenJSONFirstPartSwap': WHATEVER THE INPUT: true; the input reads as it did. -/
def fnOpenJSONFirstPartSwapSpec : ChangeSpec := { name := "fnOpenJSONFirstPartSwap", fn := fun _ => fun
  | [d] => { results := [.lit (.bool true)], args := [d] }
  | _ => none }
def fnOpenJSONFirstPartSwapRow : OpenClaim := { program := "qxb6625649a", sum := "16c484e2d09534d8b99d1e25c2060037c9d54737ac53dbeb1c1d9c9939acd4ce", func := "example.com/tideline/tideline/zzlaws_snapshot_b1.FnOpenJSONFirstPartSwap", spec := "fnOpenJSONFirstPartSwap", apart := false }
def FnOpenJSONFirstPartSwapSaid : Prop := fnOpenJSONFirstPartSwapRow.holds Try.pinned (OpenSpec.ofChange fnOpenJSONFirstPartSwapSpec)

/-- ITS FALSE NEIGHBOUR: 'it returns false'. Refute it at one input. -/
def fnOpenJSONFirstPartSwapWrong : ChangeSpec := { name := "fnOpenJSONFirstPartSwap", fn := fun _ => fun
  | [d] => { results := [.lit (.bool false)], args := [d] }
  | _ => none }
def FnOpenJSONFirstPartSwapWrongFalsely : Prop := fnOpenJSONFirstPartSwapRow.holds Try.pinned (OpenSpec.ofChange fnOpenJSONFirstPartSwapWrong)

end Rows
end Go.Proofs.Qxb6625649a
