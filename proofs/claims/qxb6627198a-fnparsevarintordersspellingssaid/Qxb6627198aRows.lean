/-
  No cell of these rows narrows 'for every input' (looked for: loops, veiled, ifaces, maps, wideKeys, modest, calm, conditions, laid).
  DERIVED. THE GIVEN ROWS OF THIS SEAT. 2 by the template 'for every input the law returns true; each argument reads behind the call as it read before'; 0 by the template 'total and deterministic' (their statements: Qxb6627198aTotals.lean).
  GIVEN WITH THE SEED: the statements are not yours to turn. If you find one false, say at which input.
  Laid BY PROGRAM, IN A SANDBOX (cutbox-rows.mjs): the forced cells as the released guide's own fill.sh prints them over the translation 6346a519e9bf1aa9… (all of the seat's roots in one cut). By AI agents, Wed Nov 11 2026. No macro, syntax, notation, axiom, sorry.
-/
import Derived.Test.Qxb6627198aChecked
import GoSem.Claim
import GoSem.ClaimJoined
import GoSem.ClaimMapViews
import Derived.JoinedTies
import Derived.KernelRfl
namespace Go.Proofs.Qxb6627198a
/- THE CELL 'sum', in the pinned program and in every row, IS THE sha256 OF THE DUMP (.gsa) THAT Qxb6627198aProg.lean LOADS. Nothing in Lean hashes anything: it is a label: what it is worth is what the hold of that sum in a sandbox is worth. -/
noncomputable def Try.pinned : Pinned := { name := "qxb6627198a", sum := "6346a519e9bf1aa9637a4affb004f54af4174bb887c20092d65bfe67966e691b", checked := Try.checked }
namespace Rows
def none {H : Type} : Left H := { results := [], args := [] }

/-- 'zzlaws_object_b1.FnParseVarintMatchesOffsetModel': WHATEVER THE INPUT: true; the input reads as it did. -/
def fnParseVarintMatchesOffsetModelSpec : ChangeSpec := { name := "fnParseVarintMatchesOffsetModel", fn := fun _ => fun
  | [d] => { results := [.lit (.bool true)], args := [d] }
  | _ => none }
def fnParseVarintMatchesOffsetModelRow : OpenClaim := { program := "qxb6627198a", sum := "6346a519e9bf1aa9637a4affb004f54af4174bb887c20092d65bfe67966e691b", func := "example.com/plumbline/plumbline/zzlaws_object_b1.FnParseVarintMatchesOffsetModel", spec := "fnParseVarintMatchesOffsetModel", apart := false }
def FnParseVarintMatchesOffsetModelSaid : Prop := fnParseVarintMatchesOffsetModelRow.holds Try.pinned (OpenSpec.ofChange fnParseVarintMatchesOffsetModelSpec)

/-- ITS FALSE NEIGHBOUR: 'it returns false'. Refute it at one input. -/
def fnParseVarintMatchesOffsetModelWrong : ChangeSpec := { name := "fnParseVarintMatchesOffsetModel", fn := fun _ => fun
  | [d] => { results := [.lit (.bool false)], args := [d] }
  | _ => none }
def FnParseVarintMatchesOffsetModelWrongFalsely : Prop := fnParseVarintMatchesOffsetModelRow.holds Try.pinned (OpenSpec.ofChange fnParseVarintMatchesOffsetModelWrong)

/-- 'zzlaws_object_b1.FnParseVarintOrdersSpellings': WHATEVER THE INPUT: true; the input reads as it did. -/
def fnParseVarintOrdersSpellingsSpec : ChangeSpec := { name := "fnParseVarintOrdersSpellings", fn := fun _ => fun
  | [d1, d2] => { results := [.lit (.bool true)], args := [d1, d2] }
  | _ => none }
def fnParseVarintOrdersSpellingsRow : OpenClaim := { program := "qxb6627198a", sum := "6346a519e9bf1aa9637a4affb004f54af4174bb887c20092d65bfe67966e691b", func := "example.com/plumbline/plumbline/zzlaws_object_b1.FnParseVarintOrdersSpellings", spec := "fnParseVarintOrdersSpellings", apart := false }
def FnParseVarintOrdersSpellingsSaid : Prop := fnParseVarintOrdersSpellingsRow.holds Try.pinned (OpenSpec.ofChange fnParseVarintOrdersSpellingsSpec)

/-- ITS FALSE NEIGHBOUR: 'it returns false'. Refute it at one input. -/
def fnParseVarintOrdersSpellingsWrong : ChangeSpec := { name := "fnParseVarintOrdersSpellings", fn := fun _ => fun
  | [d1, d2] => { results := [.lit (.bool false)], args := [d1, d2] }
  | _ => none }
def FnParseVarintOrdersSpellingsWrongFalsely : Prop := fnParseVarintOrdersSpellingsRow.holds Try.pinned (OpenSpec.ofChange fnParseVarintOrdersSpellingsWrong)

end Rows
end Go.Proofs.Qxb6627198a
