/-
  No cell of these rows narrows 'for every input' (looked for: loops, veiled, ifaces, maps, wideKeys, modest, calm, conditions, laid).
  DERIVED. THE GIVEN ROWS OF THIS SEAT. 2 by the template 'for every input the law returns true; each argument reads behind the call as it read before'; 0 by the template 'total and deterministic' (their statements: Qxb6625458aTotals.lean).
  GIVEN WITH THE SEED: the statements are not yours to turn. If you find one false, say at which input.
  Laid BY PROGRAM, IN A SANDBOX (cutbox-rows.mjs): the forced cells as the released guide's own fill.sh prints them over the translation 162e0fc0aca48023… (all of the seat's roots in one cut). By AI agents, Wed Nov 11 2026. No macro, syntax, notation, axiom, sorry.
-/
import Derived.Test.Qxb6625458aChecked
import GoSem.Claim
import GoSem.ClaimJoined
import GoSem.ClaimMapViews
import Derived.JoinedTies
import Derived.KernelRfl
namespace Go.Proofs.Qxb6625458a
/- THE CELL 'sum', in the pinned program and in every row, IS THE sha256 OF THE DUMP (.gsa) THAT Qxb6625458aProg.lean LOADS. Nothing in Lean hashes anything: it is a label: what it is worth is what the hold of that sum in a sandbox is worth. -/
noncomputable def Try.pinned : Pinned := { name := "qxb6625458a", sum := "162e0fc0aca480232ca86aeaef169d90cb02555154e4472e05306282890d235d", checked := Try.checked }
namespace Rows
def none {H : Type} : Left H := { results := [], args := [] }

/-- 'zzlaws_internal_score_b1.FnTrimSignCutAndPrefix': WHATEVER THE INPUT: true; the input reads as it did. -/
def fnTrimSignCutAndPrefixSpec : ChangeSpec := { name := "fnTrimSignCutAndPrefix", fn := fun _ => fun
  | [d1, d2, d3] => { results := [.lit (.bool true)], args := [d1, d2, d3] }
  | _ => none }
def fnTrimSignCutAndPrefixRow : OpenClaim := { program := "qxb6625458a", sum := "162e0fc0aca480232ca86aeaef169d90cb02555154e4472e05306282890d235d", func := "example.com/keyfold/keyfold/zzlaws_internal_score_b1.FnTrimSignCutAndPrefix", spec := "fnTrimSignCutAndPrefix", apart := false }
def FnTrimSignCutAndPrefixSaid : Prop := fnTrimSignCutAndPrefixRow.holds Try.pinned (OpenSpec.ofChange fnTrimSignCutAndPrefixSpec)

/-- ITS FALSE NEIGHBOUR: 'it returns false'. Refute it at one input. -/
def fnTrimSignCutAndPrefixWrong : ChangeSpec := { name := "fnTrimSignCutAndPrefix", fn := fun _ => fun
  | [d1, d2, d3] => { results := [.lit (.bool false)], args := [d1, d2, d3] }
  | _ => none }
def FnTrimSignCutAndPrefixWrongFalsely : Prop := fnTrimSignCutAndPrefixRow.holds Try.pinned (OpenSpec.ofChange fnTrimSignCutAndPrefixWrong)

/-- 'zzlaws_internal_score_b1.FnTrimSignPeelsLeadingSigns': WHATEVER THE INPUT: true; the input reads as it did. -/
def fnTrimSignPeelsLeadingSignsSpec : ChangeSpec := { name := "fnTrimSignPeelsLeadingSigns", fn := fun _ => fun
  | [d] => { results := [.lit (.bool true)], args := [d] }
  | _ => none }
def fnTrimSignPeelsLeadingSignsRow : OpenClaim := { program := "qxb6625458a", sum := "162e0fc0aca480232ca86aeaef169d90cb02555154e4472e05306282890d235d", func := "example.com/keyfold/keyfold/zzlaws_internal_score_b1.FnTrimSignPeelsLeadingSigns", spec := "fnTrimSignPeelsLeadingSigns", apart := false }
def FnTrimSignPeelsLeadingSignsSaid : Prop := fnTrimSignPeelsLeadingSignsRow.holds Try.pinned (OpenSpec.ofChange fnTrimSignPeelsLeadingSignsSpec)

/-- ITS FALSE NEIGHBOUR: 'it returns false'. Refute it at one input. -/
def fnTrimSignPeelsLeadingSignsWrong : ChangeSpec := { name := "fnTrimSignPeelsLeadingSigns", fn := fun _ => fun
  | [d] => { results := [.lit (.bool false)], args := [d] }
  | _ => none }
def FnTrimSignPeelsLeadingSignsWrongFalsely : Prop := fnTrimSignPeelsLeadingSignsRow.holds Try.pinned (OpenSpec.ofChange fnTrimSignPeelsLeadingSignsWrong)

end Rows
end Go.Proofs.Qxb6625458a
