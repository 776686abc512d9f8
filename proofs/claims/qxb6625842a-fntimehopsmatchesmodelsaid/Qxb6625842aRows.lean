/-
  NARROWER THAN 'FOR EVERY INPUT', by the rows' own cells (each row's printed sentence says how): FnTimeHopsMatchesModel: maps · FnTimeHopsEarlyHopsIgnoreLaterMidpoints: maps.
  DERIVED. THE GIVEN ROWS OF THIS SEAT. 2 by the template 'for every input the law returns true; each argument reads behind the call as it read before'; 0 by the template 'total and deterministic' (their statements: Qxb6625842aTotals.lean).
  GIVEN WITH THE SEED: the statements are not yours to turn. If you find one false, say at which input.
  Laid BY PROGRAM, IN A SANDBOX (cutbox-rows.mjs): the forced cells as the released guide's own fill.sh prints them over the translation 89a1c7a2c1398691… (all of the seat's roots in one cut). By AI agents, Wed Nov 11 2026. No macro, syntax, notation, axiom, sorry.
-/
import Derived.Test.Qxb6625842aChecked
import GoSem.Claim
import GoSem.ClaimJoined
import GoSem.ClaimMapViews
import Derived.JoinedTies
import Derived.KernelRfl
namespace Go.Proofs.Qxb6625842a
/- THE CELL 'sum', in the pinned program and in every row, IS THE sha256 OF THE DUMP (.gsa) THAT Qxb6625842aProg.lean LOADS. Nothing in Lean hashes anything: it is a label: what it is worth is what the hold of that sum in a sandbox is worth. -/
noncomputable def Try.pinned : Pinned := { name := "qxb6625842a", sum := "89a1c7a2c13986914bc4364321a5bbcb5b9cc21667b28420cd54526a7402f688", checked := Try.checked }
namespace Rows
def none {H : Type} : Left H := { results := [], args := [] }

/-- 'zzlaws_pkg_pathtrace_b1.FnTimeHopsMatchesModel': WHATEVER THE INPUT: true; the input reads as it did. -/
def fnTimeHopsMatchesModelSpec : ChangeSpec := { name := "fnTimeHopsMatchesModel", fn := fun _ => fun
  | [d1, d2, d3, d4, d5, d6, d7, d8, d9, d10] => { results := [.lit (.bool true)], args := [d1, d2, d3, d4, d5, d6, d7, d8, d9, d10] }
  | _ => none }
def fnTimeHopsMatchesModelRow : OpenClaim := { program := "qxb6625842a", sum := "89a1c7a2c13986914bc4364321a5bbcb5b9cc21667b28420cd54526a7402f688", func := "example.com/hopsight/hopsight/zzlaws_pkg_pathtrace_b1.FnTimeHopsMatchesModel", spec := "fnTimeHopsMatchesModel", inPlace := ["math/bits.Add64"], named := ["encoding/binary.BigEndian"], maps := true, apart := false }
def FnTimeHopsMatchesModelSaid : Prop := fnTimeHopsMatchesModelRow.holds Try.pinned (OpenSpec.ofChange fnTimeHopsMatchesModelSpec)

/-- ITS FALSE NEIGHBOUR: 'it returns false'. Refute it at one input. -/
def fnTimeHopsMatchesModelWrong : ChangeSpec := { name := "fnTimeHopsMatchesModel", fn := fun _ => fun
  | [d1, d2, d3, d4, d5, d6, d7, d8, d9, d10] => { results := [.lit (.bool false)], args := [d1, d2, d3, d4, d5, d6, d7, d8, d9, d10] }
  | _ => none }
def FnTimeHopsMatchesModelWrongFalsely : Prop := fnTimeHopsMatchesModelRow.holds Try.pinned (OpenSpec.ofChange fnTimeHopsMatchesModelWrong)

/-- 'zzlaws_pkg_pathtrace_b1.FnTimeHopsEarlyHopsIgnoreLaterMidpoints': WHATEVER THE INPUT: true; the input reads as it did. -/
def fnTimeHopsEarlyHopsIgnoreLaterMidpointsSpec : ChangeSpec := { name := "fnTimeHopsEarlyHopsIgnoreLaterMidpoints", fn := fun _ => fun
  | [d1, d2, d3, d4, d5, d6, d7, d8, d9, d10, d11] => { results := [.lit (.bool true)], args := [d1, d2, d3, d4, d5, d6, d7, d8, d9, d10, d11] }
  | _ => none }
def fnTimeHopsEarlyHopsIgnoreLaterMidpointsRow : OpenClaim := { program := "qxb6625842a", sum := "89a1c7a2c13986914bc4364321a5bbcb5b9cc21667b28420cd54526a7402f688", func := "example.com/hopsight/hopsight/zzlaws_pkg_pathtrace_b1.FnTimeHopsEarlyHopsIgnoreLaterMidpoints", spec := "fnTimeHopsEarlyHopsIgnoreLaterMidpoints", inPlace := ["math/bits.Add64"], named := ["encoding/binary.BigEndian"], maps := true, apart := false }
def FnTimeHopsEarlyHopsIgnoreLaterMidpointsSaid : Prop := fnTimeHopsEarlyHopsIgnoreLaterMidpointsRow.holds Try.pinned (OpenSpec.ofChange fnTimeHopsEarlyHopsIgnoreLaterMidpointsSpec)

/-- ITS FALSE NEIGHBOUR: 'it returns false'. Refute it at one input. -/
def fnTimeHopsEarlyHopsIgnoreLaterMidpointsWrong : ChangeSpec := { name := "fnTimeHopsEarlyHopsIgnoreLaterMidpoints", fn := fun _ => fun
  | [d1, d2, d3, d4, d5, d6, d7, d8, d9, d10, d11] => { results := [.lit (.bool false)], args := [d1, d2, d3, d4, d5, d6, d7, d8, d9, d10, d11] }
  | _ => none }
def FnTimeHopsEarlyHopsIgnoreLaterMidpointsWrongFalsely : Prop := fnTimeHopsEarlyHopsIgnoreLaterMidpointsRow.holds Try.pinned (OpenSpec.ofChange fnTimeHopsEarlyHopsIgnoreLaterMidpointsWrong)

end Rows
end Go.Proofs.Qxb6625842a
