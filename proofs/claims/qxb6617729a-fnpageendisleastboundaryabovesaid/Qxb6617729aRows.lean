/-
  No cell of these rows narrows 'for every input' (looked for: loops, veiled, ifaces, maps, wideKeys, modest, calm, conditions, laid).
  DERIVED. THE GIVEN ROWS OF THIS SEAT. 2 by the template 'for every input the law returns true; each argument reads behind the call as it read before'; 0 by the template 'total and deterministic' (their statements: Qxb6617729aTotals.lean).
  GIVEN WITH THE SEED: the statements are not yours to turn. If you find one false, say at which input.
  Laid BY PROGRAM, IN A SANDBOX (cutbox-rows.mjs): the forced cells as the released guide's own fill.sh prints them over the translation 285ca36a08ba107e… (all of the seat's roots in one cut). By AI agents, Wed Nov 11 2026. No macro, syntax, notation, axiom, sorry.
-/
import Derived.Test.Qxb6617729aChecked
import GoSem.Claim
import GoSem.ClaimJoined
import GoSem.ClaimMapViews
import Derived.JoinedTies
import Derived.KernelRfl
namespace Go.Proofs.Qxb6617729a
/- THE CELL 'sum', in the pinned program and in every row, IS THE sha256 OF THE DUMP (.gsa) THAT Qxb6617729aProg.lean LOADS. Nothing in Lean hashes anything: it is a label: what it is worth is what the hold of that sum in a sandbox is worth. -/
noncomputable def Try.pinned : Pinned := { name := "qxb6617729a", sum := "285ca36a08ba107e21e194d15e05ec7f57d48c618d2d7bf7cfa7f03d8d06898f", checked := Try.checked }
namespace Rows
def none {H : Type} : Left H := { results := [], args := [] }

/-- 'zzlaws_root_b1.FnPageEndIsLeastBoundaryAbove': WHATEVER THE INPUT: true; the input reads as it did. -/
def fnPageEndIsLeastBoundaryAboveSpec : ChangeSpec := { name := "fnPageEndIsLeastBoundaryAbove", fn := fun _ => fun
  | [d] => { results := [.lit (.bool true)], args := [d] }
  | _ => none }
def fnPageEndIsLeastBoundaryAboveRow : OpenClaim := { program := "qxb6617729a", sum := "285ca36a08ba107e21e194d15e05ec7f57d48c618d2d7bf7cfa7f03d8d06898f", func := "example.com/mailshelf/mailshelf/zzlaws_root_b1.FnPageEndIsLeastBoundaryAbove", spec := "fnPageEndIsLeastBoundaryAbove", apart := false }
def FnPageEndIsLeastBoundaryAboveSaid : Prop := fnPageEndIsLeastBoundaryAboveRow.holds Try.pinned (OpenSpec.ofChange fnPageEndIsLeastBoundaryAboveSpec)

/-- ITS FALSE NEIGHBOUR: 'it returns false'. Refute it at one input. -/
def fnPageEndIsLeastBoundaryAboveWrong : ChangeSpec := { name := "fnPageEndIsLeastBoundaryAbove", fn := fun _ => fun
  | [d] => { results := [.lit (.bool false)], args := [d] }
  | _ => none }
def FnPageEndIsLeastBoundaryAboveWrongFalsely : Prop := fnPageEndIsLeastBoundaryAboveRow.holds Try.pinned (OpenSpec.ofChange fnPageEndIsLeastBoundaryAboveWrong)

/-- 'zzlaws_root_b1.FnPageEndCountsBoundariesCrossed': WHATEVER THE INPUT: true; the input reads as it did. -/
def fnPageEndCountsBoundariesCrossedSpec : ChangeSpec := { name := "fnPageEndCountsBoundariesCrossed", fn := fun _ => fun
  | [d1, d2] => { results := [.lit (.bool true)], args := [d1, d2] }
  | _ => none }
def fnPageEndCountsBoundariesCrossedRow : OpenClaim := { program := "qxb6617729a", sum := "285ca36a08ba107e21e194d15e05ec7f57d48c618d2d7bf7cfa7f03d8d06898f", func := "example.com/mailshelf/mailshelf/zzlaws_root_b1.FnPageEndCountsBoundariesCrossed", spec := "fnPageEndCountsBoundariesCrossed", apart := false }
def FnPageEndCountsBoundariesCrossedSaid : Prop := fnPageEndCountsBoundariesCrossedRow.holds Try.pinned (OpenSpec.ofChange fnPageEndCountsBoundariesCrossedSpec)

/-- ITS FALSE NEIGHBOUR: 'it returns false'. Refute it at one input. -/
def fnPageEndCountsBoundariesCrossedWrong : ChangeSpec := { name := "fnPageEndCountsBoundariesCrossed", fn := fun _ => fun
  | [d1, d2] => { results := [.lit (.bool false)], args := [d1, d2] }
  | _ => none }
def FnPageEndCountsBoundariesCrossedWrongFalsely : Prop := fnPageEndCountsBoundariesCrossedRow.holds Try.pinned (OpenSpec.ofChange fnPageEndCountsBoundariesCrossedWrong)

end Rows
end Go.Proofs.Qxb6617729a
