/-
  No cell of these rows narrows 'for every input' (looked for: loops, veiled, ifaces, maps, wideKeys, modest, calm, conditions, laid).
  DERIVED. THE GIVEN ROWS OF THIS SEAT. 1 by the template 'for every input the law returns true; each argument reads behind the call as it read before'; 0 by the template 'total and deterministic' (their statements: Qxb6617145aTotals.lean).
  GIVEN WITH THE SEED: the statements are not yours to turn. If you find one false, say at which input.
  Laid BY PROGRAM, IN A SANDBOX (cutbox-rows.mjs): the forced cells as the released guide's own fill.sh prints them over the translation 6dedda5eda5c4777… (all of the seat's roots in one cut). By AI agents, Wed Nov 11 2026. No macro, syntax, notation, axiom, sorry.
-/
import Derived.Test.Qxb6617145aChecked
import GoSem.Claim
import GoSem.ClaimJoined
import GoSem.ClaimMapViews
import Derived.JoinedTies
import Derived.KernelRfl
namespace Go.Proofs.Qxb6617145a
/- THE CELL 'sum', in the pinned program and in every row, IS THE sha256 OF THE DUMP (.gsa) THAT Qxb6617145aProg.lean LOADS. Nothing in Lean hashes anything: it is a label: what it is worth is what the hold of that sum in a sandbox is worth. -/
noncomputable def Try.pinned : Pinned := { name := "qxb6617145a", sum := "6dedda5eda5c4777680565c9fc83e1966070fd8ffeaff87c9c7e0ddf67810110", checked := Try.checked }
namespace Rows
def none {H : Type} : Left H := { results := [], args := [] }

/-- 'zzlaws_internal_lint_b1.FnIdentifierHolderIsLeastMatch': WHATEVER THE INPUT: true; the input reads as it did. -/
def fnIdentifierHolderIsLeastMatchSpec : ChangeSpec := { name := "fnIdentifierHolderIsLeastMatch", fn := fun _ => fun
  | [d1, d2, d3, d4, d5, d6, d7] => { results := [.lit (.bool true)], args := [d1, d2, d3, d4, d5, d6, d7] }
  | _ => none }
def fnIdentifierHolderIsLeastMatchRow : OpenClaim := { program := "qxb6617145a", sum := "6dedda5eda5c4777680565c9fc83e1966070fd8ffeaff87c9c7e0ddf67810110", func := "example.com/plumbline/plumbline/zzlaws_internal_lint_b1.FnIdentifierHolderIsLeastMatch", spec := "fnIdentifierHolderIsLeastMatch", unfollowed := true, recurses := true, apart := false }
def FnIdentifierHolderIsLeastMatchSaid : Prop := fnIdentifierHolderIsLeastMatchRow.holds Try.pinned (OpenSpec.ofChange fnIdentifierHolderIsLeastMatchSpec)

/-- ITS FALSE NEIGHBOUR: 'it returns false'. Refute it at one input. -/
def fnIdentifierHolderIsLeastMatchWrong : ChangeSpec := { name := "fnIdentifierHolderIsLeastMatch", fn := fun _ => fun
  | [d1, d2, d3, d4, d5, d6, d7] => { results := [.lit (.bool false)], args := [d1, d2, d3, d4, d5, d6, d7] }
  | _ => none }
def FnIdentifierHolderIsLeastMatchWrongFalsely : Prop := fnIdentifierHolderIsLeastMatchRow.holds Try.pinned (OpenSpec.ofChange fnIdentifierHolderIsLeastMatchWrong)

end Rows
end Go.Proofs.Qxb6617145a
