/-
  No cell of these rows narrows 'for every input' (looked for: loops, veiled, ifaces, maps, wideKeys, modest, calm, conditions, laid).
  DERIVED. THE GIVEN ROWS OF THIS SEAT. 1 by the template 'for every input the law returns true; each argument reads behind the call as it read before'; 0 by the template 'total and deterministic' (their statements: Qxb6617702aTotals.lean).
  GIVEN WITH THE SEED: the statements are not yours to turn. If you find one false, say at which input.
  Laid BY PROGRAM, IN A SANDBOX (cutbox-rows.mjs): the forced cells as the released guide's own fill.sh prints them over the translation 6905c166313aa901… (all of the seat's roots in one cut). By AI agents, Wed Nov 11 2026. No macro, syntax, notation, axiom, sorry.
-/
import Derived.Test.Qxb6617702aChecked
import GoSem.Claim
import GoSem.ClaimJoined
import GoSem.ClaimMapViews
import Derived.JoinedTies
import Derived.KernelRfl
namespace Go.Proofs.Qxb6617702a
/- THE CELL 'sum', in the pinned program and in every row, IS THE sha256 OF THE DUMP (.gsa) THAT Qxb6617702aProg.lean LOADS. Nothing in Lean hashes anything: it is a label: what it is worth is what the hold of that sum in a sandbox is worth. -/
noncomputable def Try.pinned : Pinned := { name := "qxb6617702a", sum := "6905c166313aa9011836cd62077a06c1e7544038c68b1cb698ca0771a0fd564f", checked := Try.checked }
namespace Rows
def none {H : Type} : Left H := { results := [], args := [] }

/-- 'zzlaws_internal_load_b1.FnMergeIsAnOrderFreeSumWithEmptyIdentity': WHATEVER THE INPUT: true; the input reads as it did. -/
def fnMergeIsAnOrderFreeSumWithEmptyIdentitySpec : ChangeSpec := { name := "fnMergeIsAnOrderFreeSumWithEmptyIdentity", fn := fun _ => fun
  | [d1, d2, d3, d4, d5, d6] => { results := [.lit (.bool true)], args := [d1, d2, d3, d4, d5, d6] }
  | _ => none }
def fnMergeIsAnOrderFreeSumWithEmptyIdentityRow : OpenClaim := { program := "qxb6617702a", sum := "6905c166313aa9011836cd62077a06c1e7544038c68b1cb698ca0771a0fd564f", func := "example.com/quotaloom/quotaloom/zzlaws_internal_load_b1.FnMergeIsAnOrderFreeSumWithEmptyIdentity", spec := "fnMergeIsAnOrderFreeSumWithEmptyIdentity", apart := false }
def FnMergeIsAnOrderFreeSumWithEmptyIdentitySaid : Prop := fnMergeIsAnOrderFreeSumWithEmptyIdentityRow.holds Try.pinned (OpenSpec.ofChange fnMergeIsAnOrderFreeSumWithEmptyIdentitySpec)

/-- ITS FALSE NEIGHBOUR: 'it returns false'. Refute it at one input. -/
def fnMergeIsAnOrderFreeSumWithEmptyIdentityWrong : ChangeSpec := { name := "fnMergeIsAnOrderFreeSumWithEmptyIdentity", fn := fun _ => fun
  | [d1, d2, d3, d4, d5, d6] => { results := [.lit (.bool false)], args := [d1, d2, d3, d4, d5, d6] }
  | _ => none }
def FnMergeIsAnOrderFreeSumWithEmptyIdentityWrongFalsely : Prop := fnMergeIsAnOrderFreeSumWithEmptyIdentityRow.holds Try.pinned (OpenSpec.ofChange fnMergeIsAnOrderFreeSumWithEmptyIdentityWrong)

end Rows
end Go.Proofs.Qxb6617702a
