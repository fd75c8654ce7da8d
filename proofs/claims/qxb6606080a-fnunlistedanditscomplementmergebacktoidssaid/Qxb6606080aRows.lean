/-
  No cell of these rows narrows 'for every input' (looked for: loops, veiled, ifaces, maps, wideKeys, modest, calm, conditions, laid).
  DERIVED. THE GIVEN ROWS OF THIS SEAT. 3 by the template 'for every input the law returns true; each argument reads behind the call as it read before'; 0 by the template 'total and deterministic' (their statements: Qxb6606080aTotals.lean).
  GIVEN WITH THE SEED: the statements are not yours to turn. If you find one false, say at which input.
  Laid BY PROGRAM, IN A SANDBOX (cutbox-rows.mjs): the forced cells as the released guide's own fill.sh prints them over the translation 4509544b27123247… (all of the seat's roots in one cut). By AI agents, Wed Nov 11 2026. No macro, syntax, notation, axiom, sorry.
-/
import Derived.Test.Qxb6606080aChecked
import GoSem.Claim
import GoSem.ClaimJoined
import GoSem.ClaimMapViews
import Derived.JoinedTies
import Derived.KernelRfl
namespace Go.Proofs.Qxb6606080a
/- THE CELL 'sum', in the pinned program and in every row, IS THE sha256 OF THE DUMP (.gsa) THAT Qxb6606080aProg.lean LOADS. Nothing in Lean hashes anything: it is a label: what it is worth is what the hold of that sum in a sandbox is worth. -/
noncomputable def Try.pinned : Pinned := { name := "qxb6606080a", sum := "4509544b271232473a5847432c6cc83ed4c5fff8f67e914398f1dd0c07f0e506", checked := Try.checked }
namespace Rows
def none {H : Type} : Left H := { results := [], args := [] }

/-- 'zzlaws_pkg_schedule_b1.FnUnlistedIsTheSortedDifference': WHATEVER THE INPUT: true; the input reads as it did. -/
def fnUnlistedIsTheSortedDifferenceSpec : ChangeSpec := { name := "fnUnlistedIsTheSortedDifference", fn := fun _ => fun
  | [d1, d2] => { results := [.lit (.bool true)], args := [d1, d2] }
  | _ => none }
def fnUnlistedIsTheSortedDifferenceRow : OpenClaim := { program := "qxb6606080a", sum := "4509544b271232473a5847432c6cc83ed4c5fff8f67e914398f1dd0c07f0e506", func := "example.com/tenorline/tenorline/zzlaws_pkg_schedule_b1.FnUnlistedIsTheSortedDifference", spec := "fnUnlistedIsTheSortedDifference", apart := false }
def FnUnlistedIsTheSortedDifferenceSaid : Prop := fnUnlistedIsTheSortedDifferenceRow.holds Try.pinned (OpenSpec.ofChange fnUnlistedIsTheSortedDifferenceSpec)

/-- ITS FALSE NEIGHBOUR: 'it returns false'. Refute it at one input. -/
def fnUnlistedIsTheSortedDifferenceWrong : ChangeSpec := { name := "fnUnlistedIsTheSortedDifference", fn := fun _ => fun
  | [d1, d2] => { results := [.lit (.bool false)], args := [d1, d2] }
  | _ => none }
def FnUnlistedIsTheSortedDifferenceWrongFalsely : Prop := fnUnlistedIsTheSortedDifferenceRow.holds Try.pinned (OpenSpec.ofChange fnUnlistedIsTheSortedDifferenceWrong)

/-- 'zzlaws_pkg_schedule_b1.FnUnlistedIsIdempotent': WHATEVER THE INPUT: true; the input reads as it did. -/
def fnUnlistedIsIdempotentSpec : ChangeSpec := { name := "fnUnlistedIsIdempotent", fn := fun _ => fun
  | [d1, d2] => { results := [.lit (.bool true)], args := [d1, d2] }
  | _ => none }
def fnUnlistedIsIdempotentRow : OpenClaim := { program := "qxb6606080a", sum := "4509544b271232473a5847432c6cc83ed4c5fff8f67e914398f1dd0c07f0e506", func := "example.com/tenorline/tenorline/zzlaws_pkg_schedule_b1.FnUnlistedIsIdempotent", spec := "fnUnlistedIsIdempotent", apart := false }
def FnUnlistedIsIdempotentSaid : Prop := fnUnlistedIsIdempotentRow.holds Try.pinned (OpenSpec.ofChange fnUnlistedIsIdempotentSpec)

/-- ITS FALSE NEIGHBOUR: 'it returns false'. Refute it at one input. -/
def fnUnlistedIsIdempotentWrong : ChangeSpec := { name := "fnUnlistedIsIdempotent", fn := fun _ => fun
  | [d1, d2] => { results := [.lit (.bool false)], args := [d1, d2] }
  | _ => none }
def FnUnlistedIsIdempotentWrongFalsely : Prop := fnUnlistedIsIdempotentRow.holds Try.pinned (OpenSpec.ofChange fnUnlistedIsIdempotentWrong)

/-- 'zzlaws_pkg_schedule_b1.FnUnlistedAndItsComplementMergeBackToIds': WHATEVER THE INPUT: true; the input reads as it did. -/
def fnUnlistedAndItsComplementMergeBackToIdsSpec : ChangeSpec := { name := "fnUnlistedAndItsComplementMergeBackToIds", fn := fun _ => fun
  | [d1, d2] => { results := [.lit (.bool true)], args := [d1, d2] }
  | _ => none }
def fnUnlistedAndItsComplementMergeBackToIdsRow : OpenClaim := { program := "qxb6606080a", sum := "4509544b271232473a5847432c6cc83ed4c5fff8f67e914398f1dd0c07f0e506", func := "example.com/tenorline/tenorline/zzlaws_pkg_schedule_b1.FnUnlistedAndItsComplementMergeBackToIds", spec := "fnUnlistedAndItsComplementMergeBackToIds", apart := false }
def FnUnlistedAndItsComplementMergeBackToIdsSaid : Prop := fnUnlistedAndItsComplementMergeBackToIdsRow.holds Try.pinned (OpenSpec.ofChange fnUnlistedAndItsComplementMergeBackToIdsSpec)

/-- ITS FALSE NEIGHBOUR: 'it returns false'. Refute it at one input. -/
def fnUnlistedAndItsComplementMergeBackToIdsWrong : ChangeSpec := { name := "fnUnlistedAndItsComplementMergeBackToIds", fn := fun _ => fun
  | [d1, d2] => { results := [.lit (.bool false)], args := [d1, d2] }
  | _ => none }
def FnUnlistedAndItsComplementMergeBackToIdsWrongFalsely : Prop := fnUnlistedAndItsComplementMergeBackToIdsRow.holds Try.pinned (OpenSpec.ofChange fnUnlistedAndItsComplementMergeBackToIdsWrong)

end Rows
end Go.Proofs.Qxb6606080a
