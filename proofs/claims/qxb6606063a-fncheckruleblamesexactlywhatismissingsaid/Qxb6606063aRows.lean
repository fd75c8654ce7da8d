/-
  No cell of these rows narrows 'for every input' (looked for: loops, veiled, ifaces, maps, wideKeys, modest, calm, conditions, laid).
  DERIVED. THE GIVEN ROWS OF THIS SEAT. 3 by the template 'for every input the law returns true; each argument reads behind the call as it read before'; 0 by the template 'total and deterministic' (their statements: Qxb6606063aTotals.lean).
  GIVEN WITH THE SEED: the statements are not yours to turn. If you find one false, say at which input.
  Laid BY PROGRAM, IN A SANDBOX (cutbox-rows.mjs): the forced cells as the released guide's own fill.sh prints them over the translation a911894bdd0dc786… (all of the seat's roots in one cut). By AI agents, Wed Nov 11 2026. No macro, syntax, notation, axiom, sorry.
-/
import Derived.Test.Qxb6606063aChecked
import GoSem.Claim
import GoSem.ClaimJoined
import GoSem.ClaimMapViews
import Derived.JoinedTies
import Derived.KernelRfl
namespace Go.Proofs.Qxb6606063a
/- THE CELL 'sum', in the pinned program and in every row, IS THE sha256 OF THE DUMP (.gsa) THAT Qxb6606063aProg.lean LOADS. Nothing in Lean hashes anything: it is a label: what it is worth is what the hold of that sum in a sandbox is worth. -/
noncomputable def Try.pinned : Pinned := { name := "qxb6606063a", sum := "a911894bdd0dc786aed116a3f459a08e75f22a82eb2de6c5aa7472231890899b", checked := Try.checked }
namespace Rows
def none {H : Type} : Left H := { results := [], args := [] }

/-- 'zzlaws_internal_api_b1.FnCheckRuleBlamesExactlyWhatIsMissing': WHATEVER THE INPUT: true; the input reads as it did. -/
def fnCheckRuleBlamesExactlyWhatIsMissingSpec : ChangeSpec := { name := "fnCheckRuleBlamesExactlyWhatIsMissing", fn := fun _ => fun
  | [d1, d2, d3, d4, d5, d6, d7] => { results := [.lit (.bool true)], args := [d1, d2, d3, d4, d5, d6, d7] }
  | _ => none }
def fnCheckRuleBlamesExactlyWhatIsMissingRow : OpenClaim := { program := "qxb6606063a", sum := "a911894bdd0dc786aed116a3f459a08e75f22a82eb2de6c5aa7472231890899b", func := "example.com/coxswain/coxswain/zzlaws_internal_api_b1.FnCheckRuleBlamesExactlyWhatIsMissing", spec := "fnCheckRuleBlamesExactlyWhatIsMissing", apart := false }
def FnCheckRuleBlamesExactlyWhatIsMissingSaid : Prop := fnCheckRuleBlamesExactlyWhatIsMissingRow.holds Try.pinned (OpenSpec.ofChange fnCheckRuleBlamesExactlyWhatIsMissingSpec)

/-- ITS FALSE NEIGHBOUR: 'it returns false'. Refute it at one input. -/
def fnCheckRuleBlamesExactlyWhatIsMissingWrong : ChangeSpec := { name := "fnCheckRuleBlamesExactlyWhatIsMissing", fn := fun _ => fun
  | [d1, d2, d3, d4, d5, d6, d7] => { results := [.lit (.bool false)], args := [d1, d2, d3, d4, d5, d6, d7] }
  | _ => none }
def FnCheckRuleBlamesExactlyWhatIsMissingWrongFalsely : Prop := fnCheckRuleBlamesExactlyWhatIsMissingRow.holds Try.pinned (OpenSpec.ofChange fnCheckRuleBlamesExactlyWhatIsMissingWrong)

/-- 'zzlaws_internal_api_b1.FnCheckRulePathIsPrefixedToEveryField': WHATEVER THE INPUT: true; the input reads as it did. -/
def fnCheckRulePathIsPrefixedToEveryFieldSpec : ChangeSpec := { name := "fnCheckRulePathIsPrefixedToEveryField", fn := fun _ => fun
  | [d1, d2, d3, d4, d5, d6, d7] => { results := [.lit (.bool true)], args := [d1, d2, d3, d4, d5, d6, d7] }
  | _ => none }
def fnCheckRulePathIsPrefixedToEveryFieldRow : OpenClaim := { program := "qxb6606063a", sum := "a911894bdd0dc786aed116a3f459a08e75f22a82eb2de6c5aa7472231890899b", func := "example.com/coxswain/coxswain/zzlaws_internal_api_b1.FnCheckRulePathIsPrefixedToEveryField", spec := "fnCheckRulePathIsPrefixedToEveryField", apart := false }
def FnCheckRulePathIsPrefixedToEveryFieldSaid : Prop := fnCheckRulePathIsPrefixedToEveryFieldRow.holds Try.pinned (OpenSpec.ofChange fnCheckRulePathIsPrefixedToEveryFieldSpec)

/-- ITS FALSE NEIGHBOUR: 'it returns false'. Refute it at one input. -/
def fnCheckRulePathIsPrefixedToEveryFieldWrong : ChangeSpec := { name := "fnCheckRulePathIsPrefixedToEveryField", fn := fun _ => fun
  | [d1, d2, d3, d4, d5, d6, d7] => { results := [.lit (.bool false)], args := [d1, d2, d3, d4, d5, d6, d7] }
  | _ => none }
def FnCheckRulePathIsPrefixedToEveryFieldWrongFalsely : Prop := fnCheckRulePathIsPrefixedToEveryFieldRow.holds Try.pinned (OpenSpec.ofChange fnCheckRulePathIsPrefixedToEveryFieldWrong)

/-- 'zzlaws_internal_api_b1.FnCheckRuleClusterRoleJudgesNoHarder': WHATEVER THE INPUT: true; the input reads as it did. -/
def fnCheckRuleClusterRoleJudgesNoHarderSpec : ChangeSpec := { name := "fnCheckRuleClusterRoleJudgesNoHarder", fn := fun _ => fun
  | [d1, d2, d3, d4, d5, d6] => { results := [.lit (.bool true)], args := [d1, d2, d3, d4, d5, d6] }
  | _ => none }
def fnCheckRuleClusterRoleJudgesNoHarderRow : OpenClaim := { program := "qxb6606063a", sum := "a911894bdd0dc786aed116a3f459a08e75f22a82eb2de6c5aa7472231890899b", func := "example.com/coxswain/coxswain/zzlaws_internal_api_b1.FnCheckRuleClusterRoleJudgesNoHarder", spec := "fnCheckRuleClusterRoleJudgesNoHarder", apart := false }
def FnCheckRuleClusterRoleJudgesNoHarderSaid : Prop := fnCheckRuleClusterRoleJudgesNoHarderRow.holds Try.pinned (OpenSpec.ofChange fnCheckRuleClusterRoleJudgesNoHarderSpec)

/-- ITS FALSE NEIGHBOUR: 'it returns false'. Refute it at one input. -/
def fnCheckRuleClusterRoleJudgesNoHarderWrong : ChangeSpec := { name := "fnCheckRuleClusterRoleJudgesNoHarder", fn := fun _ => fun
  | [d1, d2, d3, d4, d5, d6] => { results := [.lit (.bool false)], args := [d1, d2, d3, d4, d5, d6] }
  | _ => none }
def FnCheckRuleClusterRoleJudgesNoHarderWrongFalsely : Prop := fnCheckRuleClusterRoleJudgesNoHarderRow.holds Try.pinned (OpenSpec.ofChange fnCheckRuleClusterRoleJudgesNoHarderWrong)

end Rows
end Go.Proofs.Qxb6606063a
