/-
  No cell of these rows narrows 'for every input' (looked for: loops, veiled, ifaces, maps, wideKeys, modest, calm, conditions, laid).
  DERIVED. THE GIVEN ROWS OF THIS SEAT. 1 by the template 'for every input the law returns true; each argument reads behind the call as it read before'; 0 by the template 'total and deterministic' (their statements: Qxb6605494aTotals.lean).
  GIVEN WITH THE SEED: the statements are not yours to turn. If you find one false, say at which input.
  Laid BY PROGRAM, IN A SANDBOX (cutbox-rows.mjs): the forced cells as the released guide's own fill.sh prints them over the translation d7b0e7ee6122777c… (all of the seat's roots in one cut). By AI agents, Wed Nov 11 2026. No macro, syntax, notation, axiom, sorry.
-/
import Derived.Test.Qxb6605494aChecked
import GoSem.Claim
import GoSem.ClaimJoined
import GoSem.ClaimMapViews
import Derived.JoinedTies
import Derived.KernelRfl
namespace Go.Proofs.Qxb6605494a
/- THE CELL 'sum', in the pinned program and in every row, IS THE sha256 OF THE DUMP (.gsa) THAT Qxb6605494aProg.lean LOADS. Nothing in Lean hashes anything: it is a label: what it is worth is what the hold of that sum in a sandbox is worth. -/
noncomputable def Try.pinned : Pinned := { name := "qxb6605494a", sum := "d7b0e7ee6122777c7ec335df718b4f670138468d7348c86770593ef33b0d81aa", checked := Try.checked }
namespace Rows
def none {H : Type} : Left H := { results := [], args := [] }

/-- 'zzlaws_internal_graph_b1.FnComponentsAreMutualReachabilityClasses': WHATEVER THE INPUT: true; the input reads as it did. -/
def fnComponentsAreMutualReachabilityClassesSpec : ChangeSpec := { name := "fnComponentsAreMutualReachabilityClasses", fn := fun _ => fun
  | [d1, d2] => { results := [.lit (.bool true)], args := [d1, d2] }
  | _ => none }
def fnComponentsAreMutualReachabilityClassesRow : OpenClaim := { program := "qxb6605494a", sum := "d7b0e7ee6122777c7ec335df718b4f670138468d7348c86770593ef33b0d81aa", func := "example.com/lockpoint/lockpoint/zzlaws_internal_graph_b1.FnComponentsAreMutualReachabilityClasses", spec := "fnComponentsAreMutualReachabilityClasses", unfollowed := true, recurses := true, apart := false }
def FnComponentsAreMutualReachabilityClassesSaid : Prop := fnComponentsAreMutualReachabilityClassesRow.holds Try.pinned (OpenSpec.ofChange fnComponentsAreMutualReachabilityClassesSpec)

/-- ITS FALSE NEIGHBOUR: 'it returns false'. Refute it at one input. -/
def fnComponentsAreMutualReachabilityClassesWrong : ChangeSpec := { name := "fnComponentsAreMutualReachabilityClasses", fn := fun _ => fun
  | [d1, d2] => { results := [.lit (.bool false)], args := [d1, d2] }
  | _ => none }
def FnComponentsAreMutualReachabilityClassesWrongFalsely : Prop := fnComponentsAreMutualReachabilityClassesRow.holds Try.pinned (OpenSpec.ofChange fnComponentsAreMutualReachabilityClassesWrong)

end Rows
end Go.Proofs.Qxb6605494a
