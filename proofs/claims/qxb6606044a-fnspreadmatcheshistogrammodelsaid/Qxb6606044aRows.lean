/-
  No cell of these rows narrows 'for every input' (looked for: loops, veiled, ifaces, maps, wideKeys, modest, calm, conditions, laid).
  DERIVED. THE GIVEN ROWS OF THIS SEAT. 3 by the template 'for every input the law returns true; each argument reads behind the call as it read before'; 0 by the template 'total and deterministic' (their statements: Qxb6606044aTotals.lean).
  GIVEN WITH THE SEED: the statements are not yours to turn. If you find one false, say at which input.
  Laid BY PROGRAM, IN A SANDBOX (cutbox-rows.mjs): the forced cells as the released guide's own fill.sh prints them over the translation 2996b05720f77750… (all of the seat's roots in one cut). By AI agents, Wed Nov 11 2026. No macro, syntax, notation, axiom, sorry.
-/
import Derived.Test.Qxb6606044aChecked
import GoSem.Claim
import GoSem.ClaimJoined
import GoSem.ClaimMapViews
import Derived.JoinedTies
import Derived.KernelRfl
namespace Go.Proofs.Qxb6606044a
/- THE CELL 'sum', in the pinned program and in every row, IS THE sha256 OF THE DUMP (.gsa) THAT Qxb6606044aProg.lean LOADS. Nothing in Lean hashes anything: it is a label: what it is worth is what the hold of that sum in a sandbox is worth. -/
noncomputable def Try.pinned : Pinned := { name := "qxb6606044a", sum := "2996b05720f777502e04b1ef89375f0793ec4a9bf3504e02f5dcff911f767fff", checked := Try.checked }
namespace Rows
def none {H : Type} : Left H := { results := [], args := [] }

/-- 'zzlaws_deflate_b1.FnSpreadMatchesHistogramModel': WHATEVER THE INPUT: true; the input reads as it did. -/
def fnSpreadMatchesHistogramModelSpec : ChangeSpec := { name := "fnSpreadMatchesHistogramModel", fn := fun _ => fun
  | [d1, d2] => { results := [.lit (.bool true)], args := [d1, d2] }
  | _ => none }
def fnSpreadMatchesHistogramModelRow : OpenClaim := { program := "qxb6606044a", sum := "2996b05720f777502e04b1ef89375f0793ec4a9bf3504e02f5dcff911f767fff", func := "example.com/longhaul/longhaul/zzlaws_deflate_b1.FnSpreadMatchesHistogramModel", spec := "fnSpreadMatchesHistogramModel", apart := false }
def FnSpreadMatchesHistogramModelSaid : Prop := fnSpreadMatchesHistogramModelRow.holds Try.pinned (OpenSpec.ofChange fnSpreadMatchesHistogramModelSpec)

/-- ITS FALSE NEIGHBOUR: 'it returns false'. Refute it at one input. -/
def fnSpreadMatchesHistogramModelWrong : ChangeSpec := { name := "fnSpreadMatchesHistogramModel", fn := fun _ => fun
  | [d1, d2] => { results := [.lit (.bool false)], args := [d1, d2] }
  | _ => none }
def FnSpreadMatchesHistogramModelWrongFalsely : Prop := fnSpreadMatchesHistogramModelRow.holds Try.pinned (OpenSpec.ofChange fnSpreadMatchesHistogramModelWrong)

/-- 'zzlaws_deflate_b1.FnSpreadBlindToByteRelabelling': WHATEVER THE INPUT: true; the input reads as it did. -/
def fnSpreadBlindToByteRelabellingSpec : ChangeSpec := { name := "fnSpreadBlindToByteRelabelling", fn := fun _ => fun
  | [d1, d2, d3] => { results := [.lit (.bool true)], args := [d1, d2, d3] }
  | _ => none }
def fnSpreadBlindToByteRelabellingRow : OpenClaim := { program := "qxb6606044a", sum := "2996b05720f777502e04b1ef89375f0793ec4a9bf3504e02f5dcff911f767fff", func := "example.com/longhaul/longhaul/zzlaws_deflate_b1.FnSpreadBlindToByteRelabelling", spec := "fnSpreadBlindToByteRelabelling", apart := false }
def FnSpreadBlindToByteRelabellingSaid : Prop := fnSpreadBlindToByteRelabellingRow.holds Try.pinned (OpenSpec.ofChange fnSpreadBlindToByteRelabellingSpec)

/-- ITS FALSE NEIGHBOUR: 'it returns false'. Refute it at one input. -/
def fnSpreadBlindToByteRelabellingWrong : ChangeSpec := { name := "fnSpreadBlindToByteRelabelling", fn := fun _ => fun
  | [d1, d2, d3] => { results := [.lit (.bool false)], args := [d1, d2, d3] }
  | _ => none }
def FnSpreadBlindToByteRelabellingWrongFalsely : Prop := fnSpreadBlindToByteRelabellingRow.holds Try.pinned (OpenSpec.ofChange fnSpreadBlindToByteRelabellingWrong)

/-- 'zzlaws_deflate_b1.FnSpreadStaysBetweenZeroAnd256': WHATEVER THE INPUT: true; the input reads as it did. -/
def fnSpreadStaysBetweenZeroAnd256Spec : ChangeSpec := { name := "fnSpreadStaysBetweenZeroAnd256", fn := fun _ => fun
  | [d1, d2] => { results := [.lit (.bool true)], args := [d1, d2] }
  | _ => none }
def fnSpreadStaysBetweenZeroAnd256Row : OpenClaim := { program := "qxb6606044a", sum := "2996b05720f777502e04b1ef89375f0793ec4a9bf3504e02f5dcff911f767fff", func := "example.com/longhaul/longhaul/zzlaws_deflate_b1.FnSpreadStaysBetweenZeroAnd256", spec := "fnSpreadStaysBetweenZeroAnd256", apart := false }
def FnSpreadStaysBetweenZeroAnd256Said : Prop := fnSpreadStaysBetweenZeroAnd256Row.holds Try.pinned (OpenSpec.ofChange fnSpreadStaysBetweenZeroAnd256Spec)

/-- ITS FALSE NEIGHBOUR: 'it returns false'. Refute it at one input. -/
def fnSpreadStaysBetweenZeroAnd256Wrong : ChangeSpec := { name := "fnSpreadStaysBetweenZeroAnd256", fn := fun _ => fun
  | [d1, d2] => { results := [.lit (.bool false)], args := [d1, d2] }
  | _ => none }
def FnSpreadStaysBetweenZeroAnd256WrongFalsely : Prop := fnSpreadStaysBetweenZeroAnd256Row.holds Try.pinned (OpenSpec.ofChange fnSpreadStaysBetweenZeroAnd256Wrong)

end Rows
end Go.Proofs.Qxb6606044a
