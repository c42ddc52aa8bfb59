/-
  No cell of these rows narrows 'for every input' (looked for: loops, veiled, ifaces, maps, wideKeys, modest, calm, conditions, laid).
  DERIVED. THE GIVEN ROWS OF THIS SEAT. 2 by the template 'for every input the law returns true; each argument reads behind the call as it read before'; 0 by the template 'total and deterministic' (their statements: Qxb6632472aTotals.lean).
  GIVEN WITH THE SEED: the statements are not yours to turn. If you find one false, say at which input.
  Laid BY PROGRAM, IN A SANDBOX (cutbox-rows.mjs): the forced cells as the released guide's own fill.sh prints them over the translation e84167fa11324da1… (all of the seat's roots in one cut). By AI agents, Wed Nov 11 2026. No macro, syntax, notation, axiom, sorry.
-/
import Derived.Test.Qxb6632472aChecked
import GoSem.Claim
import GoSem.ClaimJoined
import GoSem.ClaimMapViews
import Derived.JoinedTies
import Derived.KernelRfl
namespace Go.Proofs.Qxb6632472a
/- THE CELL 'sum', in the pinned program and in every row, IS THE sha256 OF THE DUMP (.gsa) THAT Qxb6632472aProg.lean LOADS. Nothing in Lean hashes anything: it is a label: what it is worth is what the hold of that sum in a sandbox is worth. -/
noncomputable def Try.pinned : Pinned := { name := "qxb6632472a", sum := "e84167fa11324da1ac6b50c99bcfb90cd1c85e7fa7c59cb8cdb0df8b0ff53db5", checked := Try.checked }
namespace Rows
def none {H : Type} : Left H := { results := [], args := [] }

/-- 'zzlaws_root_b1.FnMinPrecCountsDigitsToLastNonZero': WHATEVER THE INPUT: true; the input reads as it did. -/
def fnMinPrecCountsDigitsToLastNonZeroSpec : ChangeSpec := { name := "fnMinPrecCountsDigitsToLastNonZero", fn := fun _ => fun
  | [d1, d2, d3, d4, d5] => { results := [.lit (.bool true)], args := [d1, d2, d3, d4, d5] }
  | _ => none }
def fnMinPrecCountsDigitsToLastNonZeroRow : OpenClaim := { program := "qxb6632472a", sum := "e84167fa11324da1ac6b50c99bcfb90cd1c85e7fa7c59cb8cdb0df8b0ff53db5", func := "example.com/tenfold/tenfold/zzlaws_root_b1.FnMinPrecCountsDigitsToLastNonZero", spec := "fnMinPrecCountsDigitsToLastNonZero", apart := false }
def FnMinPrecCountsDigitsToLastNonZeroSaid : Prop := fnMinPrecCountsDigitsToLastNonZeroRow.holds Try.pinned (OpenSpec.ofChange fnMinPrecCountsDigitsToLastNonZeroSpec)

/-- ITS FALSE NEIGHBOUR: 'it returns false'. Refute it at one input. -/
def fnMinPrecCountsDigitsToLastNonZeroWrong : ChangeSpec := { name := "fnMinPrecCountsDigitsToLastNonZero", fn := fun _ => fun
  | [d1, d2, d3, d4, d5] => { results := [.lit (.bool false)], args := [d1, d2, d3, d4, d5] }
  | _ => none }
def FnMinPrecCountsDigitsToLastNonZeroWrongFalsely : Prop := fnMinPrecCountsDigitsToLastNonZeroRow.holds Try.pinned (OpenSpec.ofChange fnMinPrecCountsDigitsToLastNonZeroWrong)

/-- 'zzlaws_root_b1.FnMinPrecGrowsByWholeWordsAbove': WHATEVER THE INPUT: true; the input reads as it did. -/
def fnMinPrecGrowsByWholeWordsAboveSpec : ChangeSpec := { name := "fnMinPrecGrowsByWholeWordsAbove", fn := fun _ => fun
  | [d1, d2, d3, d4, d5, d6, d7] => { results := [.lit (.bool true)], args := [d1, d2, d3, d4, d5, d6, d7] }
  | _ => none }
def fnMinPrecGrowsByWholeWordsAboveRow : OpenClaim := { program := "qxb6632472a", sum := "e84167fa11324da1ac6b50c99bcfb90cd1c85e7fa7c59cb8cdb0df8b0ff53db5", func := "example.com/tenfold/tenfold/zzlaws_root_b1.FnMinPrecGrowsByWholeWordsAbove", spec := "fnMinPrecGrowsByWholeWordsAbove", apart := false }
def FnMinPrecGrowsByWholeWordsAboveSaid : Prop := fnMinPrecGrowsByWholeWordsAboveRow.holds Try.pinned (OpenSpec.ofChange fnMinPrecGrowsByWholeWordsAboveSpec)

/-- ITS FALSE NEIGHBOUR: 'it returns false'. Refute it at one input. -/
def fnMinPrecGrowsByWholeWordsAboveWrong : ChangeSpec := { name := "fnMinPrecGrowsByWholeWordsAbove", fn := fun _ => fun
  | [d1, d2, d3, d4, d5, d6, d7] => { results := [.lit (.bool false)], args := [d1, d2, d3, d4, d5, d6, d7] }
  | _ => none }
def FnMinPrecGrowsByWholeWordsAboveWrongFalsely : Prop := fnMinPrecGrowsByWholeWordsAboveRow.holds Try.pinned (OpenSpec.ofChange fnMinPrecGrowsByWholeWordsAboveWrong)

end Rows
end Go.Proofs.Qxb6632472a
