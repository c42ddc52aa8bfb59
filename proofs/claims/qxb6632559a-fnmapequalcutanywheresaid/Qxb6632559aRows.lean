/-
  No cell of these rows narrows 'for every input' (looked for: loops, veiled, ifaces, maps, wideKeys, modest, calm, conditions, laid).
  DERIVED. THE GIVEN ROWS OF THIS SEAT. 2 by the template 'for every input the law returns true; each argument reads behind the call as it read before'; 0 by the template 'total and deterministic' (their statements: Qxb6632559aTotals.lean).
  GIVEN WITH THE SEED: the statements are not yours to turn. If you find one false, say at which input.
  Laid BY PROGRAM, IN A SANDBOX (cutbox-rows.mjs): the forced cells as the released guide's own fill.sh prints them over the translation 5a19cdaa4856c100… (all of the seat's roots in one cut). By AI agents, Wed Nov 11 2026. No macro, syntax, notation, axiom, sorry.
-/
import Derived.Test.Qxb6632559aChecked
import GoSem.Claim
import GoSem.ClaimJoined
import GoSem.ClaimMapViews
import Derived.JoinedTies
import Derived.KernelRfl
namespace Go.Proofs.Qxb6632559a
/- THE CELL 'sum', in the pinned program and in every row, IS THE sha256 OF THE DUMP (.gsa) THAT Qxb6632559aProg.lean LOADS. Nothing in Lean hashes anything: it is a label: what it is worth is what the hold of that sum in a sandbox is worth. -/
noncomputable def Try.pinned : Pinned := { name := "qxb6632559a", sum := "5a19cdaa4856c10090d57f40c4855b06a801e430b73ebcd7c22179c8e0d0503f", checked := Try.checked }
namespace Rows
def none {H : Type} : Left H := { results := [], args := [] }

/-- 'zzlaws_internal_userns_b1.FnMapEqualCutAnywhere': WHATEVER THE INPUT: true; the input reads as it did. -/
def fnMapEqualCutAnywhereSpec : ChangeSpec := { name := "fnMapEqualCutAnywhere", fn := fun _ => fun
  | [d1, d2, d3] => { results := [.lit (.bool true)], args := [d1, d2, d3] }
  | _ => none }
def fnMapEqualCutAnywhereRow : OpenClaim := { program := "qxb6632559a", sum := "5a19cdaa4856c10090d57f40c4855b06a801e430b73ebcd7c22179c8e0d0503f", func := "example.com/hardpoint/hardpoint/zzlaws_internal_userns_b1.FnMapEqualCutAnywhere", spec := "fnMapEqualCutAnywhere", apart := false }
def FnMapEqualCutAnywhereSaid : Prop := fnMapEqualCutAnywhereRow.holds Try.pinned (OpenSpec.ofChange fnMapEqualCutAnywhereSpec)

/-- ITS FALSE NEIGHBOUR: 'it returns false'. Refute it at one input. -/
def fnMapEqualCutAnywhereWrong : ChangeSpec := { name := "fnMapEqualCutAnywhere", fn := fun _ => fun
  | [d1, d2, d3] => { results := [.lit (.bool false)], args := [d1, d2, d3] }
  | _ => none }
def FnMapEqualCutAnywhereWrongFalsely : Prop := fnMapEqualCutAnywhereRow.holds Try.pinned (OpenSpec.ofChange fnMapEqualCutAnywhereWrong)

/-- 'zzlaws_internal_userns_b1.FnMapEqualOneElementChanged': WHATEVER THE INPUT: true; the input reads as it did. -/
def fnMapEqualOneElementChangedSpec : ChangeSpec := { name := "fnMapEqualOneElementChanged", fn := fun _ => fun
  | [d1, d2, d3] => { results := [.lit (.bool true)], args := [d1, d2, d3] }
  | _ => none }
def fnMapEqualOneElementChangedRow : OpenClaim := { program := "qxb6632559a", sum := "5a19cdaa4856c10090d57f40c4855b06a801e430b73ebcd7c22179c8e0d0503f", func := "example.com/hardpoint/hardpoint/zzlaws_internal_userns_b1.FnMapEqualOneElementChanged", spec := "fnMapEqualOneElementChanged", apart := false }
def FnMapEqualOneElementChangedSaid : Prop := fnMapEqualOneElementChangedRow.holds Try.pinned (OpenSpec.ofChange fnMapEqualOneElementChangedSpec)

/-- ITS FALSE NEIGHBOUR: 'it returns false'. Refute it at one input. -/
def fnMapEqualOneElementChangedWrong : ChangeSpec := { name := "fnMapEqualOneElementChanged", fn := fun _ => fun
  | [d1, d2, d3] => { results := [.lit (.bool false)], args := [d1, d2, d3] }
  | _ => none }
def FnMapEqualOneElementChangedWrongFalsely : Prop := fnMapEqualOneElementChangedRow.holds Try.pinned (OpenSpec.ofChange fnMapEqualOneElementChangedWrong)

end Rows
end Go.Proofs.Qxb6632559a
