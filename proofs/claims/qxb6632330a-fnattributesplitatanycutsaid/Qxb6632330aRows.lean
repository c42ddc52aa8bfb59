/-
  No cell of these rows narrows 'for every input' (looked for: loops, veiled, ifaces, maps, wideKeys, modest, calm, conditions, laid).
  DERIVED. THE GIVEN ROWS OF THIS SEAT. 2 by the template 'for every input the law returns true; each argument reads behind the call as it read before'; 0 by the template 'total and deterministic' (their statements: Qxb6632330aTotals.lean).
  GIVEN WITH THE SEED: the statements are not yours to turn. If you find one false, say at which input.
  Laid BY PROGRAM, IN A SANDBOX (cutbox-rows.mjs): the forced cells as the released guide's own fill.sh prints them over the translation 345506a6f96302a1… (all of the seat's roots in one cut). By AI agents, Wed Nov 11 2026. No macro, syntax, notation, axiom, sorry.
-/
import Derived.Test.Qxb6632330aChecked
import GoSem.Claim
import GoSem.ClaimJoined
import GoSem.ClaimMapViews
import Derived.JoinedTies
import Derived.KernelRfl
namespace Go.Proofs.Qxb6632330a
/- THE CELL 'sum', in the pinned program and in every row, IS THE sha256 OF THE DUMP (.gsa) THAT Qxb6632330aProg.lean LOADS. Nothing in Lean hashes anything: it is a label: what it is worth is what the hold of that sum in a sandbox is worth. -/
noncomputable def Try.pinned : Pinned := { name := "qxb6632330a", sum := "345506a6f96302a1acbe9ec59bc14a3fac968e533a41dc52a8e5bef13e14be70", checked := Try.checked }
namespace Rows
def none {H : Type} : Left H := { results := [], args := [] }

/-- 'zzlaws_pkg_isakmp_b1.FnAttributeInsertAtAnyPlace': WHATEVER THE INPUT: true; the input reads as it did. -/
def fnAttributeInsertAtAnyPlaceSpec : ChangeSpec := { name := "fnAttributeInsertAtAnyPlace", fn := fun _ => fun
  | [d1, d2, d3, d4, d5, d6] => { results := [.lit (.bool true)], args := [d1, d2, d3, d4, d5, d6] }
  | _ => none }
def fnAttributeInsertAtAnyPlaceRow : OpenClaim := { program := "qxb6632330a", sum := "345506a6f96302a1acbe9ec59bc14a3fac968e533a41dc52a8e5bef13e14be70", func := "example.com/ikebana/ikebana/zzlaws_pkg_isakmp_b1.FnAttributeInsertAtAnyPlace", spec := "fnAttributeInsertAtAnyPlace", apart := false }
def FnAttributeInsertAtAnyPlaceSaid : Prop := fnAttributeInsertAtAnyPlaceRow.holds Try.pinned (OpenSpec.ofChange fnAttributeInsertAtAnyPlaceSpec)

/-- ITS FALSE NEIGHBOUR: 'it returns false'. Refute it at one input. -/
def fnAttributeInsertAtAnyPlaceWrong : ChangeSpec := { name := "fnAttributeInsertAtAnyPlace", fn := fun _ => fun
  | [d1, d2, d3, d4, d5, d6] => { results := [.lit (.bool false)], args := [d1, d2, d3, d4, d5, d6] }
  | _ => none }
def FnAttributeInsertAtAnyPlaceWrongFalsely : Prop := fnAttributeInsertAtAnyPlaceRow.holds Try.pinned (OpenSpec.ofChange fnAttributeInsertAtAnyPlaceWrong)

/-- 'zzlaws_pkg_isakmp_b1.FnAttributeSplitAtAnyCut': WHATEVER THE INPUT: true; the input reads as it did. -/
def fnAttributeSplitAtAnyCutSpec : ChangeSpec := { name := "fnAttributeSplitAtAnyCut", fn := fun _ => fun
  | [d1, d2, d3, d4, d5] => { results := [.lit (.bool true)], args := [d1, d2, d3, d4, d5] }
  | _ => none }
def fnAttributeSplitAtAnyCutRow : OpenClaim := { program := "qxb6632330a", sum := "345506a6f96302a1acbe9ec59bc14a3fac968e533a41dc52a8e5bef13e14be70", func := "example.com/ikebana/ikebana/zzlaws_pkg_isakmp_b1.FnAttributeSplitAtAnyCut", spec := "fnAttributeSplitAtAnyCut", apart := false }
def FnAttributeSplitAtAnyCutSaid : Prop := fnAttributeSplitAtAnyCutRow.holds Try.pinned (OpenSpec.ofChange fnAttributeSplitAtAnyCutSpec)

/-- ITS FALSE NEIGHBOUR: 'it returns false'. Refute it at one input. -/
def fnAttributeSplitAtAnyCutWrong : ChangeSpec := { name := "fnAttributeSplitAtAnyCut", fn := fun _ => fun
  | [d1, d2, d3, d4, d5] => { results := [.lit (.bool false)], args := [d1, d2, d3, d4, d5] }
  | _ => none }
def FnAttributeSplitAtAnyCutWrongFalsely : Prop := fnAttributeSplitAtAnyCutRow.holds Try.pinned (OpenSpec.ofChange fnAttributeSplitAtAnyCutWrong)

end Rows
end Go.Proofs.Qxb6632330a
