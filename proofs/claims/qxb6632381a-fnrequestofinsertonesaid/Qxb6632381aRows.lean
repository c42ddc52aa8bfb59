/-
  NARROWER THAN 'FOR EVERY INPUT', by the rows' own cells (each row's printed sentence says how): FnRequestOfIsFilteredSum: maps · FnRequestOfInsertOne: maps.
  DERIVED. THE GIVEN ROWS OF THIS SEAT. 2 by the template 'for every input the law returns true; each argument reads behind the call as it read before'; 0 by the template 'total and deterministic' (their statements: Qxb6632381aTotals.lean).
  GIVEN WITH THE SEED: the statements are not yours to turn. If you find one false, say at which input.
  Laid BY PROGRAM, IN A SANDBOX (cutbox-rows.mjs): the forced cells as the released guide's own fill.sh prints them over the translation 343f737c27801ca3… (all of the seat's roots in one cut). By AI agents, Wed Nov 11 2026. No macro, syntax, notation, axiom, sorry.
-/
import Derived.Test.Qxb6632381aChecked
import GoSem.Claim
import GoSem.ClaimJoined
import GoSem.ClaimMapViews
import Derived.JoinedTies
import Derived.KernelRfl
namespace Go.Proofs.Qxb6632381a
/- THE CELL 'sum', in the pinned program and in every row, IS THE sha256 OF THE DUMP (.gsa) THAT Qxb6632381aProg.lean LOADS. Nothing in Lean hashes anything: it is a label: what it is worth is what the hold of that sum in a sandbox is worth. -/
noncomputable def Try.pinned : Pinned := { name := "qxb6632381a", sum := "343f737c27801ca3e92be1e4908b645293c131b647aef9a35fdeca906a3e3c11", checked := Try.checked }
namespace Rows
def none {H : Type} : Left H := { results := [], args := [] }

/-- 'zzlaws_autoscaler_b1.FnRequestOfIsFilteredSum': WHATEVER THE INPUT: true; the input reads as it did. -/
def fnRequestOfIsFilteredSumSpec : ChangeSpec := { name := "fnRequestOfIsFilteredSum", fn := fun _ => fun
  | [d1, d2] => { results := [.lit (.bool true)], args := [d1, d2] }
  | _ => none }
def fnRequestOfIsFilteredSumRow : OpenClaim := { program := "qxb6632381a", sum := "343f737c27801ca3e92be1e4908b645293c131b647aef9a35fdeca906a3e3c11", func := "example.com/tideline/tideline/zzlaws_autoscaler_b1.FnRequestOfIsFilteredSum", spec := "fnRequestOfIsFilteredSum", maps := true, apart := false }
def FnRequestOfIsFilteredSumSaid : Prop := fnRequestOfIsFilteredSumRow.holds Try.pinned (OpenSpec.ofChange fnRequestOfIsFilteredSumSpec)

/-- ITS FALSE NEIGHBOUR: 'it returns false'. Refute it at one input. -/
def fnRequestOfIsFilteredSumWrong : ChangeSpec := { name := "fnRequestOfIsFilteredSum", fn := fun _ => fun
  | [d1, d2] => { results := [.lit (.bool false)], args := [d1, d2] }
  | _ => none }
def FnRequestOfIsFilteredSumWrongFalsely : Prop := fnRequestOfIsFilteredSumRow.holds Try.pinned (OpenSpec.ofChange fnRequestOfIsFilteredSumWrong)

/-- 'zzlaws_autoscaler_b1.FnRequestOfInsertOne': WHATEVER THE INPUT: true; the input reads as it did. -/
def fnRequestOfInsertOneSpec : ChangeSpec := { name := "fnRequestOfInsertOne", fn := fun _ => fun
  | [d1, d2, d3, d4] => { results := [.lit (.bool true)], args := [d1, d2, d3, d4] }
  | _ => none }
def fnRequestOfInsertOneRow : OpenClaim := { program := "qxb6632381a", sum := "343f737c27801ca3e92be1e4908b645293c131b647aef9a35fdeca906a3e3c11", func := "example.com/tideline/tideline/zzlaws_autoscaler_b1.FnRequestOfInsertOne", spec := "fnRequestOfInsertOne", maps := true, apart := false }
def FnRequestOfInsertOneSaid : Prop := fnRequestOfInsertOneRow.holds Try.pinned (OpenSpec.ofChange fnRequestOfInsertOneSpec)

/-- ITS FALSE NEIGHBOUR: 'it returns false'. Refute it at one input. -/
def fnRequestOfInsertOneWrong : ChangeSpec := { name := "fnRequestOfInsertOne", fn := fun _ => fun
  | [d1, d2, d3, d4] => { results := [.lit (.bool false)], args := [d1, d2, d3, d4] }
  | _ => none }
def FnRequestOfInsertOneWrongFalsely : Prop := fnRequestOfInsertOneRow.holds Try.pinned (OpenSpec.ofChange fnRequestOfInsertOneWrong)

end Rows
end Go.Proofs.Qxb6632381a
