import Derived.Test.Qxb6632559aParts
import Derived.ProofKit
import Derived.OpenShut
import Derived.ShutString
import Derived.ChangeOld
import Derived.Below
import Derived.Deep.Slices
import Derived.Deep.Strs
import Derived.Lib.SmallJoins
namespace Go.Proofs.Qxb6632559a
open Go.ChangeShapes Go.WideShapes Go.ChangeAt Go.RowKit Go.Deep

theorem Try.cells29 : Try.prog.cellsOf 29 = 1 := by kernel_rfl
theorem Try.cells31 : Try.prog.cellsOf 31 = 3 := by kernel_rfl

section
variable {H : Type} {enc : TypeId × Value → H} {W : World}

/-- What is read as one line, off its three cells. -/
theorem open_line {fuel : Nat} {v0 v1 v2 : Value} {y0 y1 y2 : DataW H × List MemPlace} (h0 : DataW.trod enc Try.prog W 0 (fun _ => true) true fuel 29 [v0] = some y0) (h1 : DataW.trod enc Try.prog W 0 (fun _ => true) true fuel 29 [v1] = some y1)
    (h2 : DataW.trod enc Try.prog W 0 (fun _ => true) true fuel 29 [v2] = some y2) : ∃ x : R3, v0 = .int .u32 x.i ∧ v1 = .int .u32 x.o ∧ v2 = .int .u32 x.l := by
  obtain ⟨a, e0, _⟩ := DataW.trod_int Try.underlying29 h0
  obtain ⟨b, e1, _⟩ := DataW.trod_int Try.underlying29 h1
  obtain ⟨c, e2, _⟩ := DataW.trod_int Try.underlying29 h2
  simp only [List.cons.injEq, and_true] at e0 e1 e2
  exact ⟨⟨a, b, c⟩, e0, e1, e2⟩

/-- What is read as a slice of lines. -/
theorem open_lines {a : Option Addr} {len cap : Nat} {d : DataW H} {p : List MemPlace} (h : DataW.Trod enc Try.prog W 0 (fun _ => true) true 22 (.slice a len cap) d p) :
    len ≤ maxLen ∧ ∃ X : Nat → R3, Lies W a len X := by
  obtain ⟨fuel, hf⟩ := h
  rcases open_slice Try.underlying22 hf with ⟨hcs, _⟩ | ⟨ad, len', cap', m, n, D, Pl, hcs, _, hl, hm, hmm, _, hx⟩
  · simp [Value.cells] at hcs
    obtain ⟨rfl, rfl, rfl⟩ := hcs
    exact ⟨Nat.zero_le _, fun _ => ⟨0, 0, 0⟩, .inl rfl⟩
  · simp [Value.cells] at hcs
    obtain ⟨rfl, rfl, rfl⟩ := hcs
    refine ⟨Nat.le_trans hl hm, ?_⟩
    simp only [if_true] at hmm
    have each : ∀ i, i < len → ∃ x : R3, W.cell? (ad.add (i * 3)) = some (.int .u32 x.i) ∧ W.cell? (ad.add (i * 3 + 1)) = some (.int .u32 x.o) ∧ W.cell? (ad.add (i * 3 + 2)) = some (.int .u32 x.l) := by
      intro i hi
      obtain ⟨cs', h1, h2⟩ := hx i (by omega)
      rw [Try.cells31] at h1
      obtain ⟨_, hlen, hcell⟩ := World.cells?_some h1
      obtain ⟨y0, y1, y2, k, _, _, g0, g1, g2⟩ := trod_struct3 Try.underlying31 h2
      match cs', hlen with
      | [v0, v1, v2], _ =>
        simp [Try.cells29] at g0 g1 g2
        obtain ⟨x, r0, r1, r2⟩ := open_line g0 g1 g2
        have e0 := hcell 0 (by omega)
        have e1 := hcell 1 (by omega)
        have e2 := hcell 2 (by omega)
        rw [add_add] at e0 e1 e2
        subst r0 r1 r2
        exact ⟨x, by simpa using e0, by simpa using e1, by simpa using e2⟩
    obtain ⟨X, hX⟩ := @choose_lt R3 ⟨⟨0, 0, 0⟩⟩ _ _ each
    refine ⟨X, ?_⟩
    by_cases h0 : len = 0
    · exact .inl h0
    · right
      obtain ⟨b, o, s⟩ := ad
      have hs : s = none := by simpa [Addr.add] using World.cell?_spot (hX 0 (by omega)).1
      subst hs
      refine ⟨b, o, rfl, fun j hj => ?_⟩
      obtain ⟨e0, e1, e2⟩ := hX j hj
      rw [add_plain] at e0 e1 e2
      exact ⟨e0, e1, e2⟩
end
end Go.Proofs.Qxb6632559a
