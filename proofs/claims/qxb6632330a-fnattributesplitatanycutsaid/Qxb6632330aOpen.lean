import Derived.Test.Qxb6632330aParts
import Derived.ProofKit
import Derived.OpenShut
import Derived.ShutString
import Derived.ChangeOld
import Derived.Below
import Derived.Deep.Slices
import Derived.Deep.Strs
import Derived.Lib.SmallJoins
namespace Go.Proofs.Qxb6632330a
open Go.ChangeShapes Go.WideShapes Go.ChangeAt Go.RowKit Go.Deep

theorem Try.cells5 : Try.prog.cellsOf 5 = 1 := by kernel_rfl
theorem Try.cells23 : Try.prog.cellsOf 23 = 1 := by kernel_rfl
theorem Try.cells4 : Try.prog.cellsOf 4 = 1 := by kernel_rfl
theorem Try.cells24 : Try.prog.cellsOf 24 = 1 := by kernel_rfl
theorem Try.cells26 : Try.prog.cellsOf 26 = 3 := by kernel_rfl

section
variable {H : Type} {enc : TypeId × Value → H} {W : World}

/-- What is read as a slice of bytes. -/
theorem open_bytes {fuel : Nat} {v : Value} {x : DataW H × List MemPlace} (h : DataW.trod enc Try.prog W 0 (fun _ => true) true fuel 24 [v] = some x) : ∃ p n c, v = .slice p n c ∧ Bytes W p n := by
  rcases open_ints Try.underlying24 Try.underlying5 Try.cells5 h with ⟨hcs, _⟩ | ⟨a, len, cap, zs, hcs, _, hl, hm, hz, _, hcell, _⟩
  · simp only [List.cons.injEq, and_true] at hcs
    exact ⟨none, 0, 0, hcs, Nat.zero_le _, .inl rfl⟩
  · simp only [List.cons.injEq, and_true] at hcs
    refine ⟨some a, len, cap, hcs, Nat.le_trans hl hm, ?_⟩
    simp only [if_true] at hz
    by_cases h0 : len = 0
    · exact .inl h0
    · right
      obtain ⟨b, o, s⟩ := a
      have hs : s = none := by simpa [Addr.add] using World.cell?_spot (hcell 0 (by omega))
      subst hs
      refine ⟨b, o, rfl, fun j hj => ⟨zs.getD j 0, ?_⟩⟩
      have := hcell j (by omega)
      rwa [add_plain] at this

/-- What is read as one attribute, off its three cells. -/
theorem open_attr {fuel : Nat} {v0 v1 v2 : Value} {y0 y1 y2 : DataW H × List MemPlace} (h0 : DataW.trod enc Try.prog W 0 (fun _ => true) true fuel 23 [v0] = some y0) (h1 : DataW.trod enc Try.prog W 0 (fun _ => true) true fuel 4 [v1] = some y1)
    (h2 : DataW.trod enc Try.prog W 0 (fun _ => true) true fuel 24 [v2] = some y2) : ∃ x : At, v0 = .int .u16 x.t ∧ v1 = .bool x.b ∧ v2 = .slice x.p x.n x.c ∧ Bytes W x.p x.n := by
  obtain ⟨t, e0, _⟩ := DataW.trod_int Try.underlying23 h0
  obtain ⟨b, e1, _⟩ := DataW.trod_bool Try.underlying4 h1
  obtain ⟨p, n, c, e2, hb⟩ := open_bytes h2
  simp only [List.cons.injEq, and_true] at e0 e1
  exact ⟨⟨t, b, p, n, c⟩, e0, e1, e2, hb⟩


/-- What is read as a slice of attributes. -/
theorem open_attrs {a : Option Addr} {len cap : Nat} {d : DataW H} {p : List MemPlace} (h : DataW.Trod enc Try.prog W 0 (fun _ => true) true 22 (.slice a len cap) d p) :
    len ≤ maxLen ∧ (a = none → len = 0 ∧ cap = 0) ∧ ∃ X : Nat → At, Lies W a len X ∧ ∀ j, j < len → Bytes W (X j).p (X j).n := by
  obtain ⟨fuel, hf⟩ := h
  rcases open_slice Try.underlying22 hf with ⟨hcs, _⟩ | ⟨ad, len', cap', m, n, D, Pl, hcs, _, hl, hm, hmm, _, hx⟩
  · simp [Value.cells] at hcs
    obtain ⟨rfl, rfl, rfl⟩ := hcs
    exact ⟨Nat.zero_le _, fun _ => ⟨rfl, rfl⟩, fun _ => ⟨0, false, none, 0, 0⟩, .inl rfl, fun j hj => by omega⟩
  · simp [Value.cells] at hcs
    obtain ⟨rfl, rfl, rfl⟩ := hcs
    refine ⟨Nat.le_trans hl hm, (fun h => by cases h), ?_⟩
    simp only [if_true] at hmm
    have each : ∀ i, i < len → ∃ x : At, W.cell? (ad.add (i * 3)) = some (.int .u16 x.t) ∧ W.cell? (ad.add (i * 3 + 1)) = some (.bool x.b) ∧ W.cell? (ad.add (i * 3 + 2)) = some (.slice x.p x.n x.c) ∧ Bytes W x.p x.n := by
      intro i hi
      obtain ⟨cs', h1, h2⟩ := hx i (by omega)
      rw [Try.cells26] at h1
      obtain ⟨_, hlen, hcell⟩ := World.cells?_some h1
      obtain ⟨y0, y1, y2, k, _, _, g0, g1, g2⟩ := trod_struct3 Try.underlying26 h2
      match cs', hlen with
      | [v0, v1, v2], _ =>
        simp [Try.cells23, Try.cells4, Try.cells24] at g0 g1 g2
        obtain ⟨x, r0, r1, r2, hb⟩ := open_attr g0 g1 g2
        have e0 := hcell 0 (by omega)
        have e1 := hcell 1 (by omega)
        have e2 := hcell 2 (by omega)
        rw [add_add] at e0 e1 e2
        subst r0 r1 r2
        exact ⟨x, by simpa using e0, by simpa using e1, by simpa using e2, hb⟩
    obtain ⟨X, hX⟩ := @choose_lt At ⟨⟨0, false, none, 0, 0⟩⟩ _ _ each
    refine ⟨X, ?_, fun j hj => (hX j hj).2.2.2⟩
    by_cases h0 : len = 0
    · exact .inl h0
    · right
      obtain ⟨b, o, s⟩ := ad
      have hs : s = none := by simpa [Addr.add] using World.cell?_spot (hX 0 (by omega)).1
      subst hs
      refine ⟨b, o, rfl, fun j hj => ?_⟩
      obtain ⟨e0, e1, e2, _⟩ := hX j hj
      rw [add_plain] at e0 e1 e2
      exact ⟨e0, e1, e2⟩

end
end Go.Proofs.Qxb6632330a
