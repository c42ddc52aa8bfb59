import Derived.Test.Qxb6632381aSum
import Derived.ProofKit
import Derived.OpenShut
import Derived.ShutString
import Derived.ChangeOld
import Derived.Below
import Derived.Deep.SlicePairs
import Derived.Lib.SmallJoins
namespace Go.Proofs.Qxb6632381a
open Go.ChangeShapes Go.WideShapes Go.ChangeAt Go.RowKit Go.Deep Go.Maps

theorem Try.cells2 : Try.prog.cellsOf 2 = 1 := by kernel_rfl
theorem Try.cells3 : Try.prog.cellsOf 3 = 1 := by kernel_rfl
theorem Try.cells9 : Try.prog.cellsOf 9 = 1 := by kernel_rfl
theorem Try.cells21 : Try.prog.cellsOf 21 = 1 := by kernel_rfl
theorem Try.cells33 : Try.prog.cellsOf 33 = 1 := by kernel_rfl
theorem Try.cells36 : Try.prog.cellsOf 36 = 2 := by kernel_rfl
theorem Try.cells23 : Try.prog.cellsOf 23 = 10 := by kernel_rfl
theorem zero2 (w : World) : (zeroValue 2).run Try.prog w = .ok (.int .i64 0) w := by kernel_rfl
theorem law : Keyed Try.prog 9 := string_keyed Try.underlying9

section
variable {H : Type} {enc : TypeId × Value → H} {W : World}

theorem owns_keep {k : TypeId} {R : Value → Option (DataW H × List MemPlace)} {b n : Nat} {D : DataW H} {w w' : World} (h : w.ownsMap Try.prog k R b n D) (hb : Below w.heap.size w w') : w'.ownsMap Try.prog k R b n D := by
  have hlt := h.lt
  obtain ⟨es, clock, he, r⟩ := h
  exact ⟨es, clock, (hb.block b hlt).trans he, r⟩

/-- A map of a known datum answers so in each world that keeps its block. -/
theorem looks_of {b n : Nat} {D : DataW H} {w : World} (h : w.ownsMap Try.prog 9 (plainElem Try.prog 2) b n D) {s : ByteArray} (hs : s.size ≤ maxLen) :
    ∃ v, D.atKey (.string s.data.toList) (.lit (.int .i64 0)) = .lit (.int .i64 v) ∧ (Lit.int .i64 v).wf = true ∧ Looks w (some b) s v (Maps.has D (.string s.data.toList)) := by
  have hkey : keyOf Try.prog 9 (.string s) = some (.string s.data.toList) := WideMaps.keyOf_string_mk Try.underlying9 hs
  obtain ⟨c, _, hat, hwf⟩ := h.lookup_int law Try.underlying33 Try.underlying2 (zero2 _) hkey
  refine ⟨c, hat, hwf, fun w' hb => ?_⟩
  have h' := owns_keep h hb
  constructor
  · obtain ⟨v, ps, hrun, hv⟩ := h'.look_ok law Try.underlying33 (zero2 _) (plainElem_int Try.underlying2 (by decide)) hkey
    obtain ⟨c', rfl, hc', _⟩ := plainElem_int_inv Try.underlying2 hv
    simp only [Prod.mk.injEq] at hc'
    have : c' = c := by have e := hc'.1.symm.trans hat; simpa using e
    rw [hrun, this]
  · obtain ⟨c', hrun, hat', _⟩ := h'.lookup_int law Try.underlying33 Try.underlying2 (zero2 _) hkey
    have : c' = c := by have e := hat'.symm.trans hat; simpa using e
    rw [hrun, this]

/-- What is read as a map. -/
theorem open_mapv {fuel : Nat} {v : Value} {x : DataW H × List MemPlace} (h : DataW.trod enc Try.prog W 0 (fun _ => true) true fuel 33 [v] = some x) :
    ∃ m, v = .map m ∧ HasLen W m ∧ ∀ s : ByteArray, s.size ≤ maxLen → ∃ q ok, Looks W m s q ok := by
  rcases WideElems.open_map Try.underlying33 h with ⟨hcs, _⟩ | ⟨b, es, clock, n, rfl, hcs, hb, _, F, _⟩
  · simp only [List.cons.injEq, and_true] at hcs
    refine ⟨none, hcs, ⟨0, fun w' _ ty => Maps.len_nil Try.underlying33 ty⟩, fun s hs => ⟨0, false, fun w' _ => ?_⟩⟩
    have hkey : keyOf Try.prog 9 (.string s) = some (.string s.data.toList) := WideMaps.keyOf_string_mk Try.underlying9 hs
    exact ⟨by simpa using Maps.look_nil true law Try.underlying33 (zero2 w') hkey, by simpa using Maps.look_nil false law Try.underlying33 (zero2 w') hkey⟩
  · simp only [List.cons.injEq, and_true] at hcs
    have hown := World.ownsMap_of_fit (R := plainElem Try.prog 2) hb F (fun x _ z hz => elemAt_plainElem_int Try.underlying2 hz)
    refine ⟨some b, hcs, ⟨_, fun w' hb' ty => (owns_keep hown hb').len Try.underlying33 ty⟩, fun s hs => ?_⟩
    obtain ⟨q, _, _, hq⟩ := looks_of hown hs
    exact ⟨q, _, hq⟩

/-- What is read as a slice of containers. -/
theorem open_conts {a : Option Addr} {len cap : Nat} {d : DataW H} {p : List MemPlace} (h : DataW.Trod enc Try.prog W 0 (fun _ => true) true 24 (.slice a len cap) d p) :
    len ≤ maxLen ∧ (a = none → len = 0 ∧ cap = 0) ∧ ∃ X : Nat → Co, Lies W a len X ∧ (∀ j, j < len → HasLen W (X j).m) ∧ ∀ s : ByteArray, s.size ≤ maxLen → ∃ (V : Nat → Int) (K : Nat → Bool), ∀ j, j < len → Looks W (X j).m s (V j) (K j) := by
  obtain ⟨fuel, hf⟩ := h
  rcases open_slice_pairs Try.underlying24 Try.underlying36 Try.cells36 rfl rfl Try.cells9 Try.cells33 hf with ⟨hcs, _⟩ | ⟨ad, len', cap', m, n, V0, V1, D0, D1, P0, P1, hcs, _, hl, hm, hmm, _, hx⟩
  · simp [Value.cells] at hcs
    obtain ⟨rfl, rfl, rfl⟩ := hcs
    exact ⟨Nat.zero_le _, fun _ => ⟨rfl, rfl⟩, fun _ => ⟨ByteArray.empty, none⟩, .inl rfl, fun j hj => by omega, fun s _ => ⟨fun _ => 0, fun _ => false, fun j hj => by omega⟩⟩
  · simp [Value.cells] at hcs
    obtain ⟨rfl, rfl, rfl⟩ := hcs
    simp only [if_true] at hmm
    refine ⟨Nat.le_trans hl hm, (fun h => by cases h), ?_⟩
    have each : ∀ i, i < len → ∃ x : Co, W.cell? (ad.add (i * 2)) = some (.string x.s) ∧ W.cell? (ad.add (i * 2 + 1)) = some (.map x.m) ∧ HasLen W x.m ∧ ∀ s : ByteArray, s.size ≤ maxLen → ∃ q ok, Looks W x.m s q ok := by
      intro i hi
      obtain ⟨e0, e1, g0, g1⟩ := hx i (by omega)
      obtain ⟨s, r0, _⟩ := DataW.trod_string Try.underlying9 g0
      simp only [List.cons.injEq, and_true] at r0
      obtain ⟨mm, r1, hlen, hlook⟩ := open_mapv g1
      rw [r0] at e0
      rw [r1] at e1
      exact ⟨⟨s, mm⟩, e0, e1, hlen, hlook⟩
    obtain ⟨X, hX⟩ := @choose_lt Co ⟨⟨ByteArray.empty, none⟩⟩ _ _ each
    refine ⟨X, ?_, fun j hj => (hX j hj).2.2.1, fun s hs => ?_⟩
    · by_cases h0 : len = 0
      · exact .inl h0
      · right
        obtain ⟨b, o, sp⟩ := ad
        have hsp : sp = none := by simpa [Addr.add] using World.cell?_spot (hX 0 (by omega)).1
        subst hsp
        refine ⟨b, o, rfl, fun j hj => ?_⟩
        obtain ⟨e0, e1, _⟩ := hX j hj
        rw [add_plain] at e0 e1
        exact ⟨e0, e1⟩
    · obtain ⟨f, hf⟩ := @choose_lt (Int × Bool) ⟨(0, false)⟩ len (fun j q => Looks W (X j).m s q.1 q.2) (fun i hi => by
        obtain ⟨q, ok, h⟩ := (hX i hi).2.2.2 s hs
        exact ⟨(q, ok), h⟩)
      exact ⟨fun j => (f j).1, fun j => (f j).2, hf⟩

theorem array10 {α : Type} {l : Array α} (h : l.size = 10) : ∃ a b c d e f g i j k, l = #[a, b, c, d, e, f, g, i, j, k] := by
  obtain ⟨l⟩ := l
  match l, h with
  | [a, b, c, d, e, f, g, i, j, k], _ => exact ⟨a, b, c, d, e, f, g, i, j, k, rfl⟩

/-- What is read as a metric. -/
theorem open_metric {r : Reach} {b0 : Nat} {v : Value} {d : DataW H} {p : List MemPlace} (hv : Value.okWide Try.prog W r b0 23 v) (h : DataW.Trod enc Try.prog W 0 (fun _ => true) true 23 v d p) :
    ∃ m : Me, v = .agg #[.string m.ty, .string m.nm, .string m.ct, .string m.dk, .string m.se, .int .i64 m.tg, .int .i64 m.av, .int .i32 m.au, .int .i64 m.va, .string m.fi] ∧ m.nm.size ≤ maxLen := by
  obtain ⟨cs, rfl, hsz⟩ := okWide_struct Try.underlying23 hv
  obtain ⟨c0, c1, c2, c3, c4, c5, c6, c7, c8, c9, rfl⟩ := array10 (hsz.trans Try.cells23)
  obtain ⟨fuel, hf⟩ := h
  obtain ⟨xs, n, _, _, _, hxl, hx⟩ := DataW.trod_struct Try.underlying23 hf
  have hl : xs.length = 10 := by simpa using hxl
  have g0 := hx 0 _ rfl
  have g1 := hx 1 _ rfl
  have g2 := hx 2 _ rfl
  have g3 := hx 3 _ rfl
  have g4 := hx 4 _ rfl
  have g5 := hx 5 _ rfl
  have g6 := hx 6 _ rfl
  have g7 := hx 7 _ rfl
  have g8 := hx 8 _ rfl
  have g9 := hx 9 _ rfl
  simp [Value.cells, Try.cells9, Try.cells3, Try.cells2, Try.cells21] at g0 g1 g2 g3 g4 g5 g6 g7 g8 g9
  rw [List.getElem?_eq_getElem (by omega)] at g0 g1 g2 g3 g4 g5 g6 g7 g8 g9
  obtain ⟨s0, e0, _⟩ := DataW.trod_string Try.underlying9 g0
  obtain ⟨s1, e1, _, hs1⟩ := DataW.trod_string Try.underlying9 g1
  obtain ⟨s2, e2, _⟩ := DataW.trod_string Try.underlying9 g2
  obtain ⟨s3, e3, _⟩ := DataW.trod_string Try.underlying9 g3
  obtain ⟨s4, e4, _⟩ := DataW.trod_string Try.underlying9 g4
  obtain ⟨i5, e5, _⟩ := DataW.trod_int Try.underlying3 g5
  obtain ⟨i6, e6, _⟩ := DataW.trod_int Try.underlying2 g6
  obtain ⟨i7, e7, _⟩ := DataW.trod_int Try.underlying21 g7
  obtain ⟨i8, e8, _⟩ := DataW.trod_int Try.underlying2 g8
  obtain ⟨s9, e9, _⟩ := DataW.trod_string Try.underlying9 g9
  simp only [List.cons.injEq, and_true] at e0 e1 e2 e3 e4 e5 e6 e7 e8 e9
  subst e0 e1 e2 e3 e4 e5 e6 e7 e8 e9
  exact ⟨⟨s0, s1, s2, s3, s4, i5, i6, i7, i8, s9⟩, rfl, hs1⟩
end
end Go.Proofs.Qxb6632381a
