import Derived.Test.Qxb6632381aModel
namespace Go.Proofs.Qxb6632381a
open Go.RowKit Go.Maps

theorem me_cells {w : World} {b : Nat} {t : TypeId} {m : Me} (h : Blk w b (MeV m) t) :
    w.cell? ⟨b, 0, none⟩ = some (.string m.ty) ∧ w.cell? ⟨b, 1, none⟩ = some (.string m.nm) ∧ w.cell? ⟨b, 2, none⟩ = some (.string m.ct) ∧ w.cell? ⟨b, 3, none⟩ = some (.string m.dk) ∧ w.cell? ⟨b, 4, none⟩ = some (.string m.se) ∧
    w.cell? ⟨b, 5, none⟩ = some (.int .i64 m.tg) ∧ w.cell? ⟨b, 6, none⟩ = some (.int .i64 m.av) ∧ w.cell? ⟨b, 7, none⟩ = some (.int .i32 m.au) ∧ w.cell? ⟨b, 8, none⟩ = some (.int .i64 m.va) ∧ w.cell? ⟨b, 9, none⟩ = some (.string m.fi) :=
  ⟨h.cell 0 rfl, h.cell 1 rfl, h.cell 2 rfl, h.cell 3 rfl, h.cell 4 rfl, h.cell 5 rfl, h.cell 6 rfl, h.cell 7 rfl, h.cell 8 rfl, h.cell 9 rfl⟩

set_option maxRecDepth 100000 in
set_option maxHeartbeats 1000000 in
theorem sum_walk (m : Me) (a : Option Addr) (n cap : Nat) (X : Nat → Co) (V : Nat → Int) (K : Nat → Bool) (w : World) (hl : n ≤ maxLen) (hn : a = none → n = 0 ∧ cap = 0) (hL : Lies w a n X) (hM : ∀ j, j < n → HasLen w (X j).m)
    (hK : ∀ j, j < n → Looks w (X j).m m.nm (V j) (K j)) :
    Calls Try.prog 3 #[.agg #[.string m.ty, .string m.nm, .string m.ct, .string m.dk, .string m.se, .int .i64 m.tg, .int .i64 m.av, .int .i32 m.au, .int .i64 m.va, .string m.fi], .slice a n cap] w fun e w' => e = .returned (.bool true) ∧ Below w.heap.size w w' := by
  have HN : Hid (a = none → n = 0 ∧ cap = 0) := hn
  have HL : Hid (Lies w a n X ∧ (∀ j, j < n → HasLen w (X j).m) ∧ ∀ j, j < n → Looks w (X j).m m.nm (V j) (K j)) := ⟨hL, hM, hK⟩
  have HML : Hid (n ≤ maxLen) := hl
  clear hn hL hM hK hl
  go_enter Try.func3, Try.ntmps3
  go_wp2_with fail
  refine (tooBig_any m a n cap X _ HML.out (HL.out.1.keep (alloc_below _ _)) (fun j hj => (HL.out.2.1 j hj).keep (alloc_below _ _))).mono ?_
  rintro e w1 ⟨⟨b, rfl, hsm⟩, hb1⟩
  have B1 : Below w.heap.size w w1 := below_on (alloc_below _ _) hb1
  have M1 : Blk w1 w.heap.size (MeV m) 23 := (Blk.new w _ _).keep hb1
  clear hb1
  cases b with
  | true =>
    clear hsm
    go_wp2
    go_ret
    exact ⟨rfl, B1⟩
  | false =>
  replace hsm := hsm rfl
  have f1 := M1.cell 1 (v := .string m.nm) rfl
  have f2 := M1.cell 2 (v := .string m.ct) rfl
  go_wp2_with fail
  refine (model_any m.nm m.ct a n cap X V K _ hsm (HL.out.1.keep B1) (fun j hj => (HL.out.2.2 j hj).keep B1)).mono ?_
  rintro e w2 ⟨he, hb2⟩
  unfold Gives at he
  subst he
  have B2 := below_on B1 hb2
  have M2 := M1.keep hb2
  clear B1 M1 f1 f2 hb2
  obtain ⟨f0, f1, f2, f3, f4, f5, f6, f7, f8, f9⟩ := me_cells M2
  go_wp2_with fail
  refine (metric_any m _).mono ?_
  rintro e w3 ⟨mb, rfl, N3, hb3⟩
  have B3 := below_on B2 hb3
  clear f0 f1 f2 f3 f4 f5 f6 f7 f8 f9 M2 B2 hb3
  go_wp2_with fail
  refine (conts_any a n cap X _ hsm HN.out (HL.out.1.keep B3)).mono ?_
  rintro e w4 ⟨a4, c4, rfl, L4, hb4⟩
  have B4 := below_on B3 hb4
  have N4 := N3.keep hb4
  clear B3 N3 hb4
  go_wp2_with fail
  refine (req_any m mb a4 n c4 X V K _ (by omega) N4 L4 (fun j hj => (HL.out.2.2 j hj).keep B4)).mono ?_
  rintro e w5 ⟨rfl, hb5⟩
  have B5 := below_on B4 hb5
  clear B4 N4 hb5 L4
  generalize outV (fun j => counts m.ct (X j).s) K V n = RV
  generalize outB (fun j => counts m.ct (X j).s) K n = RB
  go_wp2
  go_ret
  exact ⟨by simp, B5⟩
end Go.Proofs.Qxb6632381a
