import Derived.Test.Qxb6632381aInsPlain
namespace Go.Proofs.Qxb6632381a
open Go.RowKit Go.Maps

theorem two_one (s : ByteArray) (m : Option Nat) : ∀ u ∈ [Value.string s, .map m], u.oneCell' = true := by
  intro u hu
  simp only [List.mem_cons, List.not_mem_nil, or_false] at hu
  rcases hu with rfl | rfl <;> rfl
theorem cells2_step {Y : Nat → Co} {k : Nat} {y : Co} (h : Y k = y) : cells2 Y (k + 1) = cells2 Y k ++ [.string y.s, .map y.m] := by subst h; rfl
theorem counts_self (s : ByteArray) : counts s s = true := by unfold counts; simp

/-- RequestOf, what it comes to said beforehand. -/
theorem req_to (m : Me) (mb : Nat) (a : Option Addr) (n c : Nat) (X : Nat → Co) (V : Nat → Int) (K : Nat → Bool) (w : World) (hn : n ≤ 65537) (hB : Blk w mb (MeV m) 43) (hL : Lies w a n X) (hK : ∀ j, j < n → Looks w (X j).m m.nm (V j) (K j)) {v : Int} {b : Bool}
    (hv : outV (fun j => counts m.ct (X j).s) K V n = v) (hb : outB (fun j => counts m.ct (X j).s) K n = b) :
    Calls Try.prog 8 #[.pointer (some ⟨mb, 0, none⟩), .slice a n c] w fun e w' => e = .returned (.tuple #[.int .i64 v, .bool b]) ∧ Below w.heap.size w w' := by
  have h := req_any m mb a n c X V K w hn hB hL hK
  rw [hv, hb] at h
  exact h

/-- RequestOf over the one new container. -/
theorem req_one (m : Me) (mb MP g : Nat) (x : Int) (w : World) (hB : Blk w mb (MeV m) 43) (hC : Blk w g #[.string m.ct, .map (some MP)] 35) (hK : Looks w (some MP) m.nm x true) (h1 : -9223372036854775808 ≤ x) (h2 : x ≤ 9223372036854775807) :
    Calls Try.prog 8 #[.pointer (some ⟨mb, 0, none⟩), .slice (some ⟨g, 0, none⟩) 1 1] w fun e w' => e = .returned (.tuple #[.int .i64 x, .bool true]) ∧ Below w.heap.size w w' := by
  obtain ⟨e1, e2⟩ := out_one x h1 h2 (c := fun _ => counts m.ct m.ct) (counts_self m.ct)
  refine req_to m mb _ 1 1 (fun _ => ⟨m.ct, some MP⟩) (fun _ => x) (fun _ => true) w (by omega) hB (.inr ⟨g, 0, rfl, fun j hj => ?_⟩) (fun _ _ => hK) e1 e2
  obtain rfl : j = 0 := by omega
  exact ⟨hC.cell 0 rfl, hC.cell 1 rfl⟩

theorem put_looks {w : World} {X : Nat → Co} {s : ByteArray} {V : Nat → Int} {K : Nat → Bool} {n p : Nat} {c : Co} {x : Int} (h : ∀ j, j < n → Looks w (X j).m s (V j) (K j)) (hc : Looks w c.m s x true) (hp : p ≤ n) :
    ∀ j, j < n + 1 → Looks w (put X p c j).m s (put V p x j) (put K p true j) := by
  intro j hj
  by_cases e : j < p
  · rw [put_lt e, put_lt e, put_lt e]; exact h j (by omega)
  · by_cases e2 : j = p
    · subst e2; rw [put_at, put_at, put_at]; exact hc
    · obtain ⟨i, rfl⟩ : ∃ i, j = i + 1 := ⟨j - 1, by omega⟩
      rw [put_gt (by omega), put_gt (by omega), put_gt (by omega)]; exact h i (by omega)

theorem put_put (m : Me) (X : Nat → Co) (V : Nat → Int) (K : Nat → Bool) (p n : Nat) (x : Int) (MP : Nat) (hp : p ≤ n) :
    Put (fun j => counts m.ct (X j).s) (fun j => counts m.ct (put X p ⟨m.ct, some MP⟩ j).s) K (put K p true) V (put V p x) p n x where
  hp := hp
  hc := fun j hj => by show counts m.ct (put X p ⟨m.ct, some MP⟩ j).s = _; rw [put_lt hj]
  hV := fun j hj => put_lt hj
  hK := fun j hj => put_lt hj
  hcp := by show counts m.ct (put X p ⟨m.ct, some MP⟩ p).s = true; rw [put_at]; exact counts_self m.ct
  hVp := put_at _ _ _
  hKp := put_at _ _ _
  hcg := fun j hj => by show counts m.ct (put X p ⟨m.ct, some MP⟩ (j + 1)).s = _; rw [put_gt hj]
  hVg := fun j hj => put_gt hj
  hKg := fun j hj => put_gt hj

set_option maxRecDepth 100000 in
set_option maxHeartbeats 1000000 in
/-- The place is out of range. -/
theorem ins_out (m : Me) (a : Option Addr) (n cap : Nat) (X : Nat → Co) (i x : Int) (w : World) (hl : n ≤ maxLen) (hL : Lies w a n X) (hM : ∀ j, j < n → HasLen w (X j).m) (hi : i < 0 ∨ (n : Int) < i) :
    Calls Try.prog 4 #[.agg #[.string m.ty, .string m.nm, .string m.ct, .string m.dk, .string m.se, .int .i64 m.tg, .int .i64 m.av, .int .i32 m.au, .int .i64 m.va, .string m.fi], .slice a n cap, .int .i64 i, .int .i64 x] w fun e w' => e = .returned (.bool true) ∧ Below w.heap.size w w' := by
  have HL : Hid (Lies w a n X ∧ (∀ j, j < n → HasLen w (X j).m)) := ⟨hL, hM⟩
  have HML : Hid (n ≤ maxLen) := hl
  unfold maxLen at hl
  clear hL hM
  go_enter Try.func4, Try.ntmps4
  go_wp2_with fail
  refine (tooBig_any m a n cap X _ HML.out (HL.out.1.keep (alloc_below _ _)) (fun j hj => (HL.out.2 j hj).keep (alloc_below _ _))).mono ?_
  rintro e w1 ⟨⟨b, rfl, hsm⟩, hb1⟩
  have B1 : Below w.heap.size w w1 := below_on (alloc_below _ _) hb1
  clear hb1
  cases b with
  | true =>
    clear hsm
    go_wp2
    go_ret
    exact ⟨rfl, B1⟩
  | false =>
  replace hsm := hsm rfl
  rcases hi with hi | hi
  · go_wp2
    go_ret
    exact ⟨rfl, B1⟩
  · have hi' : ¬ i < 0 := by omega
    go_wp2
    go_ret
    exact ⟨rfl, B1⟩

set_option maxRecDepth 100000 in
set_option maxHeartbeats 1600000 in
theorem ins_walk (m : Me) (a : Option Addr) (n cap : Nat) (X : Nat → Co) (V : Nat → Int) (K : Nat → Bool) (p : Nat) (x : Int) (w : World) (hl : n ≤ maxLen) (hn : a = none → n = 0 ∧ cap = 0) (hL : Lies w a n X) (hM : ∀ j, j < n → HasLen w (X j).m)
    (hK : ∀ j, j < n → Looks w (X j).m m.nm (V j) (K j)) (hnm : m.nm.size ≤ maxLen) (hp : p ≤ n) (hx1 : -9223372036854775808 ≤ x) (hx2 : x ≤ 9223372036854775807) :
    Calls Try.prog 4 #[.agg #[.string m.ty, .string m.nm, .string m.ct, .string m.dk, .string m.se, .int .i64 m.tg, .int .i64 m.av, .int .i32 m.au, .int .i64 m.va, .string m.fi], .slice a n cap, .int .i64 p, .int .i64 x] w fun e w' => e = .returned (.bool true) ∧ Below w.heap.size w w' := by
  have HN : Hid (a = none → n = 0 ∧ cap = 0) := hn
  have HL : Hid (Lies w a n X ∧ (∀ j, j < n → HasLen w (X j).m) ∧ ∀ j, j < n → Looks w (X j).m m.nm (V j) (K j)) := ⟨hL, hM, hK⟩
  have HML : Hid (n ≤ maxLen) := hl
  have HX : Hid (-9223372036854775808 ≤ x ∧ x ≤ 9223372036854775807) := ⟨hx1, hx2⟩
  unfold maxLen at hl
  clear hn hL hM hK hx1 hx2
  obtain ⟨i0, hi0, hz0, hz1, hz2⟩ := info_parts Try.info35
  go_enter Try.func4, Try.ntmps4
  go_wp2_with fail
  refine (tooBig_any m a n cap X _ HML.out (HL.out.1.keep (alloc_below _ _)) (fun j hj => (HL.out.2.1 j hj).keep (alloc_below _ _))).mono ?_
  rintro e w1 ⟨⟨b, rfl, hsm⟩, hb1⟩
  have B1 : Below w.heap.size w w1 := below_on (alloc_below _ _) hb1
  have M1 : Blk w1 w.heap.size (MeV m) 23 := (Blk.new w _ _).keep hb1
  clear hb1
  cases b with
  | true =>
    clear hsm
    go_wp2
    go_ret
    exact ⟨rfl, B1⟩
  | false =>
  replace hsm := hsm rfl
  obtain ⟨f0, f1, f2, f3, f4, f5, f6, f7, f8, f9⟩ := me_cells M1
  have hp1 : (p : Int) ≤ (n : Int) := by omega
  go_wp2_with fail
  refine (metric_any m _).mono ?_
  rintro e w3 ⟨mb, rfl, N3, hb3⟩
  have B3 := below_on B1 hb3
  have M3 := M1.keep hb3
  clear f0 f1 f2 f3 f4 f5 f6 f7 f8 f9 M1 B1 hb3
  go_wp2_with fail
  refine (conts_any a n cap X _ hsm HN.out (HL.out.1.keep B3)).mono ?_
  rintro e w4 ⟨a4, c4, rfl, L4, hb4⟩
  have B4 := below_on B3 hb4
  have N4 := N3.keep hb4
  have M4 := M3.keep hb4
  clear B3 N3 hb4 M3
  have f1 := M4.cell 1 (v := .string m.nm) rfl
  have f2 := M4.cell 2 (v := .string m.ct) rfl
  have f1' := M4.lt
  have hmm := @run_makeMap Try.prog
  obtain ⟨w5, hrun, own5, grow5⟩ := (World.ownsMap_made (H := Unit) w4 Try.prog 9 (plainElem Try.prog 2)).update law Try.underlying33 (by unfold maxLen; omega) (WideMaps.keyOf_string_mk Try.underlying9 hnm) (plainElem_int Try.underlying2 (WalkArith.wf_i64 (n := x) (by have := HX.out; omega)))
  have b45 : Below w4.heap.size w4 w5 := ((Below.refl _ _).alloc (Nat.le_refl _) _).grown grow5 (by simp) (fun k hk => by cases hk; exact Nat.le_refl _)
  have B5 := below_on B4 b45
  have M5 := M4.keep b45
  have N5 := N4.keep b45
  have L5 := L4.keep b45
  have LK5 : Looks w5 (some w4.heap.size) m.nm x true := by
    obtain ⟨v, hat, _, hlk⟩ := looks_of own5 hnm
    have hk : WideAt.IsKeyLit (.string m.nm.data.toList) := law.key (WideMaps.keyOf_string_mk Try.underlying9 hnm)
    rw [atKey_put_same ⟨[], rfl⟩ hk] at hat
    rw [has_put_same ⟨[], rfl⟩ hk] at hlk
    have : x = v := by simpa using hat
    rw [this]; exact hlk
  have s5 : w4.heap.size < w5.heap.size := by have := grow5.size; simp at this; omega
  have g1 := M5.cell 1 (v := .string m.nm) rfl
  have g2 := M5.cell 2 (v := .string m.ct) rfl
  go_wp2_with (first | (at_make; refine wpList_make_own _ rfl _ _ 31 rfl 0 35 i0 _ 2 Try.underlying31 hi0 hz0 hz1 .i64 .i64 _ (n + 1) rfl rfl (by omega) (by rw [hz2]; omega) (by unfold maxLen; omega) (by omega) ?_; intro w6 hown6 hgrow6))
  have C5 := Blk.new w5 #[.string m.ct, .map (some w4.heap.size)] 35
  have B5' := below_on B5 (alloc_below w5 (.cells #[.string m.ct, .map (some w4.heap.size)] 35))
  have M5' := M5.alloc (.cells #[.string m.ct, .map (some w4.heap.size)] 35)
  have N5' := N5.alloc (.cells #[.string m.ct, .map (some w4.heap.size)] 35)
  have L5' := L5.keep (alloc_below w5 (.cells #[.string m.ct, .map (some w4.heap.size)] 35))
  have LK5' := LK5.keep (alloc_below w5 (.cells #[.string m.ct, .map (some w4.heap.size)] 35))
  have hv : (w5.alloc (.cells #[.string m.ct, .map (some w4.heap.size)] 35)).heap.size = w5.heap.size + 1 := by simp
  clear B5 M5 N5 L5 LK5 b45 grow5 own5 hrun s5 g1 g2 f1 f1' f2 M4 N4 L4 B4 hmm
  generalize w5.alloc (.cells #[.string m.ct, .map (some w4.heap.size)] 35) = v5 at *
  generalize w5.heap.size = NC at *
  generalize w4.heap.size = MP at *
  have HV : Hid (v5.heap.size = NC + 1) := hv
  have HF : Hid (Blk v5 w.heap.size (MeV m) 23 ∧ Blk v5 mb (MeV m) 43 ∧ Blk v5 NC #[.string m.ct, .map (some MP)] 35 ∧ Lies v5 a4 n X ∧ Looks v5 (some MP) m.nm x true ∧ Below w.heap.size w v5) := ⟨M5', N5', C5, L5', LK5', B5'⟩
  have O6 : w6.ownsRow 0 35 2 (.slice (some ⟨NC + 1, 0, none⟩) 0 (n + 1)) 0 (cells2 (put X p ⟨m.ct, some MP⟩) 0) := by rw [← hv]; exact hown6
  have B6 : Below v5.heap.size v5 w6 := (Below.refl _ _).grown hgrow6 (Nat.le_refl _) (fun k hk => by cases hk)
  clear hown6 hgrow6 hv M5' N5' C5 L5' LK5' B5'
  go_loopw [12, 13] (fun v q wr => ∃ k : Nat, k ≤ p ∧ q = .int .i64 k ∧ v = .slice (some ⟨NC + 1, 0, none⟩) k (n + 1) ∧ wr.ownsRow 0 35 2 (.slice (some ⟨NC + 1, 0, none⟩) k (n + 1)) k (cells2 (put X p ⟨m.ct, some MP⟩) k) ∧ Below v5.heap.size v5 wr) (fun _ q _ => p - (intOf q).toNat)
  case atStart => exact ⟨0, by omega, rfl, rfl, O6, B6⟩
  case round =>
    clear O6 B6
    obtain ⟨k, hk, rfl, rfl, hO, hB⟩ := hrel
    by_cases hlt : k < p
    · have L7 := HF.out.2.2.2.1.keep hB
      rcases L7 with h | ⟨g, o, rfl, hc⟩
      · omega
      obtain ⟨c0, c1⟩ := hc k (by omega)
      clear hc
      have hkn : k < n := by omega
      have HPK : Hid (put X p ⟨m.ct, some MP⟩ k = X k) := put_lt hlt
      go_wp2_with (first | (at_builtin; refine wpList_append_fits _ rfl _ _ 31 rfl 0 35 i0 2 Try.underlying31 hi0 hz1 (NC + 1) k (n + 1) _ rfl (hO.alloc _) ⟨wr.heap.size, 0, none⟩ 1 1 [.string (X k).s, .map (X k).m] rfl rfl (cell_two_new _ _ _ _) (two_one _ _) (by omega) ?_; intro w7 hown7 hgrow7))
      go_roundw
      case rel => exact ⟨k + 1, by omega, by go_num, rfl, by rw [cells2_step HPK.out]; exact hown7, (hB.alloc hB.size _).grown hgrow7 (by simp; exact Nat.le_succ_of_le hB.size) (fun j hj => by cases hj; rw [HV.out]; exact Nat.le_refl _)⟩
      case measure => simp [intOf]; omega
    · obtain rfl : p = k := by omega
      have C7 := HF.out.2.2.1.keep hB
      have c0 := C7.cell 0 (v := .string m.ct) rfl
      have c1 := C7.cell 1 (v := .map (some MP)) rfl
      have HPK : Hid (put X p ⟨m.ct, some MP⟩ p = ⟨m.ct, some MP⟩) := put_at _ _ _
      obtain ⟨w7, rfl⟩ : ∃ w7, w7 = wr := ⟨_, rfl⟩
      go_wp2_with (first | (at_builtin; refine wpList_append_fits _ rfl _ _ 31 rfl 0 35 i0 2 Try.underlying31 hi0 hz1 (NC + 1) p (n + 1) _ rfl (hO.alloc _) ⟨w7.heap.size, 0, none⟩ 1 1 [.string m.ct, .map (some MP)] rfl rfl (cell_two_new _ _ _ _) (two_one _ _) (by omega) ?_; intro w8 hown8 hgrow8))
      have B8 : Below v5.heap.size v5 w8 := (hB.alloc hB.size _).grown hgrow8 (by simp; exact Nat.le_succ_of_le hB.size) (fun j hj => by cases hj; rw [HV.out]; exact Nat.le_refl _)
      have O8 : w8.ownsRow 0 35 2 (.slice (some ⟨NC + 1, 0, none⟩) (p + 1) (n + 1)) (p + 1) (cells2 (put X p ⟨m.ct, some MP⟩) (p + 1)) := by rw [cells2_step HPK.out]; exact hown8
      clear hown8 hgrow8 hO hB C7 c0 c1 HPK
      go_loopw [12, 14] (fun v q wr => ∃ k : Nat, p ≤ k ∧ k ≤ n ∧ q = .int .i64 k ∧ v = .slice (some ⟨NC + 1, 0, none⟩) (k + 1) (n + 1) ∧ wr.ownsRow 0 35 2 (.slice (some ⟨NC + 1, 0, none⟩) (k + 1) (n + 1)) (k + 1) (cells2 (put X p ⟨m.ct, some MP⟩) (k + 1)) ∧ Below v5.heap.size v5 wr) (fun _ q _ => n - (intOf q).toNat)
      case atStart => exact ⟨p, by omega, by omega, rfl, rfl, O8, B8⟩
      case round =>
        clear O8 B8
        obtain ⟨k, hk0, hk, rfl, rfl, hO, hB⟩ := hrel
        by_cases hlt : k < n
        · have L7 := HF.out.2.2.2.1.keep hB
          rcases L7 with h | ⟨g, o, rfl, hc⟩
          · omega
          obtain ⟨c0, c1⟩ := hc k (by omega)
          clear hc
          have HPK : Hid (put X p ⟨m.ct, some MP⟩ (k + 1) = X k) := put_gt hk0
          go_wp2_with (first | (at_builtin; refine wpList_append_fits _ rfl _ _ 31 rfl 0 35 i0 2 Try.underlying31 hi0 hz1 (NC + 1) (k + 1) (n + 1) _ rfl (hO.alloc _) ⟨wr.heap.size, 0, none⟩ 1 1 [.string (X k).s, .map (X k).m] rfl rfl (cell_two_new _ _ _ _) (two_one _ _) (by omega) ?_; intro w9 hown9 hgrow9))
          go_roundw
          case rel => exact ⟨k + 1, by omega, by omega, by go_num, rfl, by rw [cells2_step HPK.out]; exact hown9, (hB.alloc hB.size _).grown hgrow9 (by simp; exact Nat.le_succ_of_le hB.size) (fun j hj => by cases hj; rw [HV.out]; exact Nat.le_refl _)⟩
          case measure => simp [intOf]; omega
        · obtain rfl : n = k := by omega
          obtain ⟨w9, rfl⟩ : ∃ w9, w9 = wr := ⟨_, rfl⟩
          have B9 := below_on HF.out.2.2.2.2.2 hB
          have XB9 := HF.out.1.keep hB
          have XM9 := HF.out.2.1.keep hB
          have C9 := HF.out.2.2.1.keep hB
          have LB9 := HF.out.2.2.2.1.keep hB
          have LK9 := HF.out.2.2.2.2.1.keep hB
          have LI9 := lies_of_row hO
          have c0 := C9.cell 0 (v := .string m.ct) rfl
          have c1 := C9.cell 1 (v := .map (some MP)) rfl
          clear hO hB HF HV
          go_wp2_with fail
          refine (req_one m mb MP w9.heap.size x _ ?_ ?_ ?_ HX.out.1 HX.out.2).mono ?_
          · exact XM9.alloc _
          · exact Blk.new _ _ _
          · exact LK9.keep (alloc_below _ _)
          rintro e w10 ⟨rfl, hb10⟩
          have b10 := below_on (alloc_below w9 (.cells #[.string m.ct, .map (some MP)] 35)) hb10
          have B10 := below_on B9 b10
          have XB10 := XB9.keep b10
          have XM10 := XM9.keep b10
          have LB10 := LB9.keep b10
          have LI10 := LI9.keep b10
          have LK10 := LK9.keep b10
          clear B9 XB9 XM9 C9 LB9 LK9 LI9 c0 c1 hb10 b10
          have HPUT : Put (fun j => counts m.ct (X j).s) (fun j => counts m.ct (put X p ⟨m.ct, some MP⟩ j).s) K (put K p true) V (put V p x) p n x := put_put m X V K p n x MP hp
          rcases HPUT.cases HX.out.1 HX.out.2 with ⟨hcn, v, e1, e2, e3, e4⟩ | ⟨hcn, e1, e2, e3, e4⟩ | ⟨hcn, e1, e2, e3, e4⟩
          · have E1 : Hid (outV (fun j => counts m.ct (X j).s) K V n = v) := e1
            have E2 : Hid (outB (fun j => counts m.ct (X j).s) K n = true) := e2
            have E3 : Hid (outV (fun j => counts m.ct (put X p ⟨m.ct, some MP⟩ j).s) (put K p true) (put V p x) (n + 1) = wrap64 (v + x)) := e3
            have E4 : Hid (outB (fun j => counts m.ct (put X p ⟨m.ct, some MP⟩ j).s) (put K p true) (n + 1) = true) := e4
            clear e1 e2 e3 e4
            go_wp2_with fail
            refine (req_to m mb a4 n c4 X V K _ (by omega) ?_ ?_ ?_ E1.out E2.out).mono ?_
            · exact XM10
            · exact LB10
            · exact fun j hj => (HL.out.2.2 j hj).keep B10
            rintro e w11 ⟨rfl, hb11⟩
            have B11 := below_on B10 hb11
            have XM11 := XM10.keep hb11
            have XB11 := XB10.keep hb11
            have LI11 := LI10.keep hb11
            have LK11 := LK10.keep hb11
            clear B10 XM10 XB10 LB10 LI10 LK10 hb11
            go_wp2_with fail
            refine (req_to m mb _ (n + 1) _ (put X p ⟨m.ct, some MP⟩) (put V p x) (put K p true) _ (by omega) ?_ ?_ ?_ E3.out E4.out).mono ?_
            · exact XM11
            · exact LI11
            · exact put_looks (fun j hj => (HL.out.2.2 j hj).keep B11) LK11 hp
            rintro e w12 ⟨rfl, hb12⟩
            have B12 := below_on B11 hb12
            have XB12 := XB11.keep hb12
            clear B11 XM11 XB11 LI11 LK11 hb12
            go_wp2
            go_loopw [22, 23] (fun f q wr => ∃ (k : Nat) (b : Bool), k ≤ n ∧ q = .int .i64 k ∧ f = .bool b ∧ Hid (b = decide (0 < cnt (fun j => counts m.ct (X j).s) k)) ∧ Below w12.heap.size w12 wr) (fun _ q _ => n - (intOf q).toNat)
            case atStart => exact ⟨0, false, by omega, rfl, rfl, rfl, Below.refl _ _⟩
            case round =>
              obtain ⟨k, b, hk, rfl, rfl, HB, hB⟩ := hrel
              have BW := below_on B12 hB
              by_cases hlt : k < n
              · have xc := (XB12.keep hB).cell 2 (v := .string m.ct) rfl
                have L := HL.out.1.keep BW
                rcases L with h | ⟨g, o, rfl, hc⟩
                · omega
                obtain ⟨d0, -⟩ := hc k hlt
                clear hc
                have hlt' : (k : Int) < (n : Int) := by omega
                by_cases he : m.ct.toList.isEmpty = true
                · have HY : Hid (counts m.ct (X k).s = true) := by show counts m.ct (X k).s = true; unfold counts; rw [he]; rfl
                  go_wp2
                  go_quiet (fail)
                  go_wp2
                  go_roundw
                  case rel => exact ⟨k + 1, true, by omega, by go_num, rfl, by show true = decide _; rw [cnt_yes (c := fun j => counts m.ct (X j).s) HY.out]; simp, below_drewN hB _⟩
                  case measure => simp [intOf]; omega
                · replace he : m.ct.toList.isEmpty = false := by simpa using he
                  by_cases hq : ((X k).s.toList == m.ct.toList) = true
                  · have HY : Hid (counts m.ct (X k).s = true) := by show counts m.ct (X k).s = true; unfold counts; rw [hq]; simp
                    go_wp2
                    go_quiet (fail)
                    go_wp2
                    go_roundw
                    case rel => exact ⟨k + 1, true, by omega, by go_num, rfl, by show true = decide _; rw [cnt_yes (c := fun j => counts m.ct (X j).s) HY.out]; simp, below_drewN hB _⟩
                    case measure => simp [intOf]; omega
                  · replace hq : ((X k).s.toList == m.ct.toList) = false := by simpa using hq
                    have HY : Hid (counts m.ct (X k).s = false) := by show counts m.ct (X k).s = false; unfold counts; rw [he, hq]; rfl
                    go_wp2
                    go_quiet (fail)
                    go_wp2
                    go_roundw
                    case rel => exact ⟨k + 1, b, by omega, by go_num, rfl, by show b = decide _; rw [cnt_no (c := fun j => counts m.ct (X j).s) HY.out]; exact HB.out, below_drewN hB _⟩
                    case measure => simp [intOf]; omega
              · obtain rfl : n = k := by omega
                clear HB
                go_wp2
                go_ret
                exact ⟨rfl, BW⟩
          · have E1 : Hid (outV (fun j => counts m.ct (X j).s) K V n = 0) := e1
            have E2 : Hid (outB (fun j => counts m.ct (X j).s) K n = false) := e2
            have E3 : Hid (outV (fun j => counts m.ct (put X p ⟨m.ct, some MP⟩ j).s) (put K p true) (put V p x) (n + 1) = x) := e3
            have E4 : Hid (outB (fun j => counts m.ct (put X p ⟨m.ct, some MP⟩ j).s) (put K p true) (n + 1) = true) := e4
            have HCN : Hid (cnt (fun j => counts m.ct (X j).s) n = 0) := hcn
            clear e1 e2 e3 e4 hcn
            go_wp2_with fail
            refine (req_to m mb a4 n c4 X V K _ (by omega) ?_ ?_ ?_ E1.out E2.out).mono ?_
            · exact XM10
            · exact LB10
            · exact fun j hj => (HL.out.2.2 j hj).keep B10
            rintro e w11 ⟨rfl, hb11⟩
            have B11 := below_on B10 hb11
            have XM11 := XM10.keep hb11
            have XB11 := XB10.keep hb11
            have LI11 := LI10.keep hb11
            have LK11 := LK10.keep hb11
            clear B10 XM10 XB10 LB10 LI10 LK10 hb11
            go_wp2_with fail
            refine (req_to m mb _ (n + 1) _ (put X p ⟨m.ct, some MP⟩) (put V p x) (put K p true) _ (by omega) ?_ ?_ ?_ E3.out E4.out).mono ?_
            · exact XM11
            · exact LI11
            · exact put_looks (fun j hj => (HL.out.2.2 j hj).keep B11) LK11 hp
            rintro e w12 ⟨rfl, hb12⟩
            have B12 := below_on B11 hb12
            have XB12 := XB11.keep hb12
            clear B11 XM11 XB11 LI11 LK11 hb12
            go_wp2
            go_loopw [22, 23] (fun f q wr => ∃ (k : Nat) (b : Bool), k ≤ n ∧ q = .int .i64 k ∧ f = .bool b ∧ Hid (b = decide (0 < cnt (fun j => counts m.ct (X j).s) k)) ∧ Below w12.heap.size w12 wr) (fun _ q _ => n - (intOf q).toNat)
            case atStart => exact ⟨0, false, by omega, rfl, rfl, rfl, Below.refl _ _⟩
            case round =>
              obtain ⟨k, b, hk, rfl, rfl, HB, hB⟩ := hrel
              have BW := below_on B12 hB
              by_cases hlt : k < n
              · have xc := (XB12.keep hB).cell 2 (v := .string m.ct) rfl
                have L := HL.out.1.keep BW
                rcases L with h | ⟨g, o, rfl, hc⟩
                · omega
                obtain ⟨d0, -⟩ := hc k hlt
                clear hc
                have hlt' : (k : Int) < (n : Int) := by omega
                by_cases he : m.ct.toList.isEmpty = true
                · have HY : Hid (counts m.ct (X k).s = true) := by show counts m.ct (X k).s = true; unfold counts; rw [he]; rfl
                  go_wp2
                  go_quiet (fail)
                  go_wp2
                  go_roundw
                  case rel => exact ⟨k + 1, true, by omega, by go_num, rfl, by show true = decide _; rw [cnt_yes (c := fun j => counts m.ct (X j).s) HY.out]; simp, below_drewN hB _⟩
                  case measure => simp [intOf]; omega
                · replace he : m.ct.toList.isEmpty = false := by simpa using he
                  by_cases hq : ((X k).s.toList == m.ct.toList) = true
                  · have HY : Hid (counts m.ct (X k).s = true) := by show counts m.ct (X k).s = true; unfold counts; rw [hq]; simp
                    go_wp2
                    go_quiet (fail)
                    go_wp2
                    go_roundw
                    case rel => exact ⟨k + 1, true, by omega, by go_num, rfl, by show true = decide _; rw [cnt_yes (c := fun j => counts m.ct (X j).s) HY.out]; simp, below_drewN hB _⟩
                    case measure => simp [intOf]; omega
                  · replace hq : ((X k).s.toList == m.ct.toList) = false := by simpa using hq
                    have HY : Hid (counts m.ct (X k).s = false) := by show counts m.ct (X k).s = false; unfold counts; rw [he, hq]; rfl
                    go_wp2
                    go_quiet (fail)
                    go_wp2
                    go_roundw
                    case rel => exact ⟨k + 1, b, by omega, by go_num, rfl, by show b = decide _; rw [cnt_no (c := fun j => counts m.ct (X j).s) HY.out]; exact HB.out, below_drewN hB _⟩
                    case measure => simp [intOf]; omega
              · obtain rfl : n = k := by omega
                obtain rfl : b = false := by rw [HB.out, HCN.out]; rfl
                go_wp2
                go_ret
                exact ⟨rfl, BW⟩
          · have E1 : Hid (outV (fun j => counts m.ct (X j).s) K V n = 0) := e1
            have E2 : Hid (outB (fun j => counts m.ct (X j).s) K n = false) := e2
            have E3 : Hid (outV (fun j => counts m.ct (put X p ⟨m.ct, some MP⟩ j).s) (put K p true) (put V p x) (n + 1) = 0) := e3
            have E4 : Hid (outB (fun j => counts m.ct (put X p ⟨m.ct, some MP⟩ j).s) (put K p true) (n + 1) = false) := e4
            have HCN : Hid (0 < cnt (fun j => counts m.ct (X j).s) n) := hcn
            clear e1 e2 e3 e4 hcn
            go_wp2_with fail
            refine (req_to m mb a4 n c4 X V K _ (by omega) ?_ ?_ ?_ E1.out E2.out).mono ?_
            · exact XM10
            · exact LB10
            · exact fun j hj => (HL.out.2.2 j hj).keep B10
            rintro e w11 ⟨rfl, hb11⟩
            have B11 := below_on B10 hb11
            have XM11 := XM10.keep hb11
            have XB11 := XB10.keep hb11
            have LI11 := LI10.keep hb11
            have LK11 := LK10.keep hb11
            clear B10 XM10 XB10 LB10 LI10 LK10 hb11
            go_wp2_with fail
            refine (req_to m mb _ (n + 1) _ (put X p ⟨m.ct, some MP⟩) (put V p x) (put K p true) _ (by omega) ?_ ?_ ?_ E3.out E4.out).mono ?_
            · exact XM11
            · exact LI11
            · exact put_looks (fun j hj => (HL.out.2.2 j hj).keep B11) LK11 hp
            rintro e w12 ⟨rfl, hb12⟩
            have B12 := below_on B11 hb12
            have XB12 := XB11.keep hb12
            clear B11 XM11 XB11 LI11 LK11 hb12
            go_wp2
            go_loopw [22, 23] (fun f q wr => ∃ (k : Nat) (b : Bool), k ≤ n ∧ q = .int .i64 k ∧ f = .bool b ∧ Hid (b = decide (0 < cnt (fun j => counts m.ct (X j).s) k)) ∧ Below w12.heap.size w12 wr) (fun _ q _ => n - (intOf q).toNat)
            case atStart => exact ⟨0, false, by omega, rfl, rfl, rfl, Below.refl _ _⟩
            case round =>
              obtain ⟨k, b, hk, rfl, rfl, HB, hB⟩ := hrel
              have BW := below_on B12 hB
              by_cases hlt : k < n
              · have xc := (XB12.keep hB).cell 2 (v := .string m.ct) rfl
                have L := HL.out.1.keep BW
                rcases L with h | ⟨g, o, rfl, hc⟩
                · omega
                obtain ⟨d0, -⟩ := hc k hlt
                clear hc
                have hlt' : (k : Int) < (n : Int) := by omega
                by_cases he : m.ct.toList.isEmpty = true
                · have HY : Hid (counts m.ct (X k).s = true) := by show counts m.ct (X k).s = true; unfold counts; rw [he]; rfl
                  go_wp2
                  go_quiet (fail)
                  go_wp2
                  go_roundw
                  case rel => exact ⟨k + 1, true, by omega, by go_num, rfl, by show true = decide _; rw [cnt_yes (c := fun j => counts m.ct (X j).s) HY.out]; simp, below_drewN hB _⟩
                  case measure => simp [intOf]; omega
                · replace he : m.ct.toList.isEmpty = false := by simpa using he
                  by_cases hq : ((X k).s.toList == m.ct.toList) = true
                  · have HY : Hid (counts m.ct (X k).s = true) := by show counts m.ct (X k).s = true; unfold counts; rw [hq]; simp
                    go_wp2
                    go_quiet (fail)
                    go_wp2
                    go_roundw
                    case rel => exact ⟨k + 1, true, by omega, by go_num, rfl, by show true = decide _; rw [cnt_yes (c := fun j => counts m.ct (X j).s) HY.out]; simp, below_drewN hB _⟩
                    case measure => simp [intOf]; omega
                  · replace hq : ((X k).s.toList == m.ct.toList) = false := by simpa using hq
                    have HY : Hid (counts m.ct (X k).s = false) := by show counts m.ct (X k).s = false; unfold counts; rw [he, hq]; rfl
                    go_wp2
                    go_quiet (fail)
                    go_wp2
                    go_roundw
                    case rel => exact ⟨k + 1, b, by omega, by go_num, rfl, by show b = decide _; rw [cnt_no (c := fun j => counts m.ct (X j).s) HY.out]; exact HB.out, below_drewN hB _⟩
                    case measure => simp [intOf]; omega
              · obtain rfl : n = k := by omega
                obtain rfl : b = true := by rw [HB.out]; simpa using HCN.out
                go_wp2
                go_ret
                exact ⟨rfl, BW⟩
end Go.Proofs.Qxb6632381a
