import Derived.Test.Qxb6632559aParts
namespace Go.Proofs.Qxb6632559a
open Go.RowKit

/-- The first n lines are alike. -/
def allSame (X Y : Nat → R3) : Nat → Bool
  | 0 => true
  | n + 1 => allSame X Y n && same (X n) (Y n)
theorem allSame_iff (X Y : Nat → R3) (n : Nat) : allSame X Y n = true ↔ ∀ j, j < n → same (X j) (Y j) = true := by
  induction n with
  | zero => exact ⟨fun _ j hj => by omega, fun _ => rfl⟩
  | succ n ih =>
    unfold allSame
    rw [Bool.and_eq_true, ih]
    constructor
    · rintro ⟨h1, h2⟩ j hj
      by_cases e : j = n
      · subst e; exact h2
      · exact h1 j (by omega)
    · exact fun h => ⟨fun j hj => h j (by omega), h n (by omega)⟩
theorem first_diff (X Y : Nat → R3) (n : Nat) : (∃ j, j < n ∧ same (X j) (Y j) = false ∧ ∀ i, i < j → same (X i) (Y i) = true) ∨ ∀ j, j < n → same (X j) (Y j) = true := by
  induction n with
  | zero => exact .inr fun j hj => by omega
  | succ n ih =>
    rcases ih with ⟨j, hj, h1, h2⟩ | h
    · exact .inl ⟨j, by omega, h1, h2⟩
    · cases e : same (X n) (Y n) with
      | false => exact .inl ⟨n, by omega, e, h⟩
      | true =>
        refine .inr fun j hj => ?_
        by_cases e' : j = n
        · subst e'; exact e
        · exact h j (by omega)
theorem allSame_comm (X Y : Nat → R3) (n : Nat) : allSame X Y n = allSame Y X n := by
  rw [Bool.eq_iff_iff, allSame_iff, allSame_iff]
  exact ⟨fun h j hj => by rw [same_comm]; exact h j hj, fun h j hj => by rw [same_comm]; exact h j hj⟩
theorem allSame_self (X : Nat → R3) (n : Nat) : allSame X X n = true := (allSame_iff X X n).2 fun j _ => same_self (X j)
theorem allSame_cut (X Y : Nat → R3) (k d : Nat) : allSame X Y (k + d) = (allSame X Y k && allSame (fun j => X (k + j)) (fun j => Y (k + j)) d) := by
  rw [Bool.eq_iff_iff, Bool.and_eq_true, allSame_iff, allSame_iff, allSame_iff]
  constructor
  · exact fun h => ⟨fun j hj => h j (by omega), fun j hj => h (k + j) (by omega)⟩
  · rintro ⟨h1, h2⟩ j hj
    by_cases e : j < k
    · exact h1 j e
    · have := h2 (j - k) (by omega)
      rwa [show k + (j - k) = j by omega] at this
/-- One line changed. -/
def change (X : Nat → R3) (i : Nat) (r : R3) (j : Nat) : R3 := if j = i then r else X j
theorem change_at (X : Nat → R3) (i : Nat) (r : R3) : change X i r i = r := if_pos rfl
theorem change_other {X : Nat → R3} {i : Nat} {r : R3} {j : Nat} (h : j ≠ i) : change X i r j = X j := if_neg h
theorem allSame_change {X : Nat → R3} {i n : Nat} {r : R3} (hi : i < n) : allSame X (change X i r) n = same (X i) r := by
  rw [Bool.eq_iff_iff, allSame_iff]
  constructor
  · intro h
    have := h i hi
    rwa [change_at] at this
  · intro h j _
    by_cases e : j = i
    · subst e; rw [change_at]; exact h
    · rw [change_other e]; exact same_self _

/-- Equal of two rows of one length. -/
theorem equal_to (a b : Option Addr) (n c d : Nat) (X Y : Nat → R3) (w : World) (hn : n ≤ 131072) (hA : Lies w a n X) (hB : Lies w b n Y) {v : Bool} (hv : allSame X Y n = v) :
    Calls Try.prog 7 #[.slice a n c, .slice b n d] w fun e w' => e = .returned (.bool v) ∧ ∃ m, w' = w.drewN m := by
  subst hv
  rcases first_diff X Y n with ⟨j, hj, hd, he⟩ | h
  · have hf : allSame X Y n = false := by
      cases hh : allSame X Y n with
      | false => rfl
      | true => rw [(allSame_iff X Y n).1 hh j hj] at hd; cases hd
    rw [hf]
    exact equal_no a b n c d X Y w hn hA hB j hj hd he
  · rw [(allSame_iff X Y n).2 h]
    exact equal_yes a b n c d X Y w hn hA hB h

theorem Own.row {w : World} {g n : Nat} {X : Nat → R3} (h : Own w g n n X) (hn : n ≤ maxLen) : ∃ xs, w.ownsRow 0 33 3 (.slice (some ⟨g, 0, none⟩) n n) n xs := by
  obtain ⟨cs, hg, hs, _⟩ := h
  exact ⟨cs.toList, by simpa using hs, .inr ⟨g, n, cs, rfl, Nat.zero_le _, hg, Nat.le_refl _, hn, hs, List.take_of_length_le (by rw [Array.length_toList, hs]; exact Nat.le_refl _)⟩⟩
theorem cell_three_new (w : World) (a b c : Value) (t : TypeId) : ∀ j u, [a, b, c][j]? = some u → (w.alloc (.cells #[a, b, c] t)).cell? ((⟨w.heap.size, 0, none⟩ : Addr).add j) = some u := by
  intro j u hj
  match j, hj with
  | 0, hj => simp at hj; subst hj; simp [Addr.add]
  | 1, hj => simp at hj; subst hj; simp [Addr.add]
  | 2, hj => simp at hj; subst hj; simp [Addr.add]
  | j + 3, hj => simp at hj
theorem slice_of_row {w : World} {base : Nat} {v : Value} {n : Nat} {xs : List Value} (h : w.ownsRow base 33 3 v (n + 1) xs) : ∃ a c, v = .slice a (n + 1) c := by
  rcases h.2 with ⟨_, h'⟩ | ⟨g, cap, cur, h', _⟩
  · omega
  · exact ⟨_, _, h'⟩

set_option maxRecDepth 100000 in
set_option maxHeartbeats 800000 in
/-- The place is out of range. -/
theorem one_out (a : Option Addr) (n cap : Nat) (i : Int) (r : R3) (w : World) (hl : n ≤ maxLen) (hi : i < 0 ∨ (n : Int) ≤ i) :
    Calls Try.prog 4 #[.slice a n cap, .int .i64 i, .agg #[.int .u32 r.i, .int .u32 r.o, .int .u32 r.l]] w fun e w' => e = .returned (.bool true) ∧ Below w.heap.size w w' := by
  have HML : Hid (n ≤ maxLen) := hl
  unfold maxLen at hl
  go_enter Try.func4, Try.ntmps4
  go_wp2_with fail
  refine (bytes4_any a n cap i r _ HML.out).mono ?_
  rintro e w1 ⟨⟨b, rfl⟩, hb1⟩
  have B1 : Below w.heap.size w w1 := below_on (alloc_below _ _) hb1
  clear hb1
  cases b with
  | false =>
    go_wp2
    go_ret
    exact ⟨rfl, B1⟩
  | true =>
  by_cases hn1 : n ≤ 32768
  case neg =>
    go_wp2
    go_ret
    exact ⟨rfl, B1⟩
  rcases hi with hi | hi
  · go_wp2
    go_ret
    exact ⟨rfl, B1⟩
  · have hi' : ¬ i < 0 := by omega
    go_wp2
    go_ret
    exact ⟨rfl, B1⟩

set_option maxRecDepth 100000 in
set_option maxHeartbeats 800000 in
theorem one_walk (a : Option Addr) (n cap : Nat) (X : Nat → R3) (i : Nat) (r : R3) (w : World) (hl : n ≤ maxLen) (hL : Lies w a n X) (hi : i < n) :
    Calls Try.prog 4 #[.slice a n cap, .int .i64 i, .agg #[.int .u32 r.i, .int .u32 r.o, .int .u32 r.l]] w fun e w' => e = .returned (.bool true) ∧ Below w.heap.size w w' := by
  have HML : Hid (n ≤ maxLen) := hl
  have HL : Hid (Lies w a n X) := hL
  unfold maxLen at hl
  rcases hL with h | ⟨g, o, rfl, hc⟩
  · omega
  obtain ⟨m0, m1, m2⟩ := hc i hi
  clear hc
  have heq := eql31
  obtain ⟨i0, hi0, hz0, hz1, hz2⟩ := info_parts Try.info33
  go_enter Try.func4, Try.ntmps4
  go_wp2_with fail
  refine (bytes4_any _ n cap i r _ HML.out).mono ?_
  rintro e w1 ⟨⟨b, rfl⟩, hb1⟩
  have B1 : Below w.heap.size w w1 := below_on (alloc_below _ _) hb1
  have R1 : Blk w1 w.heap.size #[.int .u32 r.i, .int .u32 r.o, .int .u32 r.l] 31 := (Blk.new w _ _).keep hb1
  clear hb1
  cases b with
  | false =>
    go_wp2
    go_ret
    exact ⟨rfl, B1⟩
  | true =>
  by_cases hn1 : n ≤ 32768
  case neg =>
    go_wp2
    go_ret
    exact ⟨rfl, B1⟩
  obtain ⟨r0, r1, r2⟩ := R1.three
  have c0 := cell_keep B1 m0
  have c1 := cell_keep B1 m1
  have c2 := cell_keep B1 m2
  clear m0 m1 m2
  have hi1 : (i : Int) < (n : Int) := by omega
  go_wp2_with fail
  go_quiet (fail)
  go_wp2_with fail
  generalize hsm : same (X i) r = sm at *
  have HSM : Hid (same (X i) r = sm) := hsm
  clear hsm heq c0 c1 c2
  refine (toMap_any _ n cap X _ (by omega) (HL.out.keep (below_drewN B1 _))).mono ?_
  rintro e w2 ⟨rfl, O2, hb2⟩
  have B2 := below_on (below_drewN B1 _) hb2
  have R2 := (R1.keep (drewN_below _ _)).keep hb2
  have LA2 := O2.lies
  clear O2 hb2 R1 B1 r0 r1 r2
  generalize (w1.drewN nq).heap.size = GA at *
  go_wp2_with fail
  refine (toMap_any _ n cap X _ (by omega) (HL.out.keep B2)).mono ?_
  rintro e w3 ⟨rfl, O3, hb3⟩
  have B3 := below_on B2 hb3
  have R3' := R2.keep hb3
  have LA3 := LA2.keep hb3
  have LC3 := O3.lies
  clear O3 hb3 R2 B2 LA2
  generalize w2.heap.size = GC at *
  go_wp2_with fail
  refine (toMap_any _ n cap X _ (by omega) (HL.out.keep B3)).mono ?_
  rintro e w4 ⟨rfl, O4, hb4⟩
  have R4 := R3'.keep hb4
  obtain ⟨r0, r1, r2⟩ := R4.three
  clear R4
  go_wp2_with (first | (go_at_call 10; refine (range_any r _).mono ?_; rintro e w5 ⟨rfl, hb5⟩; have O5 := O4.keep hb5; obtain ⟨⟨y0, e0⟩, ⟨y1, e1⟩, ⟨y2, e2⟩, f0, f1, f2⟩ := own_cells O5 i hi))
  have b5 : Below w3.heap.size w3 (((w5.setCell ⟨w3.heap.size, i * 3, none⟩ (.int .u32 r.i)).setCell ⟨w3.heap.size, i * 3 + 1, none⟩ (.int .u32 r.o)).setCell ⟨w3.heap.size, i * 3 + 2, none⟩ (.int .u32 r.l)) := (((below_on hb4 hb5).setCell (Nat.le_refl _) _).setCell (Nat.le_refl _) _).setCell (Nat.le_refl _) _
  have O6 : Own (((w5.setCell ⟨w3.heap.size, i * 3, none⟩ (.int .u32 r.i)).setCell ⟨w3.heap.size, i * 3 + 1, none⟩ (.int .u32 r.o)).setCell ⟨w3.heap.size, i * 3 + 2, none⟩ (.int .u32 r.l)) w3.heap.size n n (change X i r) :=
    own_set O5 hi (fun j hj => by
      by_cases ej : j = i
      · exact .inl ej
      · exact .inr ⟨hj, change_other ej⟩) (change_at X i r)
  have B6 := below_on B3 b5
  have R6 := R3'.keep b5
  have LA6 := LA3.keep b5
  have LC6 := LC3.keep b5
  have LB6 := O6.lies
  clear O4 hb4 r0 r1 r2 O5 hb5 e0 e1 e2 f0 f1 f2 b5 O6 B3 R3' LA3 LC3
  generalize ((w5.setCell ⟨w3.heap.size, i * 3, none⟩ (.int .u32 r.i)).setCell ⟨w3.heap.size, i * 3 + 1, none⟩ (.int .u32 r.o)).setCell ⟨w3.heap.size, i * 3 + 2, none⟩ (.int .u32 r.l) = w6 at *
  generalize w3.heap.size = GB at *
  refine (toMap_any _ n cap X _ (by omega) (HL.out.keep B6)).mono ?_
  rintro e w7 ⟨rfl, O7, hb7⟩
  have R7 := R6.keep hb7
  obtain ⟨r0, r1, r2⟩ := R7.three
  go_wp2_with fail
  refine (range_any r _).mono ?_
  rintro e w8 ⟨rfl, hb8⟩
  obtain ⟨xs, hrow⟩ := (O7.keep hb8).row (by unfold maxLen; omega)
  go_wp2_with (first | (at_builtin; refine wpList_append_own _ rfl _ _ 25 rfl 0 33 i0 _ 3 12 Try.underlying25 hi0 hz0 hz1 hz2 rfl (by decide) _ n _ rfl (hrow.alloc _) ⟨w8.heap.size, 0, none⟩ 1 1 [.int .u32 r.i, .int .u32 r.o, .int .u32 r.l] rfl rfl (cell_three_new _ _ _ _ _) (ints_oneCell .u32 [r.i, r.o, r.l]) (by unfold maxLen; omega) (by omega) (by omega) ?_; intro v9 w9 hown9 hgrow9 _; obtain ⟨a9, c9, hv9⟩ := slice_of_row hown9; rw [hv9]))
  have b9 : Below w6.heap.size w6 w9 := ((below_on hb7 hb8).alloc (below_on hb7 hb8).size _).grown hgrow9 (by simp; exact Nat.le_succ_of_le (below_on hb7 hb8).size) (fun k hk => by cases hk; exact Nat.le_refl _)
  have B9 := below_on B6 b9
  have LA9 := LA6.keep b9
  have LB9 := LB6.keep b9
  have LC9 := LC6.keep b9
  have HS1 : Hid (allSame X (change X i r) n = sm) := (allSame_change hi).trans HSM.out
  have HS2 : Hid (allSame (change X i r) X n = sm) := (allSame_comm _ _ _).trans HS1.out
  clear b9 hown9 hgrow9 hv9 hrow hb8 hb7 O7 R7 r0 r1 r2 R6 B6 LA6 LB6 LC6 HSM
  refine (equal_to _ _ n n n X X _ (by omega) LA9 LC9 (allSame_self X n)).mono ?_
  rintro e w10 ⟨rfl, q1, rfl⟩
  go_wp2_with fail
  refine (equal_to _ _ n n n X (change X i r) _ (by omega) ?_ ?_ HS1.out).mono ?_
  · exact LA9.keep (drewN_below _ _)
  · exact LB9.keep (drewN_below _ _)
  rintro e w10 ⟨rfl, q2, rfl⟩
  go_wp2_with fail
  refine (equal_to _ _ n n n (change X i r) X _ (by omega) ?_ ?_ HS2.out).mono ?_
  · exact LB9.keep (drewN_below _ _)
  · exact LA9.keep (drewN_below _ _)
  rintro e w10 ⟨rfl, q3, rfl⟩
  go_wp2_with fail
  refine (equal_len _ _ n (n + 1) _ _ _ (by omega)).mono ?_
  rintro e w10 ⟨rfl, q4, rfl⟩
  go_wp2_with fail
  refine (equal_len _ _ (n + 1) n _ _ _ (by omega)).mono ?_
  rintro e w10 ⟨rfl, q5, rfl⟩
  go_wp2
  go_ret
  exact ⟨rfl, below_on B9 (drewN_below _ _)⟩
end Go.Proofs.Qxb6632559a
