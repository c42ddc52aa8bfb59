import Derived.Test.Qxb6632559aOne
import Derived.Deep.RegionWith
namespace Go.Proofs.Qxb6632559a
open Go.RowKit

/-- The first's lines, then the second's. -/
def joined (X Y : Nat → R3) (n : Nat) (j : Nat) : R3 := if j < n then X j else Y (j - n)
theorem joined_lo {X Y : Nat → R3} {n j : Nat} (h : j < n) : joined X Y n j = X j := by unfold joined; rw [if_pos h]
theorem joined_hi {X Y : Nat → R3} {n j : Nat} : joined X Y n (n + j) = Y j := by unfold joined; rw [if_neg (by omega), Nat.add_sub_cancel_left]

theorem Lies.take {w : World} {a : Option Addr} {n : Nat} {X : Nat → R3} (h : Lies w a n X) {i : Nat} (hi : i ≤ n) : Lies w a i X := by
  rcases h with h | ⟨g, o, ha, hc⟩
  · exact .inl (by omega)
  · exact .inr ⟨g, o, ha, fun j hj => hc j (by omega)⟩

/-- Where a cut of the call's own row begins. -/
theorem cut_at (g n k : Nat) (X : Nat → R3) (hk : k ≤ n) : ∃ A, (if n = k then some (⟨g, 0, none⟩ : Addr) else some ⟨g, k * 3, none⟩) = some A ∧ Hid (∀ wz, Lies wz (some ⟨g, 0, none⟩) n X → Lies wz (some A) (n - k) (fun j => X (k + j))) := by
  by_cases e : n = k
  · exact ⟨⟨g, 0, none⟩, if_pos e, fun _ _ => .inl (by omega)⟩
  · refine ⟨⟨g, k * 3, none⟩, if_neg e, fun wz h => ?_⟩
    rcases h with h | ⟨g', o', ha, hc⟩
    · exact .inl (by omega)
    · cases ha
      refine .inr ⟨g, k * 3, rfl, fun j hj => ?_⟩
      have := hc (k + j) (by omega)
      rwa [show 0 + (k + j) * 3 = k * 3 + j * 3 by omega] at this

set_option maxRecDepth 100000 in
set_option maxHeartbeats 800000 in
theorem join_any (a b : Option Addr) (n cap k cap2 : Nat) (X Y : Nat → R3) (w : World) (hn : n ≤ 65536) (hk : k ≤ 65536) (hA : Lies w a n X) (hB : Lies w b k Y) :
    Calls Try.prog 8 #[.slice a n cap, .slice b k cap2] w fun e w' => e = .returned (.slice (some ⟨w.heap.size, 0, none⟩) (n + k) (n + k)) ∧ Own w' w.heap.size (n + k) (n + k) (joined X Y n) ∧ Below w.heap.size w w' := by
  have HL : Hid (Lies w a n X ∧ Lies w b k Y) := ⟨hA, hB⟩
  clear hA hB
  obtain ⟨i0, hi, hz0, hz1, hz2⟩ := info_parts Try.info33
  go_enter Try.func8, Try.ntmps8
  go_wp2_with (first | (at_make; refine wpList_make_full _ rfl _ _ 25 rfl 0 33 i0 _ 3 Try.underlying25 hi hz0 hz1 .i64 .i64 _ _ (n + k) rfl rfl (by omega) (by omega) (by rw [hz2]; omega) (by unfold maxLen; omega) (by omega) ?_; intro w1 hown1 hgrow1))
  have hO : Own w1 w.heap.size (n + k) 0 (joined X Y n) := own_new _ hown1
  have hB : Below w.heap.size w w1 := (Below.refl _ _).grown hgrow1 (Nat.le_refl _) (fun k hk => by cases hk)
  clear hown1 hgrow1
  go_loopw [6] (fun i wr => ∃ t : Nat, t ≤ n ∧ i = .int .i64 t ∧ Own wr w.heap.size (n + k) t (joined X Y n) ∧ Below w.heap.size w wr) (fun i _ => n - (intOf i).toNat)
  case atStart => exact ⟨0, by omega, rfl, hO, hB⟩
  case round =>
    clear hO hB
    obtain ⟨t, ht, rfl, hO, hB⟩ := hrel
    by_cases hlt : t < n
    · rcases HL.out.1 with h | ⟨g, o, rfl, hc⟩
      · omega
      obtain ⟨h0, h1, h2⟩ := hc t hlt
      clear hc
      have c0 := cell_keep hB h0
      have c1 := cell_keep hB h1
      have c2 := cell_keep hB h2
      clear h0 h1 h2
      have htk : t < n + k := by omega
      have HJ : Hid (joined X Y n t = X t) := joined_lo hlt
      go_wp2_with (first | (go_at_call 10; refine (range_any (X t) _).mono ?_; rintro e w2 ⟨rfl, hb2⟩; have hO2 := hO.keep hb2; obtain ⟨⟨y0, e0⟩, ⟨y1, e1⟩, ⟨y2, e2⟩, f0, f1, f2⟩ := own_cells hO2 t htk))
      go_roundw
      case rel => exact ⟨t + 1, by omega, by go_num, own_store hO2 htk HJ.out, (((hB.trans (hb2.mono hB.size)).setCell (Nat.le_refl _) _).setCell (Nat.le_refl _) _).setCell (Nat.le_refl _) _⟩
      case measure => simp [intOf]; omega
    · obtain rfl : n = t := by omega
      obtain ⟨w4, rfl⟩ : ∃ w4, w4 = wr := ⟨_, rfl⟩
      go_wp2_with fail
      go_loopw [7] (fun i wr => ∃ t : Nat, t ≤ k ∧ i = .int .i64 t ∧ Own wr w.heap.size (n + k) (n + t) (joined X Y n) ∧ Below w.heap.size w wr) (fun i _ => k - (intOf i).toNat)
      case atStart => exact ⟨0, by omega, rfl, hO, hB⟩
      case round =>
        clear hO hB
        obtain ⟨t, ht, rfl, hO, hB⟩ := hrel
        by_cases hlt : t < k
        · rcases HL.out.2 with h | ⟨g, o, rfl, hc⟩
          · omega
          obtain ⟨h0, h1, h2⟩ := hc t hlt
          clear hc
          have c0 := cell_keep hB h0
          have c1 := cell_keep hB h1
          have c2 := cell_keep hB h2
          clear h0 h1 h2
          have htk : n + t < n + k := by omega
          have HJ : Hid (joined X Y n (n + t) = Y t) := joined_hi
          go_wp2_with (first | (go_at_call 10; refine (range_any (Y t) _).mono ?_; rintro e w2 ⟨rfl, hb2⟩; have hO2 := hO.keep hb2; obtain ⟨⟨y0, e0⟩, ⟨y1, e1⟩, ⟨y2, e2⟩, f0, f1, f2⟩ := own_cells hO2 (n + t) htk))
          go_roundw
          case rel => exact ⟨t + 1, by omega, by go_num, own_store hO2 htk HJ.out, (((hB.trans (hb2.mono hB.size)).setCell (Nat.le_refl _) _).setCell (Nat.le_refl _) _).setCell (Nat.le_refl _) _⟩
          case measure => simp [intOf]; omega
        · obtain rfl : k = t := by omega
          go_wp2
          go_ret
          exact ⟨rfl, hO, hB⟩

set_option maxRecDepth 100000 in
set_option maxHeartbeats 800000 in
/-- The cut is out of range. -/
theorem cut_out (a b : Option Addr) (n cap n2 cap2 : Nat) (i : Int) (w : World) (hl : n ≤ maxLen) (hl2 : n2 ≤ maxLen) (hi : i < 0 ∨ (n : Int) < i ∨ (n2 : Int) < i) :
    Calls Try.prog 3 #[.slice a n cap, .slice b n2 cap2, .int .i64 i] w fun e w' => e = .returned (.bool true) ∧ Below w.heap.size w w' := by
  have HML : Hid (n ≤ maxLen ∧ n2 ≤ maxLen) := ⟨hl, hl2⟩
  unfold maxLen at hl hl2
  go_enter Try.func3, Try.ntmps3
  go_wp2_with fail
  refine (bytes3_any a b n cap n2 cap2 i _ HML.out.1 HML.out.2).mono ?_
  rintro e w1 ⟨⟨bb, rfl⟩, rfl⟩
  cases bb with
  | false =>
    go_wp2
    go_ret
    exact ⟨rfl, Below.refl _ _⟩
  | true =>
  by_cases hn1 : n ≤ 32768
  case neg =>
    go_wp2
    go_ret
    exact ⟨rfl, Below.refl _ _⟩
  by_cases hn2 : n2 ≤ 32768
  case neg =>
    go_wp2
    go_ret
    exact ⟨rfl, Below.refl _ _⟩
  by_cases h0 : i < 0
  · go_wp2
    go_ret
    exact ⟨rfl, Below.refl _ _⟩
  · by_cases h1 : (n : Int) < i
    · go_wp2
      go_ret
      exact ⟨rfl, Below.refl _ _⟩
    · have h2 : (n2 : Int) < i := by omega
      clear hi
      go_wp2
      go_ret
      exact ⟨rfl, Below.refl _ _⟩

set_option maxRecDepth 100000 in
set_option maxHeartbeats 1000000 in
theorem cut_walk (a b : Option Addr) (n cap n2 cap2 : Nat) (X Y : Nat → R3) (k : Nat) (w : World) (hl : n ≤ maxLen) (hl2 : n2 ≤ maxLen) (hA : Lies w a n X) (hB : Lies w b n2 Y) (hk : k ≤ n) (hk2 : k ≤ n2) :
    Calls Try.prog 3 #[.slice a n cap, .slice b n2 cap2, .int .i64 k] w fun e w' => e = .returned (.bool true) ∧ Below w.heap.size w w' := by
  have HML : Hid (n ≤ maxLen ∧ n2 ≤ maxLen) := ⟨hl, hl2⟩
  have HL : Hid (Lies w a n X ∧ Lies w b n2 Y) := ⟨hA, hB⟩
  unfold maxLen at hl hl2
  clear hA hB
  go_enter Try.func3, Try.ntmps3
  go_wp2_with fail
  refine (bytes3_any a b n cap n2 cap2 k _ HML.out.1 HML.out.2).mono ?_
  rintro e w1 ⟨⟨bb, rfl⟩, rfl⟩
  cases bb with
  | false =>
    go_wp2
    go_ret
    exact ⟨rfl, Below.refl _ _⟩
  | true =>
  by_cases hn1 : n ≤ 32768
  case neg =>
    go_wp2
    go_ret
    exact ⟨rfl, Below.refl _ _⟩
  by_cases hn2 : n2 ≤ 32768
  case neg =>
    go_wp2
    go_ret
    exact ⟨rfl, Below.refl _ _⟩
  have hi1 : (k : Int) ≤ (n : Int) := by omega
  have hi2 : (k : Int) ≤ (n2 : Int) := by omega
  go_wp2_with fail
  refine (toMap_any _ n cap X _ (by omega) HL.out.1).mono ?_
  rintro e w2 ⟨rfl, O2, B2⟩
  have LA2 := O2.lies
  clear O2
  go_wp2_with fail
  refine (toMap_any _ n2 cap2 Y _ (by omega) (HL.out.2.keep B2)).mono ?_
  rintro e w3 ⟨rfl, O3, hb3⟩
  have B3 := below_on B2 hb3
  have LA3 := LA2.keep hb3
  have LB3 := O3.lies
  clear O3 LA2 hb3 B2
  generalize w2.heap.size = GB at *
  by_cases hnn : n = n2
  · subst hnn
    clear hn2 hi2 hk2 hl2
    have HC : Hid (allSame X Y n = (allSame X Y k && allSame (fun j => X (k + j)) (fun j => Y (k + j)) (n - k))) := by
      have := allSame_cut X Y k (n - k)
      rwa [show k + (n - k) = n by omega] at this
    cases hv1 : allSame X Y k with
    | false =>
      have HV1 : Hid (allSame X Y k = false) := hv1
      have HV : Hid (allSame X Y n = false) := by show allSame X Y n = false; rw [HC.out, hv1]; rfl
      clear hv1 HC
      go_wp2_with fail
      refine (equal_to _ _ n n n X Y _ (by omega) LA3 LB3 HV.out).mono ?_
      rintro e w4 ⟨rfl, q1, hq⟩
      have B4 : Below w.heap.size w w4 := by rw [hq]; exact below_drewN B3 _
      have LA4 : Lies w4 (some ⟨w.heap.size, 0, none⟩) n X := by rw [hq]; exact LA3.keep (drewN_below _ _)
      have LB4 : Lies w4 (some ⟨GB, 0, none⟩) n Y := by rw [hq]; exact LB3.keep (drewN_below _ _)
      clear hq B3 LA3 LB3
      go_wp2_with fail
      go_quiet ((go_at_call 7; refine Calls.quiet_of (equal_to _ _ k n n X Y _ (by omega) ?_ ?_ HV1.out); exact (LA4.take hk).keep (drewN_below _ _); exact (LB4.take hk).keep (drewN_below _ _)))
      go_wp2_with fail
      have B5 : Below w.heap.size w (w4.drewN nq) := below_drewN B4 _
      have LA5 : Lies (w4.drewN nq) (some ⟨w.heap.size, 0, none⟩) n X := LA4.keep (drewN_below _ _)
      have LB5 : Lies (w4.drewN nq) (some ⟨GB, 0, none⟩) n Y := LB4.keep (drewN_below _ _)
      clear B4 LA4 LB4
      generalize w4.drewN nq = w5 at B5 LA5 LB5 ⊢
      refine (equal_to _ _ n n n Y X _ (by omega) LB5 LA5 ((allSame_comm _ _ _).trans HV.out)).mono ?_
      rintro e w6 ⟨rfl, q2, hq⟩
      have B6 : Below w.heap.size w w6 := by rw [hq]; exact below_drewN B5 _
      clear hq B5 LA5 LB5
      go_wp2_with fail
      refine (join_any a b n cap n cap2 X Y _ (by omega) (by omega) ?_ ?_).mono ?_
      · exact HL.out.1.keep B6
      · exact HL.out.2.keep B6
      rintro e w7 ⟨rfl, O7, hb7⟩
      have B7 := below_on B6 hb7
      have LJ7 := O7.lies
      clear O7 hb7 B6
      go_wp2_with fail
      refine (join_any a b n cap n cap2 X Y _ (by omega) (by omega) ?_ ?_).mono ?_
      · exact HL.out.1.keep B7
      · exact HL.out.2.keep B7
      rintro e w8 ⟨rfl, O8, hb8⟩
      have B8 := below_on B7 hb8
      have LJ8 := LJ7.keep hb8
      have LK8 := O8.lies
      clear O8 hb8 B7 LJ7
      go_wp2_with fail
      refine (equal_to _ _ (n + n) _ _ (joined X Y n) (joined X Y n) _ (by omega) LJ8 LK8 (allSame_self _ _)).mono ?_
      rintro e w9 ⟨rfl, q5, rfl⟩
      go_wp2
      go_ret
      exact ⟨rfl, below_on B8 (drewN_below _ _)⟩
    | true =>
      have HV1 : Hid (allSame X Y k = true) := hv1
      generalize hv2 : allSame (fun j => X (k + j)) (fun j => Y (k + j)) (n - k) = v at *
      have HV2 : Hid (allSame (fun j => X (k + j)) (fun j => Y (k + j)) (n - k) = v) := hv2
      have HV : Hid (allSame X Y n = v) := by show allSame X Y n = v; rw [HC.out, hv1]; rfl
      clear hv1 hv2 HC
      obtain ⟨AA, hAA, HAA⟩ : ∃ AA, (if n = k then some (⟨w.heap.size, 0, none⟩ : Addr) else some ⟨w.heap.size, k * 3, none⟩) = some AA ∧ Hid (∀ wz, Lies wz (some ⟨w.heap.size, 0, none⟩) n X → Lies wz (some AA) (n - k) (fun j => X (k + j))) := cut_at _ _ _ _ hk
      obtain ⟨BB, hBB, HBB⟩ : ∃ BB, (if n = k then some (⟨GB, 0, none⟩ : Addr) else some ⟨GB, k * 3, none⟩) = some BB ∧ Hid (∀ wz, Lies wz (some ⟨GB, 0, none⟩) n Y → Lies wz (some BB) (n - k) (fun j => Y (k + j))) := cut_at _ _ _ _ hk
      go_wp2_with fail
      refine (equal_to _ _ n n n X Y _ (by omega) LA3 LB3 HV.out).mono ?_
      rintro e w4 ⟨rfl, q1, hq⟩
      have B4 : Below w.heap.size w w4 := by rw [hq]; exact below_drewN B3 _
      have LA4 : Lies w4 (some ⟨w.heap.size, 0, none⟩) n X := by rw [hq]; exact LA3.keep (drewN_below _ _)
      have LB4 : Lies w4 (some ⟨GB, 0, none⟩) n Y := by rw [hq]; exact LB3.keep (drewN_below _ _)
      clear hq B3 LA3 LB3
      go_wp2_with fail
      go_quiet (first
        | (go_at_call_of 7 (some AA); refine Calls.quiet_of (equal_to _ _ (n - k) (n - k) (n - k) (fun j => X (k + j)) (fun j => Y (k + j)) _ (by omega) ?_ ?_ HV2.out); exact (HAA.out _ LA4).keep (drewN_below _ _); exact (HBB.out _ LB4).keep (drewN_below _ _))
        | (go_at_call 7; refine Calls.quiet_of (equal_to _ _ k n n X Y _ (by omega) ?_ ?_ HV1.out); exact (LA4.take hk).keep (drewN_below _ _); exact (LB4.take hk).keep (drewN_below _ _)))
      go_wp2_with fail
      have B5 : Below w.heap.size w (w4.drewN nq) := below_drewN B4 _
      have LA5 : Lies (w4.drewN nq) (some ⟨w.heap.size, 0, none⟩) n X := LA4.keep (drewN_below _ _)
      have LB5 : Lies (w4.drewN nq) (some ⟨GB, 0, none⟩) n Y := LB4.keep (drewN_below _ _)
      clear B4 LA4 LB4
      generalize w4.drewN nq = w5 at B5 LA5 LB5 ⊢
      clear hAA hBB HAA HBB
      refine (equal_to _ _ n n n Y X _ (by omega) LB5 LA5 ((allSame_comm _ _ _).trans HV.out)).mono ?_
      rintro e w6 ⟨rfl, q2, hq⟩
      have B6 : Below w.heap.size w w6 := by rw [hq]; exact below_drewN B5 _
      clear hq B5 LA5 LB5
      go_wp2_with fail
      refine (join_any a b n cap n cap2 X Y _ (by omega) (by omega) ?_ ?_).mono ?_
      · exact HL.out.1.keep B6
      · exact HL.out.2.keep B6
      rintro e w7 ⟨rfl, O7, hb7⟩
      have B7 := below_on B6 hb7
      have LJ7 := O7.lies
      clear O7 hb7 B6
      go_wp2_with fail
      refine (join_any a b n cap n cap2 X Y _ (by omega) (by omega) ?_ ?_).mono ?_
      · exact HL.out.1.keep B7
      · exact HL.out.2.keep B7
      rintro e w8 ⟨rfl, O8, hb8⟩
      have B8 := below_on B7 hb8
      have LJ8 := LJ7.keep hb8
      have LK8 := O8.lies
      clear O8 hb8 B7 LJ7
      go_wp2_with fail
      refine (equal_to _ _ (n + n) _ _ (joined X Y n) (joined X Y n) _ (by omega) LJ8 LK8 (allSame_self _ _)).mono ?_
      rintro e w9 ⟨rfl, q5, rfl⟩
      go_wp2
      go_ret
      exact ⟨by simp, below_on B8 (drewN_below _ _)⟩
  · have hne : ((n : Int) == (n2 : Int)) = false := beq_eq_false_iff_ne.2 (by omega)
    have HNN : Hid (n ≠ n2) := hnn
    clear hnn
    go_wp2_with fail
    refine (equal_len _ _ n n2 _ _ _ HNN.out).mono ?_
    rintro e w4 ⟨rfl, q1, hq⟩
    have B4 : Below w.heap.size w w4 := by rw [hq]; exact below_drewN B3 _
    have LA4 : Lies w4 (some ⟨w.heap.size, 0, none⟩) n X := by rw [hq]; exact LA3.keep (drewN_below _ _)
    have LB4 : Lies w4 (some ⟨GB, 0, none⟩) n2 Y := by rw [hq]; exact LB3.keep (drewN_below _ _)
    clear hq B3 LA3 LB3
    go_wp2_with fail
    go_quiet (fail)
    go_wp2_with fail
    have B5 : Below w.heap.size w (w4.drewN nq) := below_drewN B4 _
    have LA5 : Lies (w4.drewN nq) (some ⟨w.heap.size, 0, none⟩) n X := LA4.keep (drewN_below _ _)
    have LB5 : Lies (w4.drewN nq) (some ⟨GB, 0, none⟩) n2 Y := LB4.keep (drewN_below _ _)
    clear B4 LA4 LB4
    generalize w4.drewN nq = w5 at B5 LA5 LB5 ⊢
    refine (equal_len _ _ n2 n _ _ _ (fun h => HNN.out h.symm)).mono ?_
    rintro e w6 ⟨rfl, q2, hq⟩
    have B6 : Below w.heap.size w w6 := by rw [hq]; exact below_drewN B5 _
    clear hq B5 LA5 LB5
    go_wp2_with fail
    refine (join_any a b n cap n2 cap2 X Y _ (by omega) (by omega) ?_ ?_).mono ?_
    · exact HL.out.1.keep B6
    · exact HL.out.2.keep B6
    rintro e w7 ⟨rfl, O7, hb7⟩
    have B7 := below_on B6 hb7
    have LJ7 := O7.lies
    clear O7 hb7 B6
    go_wp2_with fail
    refine (join_any a b n cap n2 cap2 X Y _ (by omega) (by omega) ?_ ?_).mono ?_
    · exact HL.out.1.keep B7
    · exact HL.out.2.keep B7
    rintro e w8 ⟨rfl, O8, hb8⟩
    have B8 := below_on B7 hb8
    have LJ8 := LJ7.keep hb8
    have LK8 := O8.lies
    clear O8 hb8 B7 LJ7
    go_wp2_with fail
    refine (equal_to _ _ (n + n2) _ _ (joined X Y n) (joined X Y n) _ (by omega) LJ8 LK8 (allSame_self _ _)).mono ?_
    rintro e w9 ⟨rfl, q5, rfl⟩
    go_wp2
    go_ret
    exact ⟨rfl, below_on B8 (drewN_below _ _)⟩
end Go.Proofs.Qxb6632559a
