import Derived.Test.Qxb6632472aMid
namespace Go.Proofs.Qxb6632472a
open Go.RowKit

/-- lo's words, then hi's. -/
def joined (Z Y : Nat → Int) (n : Nat) (j : Nat) : Int := if j < n then Z j else Y (j - n)
theorem joined_lo {Z Y : Nat → Int} {n j : Nat} (h : j < n) : joined Z Y n j = Z j := by unfold joined; rw [if_pos h]
theorem joined_hi {Z Y : Nat → Int} {n j : Nat} : joined Z Y n (n + j) = Y j := by unfold joined; rw [if_neg (by omega), Nat.add_sub_cancel_left]

theorem ret_bool {b : Bool} (h : b = true) : Ending.returned (.bool b) = .returned (.bool true) := by rw [h]

set_option maxRecDepth 100000 in
set_option maxHeartbeats 1600000 in
theorem grow_walk (a b : Option Addr) (n cap k cap2 : Nat) (Z Y : Nat → Int) (ng nh : Bool) (ex ey pr : Int) (w : World) (hl : n ≤ maxLen) (hk : k ≤ maxLen) (ha : a = none → n = 0 ∧ cap = 0) (hb : b = none → k = 0 ∧ cap2 = 0) (hL : Lies w a n Z) (hM : Lies w b k Y)
    (hZ : ∀ j, j < n → 0 ≤ Z j) (hpr : 0 ≤ pr ∧ pr ≤ 4294967295) :
    Calls Try.prog 4 #[.slice a n cap, .slice b k cap2, .bool ng, .bool nh, .int .i32 ex, .int .i32 ey, .int .u32 pr] w fun e w' => e = .returned (.bool true) ∧ Below w.heap.size w w' := by
  have HL : Hid (Lies w a n Z ∧ Lies w b k Y) := ⟨hL, hM⟩
  have HA : Hid ((a = none → n = 0 ∧ cap = 0) ∧ (b = none → k = 0 ∧ cap2 = 0)) := ⟨ha, hb⟩
  have HZ : Hid (∀ j, j < n → 0 ≤ Z j) := hZ
  have HML : Hid (n ≤ maxLen ∧ k ≤ maxLen) := ⟨hl, hk⟩
  obtain ⟨hpr0, hpr1⟩ := hpr
  unfold maxLen at hl hk
  clear hL hM ha hb hZ
  obtain ⟨i0, hi0, hz0, hz1, hz2⟩ := info_parts Try.info28
  go_enter Try.func4, Try.ntmps4
  go_wp2_with fail
  refine (bytes4_any a b n cap k cap2 ng nh ex ey pr _ HML.out.1 HML.out.2).mono ?_
  rintro e w1 ⟨⟨bb, rfl⟩, rfl⟩
  cases bb with
  | false =>
    go_wp2
    go_ret
    exact ⟨rfl, Below.refl _ _⟩
  | true =>
  by_cases hn1 : n ≤ 65536
  case neg =>
    go_wp2
    go_ret
    exact ⟨rfl, Below.refl _ _⟩
  by_cases hk1 : k ≤ 65536
  case neg =>
    go_wp2
    go_ret
    exact ⟨rfl, Below.refl _ _⟩
  go_wp2_with fail
  refine (valid_any a n cap Z _ HML.out.1 HL.out.1).mono ?_
  rintro e w1 ⟨⟨bb, rfl, hval⟩, rfl⟩
  cases bb with
  | false =>
    clear hval
    go_wp2
    go_ret
    exact ⟨rfl, Below.refl _ _⟩
  | true =>
  have HV : Hid (Valid n Z) := hval rfl
  have hn0 : 1 ≤ n := HV.out.1
  obtain ⟨W, hW⟩ := Int.eq_ofNat_of_zero_le (HZ.out 0 (by omega))
  have HW : Hid (Z 0 = W ∧ 0 < W ∧ W < 10 ^ 19) := by
    have h1 := HV.out.2.1 0 (by omega)
    have h2 := HV.out.2.2.2
    rw [hW] at h1 h2
    refine ⟨hW, by omega, ?_⟩
    show W < 10 ^ 19
    simp only [Nat.reducePow]
    omega
  have hT : tz 19 W ≤ 18 := by have := tz_lt HW.out.2.1 HW.out.2.2; omega
  clear hval hW HV
  by_cases hk0 : k = 0
  · have hk0' : ¬ (0 : Int) < (k : Int) := by omega
    clear hk0
    by_cases hpp : pr < 19 * ((n : Int) + (k : Int))
    · go_wp2
      go_ret
      exact ⟨rfl, Below.refl _ _⟩
    · go_wp2_with fail
      refine (clone_any a n cap Z _ hn1 HA.out.1 HL.out.1).mono ?_
      rintro e w2 ⟨a2, c2, rfl, L2, B2⟩
      go_wp2_with fail
      refine (clone_any b k cap2 Y _ hk1 HA.out.2 (HL.out.2.keep B2)).mono ?_
      rintro e w3 ⟨a3, c3, rfl, L3, b3⟩
      have B3 := below_on B2 b3
      have L23 := L2.keep b3
      clear B2 L2 b3
      go_wp2_with (first | (at_make; refine wpList_make_full _ rfl _ _ 22 rfl 0 28 i0 _ 1 Try.underlying22 hi0 hz0 hz1 .i64 .i64 _ _ (n + k) rfl rfl (by omega) (by omega) (by rw [hz2]; omega) (by unfold maxLen; omega) (by omega) ?_; intro w4 hown4 hgrow4))
      have O4 : Own w4 w3.heap.size (n + k) 0 (joined Z Y n) := own_new _ hown4
      have B4 : Below w3.heap.size w3 w4 := (Below.refl _ _).grown hgrow4 (Nat.le_refl _) (fun k hk => by cases hk)
      have HF : Hid (Lies w3 a2 n Z ∧ Lies w3 a3 k Y ∧ Below w.heap.size w w3) := ⟨L23, L3, B3⟩
      clear hown4 hgrow4 L23 L3 B3
      go_loopw [17] (fun q wr => ∃ t : Nat, t ≤ n ∧ q = .int .i64 t ∧ Own wr w3.heap.size (n + k) t (joined Z Y n) ∧ Below w3.heap.size w3 wr) (fun q _ => n - (intOf q).toNat)
      case atStart => exact ⟨0, by omega, rfl, O4, B4⟩
      case round =>
        clear O4 B4
        obtain ⟨t, ht, rfl, hO, hB⟩ := hrel
        by_cases htn : t < n
        · rcases HF.out.1.keep hB with h | ⟨g5, o5, rfl, hc⟩
          · omega
          have c0 := hc t htn
          clear hc
          obtain ⟨⟨y0, e0⟩, f0⟩ := own_cells hO t (by omega)
          have htk : t < n + k := by omega
          have HJ : Hid (joined Z Y n t = Z t) := joined_lo htn
          go_wp2
          go_roundw
          case rel => exact ⟨t + 1, by omega, by go_num, own_store hO htk HJ.out, hB.setCell (Nat.le_refl _) _⟩
          case measure => simp [intOf]; omega
        · obtain rfl : n = t := by omega
          obtain ⟨w5, rfl⟩ : ∃ w5, w5 = wr := ⟨_, rfl⟩
          go_wp2_with fail
          go_loopw [18] (fun q wr => ∃ t : Nat, t ≤ k ∧ q = .int .i64 t ∧ Own wr w3.heap.size (n + k) (n + t) (joined Z Y n) ∧ Below w3.heap.size w3 wr) (fun q _ => k - (intOf q).toNat)
          case atStart => exact ⟨0, by omega, rfl, hO, hB⟩
          case round =>
            clear hO hB
            obtain ⟨t, ht, rfl, hO, hB⟩ := hrel
            by_cases htk : t < k
            · exfalso; omega
            · obtain rfl : k = t := by omega
              obtain ⟨w6, rfl⟩ : ∃ w6, w6 = wr := ⟨_, rfl⟩
              have B6 := below_on HF.out.2.2 hB
              have LA6 := HF.out.1.keep hB
              have LJ6 := hO.lies
              clear hO hB HF
              generalize w3.heap.size = NJ at *
              go_wp2_with fail
              refine (new_any 1 ng a2 n c2 ex pr _).mono ?_
              rintro e w7 ⟨b7, v1, v2, rfl, N7, hb7⟩
              have B7 := below_on B6 hb7
              have LA7 := LA6.keep hb7
              have LJ7 := LJ6.keep hb7
              clear B6 LA6 LJ6 hb7
              go_wp2_with fail
              refine (minprec_fin b7 pr v1 v2 ng a2 n c2 ex Z W _ (by omega) hn0 LA7 HW.out.1 HW.out.2.1 HW.out.2.2 N7).mono ?_
              rintro e w8 ⟨rfl, hb8⟩
              have B8 := below_on B7 hb8
              have LJ8 := LJ7.keep hb8
              clear B7 LA7 LJ7 hb8 N7
              go_wp2_with fail
              refine (new_any 1 nh _ (n + k) _ ey pr _).mono ?_
              rintro e w9 ⟨b9, v3, v4, rfl, N9, hb9⟩
              have B9 := below_on B8 hb9
              have LJ9 := LJ8.keep hb9
              clear B8 LJ8 hb9
              go_wp2_with fail
              refine (minprec_fin b9 pr v3 v4 nh _ (n + k) _ ey (joined Z Y n) W _ (by omega) (by omega) LJ9 ((joined_lo (by omega)).trans HW.out.1) HW.out.2.1 HW.out.2.2 N9).mono ?_
              rintro e w10 ⟨rfl, hb10⟩
              have B10 := below_on B9 hb10
              clear B9 LJ9 hb10 N9 HW
              generalize tz 19 W = T at *
              go_wp2
              go_ret
              exact ⟨ret_bool (decide_eq_true (by omega)), B10⟩
  · have hk0' : (0 : Int) < (k : Int) := by omega
    have HC : Hid (∃ g o, b = some ⟨g, o, none⟩ ∧ ∀ j, j < k → w.cell? ⟨g, o + j, none⟩ = some (.int .u64 (Y j))) := by
      rcases HL.out.2 with h | h
      · omega
      · exact h
    obtain ⟨g, o, hbg, hcc⟩ := HC.out
    subst hbg
    have HCC : Hid (∀ j, j < k → w.cell? ⟨g, o + j, none⟩ = some (.int .u64 (Y j))) := hcc
    clear hcc HC
    go_wp2_with fail
    go_loop [15] (fun q => ∃ t : Nat, t ≤ k ∧ q = .int .i64 t) (fun q => k - (intOf q).toNat)
    case atStart => exact ⟨0, by omega, rfl⟩
    case round =>
      obtain ⟨t, ht, rfl⟩ := hrel
      by_cases htk : t < k
      · have ct := HCC.out t htk
        by_cases hy : Y t < 10000000000000000000
        · go_wp2
          go_round
          case rel => exact ⟨t + 1, by omega, by go_num⟩
          case measure => simp [intOf]; omega
        · go_wp2
          go_ret
          exact ⟨rfl, Below.refl _ _⟩
      · obtain rfl : k = t := by omega
        have ct := HCC.out (k - 1) (by omega)
        by_cases hy : Y (k - 1) < 1000000000000000000
        · go_wp2
          go_ret
          exact ⟨rfl, Below.refl _ _⟩
        · clear HCC
          by_cases hpp : pr < 19 * ((n : Int) + (k : Int))
          · go_wp2
            go_ret
            exact ⟨rfl, Below.refl _ _⟩
          · go_wp2_with fail
            refine (clone_any a n cap Z _ hn1 HA.out.1 HL.out.1).mono ?_
            rintro e w2 ⟨a2, c2, rfl, L2, B2⟩
            go_wp2_with fail
            refine (clone_any (some ⟨g, o, none⟩) k cap2 Y _ hk1 HA.out.2 (HL.out.2.keep B2)).mono ?_
            rintro e w3 ⟨a3, c3, rfl, L3, b3⟩
            have B3 := below_on B2 b3
            have L23 := L2.keep b3
            clear B2 L2 b3
            go_wp2_with (first | (at_make; refine wpList_make_full _ rfl _ _ 22 rfl 0 28 i0 _ 1 Try.underlying22 hi0 hz0 hz1 .i64 .i64 _ _ (n + k) rfl rfl (by omega) (by omega) (by rw [hz2]; omega) (by unfold maxLen; omega) (by omega) ?_; intro w4 hown4 hgrow4))
            have O4 : Own w4 w3.heap.size (n + k) 0 (joined Z Y n) := own_new _ hown4
            have B4 : Below w3.heap.size w3 w4 := (Below.refl _ _).grown hgrow4 (Nat.le_refl _) (fun k hk => by cases hk)
            have HF : Hid (Lies w3 a2 n Z ∧ Lies w3 a3 k Y ∧ Below w.heap.size w w3) := ⟨L23, L3, B3⟩
            clear hown4 hgrow4 L23 L3 B3
            go_loopw [17] (fun q wr => ∃ t : Nat, t ≤ n ∧ q = .int .i64 t ∧ Own wr w3.heap.size (n + k) t (joined Z Y n) ∧ Below w3.heap.size w3 wr) (fun q _ => n - (intOf q).toNat)
            case atStart => exact ⟨0, by omega, rfl, O4, B4⟩
            case round =>
              clear O4 B4
              obtain ⟨t, ht, rfl, hO, hB⟩ := hrel
              by_cases htn : t < n
              · rcases HF.out.1.keep hB with h | ⟨g5, o5, rfl, hc⟩
                · omega
                have c0 := hc t htn
                clear hc
                obtain ⟨⟨y0, e0⟩, f0⟩ := own_cells hO t (by omega)
                have htk : t < n + k := by omega
                have HJ : Hid (joined Z Y n t = Z t) := joined_lo htn
                go_wp2
                go_roundw
                case rel => exact ⟨t + 1, by omega, by go_num, own_store hO htk HJ.out, hB.setCell (Nat.le_refl _) _⟩
                case measure => simp [intOf]; omega
              · obtain rfl : n = t := by omega
                obtain ⟨w5, rfl⟩ : ∃ w5, w5 = wr := ⟨_, rfl⟩
                go_wp2_with fail
                go_loopw [18] (fun q wr => ∃ t : Nat, t ≤ k ∧ q = .int .i64 t ∧ Own wr w3.heap.size (n + k) (n + t) (joined Z Y n) ∧ Below w3.heap.size w3 wr) (fun q _ => k - (intOf q).toNat)
                case atStart => exact ⟨0, by omega, rfl, hO, hB⟩
                case round =>
                  clear hO hB
                  obtain ⟨t, ht, rfl, hO, hB⟩ := hrel
                  by_cases htk : t < k
                  · rcases HF.out.2.1.keep hB with h | ⟨g5, o5, rfl, hc⟩
                    · omega
                    have c0 := hc t htk
                    clear hc
                    obtain ⟨⟨y0, e0⟩, f0⟩ := own_cells hO (n + t) (by omega)
                    have htk' : n + t < n + k := by omega
                    have HJ : Hid (joined Z Y n (n + t) = Y t) := joined_hi
                    go_wp2
                    go_roundw
                    case rel => exact ⟨t + 1, by omega, by go_num, own_store hO htk' HJ.out, hB.setCell (Nat.le_refl _) _⟩
                    case measure => simp [intOf]; omega
                  · obtain rfl : k = t := by omega
                    obtain ⟨w6, rfl⟩ : ∃ w6, w6 = wr := ⟨_, rfl⟩
                    have B6 := below_on HF.out.2.2 hB
                    have LA6 := HF.out.1.keep hB
                    have LJ6 := hO.lies
                    clear hO hB HF
                    generalize w3.heap.size = NJ at *
                    go_wp2_with fail
                    refine (new_any 1 ng a2 n c2 ex pr _).mono ?_
                    rintro e w7 ⟨b7, v1, v2, rfl, N7, hb7⟩
                    have B7 := below_on B6 hb7
                    have LA7 := LA6.keep hb7
                    have LJ7 := LJ6.keep hb7
                    clear B6 LA6 LJ6 hb7
                    go_wp2_with fail
                    refine (minprec_fin b7 pr v1 v2 ng a2 n c2 ex Z W _ (by omega) hn0 LA7 HW.out.1 HW.out.2.1 HW.out.2.2 N7).mono ?_
                    rintro e w8 ⟨rfl, hb8⟩
                    have B8 := below_on B7 hb8
                    have LJ8 := LJ7.keep hb8
                    clear B7 LA7 LJ7 hb8 N7
                    go_wp2_with fail
                    refine (new_any 1 nh _ (n + k) _ ey pr _).mono ?_
                    rintro e w9 ⟨b9, v3, v4, rfl, N9, hb9⟩
                    have B9 := below_on B8 hb9
                    have LJ9 := LJ8.keep hb9
                    clear B8 LJ8 hb9
                    go_wp2_with fail
                    refine (minprec_fin b9 pr v3 v4 nh _ (n + k) _ ey (joined Z Y n) W _ (by omega) (by omega) LJ9 ((joined_lo (by omega)).trans HW.out.1) HW.out.2.1 HW.out.2.2 N9).mono ?_
                    rintro e w10 ⟨rfl, hb10⟩
                    have B10 := below_on B9 hb10
                    clear B9 LJ9 hb10 N9 HW
                    generalize tz 19 W = T at *
                    go_wp2
                    go_ret
                    exact ⟨ret_bool (decide_eq_true (by omega)), B10⟩
end Go.Proofs.Qxb6632472a
