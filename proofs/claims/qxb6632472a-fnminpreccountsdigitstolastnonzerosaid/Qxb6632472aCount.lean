import Derived.Test.Qxb6632472aLast
namespace Go.Proofs.Qxb6632472a
open Go.RowKit

set_option maxRecDepth 100000 in
set_option maxHeartbeats 800000 in
/-- A finite number. -/
theorem count_fin (ng : Bool) (a : Option Addr) (n cap : Nat) (Z : Nat → Int) (ex pr : Int) (w : World) (hl : n ≤ maxLen) (ha : a = none → n = 0 ∧ cap = 0) (hL : Lies w a n Z) (hZ : ∀ j, j < n → 0 ≤ Z j) (hpr : 0 ≤ pr ∧ pr ≤ 4294967295) :
    Calls Try.prog 3 #[.int .u8 1, .bool ng, .slice a n cap, .int .i32 ex, .int .u32 pr] w fun e w' => e = .returned (.bool true) ∧ Below w.heap.size w w' := by
  have HL : Hid (Lies w a n Z) := hL
  have HA : Hid (a = none → n = 0 ∧ cap = 0) := ha
  have HZ : Hid (∀ j, j < n → 0 ≤ Z j) := hZ
  have HML : Hid (n ≤ maxLen) := hl
  obtain ⟨hpr0, hpr1⟩ := hpr
  unfold maxLen at hl
  clear hL ha hZ
  go_enter Try.func3, Try.ntmps3
  go_wp2_with fail
  refine (bytes3_any 1 ng a n cap ex pr _ HML.out).mono ?_
  rintro e w1 ⟨⟨bb, rfl⟩, rfl⟩
  cases bb with
  | false =>
    go_wp2
    go_ret
    exact ⟨rfl, Below.refl _ _⟩
  | true =>
  by_cases hn1 : n ≤ 65536
  case neg =>
    go_wp2
    go_ret
    exact ⟨rfl, Below.refl _ _⟩
  go_wp2_with fail
  refine (valid_any a n cap Z _ HML.out HL.out).mono ?_
  rintro e w1 ⟨⟨bb, rfl, hval⟩, rfl⟩
  cases bb with
  | false =>
    clear hval
    go_wp2
    go_ret
    exact ⟨rfl, Below.refl _ _⟩
  | true =>
  have HV : Hid (Valid n Z) := hval rfl
  have hn0 : 1 ≤ n := HV.out.1
  obtain ⟨W, hW⟩ := Int.eq_ofNat_of_zero_le (HZ.out 0 (by omega))
  have HW : Hid (Z 0 = W ∧ 0 < W ∧ W < 10 ^ 19) := by
    have h1 := HV.out.2.1 0 (by omega)
    have h2 := HV.out.2.2.2
    rw [hW] at h1 h2
    refine ⟨hW, by omega, ?_⟩
    show W < 10 ^ 19
    simp only [Nat.reducePow]
    omega
  have hT : tz 19 W ≤ 18 := by have := tz_lt HW.out.2.1 HW.out.2.2; omega
  clear hval hW
  go_wp2_with fail
  refine (last_any a n cap Z W _ hn1 hn0 HL.out (fun j hj => ⟨HZ.out j hj, HV.out.2.1 j hj⟩) HW.out.1 HW.out.2.1 HW.out.2.2).mono ?_
  rintro e w1 ⟨rfl, rfl⟩
  clear HV
  generalize hTT : tz 19 W = T at *
  have HT : Hid (tz 19 W = T) := hTT
  clear hTT
  by_cases hpp : pr < 19 * (n : Int) - T
  · go_wp2
    go_ret
    exact ⟨rfl, Below.refl _ _⟩
  · go_wp2_with fail
    refine (clone_any a n cap Z _ hn1 HA.out HL.out).mono ?_
    rintro e w2 ⟨a2, c2, rfl, L2, B2⟩
    go_wp2_with fail
    refine (new_any 1 ng a2 n c2 ex pr _).mono ?_
    rintro e w7 ⟨b7, v1, v2, rfl, N7, hb7⟩
    have B7 := below_on B2 hb7
    have L7 := L2.keep hb7
    clear B2 L2 hb7
    go_wp2_with fail
    refine (minprec_fin b7 pr v1 v2 ng a2 n c2 ex Z W _ (by omega) hn0 L7 HW.out.1 HW.out.2.1 HW.out.2.2 N7).mono ?_
    rintro e w8 ⟨rfl, hb8⟩
    have B8 := below_on B7 hb8
    clear B7 L7 hb8 N7
    rw [HT.out]
    go_wp2
    go_ret
    exact ⟨by simp, B8⟩

set_option maxRecDepth 100000 in
set_option maxHeartbeats 800000 in
/-- A nought or an infinity; or no form at all. -/
theorem count_other (f : Int) (ng : Bool) (a : Option Addr) (n cap : Nat) (Z : Nat → Int) (ex pr : Int) (w : World) (hl : n ≤ maxLen) (ha : a = none → n = 0 ∧ cap = 0) (hL : Lies w a n Z) (hf : f ≠ 1) :
    Calls Try.prog 3 #[.int .u8 f, .bool ng, .slice a n cap, .int .i32 ex, .int .u32 pr] w fun e w' => e = .returned (.bool true) ∧ Below w.heap.size w w' := by
  have HL : Hid (Lies w a n Z) := hL
  have HA : Hid (a = none → n = 0 ∧ cap = 0) := ha
  have HML : Hid (n ≤ maxLen) := hl
  have HF : Hid (f ≠ 1) := hf
  have hf1 : (f == 1) = false := by simp [hf]
  unfold maxLen at hl
  clear hL ha hf
  go_enter Try.func3, Try.ntmps3
  go_wp2_with fail
  refine (bytes3_any f ng a n cap ex pr _ HML.out).mono ?_
  rintro e w1 ⟨⟨bb, rfl⟩, rfl⟩
  cases bb with
  | false =>
    go_wp2
    go_ret
    exact ⟨rfl, Below.refl _ _⟩
  | true =>
  by_cases hn1 : n ≤ 65536
  case neg =>
    go_wp2
    go_ret
    exact ⟨rfl, Below.refl _ _⟩
  by_cases hf2 : f ≤ 2
  case neg =>
    go_wp2
    go_ret
    exact ⟨rfl, Below.refl _ _⟩
  go_wp2_with fail
  refine (clone_any a n cap Z _ hn1 HA.out HL.out).mono ?_
  rintro e w2 ⟨a2, c2, rfl, L2, B2⟩
  go_wp2_with fail
  refine (new_any f ng a2 n c2 ex pr _).mono ?_
  rintro e w7 ⟨b7, v1, v2, rfl, N7, hb7⟩
  have B7 := below_on B2 hb7
  clear B2 L2 hb7
  go_wp2_with fail
  refine (minprec_zero b7 pr v1 v2 f ng a2 n c2 ex _ HF.out N7).mono ?_
  rintro e w8 ⟨rfl, hb8⟩
  have B8 := below_on B7 hb8
  clear B7 hb8 N7
  go_wp2
  go_ret
  exact ⟨rfl, B8⟩
end Go.Proofs.Qxb6632472a
