import Derived.Test.Qxb6632472aParts
import Derived.Test.Qxb6632472aPlain
namespace Go.Proofs.Qxb6632472a
open Go.RowKit

/-- What zzValidNat's yes says. -/
def Valid (n : Nat) (Z : Nat → Int) : Prop := 1 ≤ n ∧ (∀ j, j < n → Z j < 10000000000000000000) ∧ 1000000000000000000 ≤ Z (n - 1) ∧ Z 0 ≠ 0
def ValB (e : Ending) (n : Nat) (Z : Nat → Int) : Prop := ∃ b, e = .returned (.bool b) ∧ (b = true → Valid n Z)
theorem ValB.no (n : Nat) (Z : Nat → Int) : ValB (.returned (.bool false)) n Z := ⟨false, rfl, fun h => by cases h⟩

set_option maxHeartbeats 400000 in
theorem valid_any (a : Option Addr) (n cap : Nat) (Z : Nat → Int) (w : World) (hl : n ≤ maxLen) (hL : Lies w a n Z) :
    Calls Try.prog 6 #[.slice a n cap] w fun e w' => ValB e n Z ∧ w = w' := by
  unfold maxLen at hl
  by_cases hn : n = 0
  · subst hn
    clear hL
    go_enter Try.func6, Try.ntmps6
    go_wp2
    go_ret
    exact ⟨ValB.no _ _, rfl⟩
  · rcases hL with h | ⟨g, o, rfl, hc⟩
    · omega
    have hn1 : ((n : Int) == 0) = false := beq_eq_false_iff_ne.2 (by omega)
    have HC : Hid (∀ j, j < n → w.cell? ⟨g, o + j, none⟩ = some (.int .u64 (Z j))) := hc
    have c0 : w.cell? ⟨g, o, none⟩ = some (.int .u64 (Z 0)) := by simpa using hc 0 (by omega)
    have c1 := hc (n - 1) (by omega)
    clear hc
    go_enter Try.func6, Try.ntmps6
    go_wp2
    go_loop [3] (fun q => ∃ k : Nat, k ≤ n ∧ q = .int .i64 k ∧ Hid (∀ j, j < k → Z j < 10000000000000000000)) (fun q => n - (intOf q).toNat)
    case atStart => exact ⟨0, by omega, rfl, fun j hj => by omega⟩
    case round =>
      obtain ⟨k, hk, rfl, HA⟩ := hrel
      by_cases hlt : k < n
      · have ck := HC.out k hlt
        by_cases hz : Z k < 10000000000000000000
        · go_wp2
          go_round
          case rel =>
            refine ⟨k + 1, by omega, by go_num, fun j hj => ?_⟩
            by_cases e : j = k
            · subst e; exact hz
            · exact HA.out j (by omega)
          case measure => simp [intOf]; omega
        · go_wp2
          go_ret
          exact ⟨ValB.no _ _, rfl⟩
      · obtain rfl : n = k := by omega
        by_cases ht : Z (n - 1) < 1000000000000000000
        · go_wp2
          go_ret
          exact ⟨ValB.no _ _, rfl⟩
        · by_cases h0 : Z 0 = 0
          · have h0' : (Z 0 == 0) = true := by simp [h0]
            clear h0
            go_wp2
            go_ret
            exact ⟨ValB.no _ _, rfl⟩
          · have h0' : (Z 0 == 0) = false := by simp [h0]
            have HV : Hid (Valid n Z) := ⟨by omega, HA.out, by omega, h0⟩
            clear h0
            go_wp2
            go_ret
            exact ⟨⟨true, rfl, fun _ => HV.out⟩, rfl⟩

set_option maxHeartbeats 400000 in
theorem minprec_zero (b : Nat) (pr : Int) (v1 v2 : Value) (f : Int) (ng : Bool) (a : Option Addr) (n cap : Nat) (ex : Int) (w : World) (hf : f ≠ 1) (hB : Blk w b #[.int .u32 pr, v1, v2, .int .u8 f, .bool ng, .slice a n cap, .int .i32 ex] 40) :
    Calls Try.prog 10 #[.pointer (some ⟨b, 0, none⟩)] w fun e w' => e = .returned (.int .u64 0) ∧ Below w.heap.size w w' := by
  have c3 := hB.cell 3 (v := .int .u8 f) rfl
  have hf' : (f != 1) = true := by simp [hf]
  clear hB
  go_enter Try.func10, Try.ntmps10
  go_wp2
  go_ret
  exact ⟨rfl, Below.refl _ _⟩

set_option maxHeartbeats 400000 in
theorem minprec_fin (b : Nat) (pr : Int) (v1 v2 : Value) (ng : Bool) (a : Option Addr) (n cap : Nat) (ex : Int) (Z : Nat → Int) (W : Nat) (w : World) (hn : n ≤ 131072) (hn1 : 1 ≤ n) (hL : Lies w a n Z) (hW : Z 0 = W) (hW0 : 0 < W) (hW1 : W < 10 ^ 19)
    (hB : Blk w b #[.int .u32 pr, v1, v2, .int .u8 1, .bool ng, .slice a n cap, .int .i32 ex] 40) :
    Calls Try.prog 10 #[.pointer (some ⟨b, 0, none⟩)] w fun e w' => e = .returned (.int .u64 (19 * (n : Int) - (tz 19 W : Nat))) ∧ Below w.heap.size w w' := by
  rcases hL with h | ⟨g, o, rfl, hc⟩
  · omega
  have c0 : w.cell? ⟨g, o, none⟩ = some (.int .u64 (W : Int)) := by rw [← hW]; simpa using hc 0 (by omega)
  have c3 := hB.cell 3 (v := .int .u8 1) rfl
  have c5 := hB.cell 5 (v := .slice (some ⟨g, o, none⟩) n cap) rfl
  have HW : Hid (W < 10 ^ 19) := hW1
  have hW1' : W < 10000000000000000000 := by simpa using hW1
  have hn0 : (0 : Int) < (n : Int) := by omega
  clear hc hW hB hW1
  go_enter Try.func10, Try.ntmps10
  go_wp2
  go_quiet (fail)
  go_wp2
  go_loop [3, 4] (fun r q => ∃ (t f v : Nat), f + t = 19 ∧ 0 < v ∧ v < 10000000000000000000 ∧ r = .int .u64 ((n : Int) * 19 - t) ∧ q = .int .u64 v ∧ Hid (v < 10 ^ f) ∧ Hid (tz f v + t = tz 19 W)) (fun _ q => (intOf q).toNat)
  case atStart => exact ⟨0, 19, W, rfl, hW0, hW1', by simp, rfl, HW, rfl⟩
  case round =>
    obtain ⟨t, f, v, hft, hv0, hv1, rfl, rfl, HV, HT⟩ := hrel
    by_cases h10 : v % 10 = 0
    · obtain ⟨f', rfl⟩ : ∃ f', f = f' + 1 := by
        cases f with
        | zero => have := HV.out; simp at this; omega
        | succ f => exact ⟨f, rfl⟩
      have HV' : Hid (v / 10 < 10 ^ f') := by
        have := HV.out
        rw [Nat.pow_succ] at this
        show v / 10 < 10 ^ f'
        omega
      have HT' : Hid (tz f' (v / 10) + (t + 1) = tz 19 W) := by
        have := HT.out
        rw [tz_yes h10] at this
        show tz f' (v / 10) + (t + 1) = tz 19 W
        omega
      have hb : ((v : Int) % 10 == 0) = true := beq_iff_eq.2 (by omega)
      have hq : (0 : Int) ≤ (n : Int) * 19 - t - 1 := by omega
      clear h10 HV HT
      have hft' : t ≤ 18 := by omega
      have HFT : Hid (f' + 1 + t = 19) := hft
      clear hft
      go_wp2
      go_round
      case rel => exact ⟨t + 1, f', v / 10, by have := HFT.out; omega, by have := beq_iff_eq.1 hb; omega, by omega, by go_num, by go_num, HV', HT'⟩
      case measure => simp [intOf]; omega
    · have hb : ((v : Int) % 10 == 0) = false := beq_eq_false_iff_ne.2 (by omega)
      have HE : Hid ((n : Int) * 19 - t = 19 * (n : Int) - (tz 19 W : Nat)) := by
        have := HT.out
        rw [tz_no h10] at this
        show (n : Int) * 19 - t = 19 * (n : Int) - (tz 19 W : Nat)
        omega
      clear h10 hft
      go_wp2
      go_ret
      exact ⟨by rw [← HE.out]; rfl, drewN_below _ _⟩
end Go.Proofs.Qxb6632472a
