import Derived.Test.Qxb6632472aMid
namespace Go.Proofs.Qxb6632472a
open Go.RowKit

theorem pow_step {j : Nat} (h : j + 1 < 19) : ((10 ^ (18 - j) : Nat) : Int) / 10 = ((10 ^ (18 - (j + 1)) : Nat) : Int) := by
  rw [show 18 - j = (18 - (j + 1)) + 1 by omega, Nat.pow_succ]
  omega
theorem pow_pos10 (j : Nat) : (1 : Int) ≤ ((10 ^ j : Nat) : Int) := by
  have : 0 < 10 ^ j := Nat.pow_pos (by omega)
  omega
theorem pow_le18 {j : Nat} : ((10 ^ (18 - j) : Nat) : Int) ≤ 1000000000000000000 := by
  have h := Nat.pow_le_pow_right (n := 10) (by omega) (show 18 - j ≤ 18 by omega)
  have e : (10 : Nat) ^ 18 = 1000000000000000000 := by simp only [Nat.reducePow]
  rw [e] at h
  omega

/-- How the walk writes a digit. -/
theorem digit_form {z D : Int} (h0 : 0 ≤ z) (h1 : z < 10000000000000000000) (hD : 1 ≤ D) : ∃ q, IntKind.u64.wrap (z.tdiv D) = q ∧ 0 ≤ q ∧ q < 10000000000000000000 ∧ z / D = q := by
  have e1 : 0 ≤ z / D := Int.ediv_nonneg h0 (by omega)
  have e2 : z / D ≤ z := Int.ediv_le_self _ h0
  exact ⟨z / D, by rw [Int.tdiv_eq_ediv_of_nonneg h0, IntKind.wrap_u64, Int.emod_eq_of_lt e1 (by omega)], e1, by omega, rfl⟩

set_option maxRecDepth 100000 in
set_option maxHeartbeats 800000 in
theorem last_any (a : Option Addr) (n cap : Nat) (Z : Nat → Int) (W : Nat) (w : World) (hn : n ≤ 65536) (hn0 : 1 ≤ n) (hL : Lies w a n Z) (hZ : ∀ j, j < n → 0 ≤ Z j ∧ Z j < 10000000000000000000) (hW : Z 0 = W) (hW0 : 0 < W) (hW1 : W < 10 ^ 19) :
    Calls Try.prog 7 #[.slice a n cap] w fun e w' => e = .returned (.int .u64 (19 * (n : Int) - (tz 19 W : Nat))) ∧ w = w' := by
  rcases hL with h | ⟨g, o, rfl, hc⟩
  · omega
  have HC : Hid (∀ j, j < n → w.cell? ⟨g, o + j, none⟩ = some (.int .u64 (Z j))) := hc
  have HZ : Hid (∀ j, j < n → 0 ≤ Z j ∧ Z j < 10000000000000000000) := hZ
  have HW : Hid (Z 0 = W ∧ 0 < W ∧ W < 10 ^ 19) := ⟨hW, hW0, hW1⟩
  have hT : tz 19 W ≤ 18 := by have := tz_lt hW0 hW1; omega
  have HD0 : Hid (∀ j, j + tz 19 W = 18 → W / 10 ^ (18 - j) % 10 ≠ 0) := fun j hj => digit_at hW0 hW1 rfl hj
  have HD1 : Hid (∀ j, 18 < j + tz 19 W → j ≤ 18 → W / 10 ^ (18 - j) % 10 = 0) := fun j hj hj' => digit_past hW0 hW1 rfl hj hj'
  clear hc hZ hW hW0 hW1
  generalize tz 19 W = T at *
  go_enter Try.func7, Try.ntmps7
  go_wp2
  go_loop [3, 4, 5] (fun ps la i => ∃ (t : Nat) (i' l : Int), t ≤ n ∧ i = .int .i64 i' ∧ i' + 1 = t ∧ ps = .int .u64 (19 * ((n : Int) - t)) ∧ la = .int .u64 l ∧ Hid (t = 0 → l = 19 * (n : Int) - T)) (fun _ _ i => (intOf i + 1).toNat)
  case atStart => exact ⟨n, (n : Int) - 1, 0, by omega, rfl, by omega, by simp, rfl, fun h => by omega⟩
  case round =>
    obtain ⟨t, i', l, ht, rfl, hi', rfl, rfl, HL⟩ := hrel
    by_cases ht0 : t = 0
    · subst ht0
      have hqn : i' = -1 := by omega
      subst hqn
      have HE : Hid (l = 19 * (n : Int) - T) := HL.out rfl
      clear hi' HL
      go_wp2
      go_ret
      exact ⟨by rw [← HE.out]; rfl, rfl⟩
    · obtain ⟨r, rfl⟩ : ∃ r, t = r + 1 := ⟨t - 1, by omega⟩
      obtain rfl : i' = (r : Int) := by omega
      have cr := HC.out r (by omega)
      obtain ⟨hz, hz9⟩ := HZ.out r (by omega)
      have HZ0 : Hid (r = 0 → Z r = W) := fun h => by rw [h]; exact HW.out.1
      clear hi' ht0 HL
      generalize Z r = z at *
      have hrn : r < n := by omega
      go_wp2
      go_loop [3, 4, 6, 7] (fun ps la d jv => ∃ (j : Nat) (D l' : Int), j ≤ 19 ∧ jv = .int .i64 j ∧ ps = .int .u64 (19 * ((n : Int) - (r + 1)) + j) ∧ d = .int .u64 D ∧ 0 ≤ D ∧ D ≤ 1000000000000000000 ∧ la = .int .u64 l' ∧ Hid (j < 19 → D = (10 ^ (18 - j) : Nat)) ∧ Hid (r = 0 → 19 ≤ j + T → l' = 19 * (n : Int) - T)) (fun _ _ _ jv => 19 - (intOf jv).toNat)
      case atStart => exact ⟨0, 1000000000000000000, l, by omega, rfl, by simp, rfl, by omega, by omega, rfl, fun _ => by simp, fun _ h => by omega⟩
      case round =>
        obtain ⟨j, D, l', hj, rfl, rfl, rfl, hD0, hD1, rfl, HD, HLL⟩ := hrel
        by_cases hj19 : j < 19
        · have hDe := HD.out hj19
          have hDp : 1 ≤ D := by rw [hDe]; exact pow_pos10 _
          have HQ : Hid (r = 0 → z / D % 10 = ((W / 10 ^ (18 - j) % 10 : Nat) : Int)) := fun h => by rw [HZ0.out h, hDe]; omega
          have HDn : Hid (j + 1 < 19 → D / 10 = ((10 ^ (18 - (j + 1)) : Nat) : Int)) := fun h => by rw [hDe]; exact pow_step h
          clear hDe HD
          obtain ⟨q, hqd, hq0, hq9, hzq⟩ := digit_form hz hz9 hDp
          rw [hzq] at HQ
          clear hzq
          by_cases hq : q % 10 = 0
          · have hq' : (q % 10 != 0) = false := by rw [hq]; rfl
            have HN : Hid (r = 0 → 19 ≤ j + 1 + T → l' = 19 * (n : Int) - T) := fun h0 h1 => by
              by_cases e : 19 ≤ j + T
              · exact HLL.out h0 e
              · exfalso
                have h2 := HQ.out h0
                rw [hq] at h2
                exact HD0.out j (by omega) (by omega)
            clear hq HLL
            go_wp2
            go_round
            case rel => exact ⟨j + 1, D / 10, l', by omega, by go_num, by go_num, rfl, by omega, by omega, rfl, HDn, HN⟩
            case measure => simp [intOf]; omega
          · have hq' : (q % 10 != 0) = true := by simp [hq]
            have HN : Hid (r = 0 → 19 ≤ j + 1 + T → 19 * ((n : Int) - (r + 1)) + j + 1 = 19 * (n : Int) - T) := fun h0 h1 => by
              by_cases e : 18 < j + T
              · exfalso
                have h2 := HQ.out h0
                rw [HD1.out j e (by omega)] at h2
                exact hq (by simpa using h2)
              · subst h0
                omega
            clear hq HLL
            go_wp2
            go_round
            case rel => exact ⟨j + 1, D / 10, _, by omega, by go_num, by go_num, rfl, by omega, by omega, rfl, HDn, HN⟩
            case measure => simp [intOf]; omega
        · obtain rfl : j = 19 := by omega
          have HE : Hid (r = 0 → l' = 19 * (n : Int) - T) := fun h => HLL.out h (by omega)
          clear HD HLL
          go_wp2
          go_round
          case rel => exact ⟨r, (r : Int) - 1, l', by omega, by go_num, by omega, by go_num, rfl, HE⟩
          case measure => simp [intOf]
end Go.Proofs.Qxb6632472a
