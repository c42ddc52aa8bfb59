/-
  The plain mathematics: how many noughts a number ends in. No Go in sight.
-/
namespace Go.Proofs.Qxb6632472a

/-- How many noughts w ends in, looked for at most f times. -/
def tz : Nat → Nat → Nat
  | 0, _ => 0
  | f + 1, w => if w % 10 = 0 then tz f (w / 10) + 1 else 0

theorem tz_yes {f w : Nat} (h : w % 10 = 0) : tz (f + 1) w = tz f (w / 10) + 1 := by simp [tz, h]
theorem tz_no {f w : Nat} (h : w % 10 ≠ 0) : tz f w = 0 := by cases f <;> simp [tz, h]
theorem tz_lt {f w : Nat} (h0 : 0 < w) (h1 : w < 10 ^ f) : tz f w < f := by
  induction f generalizing w with
  | zero => simp at h1; omega
  | succ f ih =>
    rw [Nat.pow_succ] at h1
    by_cases h : w % 10 = 0
    · rw [tz_yes h]
      have := ih (w := w / 10) (by omega) (by omega)
      omega
    · rw [tz_no h]; omega
/-- What is left when the noughts are struck. -/
theorem tz_split {f w : Nat} (h0 : 0 < w) (h1 : w < 10 ^ f) : ∃ v, w = v * 10 ^ tz f w ∧ v % 10 ≠ 0 := by
  induction f generalizing w with
  | zero => simp at h1; omega
  | succ f ih =>
    rw [Nat.pow_succ] at h1
    by_cases h : w % 10 = 0
    · obtain ⟨v, hv, hn⟩ := ih (w := w / 10) (by omega) (by omega)
      refine ⟨v, ?_, hn⟩
      rw [tz_yes h, Nat.pow_succ, ← Nat.mul_assoc, ← hv]
      omega
    · exact ⟨w, by rw [tz_no h]; simp, h⟩

/-- The digit at place j from the top (of 19): not nought at the last place that counts, nought behind it. -/
theorem digit_at {w T j : Nat} (h0 : 0 < w) (h1 : w < 10 ^ 19) (hT : tz 19 w = T) (hj : j + T = 18) : w / 10 ^ (18 - j) % 10 ≠ 0 := by
  obtain ⟨v, hv, hn⟩ := tz_split h0 h1
  rw [hT] at hv
  rw [show 18 - j = T by omega, hv, Nat.mul_div_cancel _ (Nat.pow_pos (by omega))]
  exact hn
theorem digit_past {w T j : Nat} (h0 : 0 < w) (h1 : w < 10 ^ 19) (hT : tz 19 w = T) (hj : 18 < j + T) (hj' : j ≤ 18) : w / 10 ^ (18 - j) % 10 = 0 := by
  obtain ⟨v, hv, _⟩ := tz_split h0 h1
  rw [hT] at hv
  obtain ⟨k, hk⟩ : ∃ k, T = (k + 1) + (18 - j) := ⟨T - 1 - (18 - j), by omega⟩
  rw [hv, hk, Nat.pow_add, ← Nat.mul_assoc, Nat.mul_div_cancel _ (Nat.pow_pos (by omega)), Nat.pow_succ, ← Nat.mul_assoc]
  omega
end Go.Proofs.Qxb6632472a
