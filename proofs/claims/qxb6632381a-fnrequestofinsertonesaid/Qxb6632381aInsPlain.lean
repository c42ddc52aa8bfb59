import Derived.Test.Qxb6632381aOpen
namespace Go.Proofs.Qxb6632381a
open Go.RowKit Go.Maps

/-- A row with one more put in at place p. -/
def put {α : Type} (X : Nat → α) (p : Nat) (x : α) (j : Nat) : α := if j < p then X j else if j = p then x else X (j - 1)
theorem put_lt {α : Type} {X : Nat → α} {p : Nat} {x : α} {j : Nat} (h : j < p) : put X p x j = X j := by unfold put; rw [if_pos h]
theorem put_at {α : Type} (X : Nat → α) (p : Nat) (x : α) : put X p x p = x := by unfold put; rw [if_neg (by omega), if_pos rfl]
theorem put_gt {α : Type} {X : Nat → α} {p : Nat} {x : α} {j : Nat} (h : p ≤ j) : put X p x (j + 1) = X j := by unfold put; rw [if_neg (by omega), if_neg (by omega), Nat.add_sub_cancel]

/-- The sum of what is counted among the first k, over all integers. -/
def sumT (c : Nat → Bool) (V : Nat → Int) : Nat → Int
  | 0 => 0
  | k + 1 => if c k then sumT c V k + V k else sumT c V k
theorem sm_sumT (c : Nat → Bool) (V : Nat → Int) (k : Nat) : sm c V k = wrap64 (sumT c V k) := by
  induction k with
  | zero => show (0 : Int) = wrap64 0; rw [wrap64_zero]
  | succ k ih =>
    cases h : c k with
    | true => rw [sm_yes h, ih, wrap64_add]; simp [sumT, h]
    | false => rw [sm_no h, ih]; simp [sumT, h]

variable {c c' : Nat → Bool} {V V' : Nat → Int} {K K' : Nat → Bool} {p n : Nat} {x : Int}

theorem sumT_low (hc : ∀ j, j < p → c' j = c j) (hV : ∀ j, j < p → V' j = V j) : ∀ k, k ≤ p → sumT c' V' k = sumT c V k ∧ cnt c' k = cnt c k
  | 0, _ => ⟨rfl, rfl⟩
  | k + 1, h => by
    obtain ⟨h1, h2⟩ := sumT_low hc hV k (by omega)
    unfold sumT cnt
    rw [hc k (by omega), hV k (by omega), h1, h2]
    exact ⟨rfl, rfl⟩
theorem sumT_put (hc : ∀ j, j < p → c' j = c j) (hV : ∀ j, j < p → V' j = V j) (hcp : c' p = true) (hVp : V' p = x) (hcg : ∀ j, p ≤ j → c' (j + 1) = c j) (hVg : ∀ j, p ≤ j → V' (j + 1) = V j) :
    ∀ d, sumT c' V' (p + d + 1) = sumT c V (p + d) + x ∧ cnt c' (p + d + 1) = cnt c (p + d) + 1
  | 0 => by
    obtain ⟨h1, h2⟩ := sumT_low hc hV p (Nat.le_refl _)
    show sumT c' V' (p + 1) = _ ∧ cnt c' (p + 1) = _
    simp only [sumT, cnt, hcp, if_true, h1, h2, hVp, Nat.add_zero]
    exact ⟨trivial, trivial⟩
  | d + 1 => by
    obtain ⟨h1, h2⟩ := sumT_put hc hV hcp hVp hcg hVg d
    have e1 : sumT c' V' (p + d + 1 + 1) = if c' (p + d + 1) then sumT c' V' (p + d + 1) + V' (p + d + 1) else sumT c' V' (p + d + 1) := rfl
    have e2 : cnt c' (p + d + 1 + 1) = if c' (p + d + 1) then cnt c' (p + d + 1) + 1 else cnt c' (p + d + 1) := rfl
    have e3 : sumT c V (p + d + 1) = if c (p + d) then sumT c V (p + d) + V (p + d) else sumT c V (p + d) := rfl
    have e4 : cnt c (p + d + 1) = if c (p + d) then cnt c (p + d) + 1 else cnt c (p + d) := rfl
    show sumT c' V' (p + d + 1 + 1) = sumT c V (p + d + 1) + x ∧ cnt c' (p + d + 1 + 1) = cnt c (p + d + 1) + 1
    rw [e1, e2, e3, e4, hcg (p + d) (by omega), hVg (p + d) (by omega), h1, h2]
    cases c (p + d) with
    | true => exact ⟨by simp; omega, by simp⟩
    | false => exact ⟨by simp, by simp⟩

/-- All that is told of the list with one more in it. -/
structure Put (c c' K K' : Nat → Bool) (V V' : Nat → Int) (p n : Nat) (x : Int) : Prop where
  hp : p ≤ n
  hc : ∀ j, j < p → c' j = c j
  hV : ∀ j, j < p → V' j = V j
  hK : ∀ j, j < p → K' j = K j
  hcp : c' p = true
  hVp : V' p = x
  hKp : K' p = true
  hcg : ∀ j, p ≤ j → c' (j + 1) = c j
  hVg : ∀ j, p ≤ j → V' (j + 1) = V j
  hKg : ∀ j, p ≤ j → K' (j + 1) = K j

theorem Put.sums (h : Put c c' K K' V V' p n x) : sumT c' V' (n + 1) = sumT c V n + x ∧ cnt c' (n + 1) = cnt c n + 1 := by
  have := sumT_put h.hc h.hV h.hcp h.hVp h.hcg h.hVg (n - p)
  rwa [show p + (n - p) = n by have := h.hp; omega] at this

theorem Put.ok (h : Put c c' K K' V V' p n x) : allOk c' K' (n + 1) = allOk c K n := by
  rw [Bool.eq_iff_iff, allOk_iff, allOk_iff]
  constructor
  · intro hh j hj hcj
    by_cases e : j < p
    · have := hh j (by omega) (by rw [h.hc j e]; exact hcj)
      rwa [h.hK j e] at this
    · have := hh (j + 1) (by omega) (by rw [h.hcg j (by omega)]; exact hcj)
      rwa [h.hKg j (by omega)] at this
  · intro hh j hj hcj
    by_cases e : j < p
    · rw [h.hK j e]; exact hh j (by have := h.hp; omega) (by rw [← h.hc j e]; exact hcj)
    · by_cases e2 : j = p
      · subst e2; exact h.hKp
      · obtain ⟨i, rfl⟩ : ∃ i, j = i + 1 := ⟨j - 1, by omega⟩
        rw [h.hKg i (by omega)]
        exact hh i (by omega) (by rw [← h.hcg i (by omega)]; exact hcj)

theorem wrap64_of {x : Int} (h1 : -9223372036854775808 ≤ x) (h2 : x ≤ 9223372036854775807) : wrap64 x = x := by unfold wrap64; omega

/-- The law's three cases. -/
theorem Put.cases (h : Put c c' K K' V V' p n x) (h1 : -9223372036854775808 ≤ x) (h2 : x ≤ 9223372036854775807) :
    (0 < cnt c n ∧ ∃ v, outV c K V n = v ∧ outB c K n = true ∧ outV c' K' V' (n + 1) = wrap64 (v + x) ∧ outB c' K' (n + 1) = true) ∨
    (cnt c n = 0 ∧ outV c K V n = 0 ∧ outB c K n = false ∧ outV c' K' V' (n + 1) = x ∧ outB c' K' (n + 1) = true) ∨
    (0 < cnt c n ∧ outV c K V n = 0 ∧ outB c K n = false ∧ outV c' K' V' (n + 1) = 0 ∧ outB c' K' (n + 1) = false) := by
  obtain ⟨hs, hn⟩ := h.sums
  unfold outV outB
  rw [h.ok, sm_sumT c' V', hs, hn, sm_sumT c V]
  cases hok : allOk c K n with
  | true =>
    by_cases hz : cnt c n = 0
    · right; left
      have hz' := sm_zero (V := V) hz
      rw [sm_sumT] at hz'
      refine ⟨hz, by simpa using hz', by rw [hz]; rfl, ?_, by simp⟩
      simp only [if_true]
      rw [← wrap64_add, hz', Int.zero_add, wrap64_of h1 h2]
    · left
      refine ⟨by omega, wrap64 (sumT c V n), by simp, by simp; omega, ?_, by simp⟩
      simp only [if_true]
      rw [wrap64_add]
  | false =>
    right; right
    refine ⟨?_, by simp, by simp, by simp, by simp⟩
    by_cases hz : cnt c n = 0
    · exfalso
      have : allOk c K n = true := by
        rw [allOk_iff]
        intro j hj hcj
        have hm := mem_idx hj hcj
        have hl := idx_len c n
        rw [hz] at hl
        rw [List.eq_nil_of_length_eq_zero hl] at hm
        cases hm
      rw [hok] at this
      cases this
    · omega

theorem out_one (x : Int) (h1 : -9223372036854775808 ≤ x) (h2 : x ≤ 9223372036854775807) {c : Nat → Bool} (hc : c 0 = true) : outV c (fun _ => true) (fun _ => x) 1 = x ∧ outB c (fun _ => true) 1 = true := by
  have hok : ∀ j, j < 1 → c j = true → (fun _ => true : Nat → Bool) j = true := fun _ _ _ => rfl
  refine ⟨(out_good hok).1.trans ?_, (out_good (V := fun _ => x) hok).2.trans ?_⟩
  · rw [sm_sumT]; simp [sumT, hc, wrap64_of h1 h2]
  · simp [cnt, hc]

/-- The cells of the first k containers. -/
def cells2 (Y : Nat → Co) : Nat → List Value
  | 0 => []
  | k + 1 => cells2 Y k ++ [.string (Y k).s, .map (Y k).m]
theorem cells2_len (Y : Nat → Co) (k : Nat) : (cells2 Y k).length = k * 2 := by
  induction k with
  | zero => rfl
  | succ k ih => unfold cells2; rw [List.length_append, ih]; simp; omega
theorem cells2_at (Y : Nat → Co) (k j : Nat) (h : j < k) : (cells2 Y k)[j * 2]? = some (.string (Y j).s) ∧ (cells2 Y k)[j * 2 + 1]? = some (.map (Y j).m) := by
  induction k with
  | zero => omega
  | succ k ih =>
    unfold cells2
    have hl := cells2_len Y k
    by_cases e : j = k
    · subst e
      rw [List.getElem?_append_right (by omega), List.getElem?_append_right (by omega), hl]
      simp
    · obtain ⟨a, b⟩ := ih (by omega)
      rw [List.getElem?_append_left (by omega), List.getElem?_append_left (by omega)]
      exact ⟨a, b⟩
theorem lies_of_row {w : World} {B g n cap : Nat} {Y : Nat → Co} (h : w.ownsRow B 35 2 (.slice (some ⟨g, 0, none⟩) n cap) n (cells2 Y n)) : Lies w (some ⟨g, 0, none⟩) n Y := by
  refine .inr ⟨g, 0, rfl, fun j hj => ?_⟩
  simp only [Nat.zero_add]
  rw [h.cellAt _ (by omega), h.cellAt _ (by omega)]
  exact cells2_at Y n j hj
end Go.Proofs.Qxb6632381a
