import Derived.Test.Qxb6632381aReq
namespace Go.Proofs.Qxb6632381a
open Go.RowKit Go.Maps

/-! ### The plain law of what is counted -/
/-- Each counted one of the first k has an entry. -/
def allOk (c K : Nat → Bool) : Nat → Bool
  | 0 => true
  | k + 1 => allOk c K k && (!c k || K k)
/-- What comes back. -/
def outV (c K : Nat → Bool) (V : Nat → Int) (n : Nat) : Int := if allOk c K n then sm c V n else 0
def outB (c K : Nat → Bool) (n : Nat) : Bool := allOk c K n && decide (0 < cnt c n)

theorem allOk_iff (c K : Nat → Bool) (n : Nat) : allOk c K n = true ↔ ∀ j, j < n → c j = true → K j = true := by
  induction n with
  | zero => exact ⟨fun _ j hj => by omega, fun _ => rfl⟩
  | succ n ih =>
    unfold allOk
    rw [Bool.and_eq_true, ih]
    constructor
    · rintro ⟨h1, h2⟩ j hj hc
      by_cases e : j = n
      · subst e; rw [hc] at h2; simpa using h2
      · exact h1 j (by omega) hc
    · intro h
      refine ⟨fun j hj hc => h j (by omega) hc, ?_⟩
      cases hc : c n with
      | false => rfl
      | true => simpa using h n (by omega) hc

theorem allOk_not {c K : Nat → Bool} {n j : Nat} (hj : j < n) (hc : c j = true) (hk : K j = false) : allOk c K n = false := by
  cases h : allOk c K n with
  | false => rfl
  | true => rw [(allOk_iff c K n).1 h j hj hc] at hk; cases hk

theorem first_bad (c K : Nat → Bool) (n : Nat) : (∃ j, j < n ∧ c j = true ∧ K j = false ∧ ∀ i, i < j → c i = true → K i = true) ∨ ∀ j, j < n → c j = true → K j = true := by
  induction n with
  | zero => exact .inr fun j hj => by omega
  | succ n ih =>
    rcases ih with ⟨j, hj, h1, h2, h3⟩ | h
    · exact .inl ⟨j, by omega, h1, h2, h3⟩
    · by_cases e : c n = true ∧ K n = false
      · exact .inl ⟨n, by omega, e.1, e.2, h⟩
      · refine .inr fun j hj hc => ?_
        by_cases e' : j = n
        · subst e'
          cases hk : K j with
          | true => rfl
          | false => exact absurd ⟨hc, hk⟩ e
        · exact h j (by omega) hc

theorem out_bad {c K : Nat → Bool} {V : Nat → Int} {n j : Nat} (hj : j < n) (hc : c j = true) (hk : K j = false) : outV c K V n = 0 ∧ outB c K n = false := by
  unfold outV outB
  rw [allOk_not hj hc hk]
  exact ⟨rfl, rfl⟩
theorem out_good {c K : Nat → Bool} {V : Nat → Int} {n : Nat} (h : ∀ j, j < n → c j = true → K j = true) : outV c K V n = sm c V n ∧ outB c K n = decide (0 < cnt c n) := by
  unfold outV outB
  rw [(allOk_iff c K n).2 h]
  exact ⟨rfl, rfl⟩

theorem sm_zero {c : Nat → Bool} {V : Nat → Int} {n : Nat} (h : cnt c n = 0) : sm c V n = 0 := by
  induction n with
  | zero => rfl
  | succ n ih =>
    unfold cnt at h
    unfold sm
    split
    · rename_i hc; rw [if_pos hc] at h; omega
    · rename_i hc; rw [if_neg hc] at h; exact ih h

/-- RequestOf answers so. -/
theorem req_any (m : Me) (mb : Nat) (a : Option Addr) (n c : Nat) (X : Nat → Co) (V : Nat → Int) (K : Nat → Bool) (w : World) (hn : n ≤ 65537) (hB : Blk w mb (MeV m) 43) (hL : Lies w a n X) (hK : ∀ j, j < n → Looks w (X j).m m.nm (V j) (K j)) :
    Calls Try.prog 8 #[.pointer (some ⟨mb, 0, none⟩), .slice a n c] w fun e w' =>
      e = .returned (.tuple #[.int .i64 (outV (fun j => counts m.ct (X j).s) K V n), .bool (outB (fun j => counts m.ct (X j).s) K n)]) ∧ Below w.heap.size w w' := by
  rcases first_bad (fun j => counts m.ct (X j).s) K n with ⟨j, hj, hc, hk, hmin⟩ | h
  · rw [(out_bad (V := V) hj hc hk).1, (out_bad (V := V) hj hc hk).2]
    exact req_bad m mb a n c X V K w hn hB hL hK j hj hc hk hmin
  · rw [(out_good (V := V) h).1, (out_good (V := V) h).2]
    exact req_good m mb a n c X V K w hn hB hL hK h

/-! ### The sum, whatever the order -/
theorem wrap64_add (a b : Int) : wrap64 (wrap64 a + b) = wrap64 (a + b) := by unfold wrap64; omega
def tot (V : Nat → Int) (l : List Nat) : Int := (l.map V).sum
theorem tot_append (V : Nat → Int) (l r : List Nat) : tot V (l ++ r) = tot V l + tot V r := by unfold tot; rw [List.map_append, List.sum_append]
theorem tot_cons (V : Nat → Int) (x : Nat) (l : List Nat) : tot V (x :: l) = V x + tot V l := by unfold tot; rw [List.map_cons, List.sum_cons]
/-- The places of the counted ones among the first k. -/
def idx (c : Nat → Bool) (k : Nat) : List Nat := (List.range k).filter c
theorem idx_yes {c : Nat → Bool} {k : Nat} (h : c k = true) : idx c (k + 1) = idx c k ++ [k] := by unfold idx; rw [List.range_succ, List.filter_append]; simp [h]
theorem idx_no {c : Nat → Bool} {k : Nat} (h : c k = false) : idx c (k + 1) = idx c k := by unfold idx; rw [List.range_succ, List.filter_append]; simp [h]
theorem idx_len (c : Nat → Bool) (k : Nat) : (idx c k).length = cnt c k := by
  induction k with
  | zero => rfl
  | succ k ih =>
    cases h : c k with
    | true => rw [idx_yes h, cnt_yes h, List.length_append, ih]; rfl
    | false => rw [idx_no h, cnt_no h, ih]
theorem idx_mem {c : Nat → Bool} {k j : Nat} (h : j ∈ idx c k) : j < k ∧ c j = true := by
  unfold idx at h
  rw [List.mem_filter, List.mem_range] at h
  exact h
theorem mem_idx {c : Nat → Bool} {k j : Nat} (h : j < k) (hc : c j = true) : j ∈ idx c k := by
  unfold idx
  rw [List.mem_filter, List.mem_range]
  exact ⟨h, hc⟩
theorem wrap64_zero : wrap64 0 = 0 := by unfold wrap64; omega
theorem sm_tot (c : Nat → Bool) (V : Nat → Int) (k : Nat) : sm c V k = wrap64 (tot V (idx c k)) := by
  induction k with
  | zero => show (0 : Int) = wrap64 0; rw [wrap64_zero]
  | succ k ih =>
    cases h : c k with
    | true =>
      rw [sm_yes h, idx_yes h, tot_append, ih, wrap64_add]
      congr 2
      show V k = V k + 0
      omega
    | false => rw [sm_no h, idx_no h, ih]
theorem tot_drop (V : Nat → Int) (l : List Nat) (t : Nat) (h : t < l.length) : tot V (l.drop t) = V (l.getD t 0) + tot V (l.drop (t + 1)) := by
  rw [List.drop_eq_getElem_cons h, tot_cons]
  simp [List.getD, h]
end Go.Proofs.Qxb6632381a
