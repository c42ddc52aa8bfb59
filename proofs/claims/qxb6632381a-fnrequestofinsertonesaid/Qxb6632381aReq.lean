import Derived.Test.Qxb6632381aParts
namespace Go.Proofs.Qxb6632381a
open Go.RowKit Go.Maps

/-- Does the metric count the container of this name? -/
def counts (ct s : ByteArray) : Bool := ct.toList.isEmpty || (s.toList == ct.toList)
/-- The sum of what is counted among the first k, as int64 has it. -/
def sm (c : Nat → Bool) (v : Nat → Int) : Nat → Int
  | 0 => 0
  | k + 1 => if c k then wrap64 (sm c v k + v k) else sm c v k
/-- How many of the first k are counted. -/
def cnt (c : Nat → Bool) : Nat → Nat
  | 0 => 0
  | k + 1 => if c k then cnt c k + 1 else cnt c k
theorem sm_yes {c : Nat → Bool} {v : Nat → Int} {k : Nat} (h : c k = true) : sm c v (k + 1) = wrap64 (sm c v k + v k) := by simp [sm, h]
theorem sm_no {c : Nat → Bool} {v : Nat → Int} {k : Nat} (h : c k = false) : sm c v (k + 1) = sm c v k := by simp [sm, h]
theorem cnt_yes {c : Nat → Bool} {k : Nat} (h : c k = true) : cnt c (k + 1) = cnt c k + 1 := by simp [cnt, h]
theorem cnt_no {c : Nat → Bool} {k : Nat} (h : c k = false) : cnt c (k + 1) = cnt c k := by simp [cnt, h]
theorem cnt_le (c : Nat → Bool) (k : Nat) : cnt c k ≤ k := by
  induction k with
  | zero => exact Nat.le_refl _
  | succ k ih => unfold cnt; split <;> omega

def MeV (m : Me) : Array Value := #[.string m.ty, .string m.nm, .string m.ct, .string m.dk, .string m.se, .int .i64 m.tg, .int .i64 m.av, .int .i32 m.au, .int .i64 m.va, .string m.fi]

set_option maxRecDepth 100000 in
set_option maxHeartbeats 800000 in
theorem req_good (m : Me) (mb : Nat) (a : Option Addr) (n c : Nat) (X : Nat → Co) (V : Nat → Int) (K : Nat → Bool) (w : World) (hn : n ≤ 65537) (hB : Blk w mb (MeV m) 43) (hL : Lies w a n X) (hK : ∀ j, j < n → Looks w (X j).m m.nm (V j) (K j))
    (hok : ∀ j, j < n → counts m.ct (X j).s = true → K j = true) :
    Calls Try.prog 8 #[.pointer (some ⟨mb, 0, none⟩), .slice a n c] w fun e w' =>
      e = .returned (.tuple #[.int .i64 (sm (fun j => counts m.ct (X j).s) V n), .bool (decide (0 < cnt (fun j => counts m.ct (X j).s) n))]) ∧ Below w.heap.size w w' := by
  have HL : Hid (Lies w a n X ∧ (∀ j, j < n → Looks w (X j).m m.nm (V j) (K j)) ∧ (∀ j, j < n → counts m.ct (X j).s = true → K j = true) ∧ Blk w mb (MeV m) 43) := ⟨hL, hK, hok, hB⟩
  have hB0 : Below w.heap.size w w := Below.refl _ _
  clear hL hK hok hB
  go_enter Try.func8, Try.ntmps8
  go_wp2
  go_loopw [6, 7, 14] (fun s q i wr => ∃ k : Nat, k ≤ n ∧ i = .int .i64 k ∧ s = .int .i64 (sm (fun j => counts m.ct (X j).s) V k) ∧ q = .int .i64 (cnt (fun j => counts m.ct (X j).s) k : Nat) ∧ Below w.heap.size w wr) (fun _ _ i _ => n - (intOf i).toNat)
  case atStart => exact ⟨0, by omega, rfl, rfl, rfl, hB0⟩
  case round =>
    clear hB0
    obtain ⟨k, hk, rfl, rfl, rfl, hB⟩ := hrel
    have hcl := cnt_le (fun j => counts m.ct (X j).s) k
    generalize hS : sm (fun j => counts m.ct (X j).s) V k = S
    generalize hC : cnt (fun j => counts m.ct (X j).s) k = C at *
    have HS : Hid (sm (fun j => counts m.ct (X j).s) V k = S ∧ cnt (fun j => counts m.ct (X j).s) k = C) := ⟨hS, hC⟩
    clear hS hC
    by_cases hlt : k < n
    · rcases HL.out.1 with h | ⟨g, o, rfl, hc⟩
      · omega
      obtain ⟨h0, h1⟩ := hc k hlt
      clear hc
      have c0 := cell_keep hB h0
      have c1 := cell_keep hB h1
      clear h0 h1
      have M := HL.out.2.2.2.keep hB
      have m1 := M.cell 1 (v := .string m.nm) rfl
      have m2 := M.cell 2 (v := .string m.ct) rfl
      have mlt := M.lt
      clear M
      by_cases he : m.ct.toList.isEmpty = true
      · have hct : counts m.ct (X k).s = true := by unfold counts; rw [he]; rfl
        have hKk := HL.out.2.2.1 k hlt hct
        have HY : Hid (counts m.ct (X k).s = true) := hct
        clear hct
        go_wp2
        go_quiet (fail)
        go_wp2_with fail
        clear m1 m2 c0 c1
        have B5 : Below w.heap.size w ((wr.alloc (.cells #[.string (X k).s, .map (X k).m] 35)).drewN nq) := below_drewN (hB.alloc hB.size _) _
        have b5 : Blk ((wr.alloc (.cells #[.string (X k).s, .map (X k).m] 35)).drewN nq) wr.heap.size #[.string (X k).s, .map (X k).m] 35 := (Blk.new wr _ _).keep (drewN_below _ _)
        generalize (wr.alloc (.cells #[.string (X k).s, .map (X k).m] 35)).drewN nq = w5 at B5 b5 ⊢
        have M := HL.out.2.2.2.keep B5
        have m1 := M.cell 1 (v := .string m.nm) rfl
        clear M
        have d1 := b5.cell 1 (v := .map (X k).m) rfl
        have hlk := fun q => (HL.out.2.1 k hlt (w5.drewN q) (below_drewN B5 q)).1
        go_quiet (fail)
        go_wp2
        go_roundw
        case rel => exact ⟨k + 1, by omega, by go_num, by rw [sm_yes (c := fun j => counts m.ct (X j).s) HY.out, HS.out.1], by rw [cnt_yes (c := fun j => counts m.ct (X j).s) HY.out, HS.out.2]; go_num, below_drewN B5 _⟩
        case measure => simp [intOf]; omega
      · replace he : m.ct.toList.isEmpty = false := by simpa using he
        by_cases hq : ((X k).s.toList == m.ct.toList) = true
        · have hct : counts m.ct (X k).s = true := by unfold counts; rw [hq]; simp
          have hKk := HL.out.2.2.1 k hlt hct
          have HY : Hid (counts m.ct (X k).s = true) := hct
          clear hct
          go_wp2
          go_quiet (fail)
          go_wp2_with fail
          clear m1 m2 c0 c1
          have B5 : Below w.heap.size w ((wr.alloc (.cells #[.string (X k).s, .map (X k).m] 35)).drewN nq) := below_drewN (hB.alloc hB.size _) _
          have b5 : Blk ((wr.alloc (.cells #[.string (X k).s, .map (X k).m] 35)).drewN nq) wr.heap.size #[.string (X k).s, .map (X k).m] 35 := (Blk.new wr _ _).keep (drewN_below _ _)
          generalize (wr.alloc (.cells #[.string (X k).s, .map (X k).m] 35)).drewN nq = w5 at B5 b5 ⊢
          have M := HL.out.2.2.2.keep B5
          have m1 := M.cell 1 (v := .string m.nm) rfl
          clear M
          have d1 := b5.cell 1 (v := .map (X k).m) rfl
          have hlk := fun q => (HL.out.2.1 k hlt (w5.drewN q) (below_drewN B5 q)).1
          go_quiet (fail)
          go_wp2
          go_roundw
          case rel => exact ⟨k + 1, by omega, by go_num, by rw [sm_yes (c := fun j => counts m.ct (X j).s) HY.out, HS.out.1], by rw [cnt_yes (c := fun j => counts m.ct (X j).s) HY.out, HS.out.2]; go_num, below_drewN B5 _⟩
          case measure => simp [intOf]; omega
        · replace hq : ((X k).s.toList == m.ct.toList) = false := by simpa using hq
          have HY : Hid (counts m.ct (X k).s = false) := by show counts m.ct (X k).s = false; unfold counts; rw [he, hq]; rfl
          go_wp2
          go_quiet (fail)
          go_wp2
          go_roundw
          case rel => exact ⟨k + 1, by omega, by go_num, by rw [sm_no (c := fun j => counts m.ct (X j).s) HY.out, HS.out.1], by rw [cnt_no (c := fun j => counts m.ct (X j).s) HY.out, HS.out.2], below_drewN (hB.alloc hB.size _) _⟩
          case measure => simp [intOf]; omega
    · obtain rfl : k = n := by omega
      go_wp2
      go_ret2
      exact ⟨by rw [HS.out.1, HS.out.2]; rfl, hB⟩

set_option maxRecDepth 100000 in
set_option maxHeartbeats 800000 in
theorem req_bad (m : Me) (mb : Nat) (a : Option Addr) (n c : Nat) (X : Nat → Co) (V : Nat → Int) (K : Nat → Bool) (w : World) (hn : n ≤ 65537) (hB : Blk w mb (MeV m) 43) (hL : Lies w a n X) (hK : ∀ j, j < n → Looks w (X j).m m.nm (V j) (K j))
    (j0 : Nat) (hj0 : j0 < n) (hc0 : counts m.ct (X j0).s = true) (hk0 : K j0 = false) (hok : ∀ j, j < j0 → counts m.ct (X j).s = true → K j = true) :
    Calls Try.prog 8 #[.pointer (some ⟨mb, 0, none⟩), .slice a n c] w fun e w' =>
      e = .returned (.tuple #[.int .i64 0, .bool false]) ∧ Below w.heap.size w w' := by
  have HL : Hid (Lies w a n X ∧ (∀ j, j < n → Looks w (X j).m m.nm (V j) (K j)) ∧ (∀ j, j < j0 → counts m.ct (X j).s = true → K j = true) ∧ Blk w mb (MeV m) 43) := ⟨hL, hK, hok, hB⟩
  have hB0 : Below w.heap.size w w := Below.refl _ _
  have HC0 : Hid (counts m.ct (X j0).s = true) := hc0
  clear hL hK hok hB hc0
  go_enter Try.func8, Try.ntmps8
  go_wp2
  go_loopw [6, 7, 14] (fun s q i wr => ∃ k : Nat, k ≤ j0 ∧ i = .int .i64 k ∧ s = .int .i64 (sm (fun j => counts m.ct (X j).s) V k) ∧ q = .int .i64 (cnt (fun j => counts m.ct (X j).s) k : Nat) ∧ Below w.heap.size w wr) (fun _ _ i _ => n - (intOf i).toNat)
  case atStart => exact ⟨0, by omega, rfl, rfl, rfl, hB0⟩
  case round =>
    clear hB0
    obtain ⟨k, hk, rfl, rfl, rfl, hB⟩ := hrel
    have hcl := cnt_le (fun j => counts m.ct (X j).s) k
    generalize hS : sm (fun j => counts m.ct (X j).s) V k = S
    generalize hC : cnt (fun j => counts m.ct (X j).s) k = C at *
    have HS : Hid (sm (fun j => counts m.ct (X j).s) V k = S ∧ cnt (fun j => counts m.ct (X j).s) k = C) := ⟨hS, hC⟩
    clear hS hC
    have hlt : k < n := by omega
    · rcases HL.out.1 with h | ⟨g, o, rfl, hc⟩
      · omega
      obtain ⟨h0, h1⟩ := hc k hlt
      clear hc
      have c0 := cell_keep hB h0
      have c1 := cell_keep hB h1
      clear h0 h1
      have M := HL.out.2.2.2.keep hB
      have m1 := M.cell 1 (v := .string m.nm) rfl
      have m2 := M.cell 2 (v := .string m.ct) rfl
      have mlt := M.lt
      clear M
      by_cases hkj : k = j0
      · subst hkj
        by_cases he : m.ct.toList.isEmpty = true
        · have hct : counts m.ct (X k).s = true := by unfold counts; rw [he]; rfl
          have hKk := hk0
          have HY : Hid (counts m.ct (X k).s = true) := hct
          clear hct
          go_wp2
          go_quiet (fail)
          go_wp2_with fail
          clear m1 m2 c0 c1
          have B5 : Below w.heap.size w ((wr.alloc (.cells #[.string (X k).s, .map (X k).m] 35)).drewN nq) := below_drewN (hB.alloc hB.size _) _
          have b5 : Blk ((wr.alloc (.cells #[.string (X k).s, .map (X k).m] 35)).drewN nq) wr.heap.size #[.string (X k).s, .map (X k).m] 35 := (Blk.new wr _ _).keep (drewN_below _ _)
          generalize (wr.alloc (.cells #[.string (X k).s, .map (X k).m] 35)).drewN nq = w5 at B5 b5 ⊢
          have M := HL.out.2.2.2.keep B5
          have m1 := M.cell 1 (v := .string m.nm) rfl
          clear M
          have d1 := b5.cell 1 (v := .map (X k).m) rfl
          have hlk := fun q => (HL.out.2.1 k hlt (w5.drewN q) (below_drewN B5 q)).1
          go_quiet (fail)
          go_wp2
          go_ret2
          exact ⟨rfl, below_drewN B5 _⟩
        · replace he : m.ct.toList.isEmpty = false := by simpa using he
          by_cases hq : ((X k).s.toList == m.ct.toList) = true
          · have hct : counts m.ct (X k).s = true := by unfold counts; rw [hq]; simp
            have hKk := hk0
            have HY : Hid (counts m.ct (X k).s = true) := hct
            clear hct
            go_wp2
            go_quiet (fail)
            go_wp2_with fail
            clear m1 m2 c0 c1
            have B5 : Below w.heap.size w ((wr.alloc (.cells #[.string (X k).s, .map (X k).m] 35)).drewN nq) := below_drewN (hB.alloc hB.size _) _
            have b5 : Blk ((wr.alloc (.cells #[.string (X k).s, .map (X k).m] 35)).drewN nq) wr.heap.size #[.string (X k).s, .map (X k).m] 35 := (Blk.new wr _ _).keep (drewN_below _ _)
            generalize (wr.alloc (.cells #[.string (X k).s, .map (X k).m] 35)).drewN nq = w5 at B5 b5 ⊢
            have M := HL.out.2.2.2.keep B5
            have m1 := M.cell 1 (v := .string m.nm) rfl
            clear M
            have d1 := b5.cell 1 (v := .map (X k).m) rfl
            have hlk := fun q => (HL.out.2.1 k hlt (w5.drewN q) (below_drewN B5 q)).1
            go_quiet (fail)
            go_wp2
            go_ret2
            exact ⟨rfl, below_drewN B5 _⟩
          · exfalso
            have := HC0.out
            unfold counts at this
            rw [he] at this
            simp at this
            simp [this] at hq
      · by_cases he : m.ct.toList.isEmpty = true
        · have hct : counts m.ct (X k).s = true := by unfold counts; rw [he]; rfl
          have hKk := HL.out.2.2.1 k (by omega) hct
          have HY : Hid (counts m.ct (X k).s = true) := hct
          clear hct
          go_wp2
          go_quiet (fail)
          go_wp2_with fail
          clear m1 m2 c0 c1
          have B5 : Below w.heap.size w ((wr.alloc (.cells #[.string (X k).s, .map (X k).m] 35)).drewN nq) := below_drewN (hB.alloc hB.size _) _
          have b5 : Blk ((wr.alloc (.cells #[.string (X k).s, .map (X k).m] 35)).drewN nq) wr.heap.size #[.string (X k).s, .map (X k).m] 35 := (Blk.new wr _ _).keep (drewN_below _ _)
          generalize (wr.alloc (.cells #[.string (X k).s, .map (X k).m] 35)).drewN nq = w5 at B5 b5 ⊢
          have M := HL.out.2.2.2.keep B5
          have m1 := M.cell 1 (v := .string m.nm) rfl
          clear M
          have d1 := b5.cell 1 (v := .map (X k).m) rfl
          have hlk := fun q => (HL.out.2.1 k hlt (w5.drewN q) (below_drewN B5 q)).1
          go_quiet (fail)
          go_wp2
          go_roundw
          case rel => exact ⟨k + 1, by omega, by go_num, by rw [sm_yes (c := fun j => counts m.ct (X j).s) HY.out, HS.out.1], by rw [cnt_yes (c := fun j => counts m.ct (X j).s) HY.out, HS.out.2]; go_num, below_drewN B5 _⟩
          case measure => simp [intOf]; omega
        · replace he : m.ct.toList.isEmpty = false := by simpa using he
          by_cases hq : ((X k).s.toList == m.ct.toList) = true
          · have hct : counts m.ct (X k).s = true := by unfold counts; rw [hq]; simp
            have hKk := HL.out.2.2.1 k (by omega) hct
            have HY : Hid (counts m.ct (X k).s = true) := hct
            clear hct
            go_wp2
            go_quiet (fail)
            go_wp2_with fail
            clear m1 m2 c0 c1
            have B5 : Below w.heap.size w ((wr.alloc (.cells #[.string (X k).s, .map (X k).m] 35)).drewN nq) := below_drewN (hB.alloc hB.size _) _
            have b5 : Blk ((wr.alloc (.cells #[.string (X k).s, .map (X k).m] 35)).drewN nq) wr.heap.size #[.string (X k).s, .map (X k).m] 35 := (Blk.new wr _ _).keep (drewN_below _ _)
            generalize (wr.alloc (.cells #[.string (X k).s, .map (X k).m] 35)).drewN nq = w5 at B5 b5 ⊢
            have M := HL.out.2.2.2.keep B5
            have m1 := M.cell 1 (v := .string m.nm) rfl
            clear M
            have d1 := b5.cell 1 (v := .map (X k).m) rfl
            have hlk := fun q => (HL.out.2.1 k hlt (w5.drewN q) (below_drewN B5 q)).1
            go_quiet (fail)
            go_wp2
            go_roundw
            case rel => exact ⟨k + 1, by omega, by go_num, by rw [sm_yes (c := fun j => counts m.ct (X j).s) HY.out, HS.out.1], by rw [cnt_yes (c := fun j => counts m.ct (X j).s) HY.out, HS.out.2]; go_num, below_drewN B5 _⟩
            case measure => simp [intOf]; omega
          · replace hq : ((X k).s.toList == m.ct.toList) = false := by simpa using hq
            have HY : Hid (counts m.ct (X k).s = false) := by show counts m.ct (X k).s = false; unfold counts; rw [he, hq]; rfl
            go_wp2
            go_quiet (fail)
            go_wp2
            go_roundw
            case rel => exact ⟨k + 1, by omega, by go_num, by rw [sm_no (c := fun j => counts m.ct (X j).s) HY.out, HS.out.1], by rw [cnt_no (c := fun j => counts m.ct (X j).s) HY.out, HS.out.2], below_drewN (hB.alloc hB.size _) _⟩
            case measure => simp [intOf]; omega

end Go.Proofs.Qxb6632381a
