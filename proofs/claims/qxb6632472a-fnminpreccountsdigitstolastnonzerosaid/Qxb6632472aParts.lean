import Derived.Test.Qxb6632472aRows
import Derived.WalkKit
import Derived.WalkSpells
import Derived.WalkLawsBesides
import Derived.Deep.QuietTactic
import Derived.BigQuiet
namespace Go.Proofs.Qxb6632472a
open Go.RowKit

/-! ### Small laws on worlds -/
theorem cell_below {w w' : World} {B : Nat} (hb : Below B w w') {a : Addr} {v : Value} (h : w.cell? a = some v) (ha : a.block < B) : w'.cell? a = some v := (hb.cell ha).trans h
theorem cell_keep {w w' : World} (hb : Below w.heap.size w w') {a : Addr} {v : Value} (h : w.cell? a = some v) : w'.cell? a = some v := cell_below hb h (World.block_lt_of_cell? _ _ h)
theorem alloc_below (w : World) (o : Obj) : Below w.heap.size w (w.alloc o) := (Below.refl _ _).alloc (Nat.le_refl _) _
theorem drewN_below (w : World) (n : Nat) : Below w.heap.size w (w.drewN n) := below_drewN (Below.refl _ _) n
theorem below_on {W w w' : World} (h : Below W.heap.size W w) (hb : Below w.heap.size w w') : Below W.heap.size W w' := h.trans (hb.mono h.size)

def Blk (w : World) (b : Nat) (cs : Array Value) (t : TypeId) : Prop := w.heap[b]? = some (.cells cs t (0, 0))
theorem Blk.lt {w : World} {b : Nat} {cs : Array Value} {t : TypeId} (h : Blk w b cs t) : b < w.heap.size := (Array.getElem?_eq_some_iff.1 h).1
theorem Blk.keep {w w' : World} {b : Nat} {cs : Array Value} {t : TypeId} (h : Blk w b cs t) (hb : Below w.heap.size w w') : Blk w' b cs t := (hb.block b h.lt).trans h
theorem Blk.cell {w : World} {b : Nat} {cs : Array Value} {t : TypeId} (h : Blk w b cs t) (o : Nat) {v : Value} (hv : cs[o]? = some v) : w.cell? ⟨b, o, none⟩ = some v := by rw [cell_of_row w b o cs t _ h]; exact hv
theorem Blk.new (w : World) (cs : Array Value) (t : TypeId) : Blk (w.alloc (.cells cs t)) w.heap.size cs t := heap_alloc_new w _

/-- The words Z 0 .. Z (n-1) lie behind the address. -/
def Lies (w : World) (a : Option Addr) (n : Nat) (Z : Nat → Int) : Prop :=
  n = 0 ∨ ∃ g o, a = some ⟨g, o, none⟩ ∧ ∀ j, j < n → w.cell? ⟨g, o + j, none⟩ = some (.int .u64 (Z j))
theorem Lies.keep {w w' : World} {a : Option Addr} {n : Nat} {Z : Nat → Int} (h : Lies w a n Z) (hb : Below w.heap.size w w') : Lies w' a n Z := by
  rcases h with h | ⟨g, o, ha, hc⟩
  · exact .inl h
  · exact .inr ⟨g, o, ha, fun j hj => cell_keep hb (hc j hj)⟩

/-- Block g is a row of n words of the call's own; the first k are laid. -/
def Own (w : World) (g n k : Nat) (Z : Nat → Int) : Prop :=
  ∃ cs : Array Value, w.heap[g]? = some (.cells cs 28 (0, 0)) ∧ cs.size = n ∧ ∀ j, j < k → cs[j]? = some (.int .u64 (Z j))
theorem own_cells {w : World} {g n k : Nat} {Z : Nat → Int} (h : Own w g n k Z) (j : Nat) (hj : j < n) : (∃ y, w.cell? ⟨g, j, none⟩ = some y) ∧ w.frozen? ⟨g, j, none⟩ = false := by
  obtain ⟨cs, hg, hs, _⟩ := h
  refine ⟨⟨cs[j]'(by omega), ?_⟩, frozen_of_row w g _ cs 28 hg⟩
  rw [cell_of_row w g _ cs 28 (0, 0) hg]; simp
theorem Own.lt {w : World} {g n k : Nat} {Z : Nat → Int} (h : Own w g n k Z) : g < w.heap.size := by
  obtain ⟨cs, h1, h2⟩ := h
  exact (Array.getElem?_eq_some_iff.1 h1).1
theorem own_store {w : World} {g n k : Nat} {Z : Nat → Int} (h : Own w g n k Z) (hk : k < n) {y : Int} (hy : Z k = y) : Own (w.setCell ⟨g, k, none⟩ (.int .u64 y)) g n (k + 1) Z := by
  subst hy
  obtain ⟨cs, hg, hs, hc⟩ := h
  refine ⟨_, heap_setCell_same w g k cs 28 (.int .u64 (Z k)) hg, by simpa using hs, fun j hj => ?_⟩
  simp only [Array.getElem?_setIfInBounds]
  by_cases e : j = k
  · subst e
    rw [if_pos rfl, if_pos (by omega)]
  · rw [if_neg (by omega)]; exact hc j (by omega)
theorem own_new {w : World} {g n : Nat} {xs : List Value} (Z : Nat → Int) (h : w.ownsRow 0 28 1 (.slice (some ⟨g, 0, none⟩) n n) n xs) : Own w g n 0 Z := by
  rcases h.2 with ⟨h', _⟩ | ⟨g', cap', cur, h', _, hg, _, _, hs, _⟩
  · simp at h'
  · simp only [Value.slice.injEq, Option.some.injEq, Addr.mk.injEq, and_true, true_and] at h'
    obtain ⟨rfl, rfl⟩ := h'
    exact ⟨cur, hg, by simpa using hs, fun j hj => by omega⟩
theorem Own.lies {w : World} {g n : Nat} {Z : Nat → Int} (h : Own w g n n Z) : Lies w (some ⟨g, 0, none⟩) n Z := by
  obtain ⟨cs, hg, hs, hc⟩ := h
  refine .inr ⟨g, 0, rfl, fun j hj => ?_⟩
  rw [Nat.zero_add, cell_of_row w g _ cs 28 (0, 0) hg]
  simpa using hc j hj

theorem Try.info28 : (Try.prog.info? 28).map (fun i => (i.zero, i.size, i.bytes)) = some (some (.int .u64 0), 1, 8) := by kernel_rfl

/-! ### The walks -/
/-- A bool comes back, whichever. -/
def AnyB (e : Ending) : Prop := ∃ b, e = .returned (.bool b)

set_option maxHeartbeats 400000 in
theorem bytes3_any (f : Int) (ng : Bool) (a : Option Addr) (n cap : Nat) (ex pr : Int) (w : World) (hl : n ≤ maxLen) :
    Calls Try.prog 5 #[.int .u8 f, .bool ng, .slice a n cap, .int .i32 ex, .int .u32 pr] w fun e w' => AnyB e ∧ w = w' := by
  unfold maxLen at hl
  by_cases h : n ≤ 1048576
  · go_enter Try.func5, Try.ntmps5
    go_wp2
    go_ret
    exact ⟨⟨_, rfl⟩, rfl⟩
  · go_enter Try.func5, Try.ntmps5
    go_wp2
    go_ret
    exact ⟨⟨_, rfl⟩, rfl⟩

set_option maxHeartbeats 400000 in
theorem bytes4_any (a b : Option Addr) (n cap k cap2 : Nat) (ng nh : Bool) (ex ey pr : Int) (w : World) (hl : n ≤ maxLen) (hk : k ≤ maxLen) :
    Calls Try.prog 11 #[.slice a n cap, .slice b k cap2, .bool ng, .bool nh, .int .i32 ex, .int .i32 ey, .int .u32 pr] w fun e w' => AnyB e ∧ w = w' := by
  unfold maxLen at hl hk
  go_enter Try.func11, Try.ntmps11
  go_wp2
  all_goals go_ret
  all_goals exact ⟨⟨_, rfl⟩, rfl⟩

set_option maxHeartbeats 400000 in
theorem clone_nil (w : World) :
    Calls Try.prog 8 #[.slice none 0 0] w fun e w' => e = .returned (.slice none 0 0) ∧ w = w' := by
  have hnil := Lib.run_eql_slice_nil (P := Try.prog)
  go_enter Try.func8, Try.ntmps8
  go_wp2
  go_ret
  exact ⟨rfl, rfl⟩

set_option maxHeartbeats 400000 in
theorem clone_some (ad : Addr) (len cap : Nat) (Z : Nat → Int) (w : World) (hl : len ≤ 65536) (hL : Lies w (some ad) len Z) :
    Calls Try.prog 8 #[.slice (some ad) len cap] w fun e w' => e = .returned (.slice (some ⟨w.heap.size, 0, none⟩) len len) ∧ Own w' w.heap.size len len Z ∧ Below w.heap.size w w' := by
  obtain ⟨i0, hi, hz0, hz1, hz2⟩ := info_parts Try.info28
  have hnil := Lib.run_eql_slice_nil (P := Try.prog)
  go_enter Try.func8, Try.ntmps8
  go_wp2_with (first | (at_make; refine wpList_make_full _ rfl _ _ 22 rfl 0 28 i0 _ 1 Try.underlying22 hi hz0 hz1 .i64 .i64 _ _ len rfl rfl rfl rfl (by rw [hz2]; omega) (by unfold maxLen; omega) (by omega) ?_; intro w1 hown1 hgrow1))
  have hO : Own w1 w.heap.size len 0 Z := own_new Z hown1
  have hB : Below w.heap.size w w1 := (Below.refl _ _).grown hgrow1 (Nat.le_refl _) (fun k hk => by cases hk)
  clear hown1 hgrow1
  go_loopw [4] (fun i wr => ∃ k : Nat, k ≤ len ∧ i = .int .i64 k ∧ Own wr w.heap.size len k Z ∧ Below w.heap.size w wr) (fun i _ => len - (intOf i).toNat)
  case atStart => exact ⟨0, by omega, rfl, hO, hB⟩
  case round =>
    clear hO hB
    obtain ⟨k, hk, rfl, hO, hB⟩ := hrel
    by_cases hlt : k < len
    · rcases hL with h | ⟨g, o, h, hc⟩
      · omega
      obtain rfl := Option.some.inj h
      have c0 := cell_keep hB (hc k hlt)
      clear hc h
      obtain ⟨⟨y0, e0⟩, f0⟩ := own_cells hO k hlt
      go_wp2
      go_roundw
      case rel => exact ⟨k + 1, by omega, by go_num, own_store hO hlt rfl, hB.setCell (Nat.le_refl _) _⟩
      case measure => simp [intOf]; omega
    · clear hL
      go_wp2
      go_ret
      obtain rfl : k = len := by omega
      exact ⟨rfl, hO, hB⟩

/-- zzClone: what comes back lies there as a row of the same words. -/
theorem clone_any (a : Option Addr) (len cap : Nat) (Z : Nat → Int) (w : World) (hl : len ≤ 65536) (hn : a = none → len = 0 ∧ cap = 0) (hL : Lies w a len Z) :
    Calls Try.prog 8 #[.slice a len cap] w fun e w' => ∃ a' c', e = .returned (.slice a' len c') ∧ Lies w' a' len Z ∧ Below w.heap.size w w' := by
  rcases a with _ | ad
  · obtain ⟨rfl, rfl⟩ := hn rfl
    refine (clone_nil w).mono ?_
    rintro e w' ⟨rfl, rfl⟩
    exact ⟨none, 0, rfl, .inl rfl, Below.refl _ _⟩
  · refine (clone_some _ len cap Z w hl hL).mono ?_
    rintro e w' ⟨rfl, hO, hB⟩
    exact ⟨_, _, rfl, hO.lies, hB⟩

set_option maxHeartbeats 400000 in
theorem new_any (f : Int) (ng : Bool) (a : Option Addr) (n cap : Nat) (ex pr : Int) (w : World) :
    Calls Try.prog 9 #[.int .u8 f, .bool ng, .slice a n cap, .int .i32 ex, .int .u32 pr] w fun e w' => ∃ b v1 v2, e = .returned (.pointer (some ⟨b, 0, none⟩)) ∧ Blk w' b #[.int .u32 pr, v1, v2, .int .u8 f, .bool ng, .slice a n cap, .int .i32 ex] 40 ∧ Below w.heap.size w w' := by
  go_enter Try.func9, Try.ntmps9
  go_wp2
  go_ret
  exact ⟨_, _, _, rfl, Blk.new _ _ _, alloc_below _ _⟩
end Go.Proofs.Qxb6632472a
