import Derived.Test.Qxb6632559aRows
import Derived.WalkKit
import Derived.WalkSpells
import Derived.WalkLawsBesides
import Derived.Deep.QuietTactic
import Derived.BigQuiet
namespace Go.Proofs.Qxb6632559a
open Go.RowKit

/-! ### Small laws on worlds -/
theorem cell_below {w w' : World} {B : Nat} (hb : Below B w w') {a : Addr} {v : Value} (h : w.cell? a = some v) (ha : a.block < B) : w'.cell? a = some v := (hb.cell ha).trans h
theorem cell_keep {w w' : World} (hb : Below w.heap.size w w') {a : Addr} {v : Value} (h : w.cell? a = some v) : w'.cell? a = some v := cell_below hb h (World.block_lt_of_cell? _ _ h)
theorem alloc_below (w : World) (o : Obj) : Below w.heap.size w (w.alloc o) := (Below.refl _ _).alloc (Nat.le_refl _) _
theorem drewN_below (w : World) (n : Nat) : Below w.heap.size w (w.drewN n) := below_drewN (Below.refl _ _) n
theorem below_on {W w w' : World} (h : Below W.heap.size W w) (hb : Below w.heap.size w w') : Below W.heap.size W w' := h.trans (hb.mono h.size)
def Blk (w : World) (b : Nat) (cs : Array Value) (t : TypeId) : Prop := w.heap[b]? = some (.cells cs t (0, 0))
theorem Blk.lt {w : World} {b : Nat} {cs : Array Value} {t : TypeId} (h : Blk w b cs t) : b < w.heap.size := (Array.getElem?_eq_some_iff.1 h).1
theorem Blk.keep {w w' : World} {b : Nat} {cs : Array Value} {t : TypeId} (h : Blk w b cs t) (hb : Below w.heap.size w w') : Blk w' b cs t := (hb.block b h.lt).trans h
theorem Blk.cell {w : World} {b : Nat} {cs : Array Value} {t : TypeId} (h : Blk w b cs t) (o : Nat) {v : Value} (hv : cs[o]? = some v) : w.cell? ⟨b, o, none⟩ = some v := by rw [cell_of_row w b o cs t _ h]; exact hv
theorem Blk.new (w : World) (cs : Array Value) (t : TypeId) : Blk (w.alloc (.cells cs t)) w.heap.size cs t := heap_alloc_new w _
theorem Blk.three {w : World} {b : Nat} {t : TypeId} {x y z : Value} (h : Blk w b #[x, y, z] t) : w.cell? ⟨b, 0, none⟩ = some x ∧ w.cell? ⟨b, 1, none⟩ = some y ∧ w.cell? ⟨b, 2, none⟩ = some z := ⟨h.cell 0 rfl, h.cell 1 rfl, h.cell 2 rfl⟩

/-! ### One line of a map -/
structure R3 where
  i : Int
  o : Int
  l : Int
def same (x y : R3) : Bool := x.i == y.i && x.o == y.o && x.l == y.l
theorem same_self (x : R3) : same x x = true := by unfold same; simp
theorem same_comm (x y : R3) : same x y = same y x := by unfold same; rw [Bool.eq_iff_iff]; simp only [Bool.and_eq_true, beq_iff_eq]; exact ⟨fun ⟨⟨a, b⟩, c⟩ => ⟨⟨a.symm, b.symm⟩, c.symm⟩, fun ⟨⟨a, b⟩, c⟩ => ⟨⟨a.symm, b.symm⟩, c.symm⟩⟩
theorem same_eq {x y : R3} (h : same x y = true) : x = y := by
  unfold same at h
  simp only [Bool.and_eq_true, beq_iff_eq] at h
  obtain ⟨⟨a, b⟩, c⟩ := h
  cases x; cases y
  simp_all

theorem neq33 (x y : R3) (w : World) : (binOp .neq 33 (.agg #[.int .u32 x.i, .int .u32 x.o, .int .u32 x.l]) (.agg #[.int .u32 y.i, .int .u32 y.o, .int .u32 y.l])).run Try.prog w = .ok (.bool (!same x y)) w := by
  have ht : Try.prog.underlying 33 = some (.struct (Try.prog.fieldsOf 33)) := by kernel_rfl
  have hp : Try.prog.stoodInHeld 33 = false := by kernel_rfl
  rw [run_neq_struct, run_equalIn_struct w 9999 33 _ _ ht hp]
  have hf : (Try.prog.fieldsOf 33).toList = [⟨"Inside", 29, 0, false, "", "", 0⟩, ⟨"Outside", 29, 1, false, "", "", 4⟩, ⟨"Length", 29, 2, false, "", "", 8⟩] := by kernel_rfl
  rw [hf]
  simp only [Op.eqFields, same]
  by_cases h1 : x.i = y.i <;> by_cases h2 : x.o = y.o <;> by_cases h3 : x.l = y.l <;> simp [go_sem, Try.underlying29, h1, h2, h3]

theorem eql31 (x y : R3) (w : World) : (binOp .eql 31 (.agg #[.int .u32 x.i, .int .u32 x.o, .int .u32 x.l]) (.agg #[.int .u32 y.i, .int .u32 y.o, .int .u32 y.l])).run Try.prog w = .ok (.bool (same x y)) w := by
  have ht : Try.prog.underlying 31 = some (.struct (Try.prog.fieldsOf 31)) := by kernel_rfl
  have hp : Try.prog.stoodInHeld 31 = false := by kernel_rfl
  rw [run_eql_struct, run_equalIn_struct w 9999 31 _ _ ht hp]
  have hf : (Try.prog.fieldsOf 31).toList = [⟨"Inside", 29, 0, false, "", "", 0⟩, ⟨"Outside", 29, 1, false, "", "", 4⟩, ⟨"Length", 29, 2, false, "", "", 8⟩] := by kernel_rfl
  rw [hf]
  simp only [Op.eqFields, same]
  by_cases h1 : x.i = y.i <;> by_cases h2 : x.o = y.o <;> by_cases h3 : x.l = y.l <;> simp [go_sem, Try.underlying29, h1, h2, h3]

/-- The lines X 0 .. X (n-1) lie behind the address. -/
def Lies (w : World) (a : Option Addr) (n : Nat) (X : Nat → R3) : Prop :=
  n = 0 ∨ ∃ g o, a = some ⟨g, o, none⟩ ∧ ∀ j, j < n → w.cell? ⟨g, o + j * 3, none⟩ = some (.int .u32 (X j).i) ∧ w.cell? ⟨g, o + j * 3 + 1, none⟩ = some (.int .u32 (X j).o) ∧ w.cell? ⟨g, o + j * 3 + 2, none⟩ = some (.int .u32 (X j).l)
theorem Lies.keep {w w' : World} {a : Option Addr} {n : Nat} {X : Nat → R3} (h : Lies w a n X) (hb : Below w.heap.size w w') : Lies w' a n X := by
  rcases h with h | ⟨g, o, ha, hc⟩
  · exact .inl h
  · exact .inr ⟨g, o, ha, fun j hj => ⟨cell_keep hb (hc j hj).1, cell_keep hb (hc j hj).2.1, cell_keep hb (hc j hj).2.2⟩⟩

/-- Block g is a row of n lines of the call's own; the first k are laid. -/
def Own (w : World) (g n k : Nat) (X : Nat → R3) : Prop :=
  ∃ cs : Array Value, w.heap[g]? = some (.cells cs 33 (0, 0)) ∧ cs.size = n * 3 ∧ ∀ j, j < k → cs[j * 3]? = some (.int .u32 (X j).i) ∧ cs[j * 3 + 1]? = some (.int .u32 (X j).o) ∧ cs[j * 3 + 2]? = some (.int .u32 (X j).l)
theorem own_cells {w : World} {g n k : Nat} {X : Nat → R3} (h : Own w g n k X) (j : Nat) (hj : j < n) :
    (∃ y, w.cell? ⟨g, j * 3, none⟩ = some y) ∧ (∃ y, w.cell? ⟨g, j * 3 + 1, none⟩ = some y) ∧ (∃ y, w.cell? ⟨g, j * 3 + 2, none⟩ = some y) ∧ w.frozen? ⟨g, j * 3, none⟩ = false ∧ w.frozen? ⟨g, j * 3 + 1, none⟩ = false ∧ w.frozen? ⟨g, j * 3 + 2, none⟩ = false := by
  obtain ⟨cs, hg, hs, _⟩ := h
  refine ⟨⟨cs[j * 3]'(by omega), ?_⟩, ⟨cs[j * 3 + 1]'(by omega), ?_⟩, ⟨cs[j * 3 + 2]'(by omega), ?_⟩, frozen_of_row w g _ cs 33 hg, frozen_of_row w g _ cs 33 hg, frozen_of_row w g _ cs 33 hg⟩
  all_goals (rw [cell_of_row w g _ cs 33 (0, 0) hg]; simp)
theorem Own.keep {w w' : World} {g n k : Nat} {X : Nat → R3} (h : Own w g n k X) (hb : Below w.heap.size w w') : Own w' g n k X := by
  obtain ⟨cs, h1, h2⟩ := h
  exact ⟨cs, (hb.block g (Array.getElem?_eq_some_iff.1 h1).1).trans h1, h2⟩
theorem Own.lt {w : World} {g n k : Nat} {X : Nat → R3} (h : Own w g n k X) : g < w.heap.size := by
  obtain ⟨cs, h1, h2⟩ := h
  exact (Array.getElem?_eq_some_iff.1 h1).1
/-- A store at place k, with what it makes of the row. -/
theorem own_set {w : World} {g n m k : Nat} {X Y : Nat → R3} (h : Own w g n m X) (hk : k < n) {m' : Nat} (hm : ∀ j, j < m' → j = k ∨ (j < m ∧ Y j = X j)) {y : R3} (hy : Y k = y) :
    Own (((w.setCell ⟨g, k * 3, none⟩ (.int .u32 y.i)).setCell ⟨g, k * 3 + 1, none⟩ (.int .u32 y.o)).setCell ⟨g, k * 3 + 2, none⟩ (.int .u32 y.l)) g n m' Y := by
  subst hy
  obtain ⟨cs, hg, hs, hc⟩ := h
  have g1 := heap_setCell_same w g (k * 3) cs 33 (.int .u32 (Y k).i) hg
  have g2 := heap_setCell_same _ g (k * 3 + 1) _ 33 (.int .u32 (Y k).o) g1
  have g3 := heap_setCell_same _ g (k * 3 + 2) _ 33 (.int .u32 (Y k).l) g2
  refine ⟨_, g3, by simpa using hs, fun j hj => ?_⟩
  simp only [Array.getElem?_setIfInBounds, Array.size_setIfInBounds]
  by_cases e : j = k
  · subst e
    refine ⟨?_, ?_, ?_⟩
    · rw [if_neg (by omega), if_neg (by omega), if_pos rfl, if_pos (by omega)]
    · rw [if_neg (by omega), if_pos rfl, if_pos (by omega)]
    · rw [if_pos rfl, if_pos (by omega)]
  · rcases hm j hj with h' | ⟨h', hY⟩
    · exact absurd h' e
    obtain ⟨a, b, c⟩ := hc j h'
    rw [hY]
    refine ⟨?_, ?_, ?_⟩
    · rw [if_neg (by omega), if_neg (by omega), if_neg (by omega)]; exact a
    · rw [if_neg (by omega), if_neg (by omega), if_neg (by omega)]; exact b
    · rw [if_neg (by omega), if_neg (by omega), if_neg (by omega)]; exact c
theorem own_store {w : World} {g n k : Nat} {X : Nat → R3} (h : Own w g n k X) (hk : k < n) {y : R3} (hy : X k = y) :
    Own (((w.setCell ⟨g, k * 3, none⟩ (.int .u32 y.i)).setCell ⟨g, k * 3 + 1, none⟩ (.int .u32 y.o)).setCell ⟨g, k * 3 + 2, none⟩ (.int .u32 y.l)) g n (k + 1) X :=
  own_set (Y := X) (m' := k + 1) h hk (fun _ hj => (Nat.lt_or_eq_of_le (Nat.lt_succ_iff.1 hj)).elim (fun e => .inr ⟨e, rfl⟩) .inl) hy
theorem own_new {w : World} {g n : Nat} {xs : List Value} (X : Nat → R3) (h : w.ownsRow 0 33 3 (.slice (some ⟨g, 0, none⟩) n n) n xs) : Own w g n 0 X := by
  rcases h.2 with ⟨h', _⟩ | ⟨g', cap', cur, h', _, hg, _, _, hs, _⟩
  · simp at h'
  · simp only [Value.slice.injEq, Option.some.injEq, Addr.mk.injEq, and_true, true_and] at h'
    obtain ⟨rfl, rfl⟩ := h'
    exact ⟨cur, hg, hs, fun j hj => by omega⟩
theorem Own.lies {w : World} {g n m : Nat} {X : Nat → R3} (h : Own w g n m X) : Lies w (some ⟨g, 0, none⟩) m X := by
  obtain ⟨cs, hg, hs, hc⟩ := h
  refine .inr ⟨g, 0, rfl, fun j hj => ?_⟩
  obtain ⟨h0, h1, h2⟩ := hc j hj
  simp only [Nat.zero_add]
  exact ⟨by rw [cell_of_row w g _ cs 33 (0, 0) hg]; simpa using h0, by rw [cell_of_row w g _ cs 33 (0, 0) hg]; simpa using h1, by rw [cell_of_row w g _ cs 33 (0, 0) hg]; simpa using h2⟩

theorem Try.info33 : (Try.prog.info? 33).map (fun i => (i.zero, i.size, i.bytes)) = some (some (.agg #[.int .u32 0, .int .u32 0, .int .u32 0]), 3, 12) := by kernel_rfl

/-! ### The walks -/
set_option maxHeartbeats 400000 in
theorem range_any (x : R3) (w : World) :
    Calls Try.prog 10 #[.agg #[.int .u32 x.i, .int .u32 x.o, .int .u32 x.l]] w fun e w' => e = .returned (.agg #[.int .u32 x.i, .int .u32 x.o, .int .u32 x.l]) ∧ Below w.heap.size w w' := by
  go_enter Try.func10, Try.ntmps10
  go_wp2
  exact bodyPost_ret (v := .agg #[.int .u32 x.i, .int .u32 x.o, .int .u32 x.l]) (by simp [results, Try.results10, go_sem]) rfl ⟨rfl, ((alloc_below _ _).alloc (by simp) _)⟩

set_option maxHeartbeats 400000 in
theorem toMap_any (a : Option Addr) (len cap : Nat) (X : Nat → R3) (w : World) (hl : len ≤ 65536) (hL : Lies w a len X) :
    Calls Try.prog 6 #[.slice a len cap] w fun e w' => e = .returned (.slice (some ⟨w.heap.size, 0, none⟩) len len) ∧ Own w' w.heap.size len len X ∧ Below w.heap.size w w' := by
  obtain ⟨i0, hi, hz0, hz1, hz2⟩ := info_parts Try.info33
  go_enter Try.func6, Try.ntmps6
  go_wp2_with (first | (at_make; refine wpList_make_full _ rfl _ _ 25 rfl 0 33 i0 _ 3 Try.underlying25 hi hz0 hz1 .i64 .i64 _ _ len rfl rfl rfl rfl (by rw [hz2]; omega) (by unfold maxLen; omega) (by omega) ?_; intro w1 hown1 hgrow1))
  have hO : Own w1 w.heap.size len 0 X := own_new X hown1
  have hB : Below w.heap.size w w1 := (Below.refl _ _).grown hgrow1 (Nat.le_refl _) (fun k hk => by cases hk)
  clear hown1 hgrow1
  go_loopw [4] (fun i wr => ∃ k : Nat, k ≤ len ∧ i = .int .i64 k ∧ Own wr w.heap.size len k X ∧ Below w.heap.size w wr) (fun i _ => len - (intOf i).toNat)
  case atStart => exact ⟨0, by omega, rfl, hO, hB⟩
  case round =>
    clear hO hB
    obtain ⟨k, hk, rfl, hO, hB⟩ := hrel
    by_cases hlt : k < len
    · rcases hL with h | ⟨g, o, rfl, hc⟩
      · omega
      obtain ⟨h0, h1, h2⟩ := hc k hlt
      clear hc
      have c0 := cell_keep hB h0
      have c1 := cell_keep hB h1
      have c2 := cell_keep hB h2
      clear h0 h1 h2
      go_wp2_with (first | (go_at_call 10; refine (range_any (X k) _).mono ?_; rintro e w2 ⟨rfl, hb2⟩; have hO2 := hO.keep hb2; obtain ⟨⟨y0, e0⟩, ⟨y1, e1⟩, ⟨y2, e2⟩, f0, f1, f2⟩ := own_cells hO2 k hlt))
      go_roundw
      case rel => exact ⟨k + 1, by omega, by go_num, own_store hO2 hlt rfl, (((hB.trans (hb2.mono (by have := hB.size; omega))).setCell (Nat.le_refl _) _).setCell (Nat.le_refl _) _).setCell (Nat.le_refl _) _⟩
      case measure => simp [intOf]; omega
    · clear hL
      go_wp2
      go_ret
      obtain rfl : k = len := by omega
      exact ⟨rfl, hO, hB⟩

/-- A bool comes back, whichever. -/
def AnyB (e : Ending) : Prop := ∃ b, e = .returned (.bool b)
set_option maxHeartbeats 400000 in
theorem bytes3_any (a b : Option Addr) (n cap k cap2 : Nat) (i : Int) (w : World) (hl : n ≤ maxLen) (hk : k ≤ maxLen) :
    Calls Try.prog 5 #[.slice a n cap, .slice b k cap2, .int .i64 i] w fun e w' => AnyB e ∧ w = w' := by
  unfold maxLen at hl hk
  go_enter Try.func5, Try.ntmps5
  go_wp2
  all_goals go_ret
  all_goals exact ⟨⟨_, rfl⟩, rfl⟩
set_option maxHeartbeats 400000 in
theorem bytes4_any (a : Option Addr) (n cap : Nat) (i : Int) (x : R3) (w : World) (hl : n ≤ maxLen) :
    Calls Try.prog 9 #[.slice a n cap, .int .i64 i, .agg #[.int .u32 x.i, .int .u32 x.o, .int .u32 x.l]] w fun e w' => AnyB e ∧ Below w.heap.size w w' := by
  unfold maxLen at hl
  go_enter Try.func9, Try.ntmps9
  go_wp2
  all_goals go_ret
  all_goals exact ⟨⟨_, rfl⟩, alloc_below _ _⟩

/-! ### Equal -/
set_option maxHeartbeats 400000 in
/-- The two are of one length and alike up to n. -/
theorem equal_yes (a b : Option Addr) (n c d : Nat) (X Y : Nat → R3) (w : World) (hn : n ≤ 131072) (hA : Lies w a n X) (hB : Lies w b n Y) (he : ∀ j, j < n → same (X j) (Y j) = true) :
    Calls Try.prog 7 #[.slice a n c, .slice b n d] w fun e w' => e = .returned (.bool true) ∧ ∃ m, w' = w.drewN m := by
  have HE : Hid (∀ j, j < n → same (X j) (Y j) = true) := he
  clear he
  have hne := neq33
  go_enter Try.func7, Try.ntmps7
  go_wp2
  go_loopw [13] (fun i wr => ∃ k q : Nat, k ≤ n ∧ i = .int .i64 k ∧ wr = w.drewN q) (fun i _ => n - (intOf i).toNat)
  case atStart => exact ⟨0, 0, by omega, rfl, rfl⟩
  case round =>
    obtain ⟨k, q, hk, rfl, rfl⟩ := hrel
    by_cases hlt : k < n
    · rcases hA with h | ⟨g, o, rfl, hc⟩
      · omega
      rcases hB with h | ⟨g', o', rfl, hc'⟩
      · omega
      obtain ⟨c0, c1, c2⟩ := hc k hlt
      obtain ⟨d0, d1, d2⟩ := hc' k hlt
      clear hc hc'
      have hs := HE.out k hlt
      have hlt' : (k : Int) < (n : Int) := by omega
      go_wp2
      go_quiet (fail)
      go_wp2
      go_roundw
      case rel => exact ⟨k + 1, _, by omega, by go_num, rfl⟩
      case measure => simp [intOf]; omega
    · clear hA hB
      go_wp2
      go_ret
      exact ⟨rfl, _, rfl⟩

set_option maxHeartbeats 400000 in
/-- They part at line j. -/
theorem equal_no (a b : Option Addr) (n c d : Nat) (X Y : Nat → R3) (w : World) (hn : n ≤ 131072) (hA : Lies w a n X) (hB : Lies w b n Y) (j : Nat) (hj : j < n) (hd : same (X j) (Y j) = false) (he : ∀ i, i < j → same (X i) (Y i) = true) :
    Calls Try.prog 7 #[.slice a n c, .slice b n d] w fun e w' => e = .returned (.bool false) ∧ ∃ m, w' = w.drewN m := by
  have HE : Hid (∀ i, i < j → same (X i) (Y i) = true) := he
  have HD : Hid (same (X j) (Y j) = false) := hd
  clear he hd
  have hne := neq33
  rcases hA with h | ⟨g, o, rfl, hc⟩
  · omega
  rcases hB with h | ⟨g', o', rfl, hc'⟩
  · omega
  have HC := hc
  have HC' := hc'
  clear hc hc'
  have HCC : Hid (∀ j, j < n → (w.cell? ⟨g, o + j * 3, none⟩ = some (.int .u32 (X j).i) ∧ w.cell? ⟨g, o + j * 3 + 1, none⟩ = some (.int .u32 (X j).o) ∧ w.cell? ⟨g, o + j * 3 + 2, none⟩ = some (.int .u32 (X j).l)) ∧ (w.cell? ⟨g', o' + j * 3, none⟩ = some (.int .u32 (Y j).i) ∧ w.cell? ⟨g', o' + j * 3 + 1, none⟩ = some (.int .u32 (Y j).o) ∧ w.cell? ⟨g', o' + j * 3 + 2, none⟩ = some (.int .u32 (Y j).l))) := fun j hj => ⟨HC j hj, HC' j hj⟩
  clear HC HC'
  go_enter Try.func7, Try.ntmps7
  go_wp2
  go_loopw [13] (fun i wr => ∃ k q : Nat, k ≤ j ∧ i = .int .i64 k ∧ wr = w.drewN q) (fun i _ => n - (intOf i).toNat)
  case atStart => exact ⟨0, 0, by omega, rfl, rfl⟩
  case round =>
    obtain ⟨k, q, hk, rfl, rfl⟩ := hrel
    have hlt : k < n := by omega
    obtain ⟨⟨c0, c1, c2⟩, ⟨d0, d1, d2⟩⟩ := HCC.out k hlt
    have hlt' : (k : Int) < (n : Int) := by omega
    by_cases hkj : k = j
    · subst hkj
      have hs := HD.out
      go_wp2
      go_quiet (fail)
      go_wp2
      go_ret
      exact ⟨rfl, q + nq, by simp⟩
    · have hs := HE.out k (by omega)
      go_wp2
      go_quiet (fail)
      go_wp2
      go_roundw
      case rel => exact ⟨k + 1, _, by omega, by go_num, rfl⟩
      case measure => simp [intOf]; omega

set_option maxHeartbeats 400000 in
/-- Two lengths. -/
theorem equal_len (a b : Option Addr) (n k c d : Nat) (w : World) (h : n ≠ k) :
    Calls Try.prog 7 #[.slice a n c, .slice b k d] w fun e w' => e = .returned (.bool false) ∧ ∃ m, w' = w.drewN m := by
  have hne : ((n : Int) != (k : Int)) = true := by rw [bne_iff_ne]; omega
  clear h
  go_enter Try.func7, Try.ntmps7
  go_wp2
  go_ret
  exact ⟨rfl, 0, rfl⟩
end Go.Proofs.Qxb6632559a
