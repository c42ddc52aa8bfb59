import Derived.Test.Qxb6632330aRows
import Derived.WalkKit
import Derived.WalkSpells
import Derived.WalkLawsBesides
import Derived.Deep.QuietTactic
import Derived.BigQuiet
namespace Go.Proofs.Qxb6632330a
open Go.RowKit

structure At where
  t : Int
  b : Bool
  p : Option Addr
  n : Nat
  c : Nat

def Lies (w : World) (a : Option Addr) (n : Nat) (X : Nat → At) : Prop :=
  n = 0 ∨ ∃ g o, a = some ⟨g, o, none⟩ ∧ ∀ j, j < n → w.cell? ⟨g, o + j * 3, none⟩ = some (.int .u16 (X j).t) ∧ w.cell? ⟨g, o + j * 3 + 1, none⟩ = some (.bool (X j).b) ∧ w.cell? ⟨g, o + j * 3 + 2, none⟩ = some (.slice (X j).p (X j).n (X j).c)

/-- Block g is a row of n attributes of the call's own; the first k are laid. -/
def Own (w : World) (g n k : Nat) (X : Nat → At) : Prop :=
  ∃ cs : Array Value, w.heap[g]? = some (.cells cs 35 (0, 0)) ∧ cs.size = n * 3 ∧ ∀ j, j < k → cs[j * 3]? = some (.int .u16 (X j).t) ∧ cs[j * 3 + 1]? = some (.bool (X j).b) ∧ cs[j * 3 + 2]? = some (.slice (X j).p (X j).n (X j).c)

theorem own_cells {w : World} {g n k : Nat} {X : Nat → At} (h : Own w g n k X) (j : Nat) (hj : j < n) :
    (∃ y, w.cell? ⟨g, j * 3, none⟩ = some y) ∧ (∃ y, w.cell? ⟨g, j * 3 + 1, none⟩ = some y) ∧ (∃ y, w.cell? ⟨g, j * 3 + 2, none⟩ = some y) ∧ w.frozen? ⟨g, j * 3, none⟩ = false ∧ w.frozen? ⟨g, j * 3 + 1, none⟩ = false ∧ w.frozen? ⟨g, j * 3 + 2, none⟩ = false := by
  obtain ⟨cs, hg, hs, _⟩ := h
  refine ⟨⟨cs[j * 3]'(by omega), ?_⟩, ⟨cs[j * 3 + 1]'(by omega), ?_⟩, ⟨cs[j * 3 + 2]'(by omega), ?_⟩, frozen_of_row w g _ cs 35 hg, frozen_of_row w g _ cs 35 hg, frozen_of_row w g _ cs 35 hg⟩
  all_goals (rw [cell_of_row w g _ cs 35 (0, 0) hg]; simp)

theorem Own.below {w w' : World} {B g n k : Nat} {X : Nat → At} (h : Own w g n k X) (hb : Below B w w') (hg : g < B) : Own w' g n k X := by
  obtain ⟨cs, h1, h2⟩ := h
  exact ⟨cs, (hb.block g hg).trans h1, h2⟩

theorem Own.lt {w : World} {g n k : Nat} {X : Nat → At} (h : Own w g n k X) : g < w.heap.size := by
  obtain ⟨cs, h1, h2⟩ := h
  exact (Array.getElem?_eq_some_iff.1 h1).1

theorem own_store {w : World} {g n k : Nat} {X : Nat → At} (h : Own w g n k X) (hk : k < n) {y : At} (hy : X k = y) :
    Own (((w.setCell ⟨g, k * 3, none⟩ (.int .u16 y.t)).setCell ⟨g, k * 3 + 1, none⟩ (.bool y.b)).setCell ⟨g, k * 3 + 2, none⟩ (.slice y.p y.n y.c)) g n (k + 1) X := by
  subst hy
  obtain ⟨cs, hg, hs, hc⟩ := h
  have g1 := heap_setCell_same w g (k * 3) cs 35 (.int .u16 (X k).t) hg
  have g2 := heap_setCell_same _ g (k * 3 + 1) _ 35 (.bool (X k).b) g1
  have g3 := heap_setCell_same _ g (k * 3 + 2) _ 35 (.slice (X k).p (X k).n (X k).c) g2
  refine ⟨_, g3, by simpa using hs, fun j hj => ?_⟩
  simp only [Array.getElem?_setIfInBounds, Array.size_setIfInBounds]
  by_cases e : j = k
  · subst e
    refine ⟨?_, ?_, ?_⟩
    · rw [if_neg (by omega), if_neg (by omega), if_pos rfl, if_pos (by omega)]
    · rw [if_neg (by omega), if_pos rfl, if_pos (by omega)]
    · rw [if_pos rfl, if_pos (by omega)]
  · obtain ⟨a, b, c⟩ := hc j (by omega)
    refine ⟨?_, ?_, ?_⟩
    · rw [if_neg (by omega), if_neg (by omega), if_neg (by omega)]; exact a
    · rw [if_neg (by omega), if_neg (by omega), if_neg (by omega)]; exact b
    · rw [if_neg (by omega), if_neg (by omega), if_neg (by omega)]; exact c

theorem own_new {w : World} {g n : Nat} {xs : List Value} (X : Nat → At) (h : w.ownsRow 0 35 3 (.slice (some ⟨g, 0, none⟩) n n) n xs) : Own w g n 0 X := by
  rcases h.2 with ⟨h', _⟩ | ⟨g', cap', cur, h', _, hg, _, _, hs, _⟩
  · simp at h'
  · simp only [Value.slice.injEq, Option.some.injEq, Addr.mk.injEq, and_true, true_and] at h'
    obtain ⟨rfl, rfl⟩ := h'
    exact ⟨cur, hg, hs, fun j hj => by omega⟩

theorem cell_below {w w' : World} {B : Nat} (hb : Below B w w') {a : Addr} {v : Value} (h : w.cell? a = some v) (ha : a.block < B) : w'.cell? a = some v := (hb.cell ha).trans h

set_option maxHeartbeats 400000 in
theorem toAttr_any (x : At) (w : World) :
    Calls Try.prog 8 #[.agg #[.int .u16 x.t, .bool x.b, .slice x.p x.n x.c]] w fun e w' => e = .returned (.agg #[.int .u16 x.t, .bool x.b, .slice x.p x.n x.c]) ∧ Below w.heap.size w w' := by
  go_enter Try.func8, Try.ntmps8
  go_wp2
  exact bodyPost_ret (v := .agg #[.int .u16 x.t, .bool x.b, .slice x.p x.n x.c]) (by simp [results, Try.results8, go_sem]) rfl ⟨rfl, (((Below.refl _ _).alloc (Nat.le_refl _) _).alloc (by simp) _)⟩

theorem Try.info35 : (Try.prog.info? 35).map (fun i => (i.zero, i.size, i.bytes)) = some (some (.agg #[.int .u16 0, .bool false, .slice none 0 0]), 3, 32) := by kernel_rfl

theorem Lies.below {w w' : World} {a : Option Addr} {n : Nat} {X : Nat → At} (h : Lies w a n X) (hb : Below w.heap.size w w') : Lies w' a n X := by
  rcases h with h | ⟨g, o, ha, hc⟩
  · exact .inl h
  · refine .inr ⟨g, o, ha, fun j hj => ?_⟩
    obtain ⟨h0, h1, h2⟩ := hc j hj
    exact ⟨cell_below hb h0 (World.block_lt_of_cell? _ _ h0), cell_below hb h1 (World.block_lt_of_cell? _ _ h1), cell_below hb h2 (World.block_lt_of_cell? _ _ h2)⟩

set_option maxHeartbeats 400000 in
theorem toList_some (ad : Addr) (len cap : Nat) (X : Nat → At) (w : World) (hl : len ≤ 65536) (hL : Lies w (some ad) len X) :
    Calls Try.prog 7 #[.slice (some ad) len cap] w fun e w' => e = .returned (.slice (some ⟨w.heap.size, 0, none⟩) len len) ∧ Own w' w.heap.size len len X ∧ Below w.heap.size w w' := by
  obtain ⟨i0, hi, hz0, hz1, hz2⟩ := info_parts Try.info35
  have hnil := Lib.run_eql_slice_nil (P := Try.prog)
  go_enter Try.func7, Try.ntmps7
  go_wp2_with (first | (at_make; refine wpList_make_full _ rfl _ _ 29 rfl 0 35 i0 _ 3 Try.underlying29 hi hz0 hz1 .i64 .i64 _ _ len rfl rfl rfl rfl (by rw [hz2]; omega) (by unfold maxLen; omega) (by omega) ?_; intro w1 hown1 hgrow1))
  have hO : Own w1 w.heap.size len 0 X := own_new X hown1
  have hB : Below w.heap.size w w1 := (Below.refl _ _).grown hgrow1 (Nat.le_refl _) (fun k hk => by cases hk)
  clear hown1 hgrow1
  go_loopw [4] (fun i wr => ∃ k : Nat, k ≤ len ∧ i = .int .i64 k ∧ Own wr w.heap.size len k X ∧ Below w.heap.size w wr) (fun i _ => len - (intOf i).toNat)
  case atStart => exact ⟨0, by omega, rfl, hO, hB⟩
  case round =>
    clear hO hB
    obtain ⟨k, hk, rfl, hO, hB⟩ := hrel
    by_cases hlt : k < len
    · rcases hL with h | ⟨g, o, h, hc⟩
      · omega
      obtain rfl := Option.some.inj h
      obtain ⟨h0, h1, h2⟩ := hc k hlt
      clear hc
      have c0 := cell_below hB h0 (World.block_lt_of_cell? _ _ h0)
      have c1 := cell_below hB h1 (World.block_lt_of_cell? _ _ h1)
      have c2 := cell_below hB h2 (World.block_lt_of_cell? _ _ h2)
      clear h0 h1 h2 h
      go_wp2_with (first | (go_at_call 8; refine (toAttr_any (X k) _).mono ?_; rintro e w2 ⟨rfl, hb2⟩; have hO2 := hO.below hb2 hO.lt; obtain ⟨⟨y0, e0⟩, ⟨y1, e1⟩, ⟨y2, e2⟩, f0, f1, f2⟩ := own_cells hO2 k hlt))
      go_roundw
      case rel => exact ⟨k + 1, by omega, by go_num, own_store hO2 hlt rfl, (((hB.trans (hb2.mono (by have := hB.size; omega))).setCell (Nat.le_refl _) _).setCell (Nat.le_refl _) _).setCell (Nat.le_refl _) _⟩
      case measure => simp [intOf]; omega
    · clear hL
      go_wp2
      go_ret
      have : k = len := by omega
      subst this
      exact ⟨rfl, hO, hB⟩

theorem Own.lies {w : World} {g n : Nat} {X : Nat → At} (h : Own w g n n X) : Lies w (some ⟨g, 0, none⟩) n X := by
  obtain ⟨cs, hg, hs, hc⟩ := h
  refine .inr ⟨g, 0, rfl, fun j hj => ?_⟩
  obtain ⟨h0, h1, h2⟩ := hc j hj
  simp only [Nat.zero_add]
  exact ⟨by rw [cell_of_row w g _ cs 35 (0, 0) hg]; simpa using h0, by rw [cell_of_row w g _ cs 35 (0, 0) hg]; simpa using h1, by rw [cell_of_row w g _ cs 35 (0, 0) hg]; simpa using h2⟩

set_option maxHeartbeats 400000 in
theorem toList_nil (w : World) :
    Calls Try.prog 7 #[.slice none 0 0] w fun e w' => e = .returned (.slice none 0 0) ∧ w' = w := by
  have hnil := Lib.run_eql_slice_nil (P := Try.prog)
  go_enter Try.func7, Try.ntmps7
  go_wp2
  go_ret
  exact ⟨rfl, rfl⟩

/-- toList: whatever slice: what comes back lies there as a row of the same attributes. -/
theorem toList_any (a : Option Addr) (len cap : Nat) (X : Nat → At) (w : World) (hl : len ≤ 65536) (hn : a = none → len = 0 ∧ cap = 0) (hL : Lies w a len X) :
    Calls Try.prog 7 #[.slice a len cap] w fun e w' => ∃ a' c', e = .returned (.slice a' len c') ∧ Lies w' a' len X ∧ Below w.heap.size w w' := by
  rcases a with _ | ⟨g, o, s⟩
  · obtain ⟨rfl, rfl⟩ := hn rfl
    refine (toList_nil w).mono ?_
    rintro e w' ⟨rfl, rfl⟩
    exact ⟨none, 0, rfl, .inl rfl, Below.refl _ _⟩
  · refine (toList_some _ len cap X w hl hL).mono ?_
    rintro e w' ⟨rfl, hO, hB⟩
    exact ⟨_, _, rfl, hO.lies, hB⟩

/-- A bool comes back; if it is false then n is small. -/
def SomeB (e : Ending) (n : Nat) : Prop := ∃ b, e = .returned (.bool b) ∧ (b = false → n ≤ 65536)

set_option maxHeartbeats 400000 in
theorem tooBig_any (a : Option Addr) (len cap : Nat) (X : Nat → At) (ex : Int) (w : World) (hl : len ≤ maxLen) (hL : Lies w a len X) :
    Calls Try.prog 6 #[.slice a len cap, .int .i64 ex] w fun e w' => SomeB e len ∧ w = w' := by
  unfold maxLen at hl
  by_cases hbig : len ≤ 65536
  · go_enter Try.func6, Try.ntmps6
    go_wp2
    · go_ret
      exact ⟨⟨_, rfl, (fun h => by cases h)⟩, rfl⟩
    · go_loop [5, 6] (fun t i => ∃ k : Nat, ∃ z : Int, k ≤ len ∧ i = .int .i64 k ∧ t = .int .i64 z) (fun _ i => len - (intOf i).toNat)
      case atStart => exact ⟨0, ex, by omega, rfl, rfl⟩
      case round =>
        obtain ⟨k, z, hk, rfl, rfl⟩ := hrel
        by_cases hlt : k < len
        · rcases hL with h | ⟨g, o, rfl, hc⟩
          · omega
          obtain ⟨-, -, c2⟩ := hc k hlt
          clear hc
          go_wp2
          · go_ret
            exact ⟨⟨_, rfl, (fun h => by cases h)⟩, rfl⟩
          · go_round
            case rel => exact ⟨k + 1, _, by omega, by go_num, rfl⟩
            case measure => simp [intOf]; omega
        · clear hL
          go_wp2
          go_ret
          exact ⟨⟨_, rfl, fun _ => hbig⟩, rfl⟩
  · clear hL
    go_enter Try.func6, Try.ntmps6
    go_wp2
    go_ret
    exact ⟨⟨_, rfl, (fun h => by cases h)⟩, rfl⟩


/-- The bytes of a slice can be read. -/
def Bytes (w : World) (p : Option Addr) (n : Nat) : Prop :=
  n ≤ maxLen ∧ (n = 0 ∨ ∃ g o, p = some ⟨g, o, none⟩ ∧ ∀ j, j < n → ∃ z, w.cell? ⟨g, o + j, none⟩ = some (.int .u8 z))

theorem Bytes.below {w w' : World} {p : Option Addr} {n : Nat} (h : Bytes w p n) (hb : Below w.heap.size w w') : Bytes w' p n := by
  refine ⟨h.1, ?_⟩
  rcases h.2 with h | ⟨g, o, ha, hc⟩
  · exact .inl h
  · refine .inr ⟨g, o, ha, fun j hj => ?_⟩
    obtain ⟨z, h0⟩ := hc j hj
    exact ⟨z, cell_below hb h0 (World.block_lt_of_cell? _ _ h0)⟩

set_option maxHeartbeats 400000 in
theorem sameBytes_self (p : Option Addr) (n c : Nat) (w : World) (hp : Bytes w p n) :
    Calls Try.prog 13 #[.slice p n c, .slice p n c] w fun e w' => e = .returned (.bool true) ∧ Below w.heap.size w w' := by
  obtain ⟨hl, hp⟩ := hp
  unfold maxLen at hl
  go_enter Try.func13, Try.ntmps13
  go_wp2
  go_loopw [5] (fun i wr => ∃ k : Nat, k ≤ n ∧ i = .int .i64 k ∧ Below w.heap.size w wr) (fun i _ => n - (intOf i).toNat)
  case atStart => exact ⟨0, by omega, rfl, Below.refl _ _⟩
  case round =>
    obtain ⟨k, hk, rfl, hB⟩ := hrel
    by_cases hlt : k < n
    · rcases hp with h | ⟨g, o, rfl, hc⟩
      · omega
      obtain ⟨z, h0⟩ := hc k hlt
      clear hc
      have c0 := cell_below hB h0 (World.block_lt_of_cell? _ _ h0)
      clear h0
      have hlt' : (k : Int) < (n : Int) := by omega
      go_wp2
      go_quiet (fail)
      go_wp2
      go_roundw
      case rel => exact ⟨k + 1, by omega, by go_num, below_drewN hB _⟩
      case measure => simp [intOf]; omega
    · clear hp
      go_wp2
      go_ret
      exact ⟨rfl, hB⟩


set_option maxHeartbeats 400000 in
theorem sameAttr_self (x : At) (w : World) (hp : Bytes w x.p x.n) :
    Calls Try.prog 10 #[.agg #[.int .u16 x.t, .bool x.b, .slice x.p x.n x.c], .agg #[.int .u16 x.t, .bool x.b, .slice x.p x.n x.c]] w fun e w' => e = .returned (.bool true) ∧ Below w.heap.size w w' := by
  have HP : Hid (Bytes w x.p x.n) := hp
  clear hp
  go_enter Try.func10, Try.ntmps10
  go_wp2_with (first | (go_at_call 13; refine (sameBytes_self x.p x.n x.c _ ?_).mono ?_))
  · exact HP.out.below (((Below.refl _ _).alloc (Nat.le_refl _) _).alloc (by simp) _)
  · rintro e w2 ⟨rfl, hb2⟩
    go_wp2
    go_ret
    exact ⟨rfl, (((Below.refl _ _).alloc (Nat.le_refl _) _).alloc (by simp) _).trans (hb2.mono (by simp; omega))⟩

set_option maxHeartbeats 400000 in
theorem isZero_zero (w : World) :
    Calls Try.prog 11 #[.agg #[.int .u16 0, .bool false, .slice none 0 0]] w fun e w' => e = .returned (.bool true) ∧ Below w.heap.size w w' := by
  have hnil := Lib.run_eql_slice_nil (P := Try.prog)
  go_enter Try.func11, Try.ntmps11
  go_wp2
  go_ret
  exact ⟨rfl, ((Below.refl _ _).alloc (Nat.le_refl _) _)⟩

set_option maxHeartbeats 400000 in
theorem attr_found (n1 n2 : Int) (a : Option Addr) (n c : Nat) (X : Nat → At) (t : Int) (j : Nat) (w : World) (hn : n ≤ maxLen) (hL : Lies w a n X) (hj : j < n) (hjt : (X j).t = t) (hmin : ∀ i, i < j → (X i).t ≠ t) :
    Calls Try.prog 9 #[.agg #[.int .u8 n1, .int .u8 n2, .slice a n c], .int .u16 t] w fun e w' =>
      e = .returned (.tuple #[.agg #[.int .u16 (X j).t, .bool (X j).b, .slice (X j).p (X j).n (X j).c], .bool true]) ∧ Below w.heap.size w w' := by
  unfold maxLen at hn
  rcases hL with h | ⟨g, o, rfl, hc⟩
  · omega
  have HC := hc
  have Hm : Hid ((X j).t = t ∧ (∀ i, i < j → (X i).t ≠ t)) := ⟨hjt, hmin⟩
  have hB0 : Below w.heap.size w w := Below.refl _ _
  clear hjt hmin hc
  go_enter Try.func9, Try.ntmps9
  go_wp2
  go_loopw [11] (fun i wr => ∃ k : Nat, k ≤ j ∧ i = .int .i64 k ∧ wr.heap[w.heap.size + 1]? = some (.cells #[.int .u16 0, .bool false, .slice none 0 0] 35 (0, 0)) ∧ Below w.heap.size w wr) (fun i _ => n - (intOf i).toNat)
  case atStart => exact ⟨0, by omega, rfl, by simpa using heap_alloc_new (w.alloc _) _, (hB0.alloc (Nat.le_refl _) _).alloc (by simp) _⟩
  case round =>
    clear hB0
    obtain ⟨k, hk, rfl, hR, hB⟩ := hrel
    obtain ⟨h0, h1, h2⟩ := HC k (by omega)
    have c0 := cell_below hB h0 (World.block_lt_of_cell? _ _ h0)
    have c1 := cell_below hB h1 (World.block_lt_of_cell? _ _ h1)
    have c2 := cell_below hB h2 (World.block_lt_of_cell? _ _ h2)
    clear h0 h1 h2 HC
    have hsz : w.heap.size + 1 < wr.heap.size := (Array.getElem?_eq_some_iff.1 hR).1
    have hkn : k < n := by omega
    by_cases hkj : k = j
    · subst hkj
      have he : ((X k).t == t) = true := by rw [Hm.out.1]; simp
      have r0 : wr.cell? ⟨w.heap.size + 1, 0, none⟩ = some (.int .u16 0) := by rw [cell_of_row wr _ _ _ _ _ hR]; rfl
      have r1 : wr.cell? ⟨w.heap.size + 1, 1, none⟩ = some (.bool false) := by rw [cell_of_row wr _ _ _ _ _ hR]; rfl
      have r2 : wr.cell? ⟨w.heap.size + 1, 2, none⟩ = some (.slice none 0 0) := by rw [cell_of_row wr _ _ _ _ _ hR]; rfl
      have f0 : wr.frozen? ⟨w.heap.size + 1, 0, none⟩ = false := frozen_of_row wr _ _ _ _ hR
      have f1 : wr.frozen? ⟨w.heap.size + 1, 1, none⟩ = false := frozen_of_row wr _ _ _ _ hR
      have f2 : wr.frozen? ⟨w.heap.size + 1, 2, none⟩ = false := frozen_of_row wr _ _ _ _ hR
      go_wp2
      refine bodyPost_ret (v := .tuple #[.agg #[.int .u16 (X k).t, .bool (X k).b, .slice (X k).p (X k).n (X k).c], .bool true]) (by simp [results, Try.results9, go_sem, hsz, r0, r1, r2]) rfl ⟨rfl, ?_⟩
      exact (((hB.setCell (Nat.le_succ _) _).setCell (Nat.le_succ _) _).setCell (Nat.le_succ _) _).alloc (by simp; exact hB.size) _
    · have he : ((X k).t == t) = false := beq_eq_false_iff_ne.2 (Hm.out.2 k (by omega))
      go_wp2
      go_roundw
      case rel => exact ⟨k + 1, by omega, by go_num, by rw [Below.heap_alloc _ _ _ hsz]; exact hR, hB.alloc hB.size _⟩
      case measure => simp [intOf]; omega


set_option maxHeartbeats 400000 in
theorem attr_none (n1 n2 : Int) (a : Option Addr) (n c : Nat) (X : Nat → At) (t : Int) (w : World) (hn : n ≤ maxLen) (hL : Lies w a n X) (hmin : ∀ i, i < n → (X i).t ≠ t) :
    Calls Try.prog 9 #[.agg #[.int .u8 n1, .int .u8 n2, .slice a n c], .int .u16 t] w fun e w' =>
      e = .returned (.tuple #[.agg #[.int .u16 0, .bool false, .slice none 0 0], .bool false]) ∧ Below w.heap.size w w' := by
  unfold maxLen at hn
  have Hm : Hid (∀ i, i < n → (X i).t ≠ t) := hmin
  have hB0 : Below w.heap.size w w := Below.refl _ _
  clear hmin
  go_enter Try.func9, Try.ntmps9
  go_wp2
  go_loopw [11] (fun i wr => ∃ k : Nat, k ≤ n ∧ i = .int .i64 k ∧ wr.heap[w.heap.size + 1]? = some (.cells #[.int .u16 0, .bool false, .slice none 0 0] 35 (0, 0)) ∧ Below w.heap.size w wr) (fun i _ => n - (intOf i).toNat)
  case atStart => exact ⟨0, by omega, rfl, by simpa using heap_alloc_new (w.alloc _) _, (hB0.alloc (Nat.le_refl _) _).alloc (by simp) _⟩
  case round =>
    clear hB0
    obtain ⟨k, hk, rfl, hR, hB⟩ := hrel
    have hsz : w.heap.size + 1 < wr.heap.size := (Array.getElem?_eq_some_iff.1 hR).1
    by_cases hkn : k < n
    · rcases hL with h | ⟨g, o, rfl, hc⟩
      · omega
      obtain ⟨h0, h1, h2⟩ := hc k (by omega)
      have c0 := cell_below hB h0 (World.block_lt_of_cell? _ _ h0)
      have c1 := cell_below hB h1 (World.block_lt_of_cell? _ _ h1)
      have c2 := cell_below hB h2 (World.block_lt_of_cell? _ _ h2)
      clear h0 h1 h2 hc
      have he : ((X k).t == t) = false := beq_eq_false_iff_ne.2 (Hm.out k (by omega))
      go_wp2
      go_roundw
      case rel => exact ⟨k + 1, by omega, by go_num, by rw [Below.heap_alloc _ _ _ hsz]; exact hR, hB.alloc hB.size _⟩
      case measure => simp [intOf]; omega
    · clear hL
      have r0 : wr.cell? ⟨w.heap.size + 1, 0, none⟩ = some (.int .u16 0) := by rw [cell_of_row wr _ _ _ _ _ hR]; rfl
      have r1 : wr.cell? ⟨w.heap.size + 1, 1, none⟩ = some (.bool false) := by rw [cell_of_row wr _ _ _ _ _ hR]; rfl
      have r2 : wr.cell? ⟨w.heap.size + 1, 2, none⟩ = some (.slice none 0 0) := by rw [cell_of_row wr _ _ _ _ _ hR]; rfl
      have f0 : wr.frozen? ⟨w.heap.size + 1, 0, none⟩ = false := frozen_of_row wr _ _ _ _ hR
      have f1 : wr.frozen? ⟨w.heap.size + 1, 1, none⟩ = false := frozen_of_row wr _ _ _ _ hR
      have f2 : wr.frozen? ⟨w.heap.size + 1, 2, none⟩ = false := frozen_of_row wr _ _ _ _ hR
      go_wp2
      refine bodyPost_ret (v := .tuple #[.agg #[.int .u16 0, .bool false, .slice none 0 0], .bool false]) (by simp [results, Try.results9, go_sem, r0, r1, r2]) rfl ⟨rfl, ?_⟩
      exact ((hB.setCell (Nat.le_succ _) _).setCell (Nat.le_succ _) _).setCell (Nat.le_succ _) _

/-- A bool comes back, whichever. -/
def AnyB (e : Ending) : Prop := ∃ b, e = .returned (.bool b)

set_option maxHeartbeats 400000 in
theorem bytes4_any (n1 n2 : Int) (a : Option Addr) (len cap : Nat) (X : Nat → At) (i u : Int) (w : World) (hl : len ≤ maxLen) (hL : Lies w a len X) :
    Calls Try.prog 12 #[.int .u8 n1, .int .u8 n2, .slice a len cap, .int .i64 i, .int .u16 u] w fun e w' => AnyB e ∧ w = w' := by
  unfold maxLen at hl
  by_cases hbig : len ≤ 1048576
  · go_enter Try.func12, Try.ntmps12
    go_wp2
    go_loop [11, 12] (fun t i => ∃ k : Nat, ∃ z : Int, k ≤ len ∧ i = .int .i64 k ∧ t = .int .i64 z) (fun _ i => len - (intOf i).toNat)
    case atStart => exact ⟨0, len, by omega, rfl, rfl⟩
    case round =>
      obtain ⟨k, z, hk, rfl, rfl⟩ := hrel
      by_cases hlt : k < len
      · rcases hL with h | ⟨g, o, rfl, hc⟩
        · omega
        obtain ⟨-, -, c2⟩ := hc k hlt
        clear hc
        go_wp2
        · go_ret
          exact ⟨⟨_, rfl⟩, rfl⟩
        · go_ret
          exact ⟨⟨_, rfl⟩, rfl⟩
        · go_round
          case rel => exact ⟨k + 1, _, by omega, by go_num, rfl⟩
          case measure => simp [intOf]; omega
      · clear hL
        go_wp2
        go_ret
        exact ⟨⟨_, rfl⟩, rfl⟩
  · clear hL
    go_enter Try.func12, Try.ntmps12
    go_wp2
    go_ret
    exact ⟨⟨_, rfl⟩, rfl⟩

set_option maxHeartbeats 400000 in
theorem bytes3_any (n1 n2 : Int) (a : Option Addr) (len cap : Nat) (X : Nat → At) (i u : Int) (x : At) (w : World) (hl : len ≤ maxLen) (hL : Lies w a len X) :
    Calls Try.prog 5 #[.int .u8 n1, .int .u8 n2, .slice a len cap, .int .i64 i, .agg #[.int .u16 x.t, .bool x.b, .slice x.p x.n x.c], .int .u16 u] w fun e w' => AnyB e ∧ Below w.heap.size w w' := by
  unfold maxLen at hl
  by_cases hbig : len ≤ 1048576
  · have HL : Hid (Lies w a len X) := hL
    clear hL
    go_enter Try.func5, Try.ntmps5
    go_wp2
    have hL : Lies (w.alloc (.cells #[.int .u16 x.t, .bool x.b, .slice x.p x.n x.c] 26)) a len X := HL.out.below ((Below.refl _ _).alloc (Nat.le_refl _) _)
    clear HL
    go_loop [13, 14] (fun t i => ∃ k : Nat, ∃ z : Int, k ≤ len ∧ i = .int .i64 k ∧ t = .int .i64 z) (fun _ i => len - (intOf i).toNat)
    case atStart => exact ⟨0, len, by omega, rfl, rfl⟩
    case round =>
      obtain ⟨k, z, hk, rfl, rfl⟩ := hrel
      by_cases hlt : k < len
      · rcases hL with h | ⟨g, o, rfl, hc⟩
        · omega
        obtain ⟨-, -, c2⟩ := hc k hlt
        clear hc
        go_wp2
        · go_ret
          exact ⟨⟨_, rfl⟩, (Below.refl _ _).alloc (Nat.le_refl _) _⟩
        · go_ret
          exact ⟨⟨_, rfl⟩, (Below.refl _ _).alloc (Nat.le_refl _) _⟩
        · go_round
          case rel => exact ⟨k + 1, _, by omega, by go_num, rfl⟩
          case measure => simp [intOf]; omega
      · clear hL
        go_wp2
        all_goals go_ret
        all_goals exact ⟨⟨_, rfl⟩, (Below.refl _ _).alloc (Nat.le_refl _) _⟩
  · clear hL
    go_enter Try.func5, Try.ntmps5
    go_wp2
    go_ret
    exact ⟨⟨_, rfl⟩, (Below.refl _ _).alloc (Nat.le_refl _) _⟩

end Go.Proofs.Qxb6632330a
