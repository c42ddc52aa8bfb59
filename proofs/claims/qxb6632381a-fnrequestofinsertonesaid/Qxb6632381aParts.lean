import Derived.Test.Qxb6632381aRows
import Derived.WalkKit
import Derived.WalkSpells
import Derived.WalkLawsBesides
import Derived.Deep.QuietTactic
import Derived.BigQuiet
import Derived.RegionTactic
import Derived.ChangeAlike
import Derived.Maps.OwnSet
import Derived.Maps.OwnOps
namespace Go.Proofs.Qxb6632381a
open Go.RowKit Go.Maps

/-! ### Small laws on worlds -/
theorem cell_below {w w' : World} {B : Nat} (hb : Below B w w') {a : Addr} {v : Value} (h : w.cell? a = some v) (ha : a.block < B) : w'.cell? a = some v := (hb.cell ha).trans h
theorem cell_keep {w w' : World} (hb : Below w.heap.size w w') {a : Addr} {v : Value} (h : w.cell? a = some v) : w'.cell? a = some v := cell_below hb h (World.block_lt_of_cell? _ _ h)
theorem alloc_below (w : World) (o : Obj) : Below w.heap.size w (w.alloc o) := (Below.refl _ _).alloc (Nat.le_refl _) _
theorem drew_below {w w' : World} (h : Below w.drew.heap.size w.drew w') : Below w.heap.size w w' := (Below.refl _ _).drew.trans h
theorem drewN_below (w : World) (n : Nat) : Below w.heap.size w (w.drewN n) := below_drewN (Below.refl _ _) n
theorem below_on {W w w' : World} (h : Below W.heap.size W w) (hb : Below w.heap.size w w') : Below W.heap.size W w' := h.trans (hb.mono h.size)

def Blk (w : World) (b : Nat) (cs : Array Value) (t : TypeId) : Prop := w.heap[b]? = some (.cells cs t (0, 0))
theorem Blk.below {w w' : World} {B b : Nat} {cs : Array Value} {t : TypeId} (h : Blk w b cs t) (hb : Below B w w') (hB : b < B) : Blk w' b cs t := (hb.block b hB).trans h
theorem Blk.lt {w : World} {b : Nat} {cs : Array Value} {t : TypeId} (h : Blk w b cs t) : b < w.heap.size := (Array.getElem?_eq_some_iff.1 h).1
theorem Blk.keep {w w' : World} {b : Nat} {cs : Array Value} {t : TypeId} (h : Blk w b cs t) (hb : Below w.heap.size w w') : Blk w' b cs t := h.below hb h.lt
theorem Blk.cell {w : World} {b : Nat} {cs : Array Value} {t : TypeId} (h : Blk w b cs t) (o : Nat) {v : Value} (hv : cs[o]? = some v) : w.cell? ⟨b, o, none⟩ = some v := by rw [cell_of_row w b o cs t _ h]; exact hv
theorem Blk.free {w : World} {b : Nat} {cs : Array Value} {t : TypeId} (h : Blk w b cs t) (o : Nat) : w.frozen? ⟨b, o, none⟩ = false := frozen_of_row w b o cs t h
theorem Blk.alloc {w : World} {b : Nat} {cs : Array Value} {t : TypeId} (h : Blk w b cs t) (o : Obj) : Blk (w.alloc o) b cs t := (Below.heap_alloc w o b h.lt).trans h
theorem Blk.new (w : World) (cs : Array Value) (t : TypeId) : Blk (w.alloc (.cells cs t)) w.heap.size cs t := heap_alloc_new w _
theorem Blk.set {w : World} {b : Nat} {cs : Array Value} {t : TypeId} (h : Blk w b cs t) {a : Addr} (ha : b ≠ a.block) (v : Value) : Blk (w.setCell a v) b cs t := (Below.heap_setCell w a v b ha).trans h

/-! ### What the arguments are -/
/-- A container: its name, its map (nil or a block). -/
structure Co where
  s : ByteArray
  m : Option Nat

/-- A metric. -/
structure Me where
  ty : ByteArray
  nm : ByteArray
  ct : ByteArray
  dk : ByteArray
  se : ByteArray
  tg : Int
  av : Int
  au : Int
  va : Int
  fi : ByteArray

/-- Looked up in this map, in this world and in each that keeps its blocks, the key gives v and ok. -/
def Looks (w : World) (m : Option Nat) (s : ByteArray) (v : Int) (ok : Bool) : Prop :=
  ∀ w', Below w.heap.size w w' → (Instr.lookup 33 (.map m) (.string s) true).run Try.prog w' = .ok (.tuple #[.int .i64 v, .bool ok]) w' ∧ (Instr.lookup 33 (.map m) (.string s) false).run Try.prog w' = .ok (.int .i64 v) w'
theorem Looks.keep {w w' : World} {m : Option Nat} {s : ByteArray} {v : Int} {ok : Bool} (h : Looks w m s v ok) (hb : Below w.heap.size w w') : Looks w' m s v ok := fun w'' h'' => h w'' (below_on hb h'')
/-- The map has a length. -/
def HasLen (w : World) (m : Option Nat) : Prop := ∃ n : Nat, ∀ w', Below w.heap.size w w' → ∀ ty, (Builtin.len_ #[33] ty #[.map m]).run Try.prog w' = .ok (.int .i64 n) w'
theorem HasLen.keep {w w' : World} {m : Option Nat} (h : HasLen w m) (hb : Below w.heap.size w w') : HasLen w' m := h.elim fun n hn => ⟨n, fun w'' h'' => hn w'' (below_on hb h'')⟩

/-- The containers X 0 .. X (n-1) lie behind the address. -/
def Lies (w : World) (a : Option Addr) (n : Nat) (X : Nat → Co) : Prop :=
  n = 0 ∨ ∃ g o, a = some ⟨g, o, none⟩ ∧ ∀ j, j < n → w.cell? ⟨g, o + j * 2, none⟩ = some (.string (X j).s) ∧ w.cell? ⟨g, o + j * 2 + 1, none⟩ = some (.map (X j).m)
theorem Lies.keep {w w' : World} {a : Option Addr} {n : Nat} {X : Nat → Co} (h : Lies w a n X) (hb : Below w.heap.size w w') : Lies w' a n X := by
  rcases h with h | ⟨g, o, ha, hc⟩
  · exact .inl h
  · exact .inr ⟨g, o, ha, fun j hj => ⟨cell_keep hb (hc j hj).1, cell_keep hb (hc j hj).2⟩⟩

/-- Block g is a row of n containers of the call's own; the first k are laid. -/
def Own (w : World) (g n k : Nat) (X : Nat → Co) : Prop :=
  ∃ cs : Array Value, w.heap[g]? = some (.cells cs 35 (0, 0)) ∧ cs.size = n * 2 ∧ ∀ j, j < k → cs[j * 2]? = some (.string (X j).s) ∧ cs[j * 2 + 1]? = some (.map (X j).m)
theorem own_cells {w : World} {g n k : Nat} {X : Nat → Co} (h : Own w g n k X) (j : Nat) (hj : j < n) :
    (∃ y, w.cell? ⟨g, j * 2, none⟩ = some y) ∧ (∃ y, w.cell? ⟨g, j * 2 + 1, none⟩ = some y) ∧ w.frozen? ⟨g, j * 2, none⟩ = false ∧ w.frozen? ⟨g, j * 2 + 1, none⟩ = false := by
  obtain ⟨cs, hg, hs, _⟩ := h
  refine ⟨⟨cs[j * 2]'(by omega), ?_⟩, ⟨cs[j * 2 + 1]'(by omega), ?_⟩, frozen_of_row w g _ cs 35 hg, frozen_of_row w g _ cs 35 hg⟩
  all_goals (rw [cell_of_row w g _ cs 35 (0, 0) hg]; simp)
theorem Own.below {w w' : World} {B g n k : Nat} {X : Nat → Co} (h : Own w g n k X) (hb : Below B w w') (hg : g < B) : Own w' g n k X := by
  obtain ⟨cs, h1, h2⟩ := h
  exact ⟨cs, (hb.block g hg).trans h1, h2⟩
theorem Own.lt {w : World} {g n k : Nat} {X : Nat → Co} (h : Own w g n k X) : g < w.heap.size := by
  obtain ⟨cs, h1, h2⟩ := h
  exact (Array.getElem?_eq_some_iff.1 h1).1
theorem own_store {w : World} {g n k : Nat} {X : Nat → Co} (h : Own w g n k X) (hk : k < n) {y : Co} (hy : X k = y) :
    Own ((w.setCell ⟨g, k * 2, none⟩ (.string y.s)).setCell ⟨g, k * 2 + 1, none⟩ (.map y.m)) g n (k + 1) X := by
  subst hy
  obtain ⟨cs, hg, hs, hc⟩ := h
  have g1 := heap_setCell_same w g (k * 2) cs 35 (.string (X k).s) hg
  have g2 := heap_setCell_same _ g (k * 2 + 1) _ 35 (.map (X k).m) g1
  refine ⟨_, g2, by simpa using hs, fun j hj => ?_⟩
  simp only [Array.getElem?_setIfInBounds, Array.size_setIfInBounds]
  by_cases e : j = k
  · subst e
    refine ⟨?_, ?_⟩
    · rw [if_neg (by omega), if_pos rfl, if_pos (by omega)]
    · rw [if_pos rfl, if_pos (by omega)]
  · obtain ⟨a, b⟩ := hc j (by omega)
    refine ⟨?_, ?_⟩
    · rw [if_neg (by omega), if_neg (by omega)]; exact a
    · rw [if_neg (by omega), if_neg (by omega)]; exact b
theorem own_new {w : World} {g n : Nat} {xs : List Value} (X : Nat → Co) (h : w.ownsRow 0 35 2 (.slice (some ⟨g, 0, none⟩) n n) n xs) : Own w g n 0 X := by
  rcases h.2 with ⟨h', _⟩ | ⟨g', cap', cur, h', _, hg, _, _, hs, _⟩
  · simp at h'
  · simp only [Value.slice.injEq, Option.some.injEq, Addr.mk.injEq, and_true, true_and] at h'
    obtain ⟨rfl, rfl⟩ := h'
    exact ⟨cur, hg, hs, fun j hj => by omega⟩
theorem Own.lies {w : World} {g n : Nat} {X : Nat → Co} (h : Own w g n n X) : Lies w (some ⟨g, 0, none⟩) n X := by
  obtain ⟨cs, hg, hs, hc⟩ := h
  refine .inr ⟨g, 0, rfl, fun j hj => ?_⟩
  obtain ⟨h0, h1⟩ := hc j hj
  simp only [Nat.zero_add]
  exact ⟨by rw [cell_of_row w g _ cs 35 (0, 0) hg]; simpa using h0, by rw [cell_of_row w g _ cs 35 (0, 0) hg]; simpa using h1⟩

theorem Try.info35 : (Try.prog.info? 35).map (fun i => (i.zero, i.size, i.bytes)) = some (some (.agg #[.string ByteArray.empty, .map none]), 2, 24) := by kernel_rfl

/-! ### The walks -/
set_option maxRecDepth 100000 in
set_option maxHeartbeats 400000 in
theorem metric_any (m : Me) (w : World) :
    Calls Try.prog 7 #[.agg #[.string m.ty, .string m.nm, .string m.ct, .string m.dk, .string m.se, .int .i64 m.tg, .int .i64 m.av, .int .i32 m.au, .int .i64 m.va, .string m.fi]] w fun e w' =>
      ∃ b, e = .returned (.pointer (some ⟨b, 0, none⟩)) ∧ Blk w' b #[.string m.ty, .string m.nm, .string m.ct, .string m.dk, .string m.se, .int .i64 m.tg, .int .i64 m.av, .int .i32 m.au, .int .i64 m.va, .string m.fi] 43 ∧ Below w.heap.size w w' := by
  go_enter Try.func7, Try.ntmps7
  go_wp2
  go_ret
  exact ⟨_, rfl, by simpa using Blk.new (w.alloc (.cells #[.string m.ty, .string m.nm, .string m.ct, .string m.dk, .string m.se, .int .i64 m.tg, .int .i64 m.av, .int .i32 m.au, .int .i64 m.va, .string m.fi] 23)) #[.string m.ty, .string m.nm, .string m.ct, .string m.dk, .string m.se, .int .i64 m.tg, .int .i64 m.av, .int .i32 m.au, .int .i64 m.va, .string m.fi] 43, (alloc_below _ _).alloc (by simp) _⟩

set_option maxHeartbeats 400000 in
theorem conts_nil (w : World) :
    Calls Try.prog 9 #[.slice none 0 0] w fun e w' => e = .returned (.slice none 0 0) ∧ w = w' := by
  have hnil := Lib.run_eql_slice_nil (P := Try.prog)
  go_enter Try.func9, Try.ntmps9
  go_wp2
  go_ret
  exact ⟨rfl, rfl⟩

set_option maxHeartbeats 400000 in
theorem conts_some (ad : Addr) (len cap : Nat) (X : Nat → Co) (w : World) (hl : len ≤ 65536) (hL : Lies w (some ad) len X) :
    Calls Try.prog 9 #[.slice (some ad) len cap] w fun e w' => e = .returned (.slice (some ⟨w.heap.size, 0, none⟩) len len) ∧ Own w' w.heap.size len len X ∧ Below w.heap.size w w' := by
  obtain ⟨i0, hi, hz0, hz1, hz2⟩ := info_parts Try.info35
  have hnil := Lib.run_eql_slice_nil (P := Try.prog)
  go_enter Try.func9, Try.ntmps9
  go_wp2_with (first | (at_make; refine wpList_make_full _ rfl _ _ 31 rfl 0 35 i0 _ 2 Try.underlying31 hi hz0 hz1 .i64 .i64 _ _ len rfl rfl rfl rfl (by rw [hz2]; omega) (by unfold maxLen; omega) (by omega) ?_; intro w1 hown1 hgrow1))
  have hO : Own w1 w.heap.size len 0 X := own_new X hown1
  have hB : Below w.heap.size w w1 := (Below.refl _ _).grown hgrow1 (Nat.le_refl _) (fun k hk => by cases hk)
  clear hown1 hgrow1
  go_loopw [4] (fun i wr => ∃ k : Nat, k ≤ len ∧ i = .int .i64 k ∧ Own wr w.heap.size len k X ∧ Below w.heap.size w wr) (fun i _ => len - (intOf i).toNat)
  case atStart => exact ⟨0, by omega, rfl, hO, hB⟩
  case round =>
    clear hO hB
    obtain ⟨k, hk, rfl, hO, hB⟩ := hrel
    by_cases hlt : k < len
    · rcases hL with h | ⟨g, o, h, hc⟩
      · omega
      obtain rfl := Option.some.inj h
      obtain ⟨h0, h1⟩ := hc k hlt
      clear hc
      have c0 := cell_keep hB h0
      have c1 := cell_keep hB h1
      have hg : g < w.heap.size := World.block_lt_of_cell? _ _ h0
      clear h0 h1 h
      obtain ⟨⟨y0, e0⟩, ⟨y1, e1⟩, f0, f1⟩ := own_cells hO k hlt
      have hlt' : (k : Int) < (len : Int) := by omega
      go_wp2
      go_region
      go_wp2
      go_roundw
      case rel => exact ⟨k + 1, by omega, by go_num, own_store (w := wr) hO hlt rfl, ((hB.setCell (p := ⟨w.heap.size, k * 2, none⟩) (Nat.le_refl _) _).setCell (p := ⟨w.heap.size, k * 2 + 1, none⟩) (Nat.le_refl _) _).drew⟩
      case measure => simp [intOf]; omega
    · clear hL
      go_wp2
      go_ret
      have : k = len := by omega
      subst this
      exact ⟨rfl, hO, hB⟩

/-- zzContainers: whatever slice: what comes back lies there as a row of the same containers. -/
theorem conts_any (a : Option Addr) (len cap : Nat) (X : Nat → Co) (w : World) (hl : len ≤ 65536) (hn : a = none → len = 0 ∧ cap = 0) (hL : Lies w a len X) :
    Calls Try.prog 9 #[.slice a len cap] w fun e w' => ∃ a' c', e = .returned (.slice a' len c') ∧ Lies w' a' len X ∧ Below w.heap.size w w' := by
  rcases a with _ | ad
  · obtain ⟨rfl, rfl⟩ := hn rfl
    refine (conts_nil w).mono ?_
    rintro e w' ⟨rfl, rfl⟩
    exact ⟨none, 0, rfl, .inl rfl, Below.refl _ _⟩
  · refine (conts_some _ len cap X w hl hL).mono ?_
    rintro e w' ⟨rfl, hO, hB⟩
    exact ⟨_, _, rfl, hO.lies, hB⟩

/-- A bool comes back; if it is false then n is small. -/
def SomeB (e : Ending) (n : Nat) : Prop := ∃ b, e = .returned (.bool b) ∧ (b = false → n ≤ 65536)

set_option maxRecDepth 100000 in
set_option maxHeartbeats 800000 in
theorem tooBig_any (m : Me) (a : Option Addr) (len cap : Nat) (X : Nat → Co) (w : World) (hl : len ≤ maxLen) (hL : Lies w a len X) (hM : ∀ j, j < len → HasLen w (X j).m) :
    Calls Try.prog 5 #[.agg #[.string m.ty, .string m.nm, .string m.ct, .string m.dk, .string m.se, .int .i64 m.tg, .int .i64 m.av, .int .i32 m.au, .int .i64 m.va, .string m.fi], .slice a len cap] w fun e w' => SomeB e len ∧ Below w.heap.size w w' := by
  unfold maxLen at hl
  have HL : Hid (Lies w a len X ∧ ∀ j, j < len → HasLen w (X j).m) := ⟨hL, hM⟩
  clear hL hM
  go_enter Try.func5, Try.ntmps5
  go_wp2
  have hB1 : Below w.heap.size w ((w.alloc (.cells #[.string m.ty, .string m.nm, .string m.ct, .string m.dk, .string m.se, .int .i64 m.tg, .int .i64 m.av, .int .i32 m.au, .int .i64 m.va, .string m.fi] 23)).alloc (.cells #[.int .i64 m.ty.size, .int .i64 m.nm.size, .int .i64 m.ct.size, .int .i64 m.dk.size, .int .i64 m.se.size, .int .i64 m.fi.size] 38)) := (alloc_below _ _).alloc (by simp) _
  have hA1 : Blk ((w.alloc (.cells #[.string m.ty, .string m.nm, .string m.ct, .string m.dk, .string m.se, .int .i64 m.tg, .int .i64 m.av, .int .i32 m.au, .int .i64 m.va, .string m.fi] 23)).alloc (.cells #[.int .i64 m.ty.size, .int .i64 m.nm.size, .int .i64 m.ct.size, .int .i64 m.dk.size, .int .i64 m.se.size, .int .i64 m.fi.size] 38)) (w.heap.size + 1) #[.int .i64 m.ty.size, .int .i64 m.nm.size, .int .i64 m.ct.size, .int .i64 m.dk.size, .int .i64 m.se.size, .int .i64 m.fi.size] 38 := by simpa using Blk.new (w.alloc _) _ _
  generalize ((w.alloc (.cells #[.string m.ty, .string m.nm, .string m.ct, .string m.dk, .string m.se, .int .i64 m.tg, .int .i64 m.av, .int .i32 m.au, .int .i64 m.va, .string m.fi] 23)).alloc (.cells #[.int .i64 m.ty.size, .int .i64 m.nm.size, .int .i64 m.ct.size, .int .i64 m.dk.size, .int .i64 m.se.size, .int .i64 m.fi.size] 38)) = w1 at *
  go_loop [6, 7] (fun t i => ∃ k : Nat, ∃ z : Int, k ≤ 6 ∧ i = .int .i64 k ∧ t = .int .i64 z) (fun _ i => 6 - (intOf i).toNat)
  case atStart => exact ⟨0, 0, by omega, rfl, rfl⟩
  case round =>
    obtain ⟨k, z, hk, rfl, rfl⟩ := hrel
    by_cases hlt : k < 6
    · obtain ⟨y, hy⟩ : ∃ y : Int, w1.cell? ⟨w.heap.size + 1, k, none⟩ = some (.int .i64 y) := by
        match k, hlt with
        | 0, _ => exact ⟨_, hA1.cell 0 rfl⟩
        | 1, _ => exact ⟨_, hA1.cell 1 rfl⟩
        | 2, _ => exact ⟨_, hA1.cell 2 rfl⟩
        | 3, _ => exact ⟨_, hA1.cell 3 rfl⟩
        | 4, _ => exact ⟨_, hA1.cell 4 rfl⟩
        | 5, _ => exact ⟨_, hA1.cell 5 rfl⟩
      go_wp2
      · go_ret
        exact ⟨⟨_, rfl, (fun h => by cases h)⟩, hB1⟩
      · go_ret
        exact ⟨⟨_, rfl, (fun h => by cases h)⟩, hB1⟩
      · go_round
        case rel => exact ⟨k + 1, _, by omega, by go_num, rfl⟩
        case measure => simp [intOf]; omega
    · by_cases hbig : len ≤ 65536
      · go_wp2
        go_loopw [6, 8] (fun t i wr => ∃ k : Nat, ∃ z : Int, k ≤ len ∧ i = .int .i64 k ∧ t = .int .i64 z ∧ Below w.heap.size w wr) (fun _ i _ => len - (intOf i).toNat)
        case atStart => exact ⟨0, z, by omega, rfl, rfl, hB1⟩
        case round =>
          clear hB1 hA1
          obtain ⟨k, z, hk, rfl, rfl, hB⟩ := hrel
          by_cases hlt : k < len
          · rcases HL.out.1 with h | ⟨g, o, rfl, hc⟩
            · omega
            obtain ⟨h0, h1⟩ := hc k hlt
            clear hc
            have c0 := cell_keep hB h0
            have c1 := cell_keep hB h1
            clear h0 h1
            obtain ⟨n, hn⟩ := HL.out.2 k hlt
            have hn0 := fun ty => hn wr hB ty
            have hlt' : (k : Int) < (len : Int) := by omega
            by_cases hs : (X k).s.size ≤ 1048576
            · by_cases hn2 : n ≤ 65536
              · have hs' : decide ((1048576 : Int) < ((X k).s.size : Int)) = false := decide_eq_false (by omega)
                have hn2' : decide ((65536 : Int) < (n : Int)) = false := decide_eq_false (by omega)
                have hn1 := fun q ty => hn (wr.drewN q) (below_drewN hB q) ty
                go_wp2_with fail
                go_quiet (fail)
                go_wp2
                · go_ret
                  exact ⟨⟨_, rfl, (fun h => by cases h)⟩, below_drewN hB _⟩
                · go_roundw
                  case rel => exact ⟨k + 1, _, by omega, by go_num, rfl, below_drewN hB _⟩
                  case measure => simp [intOf]; omega
              · have hs' : decide ((1048576 : Int) < ((X k).s.size : Int)) = false := decide_eq_false (by omega)
                have hn2' : decide ((65536 : Int) < (n : Int)) = true := decide_eq_true (by omega)
                go_wp2
                go_ret
                exact ⟨⟨_, rfl, (fun h => by cases h)⟩, hB⟩
            · have hs' : decide ((1048576 : Int) < ((X k).s.size : Int)) = true := decide_eq_true (by omega)
              go_wp2
              go_ret
              exact ⟨⟨_, rfl, (fun h => by cases h)⟩, hB⟩
          · go_wp2
            go_ret
            exact ⟨⟨_, rfl, fun _ => hbig⟩, hB⟩
      · go_wp2
        go_ret
        exact ⟨⟨_, rfl, (fun h => by cases h)⟩, hB1⟩

end Go.Proofs.Qxb6632381a
