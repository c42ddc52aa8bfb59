import Derived.Test.Qxb6632330aParts
import Derived.Deep.RegionHeld3
namespace Go.Proofs.Qxb6632330a
open Go.RowKit

/-- Block b is a little row of cells, none frozen. -/
def Blk (w : World) (b : Nat) (cs : Array Value) (t : TypeId) : Prop := w.heap[b]? = some (.cells cs t (0, 0))
theorem Blk.below {w w' : World} {B b : Nat} {cs : Array Value} {t : TypeId} (h : Blk w b cs t) (hb : Below B w w') (hB : b < B) : Blk w' b cs t := (hb.block b hB).trans h
theorem Blk.lt {w : World} {b : Nat} {cs : Array Value} {t : TypeId} (h : Blk w b cs t) : b < w.heap.size := (Array.getElem?_eq_some_iff.1 h).1
theorem Blk.cell {w : World} {b : Nat} {cs : Array Value} {t : TypeId} (h : Blk w b cs t) (o : Nat) {v : Value} (hv : cs[o]? = some v) : w.cell? ⟨b, o, none⟩ = some v := by rw [cell_of_row w b o cs t _ h]; exact hv
theorem Blk.alloc {w : World} {b : Nat} {cs : Array Value} {t : TypeId} (h : Blk w b cs t) (o : Obj) : Blk (w.alloc o) b cs t := (Below.heap_alloc w o b h.lt).trans h
theorem Blk.new (w : World) (cs : Array Value) (t : TypeId) : Blk (w.alloc (.cells cs t)) w.heap.size cs t := heap_alloc_new w _
theorem Blk.three {w : World} {b : Nat} {t : TypeId} {x y z : Value} (h : Blk w b #[x, y, z] t) : w.cell? ⟨b, 0, none⟩ = some x ∧ w.cell? ⟨b, 1, none⟩ = some y ∧ w.cell? ⟨b, 2, none⟩ = some z := ⟨h.cell 0 rfl, h.cell 1 rfl, h.cell 2 rfl⟩

theorem Blk.set {w : World} {b : Nat} {cs : Array Value} {t : TypeId} (h : Blk w b cs t) {a : Addr} (ha : b ≠ a.block) (v : Value) : Blk (w.setCell a v) b cs t := (Below.heap_setCell w a v b ha).trans h

/-- The row with x put in at place i. -/
def put (X : Nat → At) (i : Nat) (x : At) (j : Nat) : At := if j < i then X j else if j = i then x else X (j - 1)

theorem first_or (X : Nat → At) (n : Nat) (t : Int) : (∃ j, j < n ∧ (X j).t = t ∧ ∀ m, m < j → (X m).t ≠ t) ∨ ∀ m, m < n → (X m).t ≠ t := by
  induction n with
  | zero => exact .inr (fun m hm => by omega)
  | succ n ih =>
    rcases ih with ⟨j, hj, h1, h2⟩ | h
    · exact .inl ⟨j, by omega, h1, h2⟩
    · by_cases e : (X n).t = t
      · exact .inl ⟨n, by omega, e, h⟩
      · refine .inr (fun m hm => ?_)
        by_cases e' : m = n
        · subst e'; exact e
        · exact h m (by omega)

theorem put_lt {X : Nat → At} {i : Nat} {x : At} {j : Nat} (h : j < i) : put X i x j = X j := by unfold put; rw [if_pos h]
theorem put_at (X : Nat → At) (i : Nat) (x : At) : put X i x i = x := by unfold put; rw [if_neg (by omega), if_pos rfl]
theorem put_gt {X : Nat → At} {i : Nat} {x : At} {j : Nat} (h : i ≤ j) : put X i x (j + 1) = X j := by unfold put; rw [if_neg (by omega), if_neg (by omega), Nat.add_sub_cancel]

theorem after_first (n1 n2 : Int) (a : Option Addr) (n c i j : Nat) (X : Nat → At) (x : At) (w : World) (hn : n ≤ 65536) (hi : i ≤ n) (hL : Lies w a (n + 1) (put X i x)) (hj : j < i) (hjt : (X j).t = x.t) (hmin : ∀ m, m < j → (X m).t ≠ x.t) :
    Calls Try.prog 9 #[.agg #[.int .u8 n1, .int .u8 n2, .slice a (n + 1) c], .int .u16 x.t] w fun e w' =>
      e = .returned (.tuple #[.agg #[.int .u16 (X j).t, .bool (X j).b, .slice (X j).p (X j).n (X j).c], .bool true]) ∧ Below w.heap.size w w' := by
  have h := attr_found n1 n2 a (n + 1) c (put X i x) x.t j w (by unfold maxLen; omega) hL (by omega) (by rw [put_lt hj]; exact hjt) (fun m hm => by rw [put_lt (by omega)]; exact hmin m hm)
  rw [put_lt hj] at h
  exact h

theorem after_self (n1 n2 : Int) (a : Option Addr) (n c i : Nat) (X : Nat → At) (x : At) (w : World) (hn : n ≤ 65536) (hi : i ≤ n) (hL : Lies w a (n + 1) (put X i x)) (hmin : ∀ m, m < i → (X m).t ≠ x.t) :
    Calls Try.prog 9 #[.agg #[.int .u8 n1, .int .u8 n2, .slice a (n + 1) c], .int .u16 x.t] w fun e w' =>
      e = .returned (.tuple #[.agg #[.int .u16 x.t, .bool x.b, .slice x.p x.n x.c], .bool true]) ∧ Below w.heap.size w w' := by
  have h := attr_found n1 n2 a (n + 1) c (put X i x) x.t i w (by unfold maxLen; omega) hL (by omega) (by rw [put_at]) (fun m hm => by rw [put_lt (by omega)]; exact hmin m hm)
  rw [put_at] at h
  exact h

theorem after_other (n1 n2 : Int) (a : Option Addr) (n c i j : Nat) (X : Nat → At) (x : At) (u : Int) (w : World) (hn : n ≤ 65536) (hi : i ≤ n) (hL : Lies w a (n + 1) (put X i x)) (hu : x.t ≠ u) (hj : j < n) (hjt : (X j).t = u) (hmin : ∀ m, m < j → (X m).t ≠ u) :
    Calls Try.prog 9 #[.agg #[.int .u8 n1, .int .u8 n2, .slice a (n + 1) c], .int .u16 u] w fun e w' =>
      e = .returned (.tuple #[.agg #[.int .u16 (X j).t, .bool (X j).b, .slice (X j).p (X j).n (X j).c], .bool true]) ∧ Below w.heap.size w w' := by
  have hp : ∀ m, m < j + 1 → m ≠ j + 1 → (m < i → m < j ∨ i ≤ j) → True := fun _ _ _ _ => trivial
  clear hp
  by_cases hji : j < i
  · have h := attr_found n1 n2 a (n + 1) c (put X i x) u j w (by unfold maxLen; omega) hL (by omega) (by rw [put_lt hji]; exact hjt) (fun m hm => by rw [put_lt (by omega)]; exact hmin m hm)
    rw [put_lt hji] at h
    exact h
  · have h := attr_found n1 n2 a (n + 1) c (put X i x) u (j + 1) w (by unfold maxLen; omega) hL (by omega) (by rw [put_gt (by omega)]; exact hjt) (fun m hm => by
      by_cases h1 : m < i
      · rw [put_lt h1]; exact hmin m (by omega)
      · by_cases h2 : m = i
        · subst h2; rw [put_at]; exact hu
        · obtain ⟨m', rfl⟩ : ∃ m', m = m' + 1 := ⟨m - 1, by omega⟩
          rw [put_gt (by omega)]; exact hmin m' (by omega))
    rw [put_gt (by omega)] at h
    exact h

theorem after_none (n1 n2 : Int) (a : Option Addr) (n c i : Nat) (X : Nat → At) (x : At) (u : Int) (w : World) (hn : n ≤ 65536) (hi : i ≤ n) (hL : Lies w a (n + 1) (put X i x)) (hu : x.t ≠ u) (hmin : ∀ m, m < n → (X m).t ≠ u) :
    Calls Try.prog 9 #[.agg #[.int .u8 n1, .int .u8 n2, .slice a (n + 1) c], .int .u16 u] w fun e w' =>
      e = .returned (.tuple #[.agg #[.int .u16 0, .bool false, .slice none 0 0], .bool false]) ∧ Below w.heap.size w w' := by
  refine attr_none n1 n2 a (n + 1) c (put X i x) u w (by unfold maxLen; omega) hL (fun m hm => ?_)
  by_cases h1 : m < i
  · rw [put_lt h1]; exact hmin m (by omega)
  · by_cases h2 : m = i
    · subst h2; rw [put_at]; exact hu
    · obtain ⟨m', rfl⟩ : ∃ m', m = m' + 1 := ⟨m - 1, by omega⟩
      rw [put_gt (by omega)]; exact hmin m' (by omega)

theorem alloc_below (w : World) (o : Obj) : Below w.heap.size w (w.alloc o) := (Below.refl _ _).alloc (Nat.le_refl _) _

/-- The three cells of one attribute. -/
def Attr3 (w : World) (g o : Nat) (x : At) : Prop := w.cell? ⟨g, o, none⟩ = some (.int .u16 x.t) ∧ w.cell? ⟨g, o + 1, none⟩ = some (.bool x.b) ∧ w.cell? ⟨g, o + 2, none⟩ = some (.slice x.p x.n x.c)
theorem Attr3.below {w w' : World} {g o : Nat} {x : At} (h : Attr3 w g o x) (hb : Below w.heap.size w w') : Attr3 w' g o x :=
  ⟨cell_below hb h.1 (World.block_lt_of_cell? _ _ h.1), cell_below hb h.2.1 (World.block_lt_of_cell? _ _ h.2.1), cell_below hb h.2.2 (World.block_lt_of_cell? _ _ h.2.2)⟩

/-- What the walk behind the two filling loops has at hand. -/
structure Rest (w : World) (N2 N5 N8 : Nat) (n1 n2 : Int) (a a2 : Option Addr) (c2 len i : Nat) (X : Nat → At) (x : At) (wr : World) : Prop where
  xb : Blk wr w.heap.size #[.int .u16 x.t, .bool x.b, .slice x.p x.n x.c] 26
  bf : Blk wr N2 #[.int .u8 n1, .int .u8 n2, .slice a2 len c2] 32
  xa : Blk wr N5 #[.int .u16 x.t, .bool x.b, .slice x.p x.n x.c] 35
  af : Blk wr N8 #[.int .u8 n1, .int .u8 n2, .slice (some ⟨N2 + 1, 0, none⟩) (len + 1) (len + 1)] 32
  bl : Lies wr a2 len X
  al : Lies wr (some ⟨N2 + 1, 0, none⟩) (len + 1) (put X i x)
  inn : Lies wr a len X
  bel : Below w.heap.size w wr

theorem Rest.below {w : World} {N2 N5 N8 : Nat} {n1 n2 : Int} {a a2 : Option Addr} {c2 len i : Nat} {X : Nat → At} {x : At} {wr w' : World} (h : Rest w N2 N5 N8 n1 n2 a a2 c2 len i X x wr) (hb : Below wr.heap.size wr w') : Rest w N2 N5 N8 n1 n2 a a2 c2 len i X x w' :=
  ⟨h.xb.below hb h.xb.lt, h.bf.below hb h.bf.lt, h.xa.below hb h.xa.lt, h.af.below hb h.af.lt, h.bl.below hb, h.al.below hb, h.inn.below hb, h.bel.trans (hb.mono h.bel.size)⟩

theorem drew_below {w w' : World} (h : Below w.drew.heap.size w.drew w') : Below w.heap.size w w' := (Below.refl _ _).drew.trans h
theorem drewN_below (w : World) (n : Nat) : Below w.heap.size w (w.drewN n) := below_drewN (Below.refl _ _) n

set_option maxRecDepth 100000 in
set_option maxHeartbeats 1000000 in
/-- The place is out of range. -/
theorem insert_out (n1 n2 : Int) (a : Option Addr) (len cap : Nat) (X : Nat → At) (i : Int) (x : At) (u : Int) (w : World) (hl : len ≤ maxLen) (hL : Lies w a len X)
    (hi : i < 0 ∨ (len : Int) < i) :
    Calls Try.prog 3 #[.int .u8 n1, .int .u8 n2, .slice a len cap, .int .i64 i, .agg #[.int .u16 x.t, .bool x.b, .slice x.p x.n x.c], .int .u16 u] w fun e w' => e = .returned (.bool true) ∧ Below w.heap.size w w' := by
  have HL : Hid (Lies w a len X) := hL
  have HML : Hid (len ≤ maxLen) := hl
  unfold maxLen at hl
  clear hL
  go_enter Try.func3, Try.ntmps3
  go_wp2_with fail
  refine (bytes3_any n1 n2 a len cap X i u x _ HML.out (HL.out.below (alloc_below _ _))).mono ?_
  rintro e w1 ⟨⟨b, rfl⟩, hb1⟩
  have B1 : Below w.heap.size w w1 := (alloc_below _ _).trans (hb1.mono (by simp))
  have X1 : Blk w1 w.heap.size #[.int .u16 x.t, .bool x.b, .slice x.p x.n x.c] 26 := (Blk.new w _ _).below hb1 (by simp)
  obtain ⟨p0, p1, p2⟩ := X1.three
  clear hb1
  cases b with
  | false =>
    go_wp2
    go_ret
    exact ⟨rfl, B1⟩
  | true =>
  by_cases hxn : x.n ≤ 1048576
  case neg =>
    go_wp2
    go_ret
    exact ⟨rfl, B1⟩
  go_wp2_with fail
  refine (tooBig_any a len cap X _ _ HML.out (HL.out.below B1)).mono ?_
  rintro e w2 ⟨⟨b, rfl, hsm⟩, rfl⟩
  cases b with
  | true =>
    clear hsm
    go_wp2
    go_ret
    exact ⟨rfl, B1⟩
  | false =>
  replace hsm := hsm rfl
  rcases hi with hi | hi
  · go_wp2
    go_ret
    exact ⟨rfl, B1⟩
  · have hi' : ¬ i < 0 := by omega
    go_wp2
    go_ret
    exact ⟨rfl, B1⟩

set_option maxRecDepth 100000 in
set_option maxHeartbeats 1000000 in
theorem insert_walk (n1 n2 : Int) (a : Option Addr) (len cap : Nat) (X : Nat → At) (i : Nat) (x : At) (u : Int) (w : World) (hl : len ≤ maxLen) (hn : a = none → len = 0 ∧ cap = 0) (hL : Lies w a len X)
    (hX : ∀ j, j < len → Bytes w (X j).p (X j).n) (hx : Bytes w x.p x.n) (hi : i ≤ len) :
    Calls Try.prog 3 #[.int .u8 n1, .int .u8 n2, .slice a len cap, .int .i64 i, .agg #[.int .u16 x.t, .bool x.b, .slice x.p x.n x.c], .int .u16 u] w fun e w' => e = .returned (.bool true) ∧ Below w.heap.size w w' := by
  have HL : Hid (Lies w a len X) := hL
  have HX : Hid ((∀ j, j < len → Bytes w (X j).p (X j).n) ∧ Bytes w x.p x.n) := ⟨hX, hx⟩
  have HN : Hid (a = none → len = 0 ∧ cap = 0) := hn
  have HML : Hid (len ≤ maxLen) := hl
  unfold maxLen at hl
  clear hL hX hx hn
  obtain ⟨i0, hi0, hz0, hz1, hz2⟩ := info_parts Try.info35
  go_enter Try.func3, Try.ntmps3
  go_wp2_with fail
  refine (bytes3_any n1 n2 a len cap X i u x _ HML.out (HL.out.below (alloc_below _ _))).mono ?_
  rintro e w1 ⟨⟨b, rfl⟩, hb1⟩
  have B1 : Below w.heap.size w w1 := (alloc_below _ _).trans (hb1.mono (by simp))
  have X1 : Blk w1 w.heap.size #[.int .u16 x.t, .bool x.b, .slice x.p x.n x.c] 26 := (Blk.new w _ _).below hb1 (by simp)
  obtain ⟨p0, p1, p2⟩ := X1.three
  clear hb1
  cases b with
  | false =>
    go_wp2
    go_ret
    exact ⟨rfl, B1⟩
  | true =>
  by_cases hxn : x.n ≤ 1048576
  case neg =>
    go_wp2
    go_ret
    exact ⟨rfl, B1⟩
  go_wp2_with fail
  refine (tooBig_any a len cap X _ _ HML.out (HL.out.below B1)).mono ?_
  rintro e w2 ⟨⟨b, rfl, hsm⟩, rfl⟩
  cases b with
  | true =>
    clear hsm
    go_wp2
    go_ret
    exact ⟨rfl, B1⟩
  | false =>
  replace hsm := hsm rfl
  go_wp2_with fail
  refine (toList_any a len cap X _ hsm HN.out (HL.out.below B1)).mono ?_
  rintro e w2 ⟨a2, c2, rfl, L2, hb2⟩
  have B2 : Below w.heap.size w w2 := B1.trans (hb2.mono B1.size)
  have X2 := X1.below hb2 X1.lt
  clear p0 p1 p2 hb2 X1 B1
  have hi1 : (i : Int) ≤ (len : Int) := by omega
  go_wp2_with (first | (at_make; refine wpList_make_full _ rfl _ _ 29 rfl 0 35 i0 _ 3 Try.underlying29 hi0 hz0 hz1 .i64 .i64 _ _ (len + 1) rfl rfl (by omega) (by omega) (by rw [hz2]; omega) (by unfold maxLen; omega) (by omega) ?_; intro w3 hown3 hgrow3))
  have O3 : Own w3 (w2.heap.size + 1) (len + 1) 0 (put X i x) := own_new _ (by simpa using hown3)
  have F3 : Blk w3 w2.heap.size #[.int .u8 n1, .int .u8 n2, .slice a2 len c2] 32 := (hgrow3.block _ (by simp) (by simp)).trans (Blk.new w2 _ _)
  have B3 : Below w2.heap.size w2 w3 := (alloc_below _ _).grown hgrow3 (by simp) (fun k hk => by cases hk)
  clear hown3 hgrow3
  -- the first loop: what stands ahead of i
  go_loopw [15] (fun q wr => ∃ k : Nat, k ≤ i ∧ q = .int .i64 k ∧ Own wr (w2.heap.size + 1) (len + 1) k (put X i x) ∧ Blk wr w2.heap.size #[.int .u8 n1, .int .u8 n2, .slice a2 len c2] 32 ∧ Below w2.heap.size w2 wr) (fun q _ => i - (intOf q).toNat)
  case atStart => exact ⟨0, by omega, rfl, O3, F3, B3⟩
  case round =>
    clear O3 F3 B3
    obtain ⟨k, hk, rfl, O4, F4, B4⟩ := hrel
    by_cases hlt : k < i
    · have L4 := HL.out.below (B2.trans (B4.mono B2.size))
      rcases L4 with h | ⟨g, o, rfl, hc⟩
      · omega
      have hkl : k < len := by omega
      obtain ⟨c0, c1, c2'⟩ := hc k hkl
      clear hc
      have HPK : Hid (put X i x k = X k) := by show put X i x k = X k; unfold put; rw [if_pos hlt]
      go_wp2_with (first | (go_at_call 8; refine (toAttr_any (X k) _).mono ?_; rintro e w5 ⟨rfl, hb5⟩; have O5 := O4.below hb5 O4.lt; obtain ⟨⟨y0, e0⟩, ⟨y1, e1⟩, ⟨y2, e2⟩, f0, f1, f2⟩ := own_cells O5 k (by omega)))
      go_roundw
      case rel =>
        have b5 : Below w2.heap.size w2 w5 := B4.trans (hb5.mono B4.size)
        exact ⟨k + 1, by omega, by go_num, own_store O5 (by omega) HPK.out, ((((F4.below hb5 F4.lt).set (by simp) _).set (by simp) _).set (by simp) _), ((b5.setCell (by simp) _).setCell (by simp) _).setCell (by simp) _⟩
      case measure => simp [intOf]; omega
    · obtain rfl : i = k := by omega
      have X4 := X2.below B4 X2.lt
      obtain ⟨p0, p1, p2⟩ := X4.three
      obtain ⟨w4, rfl⟩ : ∃ w4, w4 = wr := ⟨_, rfl⟩
      go_wp2_with (first | (go_at_call 8; refine (toAttr_any x _).mono ?_; rintro e w5 ⟨rfl, hb5⟩; have O5 := O4.below hb5 O4.lt; have sz5 : w2.heap.size + 1 < w5.heap.size := O5.lt; obtain ⟨⟨y0, e0⟩, ⟨y1, e1⟩, ⟨y2, e2⟩, f0, f1, f2⟩ := own_cells O5 i (by omega)))
      have b5 : Below w2.heap.size w2 w5 := B4.trans (hb5.mono B4.size)
      have hpi : put X i x i = x := by unfold put; rw [if_neg (by omega), if_pos rfl]
      have O6 : Own ((((w5.setCell ⟨w2.heap.size + 1, i * 3, none⟩ (.int .u16 x.t)).setCell ⟨w2.heap.size + 1, i * 3 + 1, none⟩ (.bool x.b)).setCell ⟨w2.heap.size + 1, i * 3 + 2, none⟩ (.slice x.p x.n x.c)).alloc (.cells #[.int .u16 x.t, .bool x.b, .slice x.p x.n x.c] 35)) (w2.heap.size + 1) (len + 1) (i + 1) (put X i x) :=
        (own_store O5 (by omega) hpi).below (alloc_below _ _) (own_store O5 (by omega) hpi).lt
      have F6 : Blk ((((w5.setCell ⟨w2.heap.size + 1, i * 3, none⟩ (.int .u16 x.t)).setCell ⟨w2.heap.size + 1, i * 3 + 1, none⟩ (.bool x.b)).setCell ⟨w2.heap.size + 1, i * 3 + 2, none⟩ (.slice x.p x.n x.c)).alloc (.cells #[.int .u16 x.t, .bool x.b, .slice x.p x.n x.c] 35)) w2.heap.size #[.int .u8 n1, .int .u8 n2, .slice a2 len c2] 32 :=
        ((((F4.below hb5 F4.lt).set (by simp) _).set (by simp) _).set (by simp) _).alloc _
      have B6 : Below w2.heap.size w2 ((((w5.setCell ⟨w2.heap.size + 1, i * 3, none⟩ (.int .u16 x.t)).setCell ⟨w2.heap.size + 1, i * 3 + 1, none⟩ (.bool x.b)).setCell ⟨w2.heap.size + 1, i * 3 + 2, none⟩ (.slice x.p x.n x.c)).alloc (.cells #[.int .u16 x.t, .bool x.b, .slice x.p x.n x.c] 35)) :=
        (((b5.setCell (by simp) _).setCell (by simp) _).setCell (by simp) _).alloc (by simp; omega) _
      have A6 : Blk ((((w5.setCell ⟨w2.heap.size + 1, i * 3, none⟩ (.int .u16 x.t)).setCell ⟨w2.heap.size + 1, i * 3 + 1, none⟩ (.bool x.b)).setCell ⟨w2.heap.size + 1, i * 3 + 2, none⟩ (.slice x.p x.n x.c)).alloc (.cells #[.int .u16 x.t, .bool x.b, .slice x.p x.n x.c] 35)) w5.heap.size #[.int .u16 x.t, .bool x.b, .slice x.p x.n x.c] 35 := by
        simpa using Blk.new (((w5.setCell ⟨w2.heap.size + 1, i * 3, none⟩ (.int .u16 x.t)).setCell ⟨w2.heap.size + 1, i * 3 + 1, none⟩ (.bool x.b)).setCell ⟨w2.heap.size + 1, i * 3 + 2, none⟩ (.slice x.p x.n x.c)) #[.int .u16 x.t, .bool x.b, .slice x.p x.n x.c] 35
      clear hpi b5 e0 e1 e2 f0 f1 f2 O5 hb5 p0 p1 p2 X4 O4 F4 B4
      have hN5 : w2.heap.size + 1 < w5.heap.size := sz5
      generalize hN : w5.heap.size = N5 at *
      go_loopw [17] (fun q wr => ∃ k : Nat, i ≤ k ∧ k ≤ len ∧ q = .int .i64 k ∧ Own wr (w2.heap.size + 1) (len + 1) (k + 1) (put X i x) ∧ Blk wr w2.heap.size #[.int .u8 n1, .int .u8 n2, .slice a2 len c2] 32 ∧ Blk wr N5 #[.int .u16 x.t, .bool x.b, .slice x.p x.n x.c] 35 ∧ Below w2.heap.size w2 wr) (fun q _ => len - (intOf q).toNat)
      case atStart => exact ⟨i, by omega, by omega, rfl, O6, F6, A6, B6⟩
      case round =>
        clear O6 F6 A6 B6 hN
        obtain ⟨k, hk0, hk, rfl, O4, F4, A4, B4⟩ := hrel
        by_cases hlt : k < len
        · have L4 := HL.out.below (B2.trans (B4.mono B2.size))
          rcases L4 with h | ⟨g, o, rfl, hc⟩
          · omega
          obtain ⟨c0, c1, c2'⟩ := hc k hlt
          clear hc
          have HPK : Hid (put X i x (k + 1) = X k) := by
            show put X i x (k + 1) = X k
            unfold put
            rw [if_neg (by omega), if_neg (by omega), Nat.add_sub_cancel]
          go_wp2_with (first | (go_at_call 8; refine (toAttr_any (X k) _).mono ?_; rintro e w7 ⟨rfl, hb7⟩; have O7 := O4.below hb7 O4.lt; obtain ⟨⟨y0, e0⟩, ⟨y1, e1⟩, ⟨y2, e2⟩, f0, f1, f2⟩ := own_cells O7 (k + 1) (by omega)))
          go_roundw
          case rel =>
            have b5 : Below w2.heap.size w2 w7 := B4.trans (hb7.mono B4.size)
            exact ⟨k + 1, by omega, by omega, by go_num, own_store O7 (by omega) HPK.out, ((((F4.below hb7 F4.lt).set (by simp) _).set (by simp) _).set (by simp) _), ((((A4.below hb7 A4.lt).set (by simp; omega) _).set (by simp; omega) _).set (by simp; omega) _), ((b5.setCell (by simp) _).setCell (by simp) _).setCell (by simp) _⟩
          case measure => simp [intOf]; omega
        · obtain rfl : len = k := by omega
          obtain ⟨w7, rfl⟩ : ∃ w7, w7 = wr := ⟨_, rfl⟩
          have R8 : Rest w w2.heap.size N5 w7.heap.size n1 n2 a a2 c2 len i X x (w7.alloc (.cells #[.int .u8 n1, .int .u8 n2, .slice (some ⟨w2.heap.size + 1, 0, none⟩) (len + 1) (len + 1)] 32)) :=
            ⟨(X2.below B4 X2.lt).alloc _, F4.alloc _, A4.alloc _, Blk.new _ _ _, (L2.below B4).below (alloc_below _ _), (O4.lies).below (alloc_below _ _), (HL.out.below (B2.trans (B4.mono B2.size))).below (alloc_below _ _), (B2.trans (B4.mono B2.size)).trans ((alloc_below _ _).mono (Nat.le_trans B2.size B4.size))⟩
          generalize hN8 : w7.heap.size = N8 at *
          clear O4 F4 A4 B4 X2 L2 B2
          go_wp2_with fail
          rcases first_or X i x.t with ⟨j0, hj0, hjt, hmin⟩ | hnone
          · have Hm : Hid ((X j0).t = x.t ∧ ∀ m, m < j0 → (X m).t ≠ x.t) := ⟨hjt, hmin⟩
            clear hjt hmin
            go_loopw [19, 20] (fun f q wr => ∃ k : Nat, k ≤ j0 ∧ q = .int .i64 k ∧ f = .int .i64 (-1) ∧ Rest w w2.heap.size N5 N8 n1 n2 a a2 c2 len i X x wr) (fun _ q _ => i - (intOf q).toNat)
            case atStart => exact ⟨0, by omega, rfl, rfl, R8⟩
            case round =>
              clear R8
              obtain ⟨k, hk0, rfl, rfl, R9⟩ := hrel
              have L9 := R9.inn
              rcases L9 with h | ⟨g, o, rfl, hc⟩
              · omega
              obtain ⟨q0, -, -⟩ := hc k (by omega)
              clear hc
              obtain ⟨p0, -, -⟩ := R9.xb.three
              have hki : k < i := by omega
              have hkl : (k : Int) < (len : Int) := by omega
              by_cases hkj : k = j0
              · subst hkj
                have he : ((X k).t == x.t) = true := by rw [Hm.out.1]; simp
                go_wp2
                go_quiet (fail)
                obtain ⟨s0, s1, s2⟩ := R9.af.three
                go_wp2_with fail
                refine (after_first n1 n2 _ len _ i k X x _ hsm hi ?_ hki Hm.out.1 Hm.out.2).mono ?_
                · exact (R9.below (drewN_below _ _)).al
                rintro e w9 ⟨rfl, hb9⟩
                have R10 := (R9.below (drewN_below _ _)).below hb9
                clear R9 hb9 p0 q0 s0 s1 s2
                obtain ⟨s0, s1, s2⟩ := R10.bf.three
                have z0 := R10.bf.lt
                go_wp2_with fail
                refine (attr_found n1 n2 a2 len c2 X x.t k _ HML.out ?_ (by omega) Hm.out.1 Hm.out.2).mono ?_
                · exact (R10.below (alloc_below _ _)).bl
                rintro e w11 ⟨rfl, hb11⟩
                have R11 := (R10.below (alloc_below _ _)).below hb11
                have G11 := (Blk.new w9 #[.int .u16 (X k).t, .bool (X k).b, .slice (X k).p (X k).n (X k).c] 35).below hb11 (by simp)
                clear R10 hb11 s0 s1 s2 z0
                generalize w9.heap.size = N9 at *
                obtain ⟨s0, s1, s2⟩ := G11.three
                have z0 := G11.lt
                go_wp2_with fail
                refine (sameAttr_self (X k) _ ?_).mono ?_
                · exact ((HX.out.1 k (by omega)).below R11.bel).below (alloc_below _ _)
                rintro e w12 ⟨rfl, hb12⟩
                have R12 := (R11.below (alloc_below _ _)).below hb12
                have G12 := (G11.alloc _).below hb12 (G11.alloc _).lt
                clear R11 G11 hb12 s0 s1 s2 z0
                obtain ⟨s0, s1, s2⟩ := G12.three
                go_wp2_with fail
                have HA : Hid (Attr3 w12 g (o + k * 3) (X k)) := by
                  rcases R12.inn with h | ⟨g', o', he, hc⟩
                  · omega
                  · cases he; exact hc k (by omega)
                obtain ⟨t0, t1, t2⟩ := HA.out
                have hki' : (k : Int) < (len : Int) := by omega
                go_region_held3 (fun w' => w'.cell? ⟨N9, 0, none⟩ = some (.int .u16 (X k).t) ∧ w'.cell? ⟨N9, 1, none⟩ = some (.bool (X k).b) ∧ w'.cell? ⟨N9, 2, none⟩ = some (.slice (X k).p (X k).n (X k).c) ∧ w'.cell? ⟨g, o + k * 3, none⟩ = some (.int .u16 (X k).t) ∧ w'.cell? ⟨g, o + k * 3 + 1, none⟩ = some (.bool (X k).b) ∧ w'.cell? ⟨g, o + k * 3 + 2, none⟩ = some (.slice (X k).p (X k).n (X k).c)) (go_keep)
                  (first
                    | (go_at_call 8; refine (toAttr_any (X k) _).mono ?_; rintro e w13 ⟨rfl, hb13'⟩; have hb13 := drew_below hb13'; have R13 := R12.below hb13; have G13 := G12.below hb13 G12.lt; obtain ⟨v0, v1, v2⟩ := G13.three; obtain ⟨m0, m1, m2⟩ := HA.out.below hb13)
                    | (go_at_call 10; refine (sameAttr_self (X k) _ ?_).mono ?_; exact (HX.out.1 k (by omega)).below R13.bel; rintro e w14 ⟨rfl, hb14⟩; have R14 := R13.below hb14; have G14 := G13.below hb14 G13.lt; obtain ⟨v0, v1, v2⟩ := G14.three; obtain ⟨m0, m1, m2⟩ := (HA.out.below hb13).below hb14))
                clear R12 G12 R13 G13 G14 hb13' hb13 hb14 HA t0 t1 t2 s0 s1 s2 Hm he hki hki' hkl
                obtain ⟨p0, p1, p2⟩ := R14.xb.three
                have z1 := R14.xb.lt
                by_cases hu : u = x.t
                · have hne : (u != x.t) = false := by simp [hu]
                  clear hu
                  go_wp2
                  go_ret
                  exact ⟨rfl, R14.bel⟩
                · have hne : (u != x.t) = true := by simp [hu]
                  have HU : Hid (x.t ≠ u) := fun h => hu h.symm
                  clear hu
                  obtain ⟨s0, s1, s2⟩ := R14.af.three
                  have z0 := R14.af.lt
                  rcases first_or X len u with ⟨j, hj, hjt, hmin⟩ | hnone
                  · have HJ : Hid ((X j).t = u ∧ ∀ m, m < j → (X m).t ≠ u) := ⟨hjt, hmin⟩
                    clear hjt hmin
                    go_wp2_with fail
                    refine (after_other n1 n2 _ len _ i j X x u _ hsm hi ?_ HU.out hj HJ.out.1 HJ.out.2).mono ?_
                    · exact R14.al
                    rintro e w15 ⟨rfl, hb15⟩
                    have R15 := R14.below hb15
                    clear R14 hb15 p0 p1 p2 z0 z1 s0 s1 s2 hne
                    obtain ⟨s0, s1, s2⟩ := R15.bf.three
                    have z0 := R15.bf.lt
                    go_wp2_with fail
                    refine (attr_found n1 n2 a2 len c2 X u j _ HML.out ?_ hj HJ.out.1 HJ.out.2).mono ?_
                    · exact (R15.below (alloc_below _ _)).bl
                    rintro e w16 ⟨rfl, hb16⟩
                    have R16 := (R15.below (alloc_below _ _)).below hb16
                    have G16 := (Blk.new w15 #[.int .u16 (X j).t, .bool (X j).b, .slice (X j).p (X j).n (X j).c] 35).below hb16 (by simp)
                    clear R15 hb16 s0 s1 s2 z0
                    generalize w15.heap.size = N15 at *
                    obtain ⟨s0, s1, s2⟩ := G16.three
                    have z0 := G16.lt
                    go_wp2_with fail
                    refine (sameAttr_self (X j) _ ?_).mono ?_
                    · exact ((HX.out.1 j hj).below R16.bel).below (alloc_below _ _)
                    rintro e w17 ⟨rfl, hb17⟩
                    have R17 := (R16.below (alloc_below _ _)).below hb17
                    clear R16 G16 hb17 s0 s1 s2 z0
                    go_wp2
                    go_ret
                    exact ⟨rfl, R17.bel⟩
                  · have HJ : Hid (∀ m, m < len → (X m).t ≠ u) := hnone
                    clear hnone
                    go_wp2_with fail
                    refine (after_none n1 n2 _ len _ i X x u _ hsm hi ?_ HU.out HJ.out).mono ?_
                    · exact R14.al
                    rintro e w15 ⟨rfl, hb15⟩
                    have R15 := R14.below hb15
                    clear R14 hb15 p0 p1 p2 z0 z1 s0 s1 s2 hne
                    obtain ⟨s0, s1, s2⟩ := R15.bf.three
                    have z0 := R15.bf.lt
                    go_wp2_with fail
                    refine (attr_none n1 n2 a2 len c2 X u _ HML.out ?_ HJ.out).mono ?_
                    · exact (R15.below (alloc_below _ _)).bl
                    rintro e w16 ⟨rfl, hb16⟩
                    have R16 := (R15.below (alloc_below _ _)).below hb16
                    have G16 := (Blk.new w15 #[.int .u16 0, .bool false, .slice none 0 0] 35).below hb16 (by simp)
                    clear R15 hb16 s0 s1 s2 z0
                    generalize w15.heap.size = N15 at *
                    obtain ⟨s0, s1, s2⟩ := G16.three
                    have z0 := G16.lt
                    go_wp2_with fail
                    refine (sameAttr_self ⟨0, false, none, 0, 0⟩ _ ?_).mono ?_
                    · exact ⟨Nat.zero_le _, .inl rfl⟩
                    rintro e w17 ⟨rfl, hb17⟩
                    have R17 := (R16.below (alloc_below _ _)).below hb17
                    have G17 := (G16.alloc _).below hb17 (G16.alloc _).lt
                    clear R16 G16 hb17 s0 s1 s2 z0
                    obtain ⟨s0, s1, s2⟩ := G17.three
                    have z0 := G17.lt
                    go_wp2_with fail
                    refine (isZero_zero _).mono ?_
                    rintro e w18 ⟨rfl, hb18⟩
                    have R18 := R17.below hb18
                    go_wp2
                    go_ret
                    exact ⟨rfl, R18.bel⟩
              · have he : ((X k).t == x.t) = false := beq_eq_false_iff_ne.2 (Hm.out.2 k (by omega))
                go_wp2
                go_quiet (fail)
                go_wp2
                go_roundw
                case rel => exact ⟨k + 1, by omega, by go_num, rfl, R9.below (drewN_below _ _)⟩
                case measure => simp [intOf]; omega
          · have Hm : Hid (∀ m, m < i → (X m).t ≠ x.t) := hnone
            clear hnone
            go_loopw [19, 20] (fun f q wr => ∃ k : Nat, k ≤ i ∧ q = .int .i64 k ∧ f = .int .i64 (-1) ∧ Rest w w2.heap.size N5 N8 n1 n2 a a2 c2 len i X x wr) (fun _ q _ => i - (intOf q).toNat)
            case atStart => exact ⟨0, by omega, rfl, rfl, R8⟩
            case round =>
              clear R8
              obtain ⟨k, hk0, rfl, rfl, R9⟩ := hrel
              by_cases hki : k < i
              · have L9 := R9.inn
                rcases L9 with h | ⟨g, o, rfl, hc⟩
                · omega
                obtain ⟨q0, -, -⟩ := hc k (by omega)
                clear hc
                obtain ⟨p0, -, -⟩ := R9.xb.three
                have hkl : (k : Int) < (len : Int) := by omega
                have he : ((X k).t == x.t) = false := beq_eq_false_iff_ne.2 (Hm.out k (by omega))
                go_wp2
                go_quiet (fail)
                go_wp2
                go_roundw
                case rel => exact ⟨k + 1, by omega, by go_num, rfl, R9.below (drewN_below _ _)⟩
                case measure => simp [intOf]; omega
              · obtain ⟨p0, -, -⟩ := R9.xb.three
                obtain ⟨s0, s1, s2⟩ := R9.af.three
                go_wp2_with fail
                refine (after_self n1 n2 _ len _ i X x _ hsm hi ?_ Hm.out).mono ?_
                · exact R9.al
                rintro e w9 ⟨rfl, hb9⟩
                have R10 := (R9.below hb9).below (alloc_below _ (.cells #[.int .u16 x.t, .bool x.b, .slice x.p x.n x.c] 35))
                have z9 := (R9.below hb9).xa.lt
                obtain ⟨s0', s1', s2'⟩ := (R9.below hb9).xa.three
                clear R9 hb9 p0 s0 s1 s2
                go_wp2_with fail
                refine (sameAttr_self x _ ?_).mono ?_
                · exact HX.out.2.below R10.bel
                rintro e w14 ⟨rfl, hb14⟩
                have R14 := R10.below hb14
                clear R10 hb14 z9 s0' s1' s2' Hm hki
                obtain ⟨p0, p1, p2⟩ := R14.xb.three
                have z1 := R14.xb.lt
                by_cases hu : u = x.t
                · have hne : (u != x.t) = false := by simp [hu]
                  clear hu
                  go_wp2
                  go_ret
                  exact ⟨rfl, R14.bel⟩
                · have hne : (u != x.t) = true := by simp [hu]
                  have HU : Hid (x.t ≠ u) := fun h => hu h.symm
                  clear hu
                  obtain ⟨s0, s1, s2⟩ := R14.af.three
                  have z0 := R14.af.lt
                  rcases first_or X len u with ⟨j, hj, hjt, hmin⟩ | hnone
                  · have HJ : Hid ((X j).t = u ∧ ∀ m, m < j → (X m).t ≠ u) := ⟨hjt, hmin⟩
                    clear hjt hmin
                    go_wp2_with fail
                    refine (after_other n1 n2 _ len _ i j X x u _ hsm hi ?_ HU.out hj HJ.out.1 HJ.out.2).mono ?_
                    · exact R14.al
                    rintro e w15 ⟨rfl, hb15⟩
                    have R15 := R14.below hb15
                    clear R14 hb15 p0 p1 p2 z0 z1 s0 s1 s2 hne
                    obtain ⟨s0, s1, s2⟩ := R15.bf.three
                    have z0 := R15.bf.lt
                    go_wp2_with fail
                    refine (attr_found n1 n2 a2 len c2 X u j _ HML.out ?_ hj HJ.out.1 HJ.out.2).mono ?_
                    · exact (R15.below (alloc_below _ _)).bl
                    rintro e w16 ⟨rfl, hb16⟩
                    have R16 := (R15.below (alloc_below _ _)).below hb16
                    have G16 := (Blk.new w15 #[.int .u16 (X j).t, .bool (X j).b, .slice (X j).p (X j).n (X j).c] 35).below hb16 (by simp)
                    clear R15 hb16 s0 s1 s2 z0
                    generalize w15.heap.size = N15 at *
                    obtain ⟨s0, s1, s2⟩ := G16.three
                    have z0 := G16.lt
                    go_wp2_with fail
                    refine (sameAttr_self (X j) _ ?_).mono ?_
                    · exact ((HX.out.1 j hj).below R16.bel).below (alloc_below _ _)
                    rintro e w17 ⟨rfl, hb17⟩
                    have R17 := (R16.below (alloc_below _ _)).below hb17
                    clear R16 G16 hb17 s0 s1 s2 z0
                    go_wp2
                    go_ret
                    exact ⟨rfl, R17.bel⟩
                  · have HJ : Hid (∀ m, m < len → (X m).t ≠ u) := hnone
                    clear hnone
                    go_wp2_with fail
                    refine (after_none n1 n2 _ len _ i X x u _ hsm hi ?_ HU.out HJ.out).mono ?_
                    · exact R14.al
                    rintro e w15 ⟨rfl, hb15⟩
                    have R15 := R14.below hb15
                    clear R14 hb15 p0 p1 p2 z0 z1 s0 s1 s2 hne
                    obtain ⟨s0, s1, s2⟩ := R15.bf.three
                    have z0 := R15.bf.lt
                    go_wp2_with fail
                    refine (attr_none n1 n2 a2 len c2 X u _ HML.out ?_ HJ.out).mono ?_
                    · exact (R15.below (alloc_below _ _)).bl
                    rintro e w16 ⟨rfl, hb16⟩
                    have R16 := (R15.below (alloc_below _ _)).below hb16
                    have G16 := (Blk.new w15 #[.int .u16 0, .bool false, .slice none 0 0] 35).below hb16 (by simp)
                    clear R15 hb16 s0 s1 s2 z0
                    generalize w15.heap.size = N15 at *
                    obtain ⟨s0, s1, s2⟩ := G16.three
                    have z0 := G16.lt
                    go_wp2_with fail
                    refine (sameAttr_self ⟨0, false, none, 0, 0⟩ _ ?_).mono ?_
                    · exact ⟨Nat.zero_le _, .inl rfl⟩
                    rintro e w17 ⟨rfl, hb17⟩
                    have R17 := (R16.below (alloc_below _ _)).below hb17
                    have G17 := (G16.alloc _).below hb17 (G16.alloc _).lt
                    clear R16 G16 hb17 s0 s1 s2 z0
                    obtain ⟨s0, s1, s2⟩ := G17.three
                    have z0 := G17.lt
                    go_wp2_with fail
                    refine (isZero_zero _).mono ?_
                    rintro e w18 ⟨rfl, hb18⟩
                    have R18 := R17.below hb18
                    go_wp2
                    go_ret
                    exact ⟨rfl, R18.bel⟩
end Go.Proofs.Qxb6632330a
