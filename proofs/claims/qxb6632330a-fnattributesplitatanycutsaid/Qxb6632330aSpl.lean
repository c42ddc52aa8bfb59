import Derived.Test.Qxb6632330aIns
namespace Go.Proofs.Qxb6632330a
open Go.RowKit

/-- Whatever the list: some attribute and some bool come back. -/
theorem attr_any (n1 n2 : Int) (a : Option Addr) (n c : Nat) (X : Nat → At) (t : Int) (w : World) (hn : n ≤ maxLen) (hL : Lies w a n X) :
    Calls Try.prog 9 #[.agg #[.int .u8 n1, .int .u8 n2, .slice a n c], .int .u16 t] w fun e w' =>
      ∃ (y : At) (b : Bool), e = .returned (.tuple #[.agg #[.int .u16 y.t, .bool y.b, .slice y.p y.n y.c], .bool b]) ∧ Below w.heap.size w w' := by
  rcases first_or X n t with ⟨j, hj, hjt, hmin⟩ | hnone
  · exact (attr_found n1 n2 a n c X t j w hn hL hj hjt hmin).mono (fun e w' h => ⟨X j, true, h.1, h.2⟩)
  · exact (attr_none n1 n2 a n c X t w hn hL hnone).mono (fun e w' h => ⟨⟨0, false, none, 0, 0⟩, false, h.1, h.2⟩)

theorem right_found (n1 n2 : Int) (a : Option Addr) (n c i j : Nat) (X : Nat → At) (u : Int) (w : World) (hn : n ≤ maxLen) (hL : Lies w a (n - i) (fun k => X (i + k))) (hij : i ≤ j) (hj : j < n) (hjt : (X j).t = u) (hmin : ∀ m, m < j → (X m).t ≠ u) :
    Calls Try.prog 9 #[.agg #[.int .u8 n1, .int .u8 n2, .slice a (n - i) c], .int .u16 u] w fun e w' =>
      e = .returned (.tuple #[.agg #[.int .u16 (X j).t, .bool (X j).b, .slice (X j).p (X j).n (X j).c], .bool true]) ∧ Below w.heap.size w w' := by
  have ej : i + (j - i) = j := by omega
  have h := attr_found n1 n2 a (n - i) c (fun k => X (i + k)) u (j - i) w (Nat.le_trans (Nat.sub_le _ _) hn) hL (by omega) (by show (X (i + (j - i))).t = u; rw [ej]; exact hjt) (fun m hm => hmin (i + m) (by omega))
  rw [ej] at h
  exact h

theorem Lies.take {w : World} {a : Option Addr} {n : Nat} {X : Nat → At} (h : Lies w a n X) {i : Nat} (hi : i ≤ n) : Lies w a i X := by
  rcases h with h | ⟨g, o, ha, hc⟩
  · exact .inl (by omega)
  · exact .inr ⟨g, o, ha, fun j hj => hc j (by omega)⟩

set_option maxRecDepth 100000 in
set_option maxHeartbeats 1000000 in
/-- The cut is out of range. -/
theorem split_out (n1 n2 : Int) (a : Option Addr) (len cap : Nat) (X : Nat → At) (i : Int) (u : Int) (w : World) (hl : len ≤ maxLen) (hL : Lies w a len X)
    (hi : i < 0 ∨ (len : Int) < i) :
    Calls Try.prog 4 #[.int .u8 n1, .int .u8 n2, .slice a len cap, .int .i64 i, .int .u16 u] w fun e w' => e = .returned (.bool true) ∧ Below w.heap.size w w' := by
  have HL : Hid (Lies w a len X) := hL
  have HML : Hid (len ≤ maxLen) := hl
  unfold maxLen at hl
  clear hL
  go_enter Try.func4, Try.ntmps4
  go_wp2_with fail
  refine (bytes4_any n1 n2 a len cap X i u _ HML.out HL.out).mono ?_
  rintro e w1 ⟨⟨b, rfl⟩, rfl⟩
  cases b with
  | false =>
    go_wp2
    go_ret
    exact ⟨rfl, Below.refl _ _⟩
  | true =>
  go_wp2_with fail
  refine (tooBig_any a len cap X _ _ HML.out HL.out).mono ?_
  rintro e w2 ⟨⟨b, rfl, hsm⟩, rfl⟩
  cases b with
  | true =>
    clear hsm
    go_wp2
    go_ret
    exact ⟨rfl, Below.refl _ _⟩
  | false =>
  replace hsm := hsm rfl
  rcases hi with hi | hi
  · go_wp2
    go_ret
    exact ⟨rfl, Below.refl _ _⟩
  · have hi' : ¬ i < 0 := by omega
    go_wp2
    go_ret
    exact ⟨rfl, Below.refl _ _⟩

/-- What the walk behind the three lists has at hand. -/
structure Three (w : World) (N1 N2 N3 : Nat) (n1 n2 : Int) (a a1 a2 a3 : Option Addr) (c1 c2 c3 len i : Nat) (X : Nat → At) (wr : World) : Prop where
  wh : Blk wr N1 #[.int .u8 n1, .int .u8 n2, .slice a1 len c1] 32
  le : Blk wr N2 #[.int .u8 n1, .int .u8 n2, .slice a2 i c2] 32
  ri : Blk wr N3 #[.int .u8 n1, .int .u8 n2, .slice a3 (len - i) c3] 32
  lw : Lies wr a1 len X
  ll : Lies wr a2 i X
  lr : Lies wr a3 (len - i) (fun j => X (i + j))
  inn : Lies wr a len X
  bel : Below w.heap.size w wr

theorem Three.below {w : World} {N1 N2 N3 : Nat} {n1 n2 : Int} {a a1 a2 a3 : Option Addr} {c1 c2 c3 len i : Nat} {X : Nat → At} {wr w' : World} (h : Three w N1 N2 N3 n1 n2 a a1 a2 a3 c1 c2 c3 len i X wr) (hb : Below wr.heap.size wr w') : Three w N1 N2 N3 n1 n2 a a1 a2 a3 c1 c2 c3 len i X w' :=
  ⟨h.wh.below hb h.wh.lt, h.le.below hb h.le.lt, h.ri.below hb h.ri.lt, h.lw.below hb, h.ll.below hb, h.lr.below hb, h.inn.below hb, h.bel.trans (hb.mono h.bel.size)⟩

set_option maxRecDepth 100000 in
set_option maxHeartbeats 1000000 in
theorem split_walk (n1 n2 : Int) (ad : Addr) (len cap : Nat) (X : Nat → At) (i : Nat) (u : Int) (w : World) (hl : len ≤ cap) (hm : cap ≤ maxLen) (hL : Lies w (some ad) len X)
    (hX : ∀ j, j < len → Bytes w (X j).p (X j).n) (hi : i ≤ len) :
    Calls Try.prog 4 #[.int .u8 n1, .int .u8 n2, .slice (some ad) len cap, .int .i64 i, .int .u16 u] w fun e w' => e = .returned (.bool true) ∧ Below w.heap.size w w' := by
  have HL : Hid (Lies w (some ad) len X) := hL
  have HX : Hid (∀ j, j < len → Bytes w (X j).p (X j).n) := hX
  have HML : Hid (len ≤ maxLen) := Nat.le_trans hl hm
  unfold maxLen at hm
  clear hL hX
  go_enter Try.func4, Try.ntmps4
  go_wp2_with fail
  refine (bytes4_any n1 n2 (some ad) len cap X i u _ HML.out HL.out).mono ?_
  rintro e w1 ⟨⟨b, rfl⟩, rfl⟩
  cases b with
  | false =>
    go_wp2
    go_ret
    exact ⟨rfl, Below.refl _ _⟩
  | true =>
  go_wp2_with fail
  refine (tooBig_any (some ad) len cap X _ _ HML.out HL.out).mono ?_
  rintro e w2 ⟨⟨b, rfl, hsm⟩, rfl⟩
  cases b with
  | true =>
    clear hsm
    go_wp2
    go_ret
    exact ⟨rfl, Below.refl _ _⟩
  | false =>
  replace hsm := hsm rfl
  have hi1 : (i : Int) ≤ (len : Int) := by omega
  have hi2 : (i : Int) ≤ (cap : Int) := by omega
  go_wp2_with fail
  refine (toList_any (some ad) len cap X _ hsm (fun h => by cases h) HL.out).mono ?_
  rintro e w1 ⟨a1, c1, rfl, L1, B1⟩
  go_wp2_with fail
  refine (toList_any (some ad) i cap X _ (by omega) (fun h => by cases h) (((HL.out.below B1).below (alloc_below _ _)).take hi)).mono ?_
  rintro e w2 ⟨a2, c2, rfl, L2, b2⟩
  have B2 := B1.trans (((alloc_below _ _).trans (b2.mono (by simp))).mono B1.size)
  have S2 : Below w1.heap.size w1 w2 := (alloc_below _ _).trans (b2.mono (by simp))
  have W2 := (Blk.new w1 #[.int .u8 n1, .int .u8 n2, .slice a1 len c1] 32).below b2 (by simp)
  have L12 := L1.below S2
  clear L1 S2 b2
  obtain ⟨ar, hAr, HR⟩ : ∃ ar, (if cap = i then some ad else some (ad.add (i * 3))) = some ar ∧ Hid (Lies w (some ar) (len - i) (fun j => X (i + j))) := by
    by_cases hc : cap = i
    · exact ⟨ad, if_pos hc, .inl (by omega)⟩
    · refine ⟨ad.add (i * 3), if_neg hc, ?_⟩
      rcases HL.out with h | ⟨g, o, ha, hcc⟩
      · exact .inl (by omega)
      · obtain rfl := Option.some.inj ha
        refine .inr ⟨g, o + i * 3, by simp [Addr.add], fun j hj => ?_⟩
        have := hcc (i + j) (by omega)
        rwa [show o + (i + j) * 3 = o + i * 3 + j * 3 by omega] at this
  go_wp2_with fail
  refine (toList_any (some ar) (len - i) (cap - i) (fun j => X (i + j)) _ (by omega) (fun h => by cases h) ((HR.out.below B2).below (alloc_below _ _))).mono ?_
  rintro e w3 ⟨a3, c3, rfl, L3, b3⟩
  have S3 : Below w2.heap.size w2 w3 := (alloc_below _ _).trans (b3.mono (by simp))
  have P4 : Three w w1.heap.size w2.heap.size w3.heap.size n1 n2 (some ad) a1 a2 a3 c1 c2 c3 len i X (w3.alloc (.cells #[.int .u8 n1, .int .u8 n2, .slice a3 (len - i) c3] 32)) :=
    ⟨(W2.below S3 W2.lt).alloc _, ((Blk.new w2 _ _).below b3 (by simp)).alloc _, Blk.new _ _ _, (L12.below S3).below (alloc_below _ _), (L2.below S3).below (alloc_below _ _), L3.below (alloc_below _ _), ((HL.out.below B2).below S3).below (alloc_below _ _), (B2.trans (S3.mono B2.size)).trans ((alloc_below _ _).mono (B2.trans (S3.mono B2.size)).size)⟩
  clear B1 B2 W2 L12 L2 L3 S3 b3 hAr HR HL
  generalize w1.heap.size = N1 at *
  generalize w2.heap.size = N2 at *
  generalize hN3 : w3.heap.size = N3 at *
  obtain ⟨s0, s1, s2⟩ := P4.wh.three
  go_wp2_with fail
  rcases first_or X len u with ⟨j, hj, hjt, hmin⟩ | hnone
  · have HJ : Hid ((X j).t = u ∧ ∀ m, m < j → (X m).t ≠ u) := ⟨hjt, hmin⟩
    clear hjt hmin
    by_cases hji : j < i
    · refine (attr_found n1 n2 a1 len c1 X u j _ HML.out ?_ hj HJ.out.1 HJ.out.2).mono ?_
      · exact P4.lw
      rintro e w5 ⟨rfl, hb5⟩
      have P5 := P4.below hb5
      clear P4 hb5 s0 s1 s2
      obtain ⟨s0, s1, s2⟩ := P5.le.three
      have z0 := P5.le.lt
      go_wp2_with fail
      refine (attr_found n1 n2 a2 i c2 X u j _ (Nat.le_trans hi HML.out) ?_ hji HJ.out.1 HJ.out.2).mono ?_
      · exact (P5.below (alloc_below _ _)).ll
      rintro e w6 ⟨rfl, hb6⟩
      have P6 := (P5.below (alloc_below _ _)).below hb6
      have G6 := (Blk.new w5 #[.int .u16 (X j).t, .bool (X j).b, .slice (X j).p (X j).n (X j).c] 35).below hb6 (by simp)
      clear P5 hb6 s0 s1 s2 z0
      generalize w5.heap.size = M1 at *
      obtain ⟨s0, s1, s2⟩ := P6.ri.three
      have z0 := P6.ri.lt
      go_wp2_with fail
      refine (attr_any n1 n2 a3 (len - i) c3 (fun j => X (i + j)) u _ (Nat.le_trans (Nat.sub_le _ _) HML.out) ?_).mono ?_
      · exact (P6.below (alloc_below _ _)).lr
      rintro e w7 ⟨y, b, rfl, hb7⟩
      have P7 := (P6.below (alloc_below _ _)).below hb7
      have G7 := (G6.alloc _).below hb7 (G6.alloc _).lt
      have L7 := (Blk.new w6 #[.int .u16 (X j).t, .bool (X j).b, .slice (X j).p (X j).n (X j).c] 35).below hb7 (by simp)
      clear P6 G6 hb7 s0 s1 s2 z0
      generalize w6.heap.size = M2 at *
      go_wp2_with fail
      have P8 := P7.below (alloc_below _ (.cells #[.int .u16 y.t, .bool y.b, .slice y.p y.n y.c] 35))
      have G8 := G7.alloc (.cells #[.int .u16 y.t, .bool y.b, .slice y.p y.n y.c] 35)
      have L8 := L7.alloc (.cells #[.int .u16 y.t, .bool y.b, .slice y.p y.n y.c] 35)
      have R8 := Blk.new w7 #[.int .u16 y.t, .bool y.b, .slice y.p y.n y.c] 35
      clear P7 G7 L7
      generalize w7.heap.size = M3 at *
      generalize w7.alloc (.cells #[.int .u16 y.t, .bool y.b, .slice y.p y.n y.c] 35) = w8 at *
      go_loop [21, 22] (fun f q => ∃ k : Nat, k ≤ j ∧ q = .int .i64 k ∧ f = .bool false) (fun _ q => len - (intOf q).toNat)
      case atStart => exact ⟨0, by omega, rfl, rfl⟩
      case round =>
        obtain ⟨k, hk0, rfl, rfl⟩ := hrel
        have hkl : k < len := by omega
        rcases P8.inn with h | ⟨g, o, hga, hc⟩
        · omega
        obtain rfl := Option.some.inj hga
        obtain ⟨q0, -, -⟩ := hc k hkl
        clear hc hga
        by_cases hkj : k = j
        · subst hkj
          have he : ((X k).t == u) = true := by rw [HJ.out.1]; simp
          have he' : ((X k).t != u) = false := by rw [HJ.out.1]; simp
          obtain ⟨s0, s1, s2⟩ := G8.three
          obtain ⟨t0, t1, t2⟩ := L8.three
          go_wp2_with fail
          refine (sameAttr_self (X k) _ ?_).mono ?_
          · exact (HX.out k hkl).below P8.bel
          rintro e w9 ⟨rfl, hb9⟩
          have P9 := P8.below hb9
          go_wp2
          go_ret
          exact ⟨rfl, P9.bel⟩
        · have he : ((X k).t == u) = false := beq_eq_false_iff_ne.2 (HJ.out.2 k (by omega))
          go_wp2
          go_round
          case rel => exact ⟨k + 1, by omega, by go_num, rfl⟩
          case measure => simp [intOf]; omega
    · refine (attr_found n1 n2 a1 len c1 X u j _ HML.out ?_ hj HJ.out.1 HJ.out.2).mono ?_
      · exact P4.lw
      rintro e w5 ⟨rfl, hb5⟩
      have P5 := P4.below hb5
      clear P4 hb5 s0 s1 s2
      obtain ⟨s0, s1, s2⟩ := P5.le.three
      have z0 := P5.le.lt
      go_wp2_with fail
      refine (attr_none n1 n2 a2 i c2 X u _ (Nat.le_trans hi HML.out) ?_ (fun m hm => HJ.out.2 m (by omega))).mono ?_
      · exact (P5.below (alloc_below _ _)).ll
      rintro e w6 ⟨rfl, hb6⟩
      have P6 := (P5.below (alloc_below _ _)).below hb6
      have G6 := (Blk.new w5 #[.int .u16 (X j).t, .bool (X j).b, .slice (X j).p (X j).n (X j).c] 35).below hb6 (by simp)
      clear P5 hb6 s0 s1 s2 z0
      generalize w5.heap.size = M1 at *
      obtain ⟨s0, s1, s2⟩ := P6.ri.three
      have z0 := P6.ri.lt
      go_wp2_with fail
      refine (right_found n1 n2 a3 len c3 i j X u _ HML.out ?_ (by omega) hj HJ.out.1 HJ.out.2).mono ?_
      · exact (P6.below (alloc_below _ _)).lr
      rintro e w7 ⟨rfl, hb7⟩
      have P7 := (P6.below (alloc_below _ _)).below hb7
      have G7 := (G6.alloc _).below hb7 (G6.alloc _).lt
      have L7 := (Blk.new w6 #[.int .u16 0, .bool false, .slice none 0 0] 35).below hb7 (by simp)
      clear P6 G6 hb7 s0 s1 s2 z0
      generalize w6.heap.size = M2 at *
      go_wp2_with fail
      have P8 := P7.below (alloc_below _ (.cells #[.int .u16 (X j).t, .bool (X j).b, .slice (X j).p (X j).n (X j).c] 35))
      have G8 := G7.alloc (.cells #[.int .u16 (X j).t, .bool (X j).b, .slice (X j).p (X j).n (X j).c] 35)
      have L8 := L7.alloc (.cells #[.int .u16 (X j).t, .bool (X j).b, .slice (X j).p (X j).n (X j).c] 35)
      have R8 := Blk.new w7 #[.int .u16 (X j).t, .bool (X j).b, .slice (X j).p (X j).n (X j).c] 35
      clear P7 G7 L7
      generalize w7.heap.size = M3 at *
      generalize w7.alloc (.cells #[.int .u16 (X j).t, .bool (X j).b, .slice (X j).p (X j).n (X j).c] 35) = w8 at *
      go_loop [21, 22] (fun f q => ∃ k : Nat, k ≤ j ∧ q = .int .i64 k ∧ f = .bool false) (fun _ q => len - (intOf q).toNat)
      case atStart => exact ⟨0, by omega, rfl, rfl⟩
      case round =>
        obtain ⟨k, hk0, rfl, rfl⟩ := hrel
        have hkl : k < len := by omega
        rcases P8.inn with h | ⟨g, o, hga, hc⟩
        · omega
        obtain rfl := Option.some.inj hga
        obtain ⟨q0, -, -⟩ := hc k hkl
        clear hc hga
        by_cases hkj : k = j
        · subst hkj
          have he : ((X k).t == u) = true := by rw [HJ.out.1]; simp
          have he' : ((X k).t != u) = false := by rw [HJ.out.1]; simp
          obtain ⟨s0, s1, s2⟩ := G8.three
          obtain ⟨t0, t1, t2⟩ := R8.three
          go_wp2_with fail
          refine (sameAttr_self (X k) _ ?_).mono ?_
          · exact (HX.out k hkl).below P8.bel
          rintro e w9 ⟨rfl, hb9⟩
          have P9 := P8.below hb9
          go_wp2
          go_ret
          exact ⟨rfl, P9.bel⟩
        · have he : ((X k).t == u) = false := beq_eq_false_iff_ne.2 (HJ.out.2 k (by omega))
          go_wp2
          go_round
          case rel => exact ⟨k + 1, by omega, by go_num, rfl⟩
          case measure => simp [intOf]; omega
  · have HJ : Hid (∀ m, m < len → (X m).t ≠ u) := hnone
    clear hnone
    refine (attr_none n1 n2 a1 len c1 X u _ HML.out ?_ HJ.out).mono ?_
    · exact P4.lw
    rintro e w5 ⟨rfl, hb5⟩
    have P5 := P4.below hb5
    clear P4 hb5 s0 s1 s2
    obtain ⟨s0, s1, s2⟩ := P5.le.three
    have z0 := P5.le.lt
    go_wp2_with fail
    refine (attr_none n1 n2 a2 i c2 X u _ (Nat.le_trans hi HML.out) ?_ (fun m hm => HJ.out m (by omega))).mono ?_
    · exact (P5.below (alloc_below _ _)).ll
    rintro e w6 ⟨rfl, hb6⟩
    have P6 := (P5.below (alloc_below _ _)).below hb6
    have G6 := (Blk.new w5 #[.int .u16 0, .bool false, .slice none 0 0] 35).below hb6 (by simp)
    clear P5 hb6 s0 s1 s2 z0
    generalize w5.heap.size = M1 at *
    obtain ⟨s0, s1, s2⟩ := P6.ri.three
    have z0 := P6.ri.lt
    go_wp2_with fail
    refine (attr_none n1 n2 a3 (len - i) c3 (fun j => X (i + j)) u _ (Nat.le_trans (Nat.sub_le _ _) HML.out) ?_ (fun m hm => HJ.out (i + m) (by omega))).mono ?_
    · exact (P6.below (alloc_below _ _)).lr
    rintro e w7 ⟨rfl, hb7⟩
    have P7 := (P6.below (alloc_below _ _)).below hb7
    have G7 := (G6.alloc _).below hb7 (G6.alloc _).lt
    have L7 := (Blk.new w6 #[.int .u16 0, .bool false, .slice none 0 0] 35).below hb7 (by simp)
    clear P6 G6 hb7 s0 s1 s2 z0
    generalize w6.heap.size = M2 at *
    go_wp2_with fail
    have P8 := P7.below (alloc_below _ (.cells #[.int .u16 0, .bool false, .slice none 0 0] 35))
    have G8 := G7.alloc (.cells #[.int .u16 0, .bool false, .slice none 0 0] 35)
    have L8 := L7.alloc (.cells #[.int .u16 0, .bool false, .slice none 0 0] 35)
    have R8 := Blk.new w7 #[.int .u16 0, .bool false, .slice none 0 0] 35
    clear P7 G7 L7
    generalize w7.heap.size = M3 at *
    generalize w7.alloc (.cells #[.int .u16 0, .bool false, .slice none 0 0] 35) = w8 at *
    go_loop [21, 22] (fun f q => ∃ k : Nat, k ≤ len ∧ q = .int .i64 k ∧ f = .bool false) (fun _ q => len - (intOf q).toNat)
    case atStart => exact ⟨0, by omega, rfl, rfl⟩
    case round =>
      obtain ⟨k, hk0, rfl, rfl⟩ := hrel
      by_cases hkl : k < len
      · rcases P8.inn with h | ⟨g, o, hga, hc⟩
        · omega
        obtain rfl := Option.some.inj hga
        obtain ⟨q0, -, -⟩ := hc k hkl
        clear hc hga
        have he : ((X k).t == u) = false := beq_eq_false_iff_ne.2 (HJ.out k hkl)
        go_wp2
        go_round
        case rel => exact ⟨k + 1, by omega, by go_num, rfl⟩
        case measure => simp [intOf]; omega
      · obtain ⟨s0, s1, s2⟩ := G8.three
        go_wp2_with fail
        refine (isZero_zero _).mono ?_
        rintro e w9 ⟨rfl, hb9⟩
        have P9 := P8.below hb9
        go_wp2
        go_ret
        exact ⟨rfl, P9.bel⟩

theorem toList_nil' (w : World) :
    Calls Try.prog 7 #[.slice none 0 0] w fun e w' => e = .returned (.slice none 0 0) ∧ w = w' := (toList_nil w).mono fun _ _ h => ⟨h.1, h.2.symm⟩

set_option maxRecDepth 100000 in
set_option maxHeartbeats 1000000 in
theorem split_nil (n1 n2 : Int) (X : Nat → At) (u : Int) (w : World) :
    Calls Try.prog 4 #[.int .u8 n1, .int .u8 n2, .slice none 0 0, .int .i64 0, .int .u16 u] w fun e w' => e = .returned (.bool true) ∧ Below w.heap.size w w' := by
  have HL : Hid (∀ wz, Lies wz none 0 X) := fun _ => .inl rfl
  have HML : Hid (0 ≤ maxLen) := Nat.zero_le _
  have HJ : Hid (∀ m, m < 0 → (X m).t ≠ u) := fun m hm => by omega
  go_enter Try.func4, Try.ntmps4
  go_wp2_with fail
  refine (bytes4_any n1 n2 none 0 0 X 0 u _ HML.out (HL.out _)).mono ?_
  rintro e w1 ⟨⟨b, rfl⟩, rfl⟩
  cases b with
  | false =>
    go_wp2
    go_ret
    exact ⟨rfl, Below.refl _ _⟩
  | true =>
  go_wp2_with fail
  refine (tooBig_any none 0 0 X _ _ HML.out (HL.out _)).mono ?_
  rintro e w2 ⟨⟨b, rfl, hsm⟩, rfl⟩
  clear hsm
  cases b with
  | true =>
    go_wp2
    go_ret
    exact ⟨rfl, Below.refl _ _⟩
  | false =>
  go_wp2_with fail
  refine (toList_nil' _).mono ?_
  rintro e w2 ⟨rfl, rfl⟩
  go_wp2_with fail
  refine (toList_nil' _).mono ?_
  rintro e w2 ⟨rfl, rfl⟩
  go_wp2_with fail
  refine (toList_nil' _).mono ?_
  rintro e w2 ⟨rfl, rfl⟩
  go_wp2_with fail
  have P4 : Three w w.heap.size (w.heap.size + 1) (w.heap.size + 2) n1 n2 none none none none 0 0 0 0 0 X (((w.alloc (.cells #[.int .u8 n1, .int .u8 n2, .slice none 0 0] 32)).alloc (.cells #[.int .u8 n1, .int .u8 n2, .slice none 0 0] 32)).alloc (.cells #[.int .u8 n1, .int .u8 n2, .slice none 0 0] 32)) :=
    ⟨((Blk.new w _ _).alloc _).alloc _, by simpa using ((Blk.new (w.alloc (.cells #[.int .u8 n1, .int .u8 n2, .slice none 0 0] 32)) _ _).alloc _), by simpa using (Blk.new ((w.alloc (.cells #[.int .u8 n1, .int .u8 n2, .slice none 0 0] 32)).alloc (.cells #[.int .u8 n1, .int .u8 n2, .slice none 0 0] 32)) _ _), .inl rfl, .inl rfl, .inl rfl, .inl rfl, ((alloc_below _ _).alloc (by simp) _).alloc (by simp; omega) _⟩
  refine (attr_none n1 n2 none 0 0 X u _ HML.out (HL.out _) HJ.out).mono ?_
  rintro e w5 ⟨rfl, hb5⟩
  have P5 := P4.below hb5
  clear P4 hb5
  obtain ⟨s0, s1, s2⟩ := P5.le.three
  have z0 := P5.le.lt
  go_wp2_with fail
  refine (attr_none n1 n2 none 0 0 X u _ HML.out (HL.out _) HJ.out).mono ?_
  rintro e w6 ⟨rfl, hb6⟩
  have P6 := (P5.below (alloc_below _ _)).below hb6
  have G6 := (Blk.new w5 #[.int .u16 0, .bool false, .slice none 0 0] 35).below hb6 (by simp)
  clear P5 hb6 s0 s1 s2 z0
  generalize w5.heap.size = M1 at *
  obtain ⟨s0, s1, s2⟩ := P6.ri.three
  have z0 := P6.ri.lt
  go_wp2_with fail
  refine (attr_none n1 n2 none 0 0 X u _ HML.out (HL.out _) HJ.out).mono ?_
  rintro e w7 ⟨rfl, hb7⟩
  have P7 := (P6.below (alloc_below _ _)).below hb7
  have G7 := (G6.alloc _).below hb7 (G6.alloc _).lt
  clear P6 G6 hb7 s0 s1 s2 z0
  go_wp2_with fail
  have P8 := P7.below (alloc_below _ (.cells #[.int .u16 0, .bool false, .slice none 0 0] 35))
  have G8 := G7.alloc (.cells #[.int .u16 0, .bool false, .slice none 0 0] 35)
  clear P7 G7
  generalize w7.heap.size = M3 at *
  generalize w7.alloc (.cells #[.int .u16 0, .bool false, .slice none 0 0] 35) = w8 at *
  refine wp_loop_rounds 1 ?_
  rw [rounds_succ]
  obtain ⟨s0, s1, s2⟩ := G8.three
  go_wp2_with fail
  refine (isZero_zero _).mono ?_
  rintro e w9 ⟨rfl, hb9⟩
  have P9 := P8.below hb9
  go_wp2
  go_ret
  exact ⟨rfl, P9.bel⟩

end Go.Proofs.Qxb6632330a
