import Derived.Test.Qxb6632381aPlain
namespace Go.Proofs.Qxb6632381a
open Go.RowKit Go.Maps

theorem Try.info3 : (Try.prog.info? 3).map (fun i => (i.zero, i.size, i.bytes)) = some (some (.int .i64 0), 1, 8) := by kernel_rfl

/-- The places as cells. -/
def ints (l : List Nat) : List Value := l.map fun (j : Nat) => Value.int .i64 (j : Int)
theorem ints_len (l : List Nat) : (ints l).length = l.length := by unfold ints; rw [List.length_map]
theorem ints_at (l : List Nat) (j : Nat) (h : j < l.length) : (ints l)[j]? = some (.int .i64 (l.getD j 0 : Nat)) := by unfold ints; simp [h]
theorem ints_snoc (l : List Nat) (k : Nat) : ints l ++ [.int .i64 (k : Int)] = ints (l ++ [k]) := by unfold ints; simp

/-- What comes back, hidden from the walk. -/
def Gives (e : Ending) (c K : Nat → Bool) (V : Nat → Int) (n : Nat) : Prop := e = .returned (.tuple #[.int .i64 (outV c K V n), .bool (outB c K n)])

set_option maxRecDepth 100000 in
set_option maxHeartbeats 1000000 in
theorem model_any (nm ct : ByteArray) (a : Option Addr) (n cap : Nat) (X : Nat → Co) (V : Nat → Int) (K : Nat → Bool) (w : World) (hn : n ≤ 65536) (hL : Lies w a n X) (hK : ∀ j, j < n → Looks w (X j).m nm (V j) (K j)) :
    Calls Try.prog 6 #[.string nm, .string ct, .slice a n cap] w fun e w' =>
      Gives e (fun j => counts ct (X j).s) K V n ∧ Below w.heap.size w w' := by
  have HL : Hid (Lies w a n X ∧ (∀ j, j < n → Looks w (X j).m nm (V j) (K j))) := ⟨hL, hK⟩
  clear hL hK
  generalize hcc : (fun j => counts ct (X j).s) = cc
  have HC : Hid (∀ j, cc j = counts ct (X j).s) := fun j => by rw [← hcc]
  clear hcc
  obtain ⟨i0, hi, hz0, hz1, hz2⟩ := info_parts Try.info3
  go_enter Try.func6, Try.ntmps6
  go_wp2_with (first | (at_make; refine wpList_make_own _ rfl _ _ 39 rfl w.heap.size 3 i0 _ 1 Try.underlying39 hi hz0 hz1 .i64 .i64 _ n rfl rfl rfl (by rw [hz2]; omega) (by unfold maxLen; omega) (by omega) ?_; intro w1 hown1 hgrow1))
  have hB1 : Below w.heap.size w w1 := (Below.refl _ _).grown hgrow1 (Nat.le_refl _) (fun k hk => by cases hk)
  clear hgrow1
  go_loopw [8, 9] (fun v q wr => ∃ k : Nat, k ≤ n ∧ q = .int .i64 k ∧ v = .slice (some ⟨w.heap.size, 0, none⟩) (cnt cc k) n ∧ wr.ownsRow w.heap.size 3 1 (.slice (some ⟨w.heap.size, 0, none⟩) (cnt cc k) n) (cnt cc k) (ints (idx cc k)) ∧ Below w.heap.size w wr) (fun _ q _ => n - (intOf q).toNat)
  case atStart => exact ⟨0, by omega, rfl, rfl, hown1, hB1⟩
  case round =>
    clear hown1 hB1
    obtain ⟨k, hk, rfl, rfl, hO, hB⟩ := hrel
    have hcl := cnt_le cc k
    by_cases hlt : k < n
    · rcases HL.out.1 with h | ⟨g, o, rfl, hc⟩
      · omega
      obtain ⟨h0, -⟩ := hc k hlt
      clear hc
      have c0 := cell_keep hB h0
      clear h0
      by_cases he : ct.toList.isEmpty = true
      · have HY : Hid (cc k = true) := by show cc k = true; rw [HC.out k]; unfold counts; rw [he]; rfl
        generalize hC : cnt cc k = C at *
        have HCC : Hid (cnt cc k = C) := hC
        clear hC
        go_wp2_with (first | (at_builtin; refine wpList_append_fits _ rfl _ _ 39 rfl w.heap.size 3 i0 1 Try.underlying39 hi hz1 w.heap.size C n _ rfl (hO.alloc _) ⟨wr.heap.size, 0, none⟩ 1 1 [.int .i64 k] rfl rfl (cell_one_new _ _ _) (ints_oneCell .i64 [(k : Int)]) (by omega) ?_; intro w2 hown2 hgrow2))
        go_roundw
        case rel => exact ⟨k + 1, by omega, by go_num, by rw [cnt_yes HY.out, HCC.out], by rw [cnt_yes HY.out, HCC.out, idx_yes HY.out, ← ints_snoc]; exact hown2, (hB.alloc hB.size _).grown hgrow2 (by simp; exact Nat.le_succ_of_le hB.size) (fun j hj => by cases hj; exact Nat.le_refl _)⟩
        case measure => simp [intOf]; omega
      · replace he : ct.toList.isEmpty = false := by simpa using he
        by_cases hq : ((X k).s.toList == ct.toList) = true
        · have HY : Hid (cc k = true) := by show cc k = true; rw [HC.out k]; unfold counts; rw [hq]; simp
          generalize hC : cnt cc k = C at *
          have HCC : Hid (cnt cc k = C) := hC
          clear hC
          go_wp2_with (first | (at_builtin; refine wpList_append_fits _ rfl _ _ 39 rfl w.heap.size 3 i0 1 Try.underlying39 hi hz1 w.heap.size C n _ rfl (hO.alloc _) ⟨wr.heap.size, 0, none⟩ 1 1 [.int .i64 k] rfl rfl (cell_one_new _ _ _) (ints_oneCell .i64 [(k : Int)]) (by omega) ?_; intro w2 hown2 hgrow2))
          go_roundw
          case rel => exact ⟨k + 1, by omega, by go_num, by rw [cnt_yes HY.out, HCC.out], by rw [cnt_yes HY.out, HCC.out, idx_yes HY.out, ← ints_snoc]; exact hown2, (hB.alloc hB.size _).grown hgrow2 (by simp; exact Nat.le_succ_of_le hB.size) (fun j hj => by cases hj; exact Nat.le_refl _)⟩
          case measure => simp [intOf]; omega
        · replace hq : ((X k).s.toList == ct.toList) = false := by simpa using hq
          have HY : Hid (cc k = false) := by show cc k = false; rw [HC.out k]; unfold counts; rw [he, hq]; rfl
          generalize hC : cnt cc k = C at *
          have HCC : Hid (cnt cc k = C) := hC
          clear hC
          go_wp2
          go_roundw
          case rel => exact ⟨k + 1, by omega, by go_num, by rw [cnt_no HY.out, HCC.out], by rw [cnt_no HY.out, HCC.out, idx_no HY.out]; exact hO, hB⟩
          case measure => simp [intOf]; omega
    · obtain rfl : n = k := by omega

      by_cases hz : cnt cc n = 0
      · have HP : Hid (outV cc K V n = 0 ∧ outB cc K n = false) := by
          have hok : ∀ j, j < n → cc j = true → K j = true := fun j hj hc => by
            have := mem_idx hj hc
            have hl := idx_len cc n
            rw [hz] at hl
            rw [List.eq_nil_of_length_eq_zero hl] at this
            cases this
          refine ⟨(out_good hok).1.trans (sm_zero hz), (out_good (V := V) hok).2.trans ?_⟩
          rw [hz]; rfl
        go_wp2
        go_ret2
        exact ⟨by unfold Gives; rw [HP.out.1, HP.out.2]; rfl, hB⟩
      · have hz' : 0 < cnt cc n := by omega
        have hil := idx_len cc n
        have HI : Hid (∀ t, t < cnt cc n → (idx cc n).getD t 0 < n ∧ cc ((idx cc n).getD t 0) = true) := fun t ht => by
          have hm : (idx cc n).getD t 0 ∈ idx cc n := by
            rw [show (idx cc n).getD t 0 = (idx cc n)[t]'(by omega) by simp [List.getD, show t < (idx cc n).length by omega]]
            exact List.getElem_mem _
          exact idx_mem hm
        have HIL : Hid ((idx cc n).length = cnt cc n) := hil
        have HO : Hid (wr.ownsRow w.heap.size 3 1 (.slice (some ⟨w.heap.size, 0, none⟩) (cnt cc n) n) (cnt cc n) (ints (idx cc n))) := hO
        have HOT : Hid (∀ t, t < cnt cc n → wr.cell? ⟨w.heap.size, t, none⟩ = some (.int .i64 ((idx cc n).getD t 0 : Nat))) := fun t ht => by
          rw [hO.cellAt t (by omega), ints_at _ _ (by omega)]
        clear hO hil HO
        generalize hC : cnt cc n = C at *
        generalize hI : idx cc n = I at *
        have HCI : Hid (cnt cc n = C ∧ idx cc n = I) := ⟨hC, hI⟩
        clear hC hI
        obtain ⟨w4, rfl⟩ : ∃ w4, w4 = wr := ⟨_, rfl⟩
        go_wp2
        go_loop [10, 11, 12] (fun q _ _ => ∃ t : Nat, t ≤ C ∧ q = .int .i64 t ∧ ∀ j, j < t → K (I.getD j 0) = true) (fun q _ _ => C - (intOf q).toNat)
        case atStart => exact ⟨0, by omega, rfl, fun j hj => by omega⟩
        case round =>
          obtain ⟨t, ht, rfl, hall⟩ := hrel
          have HALL : Hid (∀ j, j < t → K (I.getD j 0) = true) := hall
          clear hall
          by_cases htc : t < C
          · obtain ⟨hd, hcd⟩ := HI.out t htc
            have HCD : Hid (cc (I.getD t 0) = true) := hcd
            clear hcd
            have q0 := HOT.out t htc
            have HID : Hid (I.getD t 0 = I.getD t 0) := rfl
            generalize hdd : I.getD t 0 = d at *
            have HD : Hid (I.getD t 0 = d) := hdd
            clear hdd HID
            rcases HL.out.1 with h | ⟨g, o, rfl, hc⟩
            · omega
            obtain ⟨-, h1⟩ := hc d hd
            clear hc
            have c1 := cell_keep hB h1
            clear h1
            have hlk := (HL.out.2 d hd _ hB).1
            cases hkd : K d with
            | false =>
              rw [hkd] at hlk
              have HP : Hid (outV cc K V n = 0 ∧ outB cc K n = false) := out_bad hd HCD.out hkd
              go_wp2
              go_ret2
              exact ⟨by unfold Gives; rw [HP.out.1, HP.out.2]; rfl, hB⟩
            | true =>
              rw [hkd] at hlk
              have HKD : Hid (K d = true) := hkd
              clear hkd
              go_wp2
              go_round
              case rel =>
                refine ⟨t + 1, by omega, by go_num, fun j hj => ?_⟩
                by_cases e : j = t
                · subst e; rw [HD.out]; exact HKD.out
                · exact HALL.out j (by omega)
              case measure => simp [intOf]; omega
          · obtain rfl : C = t := by omega
            have HP : Hid (outV cc K V n = wrap64 (tot V I) ∧ outB cc K n = true) := by
              have hok : ∀ j, j < n → cc j = true → K j = true := fun j hj hc => by
                have hm := mem_idx hj hc
                rw [HCI.out.2] at hm
                obtain ⟨p, hp, rfl⟩ := List.getElem_of_mem hm
                have := HALL.out p (by have := HIL.out; omega)
                rwa [show I.getD p 0 = I[p] by simp [List.getD, hp]] at this
              refine ⟨(out_good hok).1.trans ?_, (out_good (V := V) hok).2.trans ?_⟩
              · rw [sm_tot, HCI.out.2]
              · rw [HCI.out.1]; simp [hz']
            clear HALL
            go_wp2
            go_loop [13, 14] (fun s q => ∃ (t : Nat) (q' : Int), t ≤ C ∧ q = .int .i64 q' ∧ q' + 1 = t ∧ s = .int .i64 (wrap64 (tot V (I.drop t)))) (fun _ q => (intOf q + 1).toNat)
            case atStart => exact ⟨C, (C : Int) - 1, by omega, rfl, by omega, by rw [List.drop_eq_nil_of_le (by have := HIL.out; omega)]; show _ = Value.int .i64 (wrap64 0); rw [wrap64_zero]⟩
            case round =>
              obtain ⟨t, q', ht, rfl, hq', rfl⟩ := hrel
              by_cases ht0 : t = 0
              · subst ht0
                have hqn : q' = -1 := by omega
                subst hqn
                clear hq'
                go_wp2
                go_ret2
                exact ⟨by unfold Gives; rw [HP.out.1, HP.out.2]; rfl, hB⟩
              · obtain ⟨r, rfl⟩ : ∃ r, t = r + 1 := ⟨t - 1, by omega⟩
                obtain rfl : q' = (r : Int) := by omega
                clear hq' ht0
                have HTD : Hid (tot V (I.drop r) = V (I.getD r 0) + tot V (I.drop (r + 1))) := tot_drop V I r (by have := HIL.out; omega)
                obtain ⟨hd, -⟩ := HI.out r (by omega)
                have q0 := HOT.out r (by omega)
                have hrc : r < C := by omega
                generalize hdd : I.getD r 0 = d at *
                clear hdd
                rcases HL.out.1 with h | ⟨g, o, rfl, hc⟩
                · omega
                obtain ⟨-, h1⟩ := hc d hd
                clear hc
                have c1 := cell_keep hB h1
                clear h1
                have hlk := (HL.out.2 d hd _ hB).2
                generalize tot V (I.drop (r + 1)) = S at *
                go_wp2
                go_round
                case rel => exact ⟨r, (r : Int) - 1, by omega, by go_num, by omega, by rw [HTD.out, wrap64_add, Int.add_comm S]⟩
                case measure => simp [intOf]
end Go.Proofs.Qxb6632381a
