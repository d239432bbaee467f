/- The law FnMajorityAddSeat, walked. -/
import Derived.Test.Qxb6623383aLeast
import Derived.Test.Qxb6623383aAddBytes
namespace Go.Proofs.Qxb6623383a
open Go.RowKit

/-- The box of the added seat lies in block 'w.heap.size', nothing below has turned. -/
def Bel (w : World) (s : Seat) (wx : World) : Prop := Below (w.heap.size + 1) (w.alloc (.cells #[.string s.id, .string s.ad, .bool s.vo, .bool s.ab, .int .u64 s.inc] 33)) wx

theorem Bel.cells {w wx : World} {s : Seat} (h : Bel w s wx) : wx.cell? ⟨w.heap.size, 0, none⟩ = some (.string s.id) ∧ wx.cell? ⟨w.heap.size, 1, none⟩ = some (.string s.ad) ∧ wx.cell? ⟨w.heap.size, 2, none⟩ = some (.bool s.vo) ∧
    wx.cell? ⟨w.heap.size, 3, none⟩ = some (.bool s.ab) ∧ wx.cell? ⟨w.heap.size, 4, none⟩ = some (.int .u64 s.inc) := by
  refine ⟨?_, ?_, ?_, ?_, ?_⟩ <;> (rw [Below.cell h (by simp)]; simp)
theorem Bel.all {w wx : World} {s : Seat} (h : Bel w s wx) : Below w.heap.size w wx := below_w h
theorem Bel.size {w wx : World} {s : Seat} (h : Bel w s wx) : w.heap.size + 1 ≤ wx.heap.size := by
  have := Below.size h
  simpa using this

theorem tmod_bd (at' : Int) (n : Nat) : -((n : Int) + 1) < at'.tmod ((n : Int) + 1) ∧ at'.tmod ((n : Int) + 1) < (n : Int) + 1 := by
  have h1 := Int.tmod_lt_of_pos at' (show (0 : Int) < (n : Int) + 1 by omega)
  refine ⟨?_, h1⟩
  by_cases h0 : 0 ≤ at'
  · have := Int.tmod_nonneg ((n : Int) + 1) h0
    omega
  · obtain ⟨b, rfl⟩ : ∃ b, at' = -b := ⟨-at', by omega⟩
    rw [Int.neg_tmod]
    have := Int.tmod_lt_of_pos b (show (0 : Int) < (n : Int) + 1 by omega)
    omega

theorem maj_step (n : Nat) : maj n ≤ maj (n + 1) ∧ maj (n + 1) ≤ maj n + 1 := by unfold maj; omega

/-- The seats with the new one put in at place k. -/
def grown (ss : List Seat) (s : Seat) (k j : Nat) : List Seat := ss.take k ++ [s] ++ (ss.take j).drop k
theorem grown_start (ss : List Seat) (s : Seat) (k : Nat) : grown ss s k k = ss.take k ++ [s] := by
  unfold grown
  rw [List.drop_eq_nil_of_le (List.length_take_le _ _), List.append_nil]
theorem grown_next {ss : List Seat} {s t : Seat} {k j : Nat} (hkj : k ≤ j) (hj : ss[j]? = some t) : grown ss s k (j + 1) = grown ss s k j ++ [t] := by
  unfold grown
  have hl : j < ss.length := (List.getElem?_eq_some_iff.1 hj).1
  rw [take_next hj, List.drop_append_of_le_length (by simp; omega), List.append_assoc (ss.take k ++ [s])]
theorem grown_len {ss : List Seat} {s : Seat} {k j : Nat} (hkj : k ≤ j) (hj : j ≤ ss.length) : (grown ss s k j).length = j + 1 := by
  simp [grown]; omega
theorem grown_cnt {ss : List Seat} {s : Seat} {k j : Nat} (hj : ss.length ≤ j) : cnt (grown ss s k j) = cnt ss + cnt [s] := by
  unfold grown
  rw [List.take_of_length_le hj, cnt_append, cnt_append]
  have := cnt_append (ss.take k) (ss.drop k)
  rw [List.take_append_drop] at this
  omega

theorem Bel.grow {w wx wy : World} {s : Seat} {row : Option Nat} (h : Bel w s wx) (hg : wx.grownBy wy row) (hr : ∀ k, row = some k → w.heap.size + 1 ≤ k) : Bel w s wy := Below.grown h hg h.size hr

set_option maxRecDepth 100000 in
set_option maxHeartbeats 4000000 in
theorem add_main (c at' : Int) (a : Option Addr) (len cap : Nat) (ss : List Seat) (s : Seat) (w : World) (h : Seats w a len ss) (hl : len ≤ 65536) (g1 : s.id.size ≤ 1048576) (g2 : s.ad.size ≤ 1048576) :
    Calls Try.prog 4 #[.int .u64 c, .slice a len cap, .int .i64 at', .agg #[.string s.id, .string s.ad, .bool s.vo, .bool s.ab, .int .u64 s.inc]] w fun e w' => e = .returned (.bool true) ∧ Below w.heap.size w w' := by
  have hm : Hid (len ≤ maxLen) := by show len ≤ maxLen; unfold maxLen; omega
  have hb0 : Bel w s ((w.alloc (.cells #[.string s.id, .string s.ad, .bool s.vo, .bool s.ab, .int .u64 s.inc] 33)).alloc (.cells #[.string s.id, .string s.ad, .bool s.vo, .bool s.ab, .int .u64 s.inc] 33)) := (Below.refl _ _).alloc (by simp) _
  have hS0 := h.below ((Below.refl _ _).alloc (Nat.le_refl _) (.cells #[.string s.id, .string s.ad, .bool s.vo, .bool s.ab, .int .u64 s.inc] 33))
  have hS1 := h.below hb0.all
  have htm := tmod_bd at' len
  go_enter Try.func4, Try.ntmps4
  go_upto_if 54 with (first
    | (go_at_call 10; refine (bytes2_any c at' a len cap ss s _ hS0 hm.out).mono ?_; rintro e w1 ⟨⟨r, rfl⟩, rfl⟩; cases r)
    | (go_at_call 6; refine (big_any a len cap _ ss _ hS1 hm.out).mono ?_; rintro e w1 ⟨⟨r, rfl⟩, rfl⟩; cases r))
  · go_ret
    exact ⟨rfl, hb0.all⟩
  · clear hS0 hS1
    obtain ⟨ht1, ht2⟩ := htm
    go_cut [10] (fun v wx => (∃ k : Nat, k ≤ len ∧ v = .int .i64 k) ∧ Bel w s wx)
    case first =>
      by_cases ht : at'.tmod ((len : Int) + 1) < 0
      · go_wp2
        go_meet
        case rel => exact ⟨⟨(at'.tmod ((len : Int) + 1) + ((len : Int) + 1)).toNat, by omega, by rw [Int.toNat_of_nonneg (by omega)]⟩, hb0⟩
      · go_wp2
        go_meet
        case rel => exact ⟨⟨(at'.tmod ((len : Int) + 1)).toNat, by omega, by rw [Int.toNat_of_nonneg (by omega)]⟩, hb0⟩
    case rest =>
      obtain ⟨⟨kk, hkk, rfl⟩, hbA⟩ := hcut
      clear hb0 ht1 ht2
      obtain ⟨i0, hi, hz0, hz1, hz2⟩ := info_parts Try.info33
      have hszA := hbA.size
      have hm1 : Hid (len + 1 ≤ maxLen) := by show len + 1 ≤ maxLen; unfold maxLen; omega
      go_upto_block 0 with (at_make; refine wpList_make_own _ rfl _ _ 23 rfl (w.heap.size + 1) 33 i0 zeroSeat 5 Try.underlying23 hi hz0 hz1 _ _ _ (len + 1) rfl rfl (by omega) (by rw [hz2]; omega) hm1.out hszA ?_; intro w1 hown1 hgrow1)
      have hO1 : OwnS (w.heap.size + 1) 33 w1 (.slice (some ⟨wc.heap.size, 0, none⟩) 0 (len + 1)) [] := hown1
      have hb1 : Bel w s w1 := hbA.grow hgrow1 (by intro k hk; cases hk)
      clear hown1 hgrow1 hbA hi hz0 hz1 hz2
      go_cut [11] (fun v wx => OwnS (w.heap.size + 1) 33 wx v (ss.take kk) ∧ Bel w s wx)
      case first =>
        go_wp2
        go_loopw [11, 12] (fun v i wr => ∃ j : Nat, j ≤ kk ∧ i = .int .i64 j ∧ OwnS (w.heap.size + 1) 33 wr v (ss.take j) ∧ Bel w s wr) (fun _ i _ => kk - (intOf i).toNat)
        case atStart => exact ⟨0, Nat.zero_le _, rfl, hO1, hb1⟩
        case round =>
          obtain ⟨j, hj, rfl, hown, hbr⟩ := hrel
          have hsz := hbr.size
          by_cases hlt : j < kk
          · obtain ⟨b, o, t, rfl, hs, c0, c1, c2, c3, c4⟩ := (h.below hbr.all).at (show j < len by omega)
            have hkl : Hid ((ss.take j).length = j) := take_len h (show j < len by omega)
            have m0 : (0 : Int) ≤ (j : Int) := by omega
            have m1 : (j : Int) < (len : Int) := by omega
            have m2 : (j : Int) < (kk : Int) := by omega
            go_wp2_with (at_builtin; refine wl_seat 23 33 Try.underlying23 Try.info33 rfl _ _ rfl hown rfl t wr.heap.size rfl rfl (by rw [hkl.out]; omega) hsz ?_; intro v2 w2 hown2 hB2)
            have hb2 : Bel w s w2 := hB2 _ _ hbr (Nat.le_refl _) hsz
            rw [← take_next hs] at hown2
            go_roundw
            case rel => exact ⟨j + 1, by omega, by go_num, hown2, hb2⟩
            case measure => simp [intOf]; omega
          · go_wp2
            go_meet
            case rel =>
              have e : j = kk := by omega
              rw [e] at hown
              exact ⟨hown, hbr⟩
      case rest =>
        obtain ⟨hown2, hb2⟩ := hcut
        clear hO1 hb1
        have hsz2 := hb2.size
        obtain ⟨q0, q1, q2, q3, q4⟩ := hb2.cells
        have hkl2 : Hid ((ss.take kk).length = kk) := by show _ = _; have := h.1; simp; omega
        go_upto_block 2 with (at_builtin; refine wl_seat 23 33 Try.underlying23 Try.info33 rfl _ _ rfl hown2 rfl s wc.heap.size rfl rfl (by rw [hkl2.out]; omega) hsz2 ?_; intro v3 w3 hown3 hB3)
        have hb3 : Bel w s w3 := hB3 _ _ hb2 (Nat.le_refl _) hsz2
        rw [← grown_start] at hown3
        clear hb2 hown2 q0 q1 q2 q3 q4 hB3
        go_cut [11] (fun v wx => OwnS (w.heap.size + 1) 33 wx v (grown ss s kk len) ∧ Bel w s wx)
        case first =>
          go_wp2
          go_loopw [11, 13] (fun v i wr => ∃ j : Nat, kk ≤ j ∧ j ≤ len ∧ i = .int .i64 j ∧ OwnS (w.heap.size + 1) 33 wr v (grown ss s kk j) ∧ Bel w s wr) (fun _ i _ => len - (intOf i).toNat)
          case atStart => exact ⟨kk, Nat.le_refl _, hkk, rfl, hown3, hb3⟩
          case round =>
            obtain ⟨j, hj0, hj, rfl, hown, hbr⟩ := hrel
            have hsz := hbr.size
            by_cases hlt : j < len
            · obtain ⟨b, o, t, rfl, hs, c0, c1, c2, c3, c4⟩ := (h.below hbr.all).at hlt
              have hkl : Hid ((grown ss s kk j).length = j + 1) := grown_len hj0 (by have := h.1; omega)
              have m0 : (0 : Int) ≤ (j : Int) := by omega
              have m1 : (j : Int) < (len : Int) := by omega
              go_wp2_with (at_builtin; refine wl_seat 23 33 Try.underlying23 Try.info33 rfl _ _ rfl hown rfl t wr.heap.size rfl rfl (by rw [hkl.out]; omega) hsz ?_; intro v4 w4 hown4 hB4)
              have hb4 : Bel w s w4 := hB4 _ _ hbr (Nat.le_refl _) hsz
              rw [← grown_next hj0 hs] at hown4
              go_roundw
              case rel => exact ⟨j + 1, by omega, by omega, by go_num, hown4, hb4⟩
              case measure => simp [intOf]; omega
            · go_wp2
              go_meet
              case rel =>
                have e : j = len := by omega
                rw [e] at hown
                exact ⟨hown, hbr⟩
        case rest =>
          obtain ⟨hown5, hb5⟩ := hcut
          clear hown3 hb3
          have hgl : (grown ss s kk len).length = len + 1 := grown_len hkk (by have := h.1; omega)
          have hgc : cnt (grown ss s kk len) = cnt ss + cnt [s] := grown_cnt (by have := h.1; omega)
          obtain ⟨a5, cap5, hv5, hS5⟩ := hown5.seats
          rw [hgl] at hv5 hS5
          have Hgc : Hid (cnt (grown ss s kk len) = cnt ss + cnt [s]) := hgc
          clear hgc hgl hown5
          generalize grown ss s kk len = G at *
          subst hv5
          have h5 := h.below hb5.all
          obtain ⟨p0, p1, p2, p3, p4⟩ := hb5.cells
          have hsz5 := hb5.size
          clear p0 p1 p3 p4
          have hcl : (cnt ss : Int) ≤ 100000 := by have := cnt_le ss; have := h.1; omega
          have hc1 : cnt [s] ≤ 1 := cnt_le [s]
          have kk1 := maj_bd (cnt ss) (by omega)
          have kk2 := maj_bd (cnt G) (by rw [Hgc.out]; omega)
          have hst : Hid ((s.vo = false → cnt G = cnt ss) ∧ (s.vo = true → cnt G = cnt ss + 1)) := ⟨fun e => by rw [Hgc.out, cnt_no e, Nat.add_zero], fun e => by rw [Hgc.out, cnt_yes e]⟩
          clear hc1
          obtain ⟨m1, hm1'⟩ : ∃ m, maj (cnt ss) = m := ⟨_, rfl⟩
          obtain ⟨m2, hm2'⟩ : ∃ m, maj (cnt G) = m := ⟨_, rfl⟩
          rw [hm1'] at kk1
          rw [hm2'] at kk2
          have Hm1 : Hid (maj (cnt ss) = m1) := hm1'
          have Hm2 : Hid (maj (cnt G) = m2) := hm2'
          have Hk2 : Hid ((cnt G : Int) < 2 * m2 ∧ 2 * (m2 - 1) ≤ (cnt G : Int)) := kk2.2.2
          obtain ⟨r1, r2, _, _⟩ := kk1
          obtain ⟨r3, r4, _, _⟩ := kk2
          clear hm1' hm2'
          go_wp2_with fail
          refine (config_any c a len cap ss _ h5 (by omega)).mono ?_
          rintro e w6 ⟨a6, cap6, rfl, hS6, hB6⟩
          go_wp2_with fail
          refine (majority_any c a6 len cap6 ss _ hS6 (by omega)).mono ?_
          rintro e w7 ⟨rfl, hB7⟩
          rw [Hm1.out]
          have hB7' : Below wc.heap.size wc w7 := hB6.trans (hB7.mono hB6.size)
          go_wp2_with fail
          refine (config_any c a5 (len + 1) cap5 G _ (hS5.below hB7') (by omega)).mono ?_
          rintro e w8 ⟨a8, cap8, rfl, hS8, hB8⟩
          go_wp2_with fail
          refine (majority_any c a8 (len + 1) cap8 G _ hS8 (by omega)).mono ?_
          rintro e w9 ⟨rfl, hB9⟩
          rw [Hm2.out]
          have hB9' : Below wc.heap.size wc w9 := hB7'.trans ((hB8.trans (hB9.mono hB8.size)).mono hB7'.size)
          have h9 := h5.below hB9'
          have v2 : w9.cell? ⟨w.heap.size, 2, none⟩ = some (.bool s.vo) := (hB9'.cell (show w.heap.size < wc.heap.size by omega)).trans p2
          have fin : Below w.heap.size w w9 := hb5.all.trans (hB9'.mono (by omega))
          go_wp2_with fail
          refine (count_any a len cap ss _ h9 hm.out).mono ?_
          rintro e w10 ⟨rfl, rfl⟩
          clear hB6 hB7 hB7' hB8 hB9 hS6 hS8 p2
          obtain ⟨y1, y2⟩ := Hk2.out
          obtain ⟨z1, z2⟩ := maj_step (cnt ss)
          cases hv : s.vo
          · rw [hv] at v2
            have e1 := hst.out.1 hv
            rw [e1] at y1 y2
            have e2 : m2 = m1 := by rw [← Hm1.out, ← Hm2.out, e1]
            have e3 : (m2 == m1) = true := by simp [e2]
            clear hv e1 e2 z1 z2
            go_wp2
            go_ret
            exact ⟨rfl, fin⟩
          · rw [hv] at v2
            have e1 := hst.out.2 hv
            rw [e1] at y1 y2
            have e2 : maj (cnt ss + 1) = m2 := by rw [← Hm2.out, e1]
            rw [e2, Hm1.out] at z1 z2
            have y1' : (cnt ss : Int) + 1 < 2 * m2 := by omega
            have y2' : 2 * (m2 - 1) ≤ (cnt ss : Int) + 1 := by omega
            clear hv e1 e2 y1 y2
            go_wp2
            go_ret
            exact ⟨rfl, fin⟩
  · go_ret
    exact ⟨rfl, hb0.all⟩
end Go.Proofs.Qxb6623383a
