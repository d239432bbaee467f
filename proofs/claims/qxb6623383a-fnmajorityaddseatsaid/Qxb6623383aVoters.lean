/- Config.Voters, Config.Majority. -/
import Derived.Test.Qxb6623383aReads
namespace Go.Proofs.Qxb6623383a
open Go.RowKit

theorem Seats.below {w wr : World} {a : Option Addr} {len : Nat} {ss : List Seat} (h : Seats w a len ss) (hb : Below w.heap.size w wr) : Seats wr a len ss := by
  refine ⟨h.1, fun hl => ?_⟩
  obtain ⟨b, o, ha, hc⟩ := h.2 hl
  refine ⟨b, o, ha, fun i s hs j u hu => ?_⟩
  have hk := hc i s hs j u hu
  exact (hb.cell (World.block_lt_of_cell? w _ hk)).trans hk

set_option maxHeartbeats 1000000 in
theorem voters_any (c : Int) (a : Option Addr) (len cap : Nat) (ss : List Seat) (w : World) (h : Seats w a len ss) (hl : len ≤ 1000000) :
    Calls Try.prog 11 #[.agg #[.int .u64 c, .slice a len cap]] w fun e w' => e = .returned (.int .i64 (cnt ss)) ∧ Below w.heap.size w w' := by
  have hb0 : Below w.heap.size w (w.alloc (.cells #[.int .u64 c, .slice a len cap] 28)) := (Below.refl _ _).alloc (Nat.le_refl _) _
  go_enter Try.func11, Try.ntmps11
  go_wp2
  go_loopw [3, 9] (fun v i wr => ∃ k : Nat, k ≤ len ∧ i = .int .i64 k ∧ v = .int .i64 (cnt (ss.take k)) ∧ Below w.heap.size w wr) (fun _ i _ => len - (intOf i).toNat)
  case atStart => exact ⟨0, Nat.zero_le _, rfl, rfl, hb0⟩
  case round =>
    obtain ⟨k, hk, rfl, rfl, hbr⟩ := hrel
    have hc1 := cnt_le (ss.take k)
    have hc2 : (ss.take k).length ≤ k := List.length_take_le _ _
    have hsz := hbr.size
    by_cases hlt : k < len
    · obtain ⟨b, o, s, rfl, hs, c0, c1, c2, c3, c4⟩ := (h.below hbr).at hlt
      have HN : Hid (cnt (ss.take (k + 1)) = cnt (ss.take k) + cnt [s]) := cnt_next hs
      have m0 : (0 : Int) ≤ (k : Int) := by omega
      have m1 : (k : Int) < (len : Int) := by omega
      cases hv : s.vo
      · rw [hv] at c2
        have H1 : Hid (cnt [s] = 0) := cnt_no hv
        clear hv
        go_wp2
        go_roundw
        case rel => exact ⟨k + 1, by omega, by go_num, by rw [HN.out, H1.out]; rfl, hbr.alloc hsz _⟩
        case measure => simp [intOf]; omega
      · rw [hv] at c2
        have H1 : Hid (cnt [s] = 1) := cnt_yes hv
        clear hv
        go_wp2
        go_roundw
        case rel => exact ⟨k + 1, by omega, by go_num, by rw [HN.out, H1.out]; go_num, hbr.alloc hsz _⟩
        case measure => simp [intOf]; omega
    · go_wp2
      go_ret
      have e : k = ss.length := by have := h.1; omega
      exact ⟨by rw [e, List.take_length]; rfl, hbr⟩

/-- What Majority answers at so many voters. -/
def maj (n : Nat) : Int := (n : Int) / 2 + 1

set_option maxHeartbeats 1000000 in
theorem majority_any (c : Int) (a : Option Addr) (len cap : Nat) (ss : List Seat) (w : World) (h : Seats w a len ss) (hl : len ≤ 1000000) :
    Calls Try.prog 8 #[.agg #[.int .u64 c, .slice a len cap]] w fun e w' => e = .returned (.int .i64 (maj (cnt ss))) ∧ Below w.heap.size w w' := by
  have hb0 : Below w.heap.size w (w.alloc (.cells #[.int .u64 c, .slice a len cap] 28)) := (Below.refl _ _).alloc (Nat.le_refl _) _
  have hc1 := cnt_le ss
  have hc2 := h.1
  have hc3 : cnt ss ≤ len := by omega
  clear hc1 hc2
  have h1 := h.below hb0
  go_enter Try.func8, Try.ntmps8
  go_wp2_with (go_at_call 11; refine (voters_any c a len cap ss _ h1 hl).mono ?_; rintro e w1 ⟨rfl, hb1⟩)
  go_ret
  exact ⟨by unfold maj; rfl, hb0.trans (hb1.mono (by simp))⟩
end Go.Proofs.Qxb6623383a
