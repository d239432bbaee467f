/- What only reads: zzBytes_FnMajorityLeastQuorum, seatsTooBig, countVoting. -/
import Derived.Test.Qxb6623383aKit
namespace Go.Proofs.Qxb6623383a
open Go.RowKit

set_option maxHeartbeats 1000000 in
/-- countVoting. -/
theorem count_any (a : Option Addr) (len cap : Nat) (ss : List Seat) (w : World) (h : Seats w a len ss) (hl : len ≤ maxLen) :
    Calls Try.prog 9 #[.slice a len cap] w fun e w' => e = .returned (.int .i64 (cnt ss)) ∧ w' = w := by
  unfold maxLen at hl
  go_enter Try.func9, Try.ntmps9
  go_wp2
  go_loop [3, 4] (fun v i => ∃ k : Nat, k ≤ len ∧ i = .int .i64 k ∧ v = .int .i64 (cnt (ss.take k))) (fun _ i => len - (intOf i).toNat)
  case atStart => exact ⟨0, Nat.zero_le _, rfl, rfl⟩
  case round =>
    obtain ⟨k, hk, rfl, rfl⟩ := hrel
    have hc1 := cnt_le (ss.take k)
    have hc2 : (ss.take k).length ≤ k := List.length_take_le _ _
    by_cases hlt : k < len
    · obtain ⟨b, o, s, rfl, hs, c0, c1, c2, c3, c4⟩ := h.at hlt
      have HN : Hid (cnt (ss.take (k + 1)) = cnt (ss.take k) + cnt [s]) := cnt_next hs
      have m0 : (0 : Int) ≤ (k : Int) := by omega
      have m1 : (k : Int) < (len : Int) := by omega
      cases hv : s.vo
      · rw [hv] at c2
        have H1 : Hid (cnt [s] = 0) := cnt_no hv
        clear hv
        go_wp2
        go_round
        case rel => exact ⟨k + 1, by omega, by go_num, by rw [HN.out, H1.out]; rfl⟩
        case measure => simp [intOf]; omega
      · rw [hv] at c2
        have H1 : Hid (cnt [s] = 1) := cnt_yes hv
        clear hv
        go_wp2
        go_round
        case rel => exact ⟨k + 1, by omega, by go_num, by rw [HN.out, H1.out]; go_num⟩
        case measure => simp [intOf]; omega
    · go_wp2
      go_ret
      have e : k = ss.length := by have := h.1; omega
      exact ⟨by rw [e, List.take_length]; rfl, rfl⟩

/-- It returns a bool. -/
def SomeBool (e : Ending) : Prop := ∃ r, e = .returned (.bool r)
theorem isYes {e : Ending} (h : e = .returned (.bool true)) : SomeBool e := ⟨true, h⟩
theorem isNo {e : Ending} (h : e = .returned (.bool false)) : SomeBool e := ⟨false, h⟩

set_option maxHeartbeats 1000000 in
/-- seatsTooBig: some bool. -/
theorem big_any (a : Option Addr) (len cap : Nat) (start : Int) (ss : List Seat) (w : World) (h : Seats w a len ss) (hl : len ≤ maxLen) :
    Calls Try.prog 6 #[.slice a len cap, .int .i64 start] w fun e w' => SomeBool e ∧ w' = w := by
  unfold maxLen at hl
  by_cases hst : 1048576 < start
  · go_enter Try.func6, Try.ntmps6
    go_wp2
    go_ret
    exact ⟨isYes rfl, rfl⟩
  go_enter Try.func6, Try.ntmps6
  go_wp2
  go_loop [5, 6] (fun v i => ∃ (k : Nat) (s : Int), k ≤ len ∧ i = .int .i64 k ∧ v = .int .i64 s) (fun _ i => len - (intOf i).toNat)
  case atStart => exact ⟨0, _, Nat.zero_le _, rfl, rfl⟩
  case round =>
    obtain ⟨k, sum, hk, rfl, rfl⟩ := hrel
    by_cases hlt : k < len
    · obtain ⟨b, o, s, rfl, hs, c0, c1, c2, c3, c4⟩ := h.at hlt
      have m0 : (0 : Int) ≤ (k : Int) := by omega
      have m1 : (k : Int) < (len : Int) := by omega
      go_wp2
      · go_ret
        exact ⟨isYes rfl, rfl⟩
      · go_ret
        exact ⟨isYes rfl, rfl⟩
      · go_round
        case rel => exact ⟨k + 1, _, by omega, by go_num, rfl⟩
        case measure => simp [intOf]; omega
    · go_wp2
      go_ret
      exact ⟨isNo rfl, rfl⟩

set_option maxHeartbeats 1000000 in
/-- zzBytes_FnMajorityLeastQuorum: some bool. -/
theorem bytes_any (c : Int) (a : Option Addr) (len cap : Nat) (ss : List Seat) (w : World) (h : Seats w a len ss) (hl : len ≤ maxLen) :
    Calls Try.prog 5 #[.int .u64 c, .slice a len cap] w fun e w' => SomeBool e ∧ w' = w := by
  unfold maxLen at hl
  by_cases hst : (1048576 : Int) < (len : Int)
  · go_enter Try.func5, Try.ntmps5
    go_wp2
    go_ret
    exact ⟨isNo rfl, rfl⟩
  go_enter Try.func5, Try.ntmps5
  go_wp2
  go_loop [5, 6] (fun v i => ∃ (k : Nat) (s : Int), k ≤ len ∧ i = .int .i64 k ∧ v = .int .i64 s) (fun _ i => len - (intOf i).toNat)
  case atStart => exact ⟨0, _, Nat.zero_le _, rfl, rfl⟩
  case round =>
    obtain ⟨k, sum, hk, rfl, rfl⟩ := hrel
    by_cases hlt : k < len
    · obtain ⟨b, o, s, rfl, hs, c0, c1, c2, c3, c4⟩ := h.at hlt
      have m0 : (0 : Int) ≤ (k : Int) := by omega
      have m1 : (k : Int) < (len : Int) := by omega
      go_wp2
      all_goals first
        | (go_ret; exact ⟨isNo rfl, rfl⟩)
        | (go_round
           case rel => exact ⟨k + 1, _, by omega, by go_num, rfl⟩
           case measure => simp [intOf]; omega)
    · go_wp2
      go_ret
      exact ⟨isYes rfl, rfl⟩
end Go.Proofs.Qxb6623383a
