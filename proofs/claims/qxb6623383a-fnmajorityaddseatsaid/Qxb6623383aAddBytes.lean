/- zzBytes_FnMajorityAddSeat: some bool. -/
import Derived.Test.Qxb6623383aVoters
namespace Go.Proofs.Qxb6623383a
open Go.RowKit

set_option maxRecDepth 100000 in
set_option maxHeartbeats 2000000 in
theorem bytes2_any (c at' : Int) (a : Option Addr) (len cap : Nat) (ss : List Seat) (s : Seat) (w : World) (h : Seats w a len ss) (hl : len ≤ maxLen) :
    Calls Try.prog 10 #[.int .u64 c, .slice a len cap, .int .i64 at', .agg #[.string s.id, .string s.ad, .bool s.vo, .bool s.ab, .int .u64 s.inc]] w fun e w' =>
      SomeBool e ∧ w' = w.alloc (.cells #[.string s.id, .string s.ad, .bool s.vo, .bool s.ab, .int .u64 s.inc] 33) := by
  have hS := h.below ((Below.refl _ _).alloc (Nat.le_refl _) (.cells #[.string s.id, .string s.ad, .bool s.vo, .bool s.ab, .int .u64 s.inc] 33))
  have Hl : Hid (len ≤ maxLen) := hl
  unfold maxLen at hl
  by_cases hst : (1048576 : Int) < (len : Int)
  · go_enter Try.func10, Try.ntmps10
    go_wp2
    go_ret
    exact ⟨isNo rfl, rfl⟩
  go_enter Try.func10, Try.ntmps10
  go_wp2
  go_loop [9, 10] (fun v i => ∃ (k : Nat) (s : Int), k ≤ len ∧ i = .int .i64 k ∧ v = .int .i64 s) (fun _ i => len - (intOf i).toNat)
  case atStart => exact ⟨0, _, Nat.zero_le _, rfl, rfl⟩
  case round =>
    obtain ⟨k, sum, hk, rfl, rfl⟩ := hrel
    by_cases hlt : k < len
    · obtain ⟨b, o, t, rfl, hs, c0, c1, c2, c3, c4⟩ := hS.at hlt
      have m0 : (0 : Int) ≤ (k : Int) := by omega
      have m1 : (k : Int) < (len : Int) := by omega
      go_wp2
      all_goals first
        | (go_ret; exact ⟨isNo rfl, rfl⟩)
        | (go_round
           case rel => exact ⟨k + 1, _, by omega, by go_num, rfl⟩
           case measure => simp [intOf]; omega)
    · go_wp2
      all_goals
        go_ret
        first
          | exact ⟨isNo rfl, rfl⟩
          | exact ⟨isYes rfl, rfl⟩
end Go.Proofs.Qxb6623383a
