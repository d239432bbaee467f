/- The law FnMajorityLeastQuorum, walked. -/
import Derived.Test.Qxb6623383aConfig
namespace Go.Proofs.Qxb6623383a
open Go.RowKit

theorem maj_bd (n : Nat) (h : n ≤ 1000001) : 1 ≤ maj n ∧ maj n ≤ 1000002 ∧ (n : Int) < 2 * maj n ∧ 2 * (maj n - 1) ≤ (n : Int) := by unfold maj; omega

set_option maxRecDepth 100000 in
set_option maxHeartbeats 1000000 in
theorem least_walk (c : Int) (a : Option Addr) (len cap : Nat) (ss : List Seat) (w : World) (h : Seats w a len ss) (hl : len ≤ maxLen) :
    Calls Try.prog 3 #[.int .u64 c, .slice a len cap] w fun e w' => e = .returned (.bool true) ∧ Below w.heap.size w w' := by
  have hlc := cnt_le ss
  have hl1 := h.1
  by_cases hbig : (65536 : Int) < (len : Int)
  · have hl' := hl
    clear hl1
    unfold maxLen at hl'
    go_enter Try.func3, Try.ntmps3
    go_wp2_with (go_at_call 5; refine (bytes_any c a len cap ss _ h hl).mono ?_; rintro e w1 ⟨⟨r, rfl⟩, rfl⟩; cases r)
    all_goals
      go_ret
      exact ⟨rfl, Below.refl _ _⟩
  · have hcl : cnt ss ≤ 65536 := by omega
    clear hlc hl1
    have kk := maj_bd (cnt ss) (by omega)
    obtain ⟨m, hm⟩ : ∃ m, maj (cnt ss) = m := ⟨_, rfl⟩
    rw [hm] at kk
    have Hm : Hid (maj (cnt ss) = m) := hm
    clear hm
    obtain ⟨k1, k2, k3, k4⟩ := kk
    go_enter Try.func3, Try.ntmps3
    go_wp2_with (first
      | (go_at_call 5; refine (bytes_any c a len cap ss _ h hl).mono ?_; rintro e w1 ⟨⟨r, rfl⟩, rfl⟩; cases r)
      | (go_at_call 6; refine (big_any a len cap _ ss _ h hl).mono ?_; rintro e w1 ⟨⟨r, rfl⟩, rfl⟩; cases r)
      | (go_at_call 7; refine (config_any c a len cap ss _ h (by omega)).mono ?_; rintro e w1 ⟨a1, cap1, rfl, hS1, hB1⟩)
      | (go_at_call 8; refine (majority_any c a1 len cap1 ss _ (hS1.below ((Below.refl _ _).alloc (Nat.le_refl _) _)) (by omega)).mono ?_; rintro e w2 ⟨rfl, hB2⟩; rw [Hm.out]; have hB3 := (hB1.alloc hB1.size _).trans (hB2.mono (by have := hB1.size; simp; omega)); have hS3 := h.below hB3)
      | (go_at_call 9; refine (count_any a len cap ss _ hS3 hl).mono ?_; rintro e w3 ⟨rfl, rfl⟩))
    all_goals first
      | (go_ret; exact ⟨rfl, Below.refl _ _⟩)
      | (go_ret; exact ⟨rfl, hB3⟩)
end Go.Proofs.Qxb6623383a
