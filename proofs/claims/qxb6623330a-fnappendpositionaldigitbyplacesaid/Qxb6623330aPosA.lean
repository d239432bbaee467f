/- (*realDigits).appendPositional, point at most 0. -/
import Derived.Test.Qxb6623330aPosKit
namespace Go.Proofs.Qxb6623330a
open Go.RowKit

set_option maxRecDepth 100000 in
set_option maxHeartbeats 1000000 in
theorem posA (R : Nat) (v : Value) (bs ds : List Int) (neg : Bool) (n q : Nat) (dec : Int) (w : World) (hown : Own w v bs) (hR : v.ownBlock ≠ some R)
    (c0 : w.cell? ⟨R, 0, none⟩ = some (.bool neg)) (cd : Hid (∀ i, i < 20 → w.cell? ⟨R, 1 + i, none⟩ = some (.int .u8 (ds.getD i 0)))) (cn : w.cell? ⟨R, 21, none⟩ = some (.int .i64 n)) (cp : w.cell? ⟨R, 22, none⟩ = some (.int .i64 (-(q : Int))))
    (hds : Hid (ds.length = 20)) (h1 : 1 ≤ n) (h2 : n ≤ 20) (hq : q ≤ 65536) (hdec : dec ≤ 65536) (hb : bs.length ≤ 1048576) :
    Calls Try.prog 8 #[.pointer (some ⟨R, 0, none⟩), v, .int .i64 dec] w fun e w' => ∃ v', e = .returned v' ∧
      Ap w v w' v' (pre bs neg ++ [48, 46] ++ List.replicate q 48 ++ ds.take n ++ tail ((n : Int) + q) dec) := by
  have hA := Ap.refl hown
  have n0 : (0 : Int) ≤ (n : Int) := by omega
  have n1 : (n : Int) ≤ 20 := by omega
  have hlen := pre_le bs neg
  go_enter Try.func8, Try.ntmps8
  go_upto_if 11 with fail
  go_cut [1] (fun v1 wx => Ap w v wx v1 (pre bs neg))
  case first =>
    cases neg
    · go_wp2
      go_meet
      case rel => simpa [pre, sgn] using hA
    · go_wp2_with (at_builtin; refine wl_push rfl _ _ rfl hA rfl 45 rfl (by omega) ?_; intro v1 w1 hA1)
      go_meet
      case rel => simpa [pre, sgn] using hA1
  case rest =>
    have d0 := hcut.cell hR cn
    have d1 := hcut.cell hR cp
    go_wp2_with (first
      | (at_builtin; refine wl_str rfl _ _ rfl hcut rfl _ rfl [48, 46] str_dot (by decide) (by show (pre bs neg).length + 2 ≤ _; omega) ?_; intro v2 w2 hA2; have e1 := hA2.cell hR cp; have e2 := hA2.cell hR cn)
      | (go_at_call 9; refine (zeros_any _ _ _ _ hA2.own (by omega) (by omega) (by simp; omega)).mono ?_; rintro e w3 ⟨v3, rfl, hA3⟩; have hA4 := hA2.trans hA3; have f1 := hA4.cell hR cp; have f2 := hA4.cell hR cn))
    go_region_held3 (fun w' => w'.cell? ⟨R, 21, none⟩ = some (.int .i64 n)) (first | exact hA5.cell hR cn | (go_keep; done))
      ((refine st_ap rfl _ _ (by rfl) hA4.drew (by rfl) ⟨R, 1, none⟩ n 20 (by rfl) (ds.take n) (take_len hds h2) (Lie.ofAp hA4.drew hR cd hds h2) (by simp; omega) ?_; intro v5 w5 hA5 hG5))
    have g1 := hA5.cell hR cp
    have g2 := hA5.cell hR cn
    go_wp2
    go_quiet (fail)
    have hA6 := hA5.drewN nq
    have hl5 : (pre bs neg ++ [48, 46] ++ List.replicate q 48 ++ ds.take n).length ≤ 3000000 := by have := take_len hds h2; simp; omega
    by_cases hd : (n : Int) + (q : Int) < dec
    · have hz : (((n : Int) + (q : Int)) == 0) = false := by rw [beq_eq_false_iff_ne]; omega
      go_wp2_with (go_at_call 9; refine (zeros_any _ _ _ _ hA6.own (by omega) (by omega) (by simpa using hl5)).mono ?_; rintro e w7 ⟨v7, rfl, hA7⟩)
      go_ret
      refine ⟨_, rfl, ?_⟩
      have := hA6.trans hA7
      rw [tail, if_pos hd, if_neg (by omega)]
      simpa using this
    · go_wp2
      go_ret
      refine ⟨_, rfl, ?_⟩
      rw [tail, if_neg (by omega)]
      simpa using hA6
end Go.Proofs.Qxb6623330a
