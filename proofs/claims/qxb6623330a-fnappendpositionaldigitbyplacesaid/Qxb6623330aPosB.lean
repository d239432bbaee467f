/- (*realDigits).appendPositional, point at least n. -/
import Derived.Test.Qxb6623330aPosKit
namespace Go.Proofs.Qxb6623330a
open Go.RowKit

set_option maxRecDepth 100000 in
set_option maxHeartbeats 1000000 in
theorem posB (R : Nat) (v : Value) (bs ds : List Int) (neg : Bool) (n p : Nat) (dec : Int) (w : World) (hown : Own w v bs) (hR : v.ownBlock ≠ some R)
    (c0 : w.cell? ⟨R, 0, none⟩ = some (.bool neg)) (cd : Hid (∀ i, i < 20 → w.cell? ⟨R, 1 + i, none⟩ = some (.int .u8 (ds.getD i 0)))) (cn : w.cell? ⟨R, 21, none⟩ = some (.int .i64 n)) (cp : w.cell? ⟨R, 22, none⟩ = some (.int .i64 p))
    (hds : Hid (ds.length = 20)) (h1 : 1 ≤ n) (h2 : n ≤ 20) (hnp : n ≤ p) (hp : p ≤ 65536) (hdec : dec ≤ 65536) (hb : bs.length ≤ 1048576) :
    Calls Try.prog 8 #[.pointer (some ⟨R, 0, none⟩), v, .int .i64 dec] w fun e w' => ∃ v', e = .returned v' ∧
      Ap w v w' v' (pre bs neg ++ ds.take n ++ List.replicate (p - n) 48 ++ tail 0 dec) := by
  have hA := Ap.refl hown
  have n0 : (0 : Int) ≤ (n : Int) := by omega
  have n1 : (n : Int) ≤ 20 := by omega
  have p0 : ¬ ((p : Int) ≤ 0) := by omega
  have p1 : (n : Int) ≤ (p : Int) := by omega
  have hw : IntKind.i64.wrap ((p : Int) - (n : Int)) = (p : Int) - (n : Int) := wrap_small _ (by omega) (by omega)
  have hlen := pre_le bs neg
  go_enter Try.func8, Try.ntmps8
  go_upto_if 11 with fail
  go_cut [1] (fun v1 wx => Ap w v wx v1 (pre bs neg))
  case first =>
    cases neg
    · go_wp2
      go_meet
      case rel => simpa [pre, sgn] using hA
    · go_wp2_with (at_builtin; refine wl_push rfl _ _ rfl hA rfl 45 rfl (by omega) ?_; intro v1 w1 hA1)
      go_meet
      case rel => simpa [pre, sgn] using hA1
  case rest =>
    have d0 := hcut.cell hR cn
    have d1 := hcut.cell hR cp
    go_wp2
    go_quiet (fail)
    have hA4 := hcut.drewN nq
    go_wp2
    go_region_held3 (fun w' => w'.cell? ⟨R, 21, none⟩ = some (.int .i64 n)) (first | exact hA5.cell hR cn | (go_keep; done))
      ((refine st_ap rfl _ _ (by rfl) hA4.drew (by rfl) ⟨R, 1, none⟩ n 20 (by rfl) (ds.take n) (take_len hds h2) (Lie.ofAp hA4.drew hR cd hds h2) (by omega) ?_; intro v5 w5 hA5 hG5))
    have g1 := hA5.cell hR cp
    have g2 := hA5.cell hR cn
    go_wp2
    have hl5 : (pre bs neg ++ ds.take n).length ≤ 2000000 := by have := take_len hds h2; simp; omega
    go_region_held3 (fun w' => w'.cell? ⟨R, 21, none⟩ = some (.int .i64 n) ∧ w'.cell? ⟨R, 22, none⟩ = some (.int .i64 p)) (first | exact ⟨hA7.cell hR cn, hA7.cell hR cp⟩ | (go_keep; done))
      ((go_at_call 9; refine (zeros_any _ _ _ _ hA5.drew.own (by omega) (by omega) (by simpa using Nat.le_trans hl5 (by omega))).mono ?_; rintro e w6 ⟨v6, rfl, hA6⟩; have hA7 := hA5.drew.trans hA6))
    have e1 : ((p : Int) - (n : Int)).toNat = p - n := by omega
    rw [e1] at hA7
    have hl7 : (pre bs neg ++ ds.take n ++ List.replicate (p - n) 48).length ≤ 2100000 := by have := take_len hds h2; simp; omega
    by_cases hd : 0 < dec
    · go_wp2_with (first
        | (at_builtin; refine wl_push rfl _ _ rfl hA7 rfl 46 rfl (by omega) ?_; intro v8 w8 hA8)
        | (go_at_call 9; refine (zeros_any _ _ _ _ hA8.own (by omega) (by omega) (by rw [List.length_append]; simp only [List.length_cons, List.length_nil]; omega)).mono ?_; rintro e w9 ⟨v9, rfl, hA9⟩))
      go_ret
      refine ⟨_, rfl, ?_⟩
      have := hA8.trans hA9
      rw [tail, if_pos (by omega), if_pos rfl]
      simpa using this
    · go_wp2
      go_ret
      refine ⟨_, rfl, ?_⟩
      rw [tail, if_neg (by omega)]
      simpa using hA7
end Go.Proofs.Qxb6623330a
