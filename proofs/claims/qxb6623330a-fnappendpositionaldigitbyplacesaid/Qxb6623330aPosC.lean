/- (*realDigits).appendPositional, point between. -/
import Derived.Test.Qxb6623330aPosKit
namespace Go.Proofs.Qxb6623330a
open Go.RowKit

theorem Lie.later {w w' : World} {row : Option Nat} {ad : Addr} {news : List Int} (h : Lie w ad news) (hg : w.grownBy w' row) (hne : row ≠ some ad.block) : Lie w' ad news := by
  intro j u hu
  refine hg.cell (h j u hu) ?_
  intro e
  apply hne
  rw [← e]
  cases ad with
  | mk b o s => unfold Addr.add; split <;> rfl

theorem Lie.drew {w : World} {ad : Addr} {news : List Int} (h : Lie w ad news) : Lie w.drew ad news := h

theorem Ap.free {w w1 : World} {v v1 : Value} {bs : List Int} (h : Ap w v w1 v1 bs) : v1.ownBlock ≠ some w1.heap.size := by
  intro e
  have := World.ownsRow.lt h.own _ e
  omega

set_option maxRecDepth 100000 in
set_option maxHeartbeats 2000000 in
theorem posC (R : Nat) (v : Value) (bs ds : List Int) (neg : Bool) (n p : Nat) (dec : Int) (w : World) (hown : Own w v bs) (hR : v.ownBlock ≠ some R)
    (c0 : w.cell? ⟨R, 0, none⟩ = some (.bool neg)) (cd : Hid (∀ i, i < 20 → w.cell? ⟨R, 1 + i, none⟩ = some (.int .u8 (ds.getD i 0)))) (cn : w.cell? ⟨R, 21, none⟩ = some (.int .i64 n)) (cp : w.cell? ⟨R, 22, none⟩ = some (.int .i64 p))
    (hds : Hid (ds.length = 20)) (h1 : 1 ≤ p) (h2 : n ≤ 20) (hnp : p < n) (hdec : dec ≤ 65536) (hb : bs.length ≤ 1048576) :
    Calls Try.prog 8 #[.pointer (some ⟨R, 0, none⟩), v, .int .i64 dec] w fun e w' => ∃ v', e = .returned v' ∧
      Ap w v w' v' (pre bs neg ++ ds.take p ++ [46] ++ (ds.drop p).take (n - p) ++ tail ((n : Int) - p) dec) := by
  have hA := Ap.refl hown
  have n0 : (0 : Int) ≤ (n : Int) := by omega
  have n1 : (n : Int) ≤ 20 := by omega
  have p0 : ¬ ((p : Int) ≤ 0) := by omega
  have p1 : (p : Int) < (n : Int) := by omega
  have p2 : (0 : Int) ≤ (p : Int) := by omega
  have p3 : (p : Int) ≤ 20 := by omega
  have p4 : (p : Int) ≤ (n : Int) := by omega
  have p5 : ¬ (20 = p) := by omega
  have hw : IntKind.i64.wrap ((n : Int) - (p : Int)) = (n : Int) - (p : Int) := wrap_small _ (by omega) (by omega)
  have hlen := pre_le bs neg
  go_enter Try.func8, Try.ntmps8
  go_upto_if 11 with fail
  go_cut [1] (fun v1 wx => Ap w v wx v1 (pre bs neg))
  case first =>
    cases neg
    · go_wp2
      go_meet
      case rel => simpa [pre, sgn] using hA
    · go_wp2_with (at_builtin; refine wl_push rfl _ _ rfl hA rfl 45 rfl (by omega) ?_; intro v1 w1 hA1)
      go_meet
      case rel => simpa [pre, sgn] using hA1
  case rest =>
    have d0 := hcut.cell hR cn
    have d1 := hcut.cell hR cp
    go_wp2
    go_quiet (fail)
    have hA4 := hcut.drewN nq
    have hfree := hcut.free
    go_wp2
    go_region_held3 (fun w' => w'.cell? ⟨R, 21, none⟩ = some (.int .i64 n) ∧ w'.cell? ⟨R, 22, none⟩ = some (.int .i64 p))
      (first | exact ⟨hA7.cell hR cn, hA7.cell hR cp⟩ | exact ⟨hA6.cell hR cn, hA6.cell hR cp⟩ | exact ⟨(hA5.alloc _).cell hR cn, (hA5.alloc _).cell hR cp⟩ | exact ⟨hA5.cell hR cn, hA5.cell hR cp⟩ | (go_keep; done))
      (first
        | (refine st_ap rfl (.tmp 15) (.tmp 23) (by rfl) (by first | exact hA4.drew | exact (hA4.alloc _).drew) (by rfl) ⟨R, 1, none⟩ p 20 (by rfl) (ds.take p) (take_len hds (by omega)) (by first | exact Lie.ofAp hA4.drew hR cd hds (by omega) | exact Lie.ofAp (hA4.alloc _).drew hR cd hds (by omega)) (by omega) ?_; intro v5 w5 hA5 hG5)
        | ((refine st_ap rfl (.tmp 24) (.tmp 25) (by rfl) (by first | exact hA5 | exact hA5.alloc _) (by rfl) _ 1 1 (by rfl) [46] rfl (by first | exact Lie.one _ _ _ | exact Lie.later (Lie.one (wc.drewN (nq + 1)) 46 5) hG5 hfree) (by have := take_len hds (show p ≤ 20 by omega); simp; omega) ?_); intro v6 w6 hA6 hG6)
        | (refine st_ap rfl (.tmp 26) (.tmp 38) (by rfl) hA6 (by rfl) ⟨R, 1 + p, none⟩ (n - p) (20 - p) (by rfl) ((ds.drop p).take (n - p)) (cut_len hds (by omega)) (Lie.ofApFrom p hA6 hR cd hds (by omega)) (by have := take_len hds (show p ≤ 20 by omega); simp; omega) ?_; intro v7 w7 hA7 hG7))
    all_goals
      have g1 := hA7.cell hR cp
      have g2 := hA7.cell hR cn
      have hl7 : (pre bs neg ++ ds.take p ++ [46] ++ (ds.drop p).take (n - p)).length ≤ 3000000 := by
        have := take_len hds (show p ≤ 20 by omega)
        have := cut_len hds (show p + (n - p) ≤ 20 by omega)
        simp only [List.length_append, List.length_cons, List.length_nil]; omega
      go_wp2
      go_quiet (fail)
      have hA8 := hA7.drewN nq
      by_cases hd : (n : Int) - (p : Int) < dec
      · have hz : (((n : Int) - (p : Int)) == 0) = false := by rw [beq_eq_false_iff_ne]; omega
        go_wp2_with (go_at_call 9; refine (zeros_any _ _ _ _ hA8.own (by omega) (by omega) hl7).mono ?_; rintro e w9 ⟨v9, rfl, hA9⟩)
        go_ret
        refine ⟨_, rfl, ?_⟩
        have := hA8.trans hA9
        rw [tail, if_pos hd, if_neg (by omega)]
        simpa using this
      · go_wp2
        go_ret
        refine ⟨_, rfl, ?_⟩
        rw [tail, if_neg (by omega)]
        simpa using hA8
end Go.Proofs.Qxb6623330a
