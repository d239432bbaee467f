/- (*realDigits).appendPositional whatever the point; ZZAppendPositional. -/
import Derived.Test.Qxb6623330aPosA
import Derived.Test.Qxb6623330aPosB
import Derived.Test.Qxb6623330aPosC
namespace Go.Proofs.Qxb6623330a
open Go.RowKit

/-- What appendPositional writes behind the sign. -/
def posOut (ds : List Int) (n point dec : Int) : List Int :=
  if point ≤ 0 then [48, 46] ++ (List.replicate (-point).toNat 48 ++ (ds.take n.toNat ++ tail (n - point) dec))
  else if n ≤ point then ds.take n.toNat ++ (List.replicate (point - n).toNat 48 ++ tail 0 dec)
  else ds.take point.toNat ++ ([46] ++ ((ds.drop point.toNat).take (n - point).toNat ++ tail (n - point) dec))

theorem pos_any (R : Nat) (v : Value) (bs ds : List Int) (neg : Bool) (n point dec : Int) (w : World) (hown : Own w v bs) (hR : v.ownBlock ≠ some R)
    (c0 : w.cell? ⟨R, 0, none⟩ = some (.bool neg)) (cd : Hid (∀ i, i < 20 → w.cell? ⟨R, 1 + i, none⟩ = some (.int .u8 (ds.getD i 0)))) (cn : w.cell? ⟨R, 21, none⟩ = some (.int .i64 n)) (cp : w.cell? ⟨R, 22, none⟩ = some (.int .i64 point))
    (hds : Hid (ds.length = 20)) (h1 : 1 ≤ n) (h2 : n ≤ 20) (hp1 : -65536 ≤ point) (hp2 : point ≤ 65536) (hdec : dec ≤ 65536) (hb : bs.length ≤ 1048576) :
    Calls Try.prog 8 #[.pointer (some ⟨R, 0, none⟩), v, .int .i64 dec] w fun e w' => ∃ v', e = .returned v' ∧ Ap w v w' v' (pre bs neg ++ posOut ds n point dec) := by
  obtain ⟨n, rfl⟩ := Int.eq_ofNat_of_zero_le (show 0 ≤ n by omega)
  by_cases k1 : point ≤ 0
  · obtain ⟨q, hq⟩ := Int.eq_ofNat_of_zero_le (show 0 ≤ -point by omega)
    obtain rfl : point = -(q : Int) := by omega
    refine (posA R v bs ds neg n q dec w hown hR c0 cd cn cp hds (by omega) (by omega) (by omega) hdec hb).mono ?_
    rintro e w' ⟨v', rfl, h⟩
    refine ⟨v', rfl, ?_⟩
    have e1 : (- -(q : Int)).toNat = q := by omega
    have e2 : (n : Int) - -(q : Int) = (n : Int) + q := by omega
    rw [posOut, if_pos k1, e1, e2, Int.toNat_natCast]
    simpa using h
  · obtain ⟨p, rfl⟩ := Int.eq_ofNat_of_zero_le (show 0 ≤ point by omega)
    by_cases k2 : (n : Int) ≤ p
    · refine (posB R v bs ds neg n p dec w hown hR c0 cd cn cp hds (by omega) (by omega) (by omega) (by omega) hdec hb).mono ?_
      rintro e w' ⟨v', rfl, h⟩
      refine ⟨v', rfl, ?_⟩
      have e1 : ((p : Int) - n).toNat = p - n := by omega
      rw [posOut, if_neg k1, if_pos k2, e1, Int.toNat_natCast]
      simpa using h
    · refine (posC R v bs ds neg n p dec w hown hR c0 cd cn cp hds (by omega) (by omega) (by omega) hdec hb).mono ?_
      rintro e w' ⟨v', rfl, h⟩
      refine ⟨v', rfl, ?_⟩
      have e1 : ((n : Int) - p).toNat = n - p := by omega
      rw [posOut, if_neg k1, if_neg k2, e1, Int.toNat_natCast]
      simpa using h

/-- Twenty cells, written out. -/
theorem arr20 (cs : Array Value) (h : cs.size = 20) : ∃ x0 x1 x2 x3 x4 x5 x6 x7 x8 x9 x10 x11 x12 x13 x14 x15 x16 x17 x18 x19, cs = #[x0, x1, x2, x3, x4, x5, x6, x7, x8, x9, x10, x11, x12, x13, x14, x15, x16, x17, x18, x19] := by
  cases cs with
  | mk l =>
    match l, h with
    | [x0, x1, x2, x3, x4, x5, x6, x7, x8, x9, x10, x11, x12, x13, x14, x15, x16, x17, x18, x19], _ => exact ⟨x0, x1, x2, x3, x4, x5, x6, x7, x8, x9, x10, x11, x12, x13, x14, x15, x16, x17, x18, x19, rfl⟩

theorem cell_new (w : World) (C : Array Value) (t : TypeId) (R i : Nat) (x : Value) (hR : R = w.heap.size) (hx : C[i]? = some x) : (w.alloc (.cells C t)).cell? ⟨R, i, none⟩ = some x := by
  subst hR
  rw [cell_of_row _ _ i C t (0, 0) (heap_alloc_new w _)]
  exact hx

theorem mid_cell (b y z x : Value) (cs C : Array Value) (hC : C = #[b] ++ cs ++ #[y, z]) (i : Nat) (h : cs[i]? = some x) : C[1 + i]? = some x := by
  subst hC
  have hi : i < cs.size := (Array.getElem?_eq_some_iff.1 h).1
  rw [Array.getElem?_append_left (by simp; omega), Array.getElem?_append_right (by simp)]
  simpa using h

set_option maxRecDepth 100000 in
set_option maxHeartbeats 1000000 in
theorem zz_at (x0 x1 x2 x3 x4 x5 x6 x7 x8 x9 x10 x11 x12 x13 x14 x15 x16 x17 x18 x19 : Value) (v : Value) (bs ds : List Int) (neg : Bool) (n point dec : Int) (w : World) (hown : Own w v bs)
    (hcs : Hid (∀ i : Nat, i < 20 → #[x0, x1, x2, x3, x4, x5, x6, x7, x8, x9, x10, x11, x12, x13, x14, x15, x16, x17, x18, x19][i]? = some (.int .u8 (ds.getD i 0))))
    (hds : Hid (ds.length = 20)) (h1 : 1 ≤ n) (h2 : n ≤ 20) (hp1 : -65536 ≤ point) (hp2 : point ≤ 65536) (hdec : dec ≤ 65536) (hb : bs.length ≤ 1048576) :
    Calls Try.prog 6 #[.bool neg, .agg #[x0, x1, x2, x3, x4, x5, x6, x7, x8, x9, x10, x11, x12, x13, x14, x15, x16, x17, x18, x19], .int .i64 n, .int .i64 point, v, .int .i64 dec] w fun e w' => ∃ v', e = .returned v' ∧ Ap w v w' v' (pre bs neg ++ posOut ds n point dec) := by
  have hg : (w.alloc (.cells #[x0, x1, x2, x3, x4, x5, x6, x7, x8, x9, x10, x11, x12, x13, x14, x15, x16, x17, x18, x19] 22)).heap[w.heap.size]? = some (.cells #[x0, x1, x2, x3, x4, x5, x6, x7, x8, x9, x10, x11, x12, x13, x14, x15, x16, x17, x18, x19] 22 (0, 0)) := heap_alloc_new w _
  have hi : (Try.prog.info? 22).map (·.size) = some 20 := by kernel_rfl
  have hA := ((Ap.refl hown).alloc (.cells #[x0, x1, x2, x3, x4, x5, x6, x7, x8, x9, x10, x11, x12, x13, x14, x15, x16, x17, x18, x19] 22)).alloc (.cells #[.bool neg, x0, x1, x2, x3, x4, x5, x6, x7, x8, x9, x10, x11, x12, x13, x14, x15, x16, x17, x18, x19, .int .i64 n, .int .i64 point] 30)
  have F0 : Hid (((w.alloc (.cells #[x0, x1, x2, x3, x4, x5, x6, x7, x8, x9, x10, x11, x12, x13, x14, x15, x16, x17, x18, x19] 22)).alloc (.cells #[.bool neg, x0, x1, x2, x3, x4, x5, x6, x7, x8, x9, x10, x11, x12, x13, x14, x15, x16, x17, x18, x19, .int .i64 n, .int .i64 point] 30)).cell? ⟨w.heap.size + 1, 0, none⟩ = some (.bool neg)) := cell_new _ _ _ _ 0 _ (by simp) (by simp)
  have F1 : Hid (∀ i, i < 20 → ((w.alloc (.cells #[x0, x1, x2, x3, x4, x5, x6, x7, x8, x9, x10, x11, x12, x13, x14, x15, x16, x17, x18, x19] 22)).alloc (.cells #[.bool neg, x0, x1, x2, x3, x4, x5, x6, x7, x8, x9, x10, x11, x12, x13, x14, x15, x16, x17, x18, x19, .int .i64 n, .int .i64 point] 30)).cell? ⟨w.heap.size + 1, 1 + i, none⟩ = some (.int .u8 (ds.getD i 0))) := by
    intro i hi
    exact cell_new _ _ _ _ (1 + i) _ (by simp) (mid_cell (.bool neg) (.int .i64 n) (.int .i64 point) _ #[x0, x1, x2, x3, x4, x5, x6, x7, x8, x9, x10, x11, x12, x13, x14, x15, x16, x17, x18, x19] _ (by simp) i (hcs.out i hi))
  have F2 : Hid (((w.alloc (.cells #[x0, x1, x2, x3, x4, x5, x6, x7, x8, x9, x10, x11, x12, x13, x14, x15, x16, x17, x18, x19] 22)).alloc (.cells #[.bool neg, x0, x1, x2, x3, x4, x5, x6, x7, x8, x9, x10, x11, x12, x13, x14, x15, x16, x17, x18, x19, .int .i64 n, .int .i64 point] 30)).cell? ⟨w.heap.size + 1, 21, none⟩ = some (.int .i64 n)) := cell_new _ _ _ _ 21 _ (by simp) (by simp)
  have F3 : Hid (((w.alloc (.cells #[x0, x1, x2, x3, x4, x5, x6, x7, x8, x9, x10, x11, x12, x13, x14, x15, x16, x17, x18, x19] 22)).alloc (.cells #[.bool neg, x0, x1, x2, x3, x4, x5, x6, x7, x8, x9, x10, x11, x12, x13, x14, x15, x16, x17, x18, x19, .int .i64 n, .int .i64 point] 30)).cell? ⟨w.heap.size + 1, 22, none⟩ = some (.int .i64 point)) := cell_new _ _ _ _ 22 _ (by simp) (by simp)
  have hR : v.ownBlock ≠ some (w.heap.size + 1) := by
    intro e
    have := World.ownsRow.lt hown _ e
    omega
  go_enter Try.func6, Try.ntmps6
  go_wp2_with (refine wpList_load_row rfl 22 _ rfl w.heap.size rfl 22 _ (0, 0) _ hg Try.underlying22 rfl hi ?_)
  refine (pos_any (w.heap.size + 1) v bs ds neg n point dec _ hA.own hR ?_ ?_ ?_ ?_ hds h1 h2 hp1 hp2 hdec hb).mono ?_
  · exact F0.out
  · exact F1
  · exact F2.out
  · exact F3.out
  rintro e w' ⟨v', rfl, h⟩
  have hA2 := hA.trans h
  go_wp2
  go_ret
  exact ⟨v', rfl, hA2⟩

theorem zz_any (cs : Array Value) (v : Value) (bs ds : List Int) (neg : Bool) (n point dec : Int) (w : World) (hown : Own w v bs) (hsz : cs.size = 20)
    (hcs : Hid (∀ i : Nat, i < 20 → cs[i]? = some (.int .u8 (ds.getD i 0))))
    (hds : Hid (ds.length = 20)) (h1 : 1 ≤ n) (h2 : n ≤ 20) (hp1 : -65536 ≤ point) (hp2 : point ≤ 65536) (hdec : dec ≤ 65536) (hb : bs.length ≤ 1048576) :
    Calls Try.prog 6 #[.bool neg, .agg cs, .int .i64 n, .int .i64 point, v, .int .i64 dec] w fun e w' => ∃ v', e = .returned v' ∧ Ap w v w' v' (pre bs neg ++ posOut ds n point dec) := by
  obtain ⟨x0, x1, x2, x3, x4, x5, x6, x7, x8, x9, x10, x11, x12, x13, x14, x15, x16, x17, x18, x19, rfl⟩ := arr20 cs hsz
  exact zz_at x0 x1 x2 x3 x4 x5 x6 x7 x8 x9 x10 x11 x12 x13 x14 x15 x16 x17 x18 x19 v bs ds neg n point dec w hown hcs hds h1 h2 hp1 hp2 hdec hb
end Go.Proofs.Qxb6623330a
