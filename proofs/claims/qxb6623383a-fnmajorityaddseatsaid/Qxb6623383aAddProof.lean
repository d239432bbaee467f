/- THE ROW: 'Rows.FnMajorityAddSeatSaid'. -/
import Derived.Test.Qxb6623383aAdd
import Derived.Test.Qxb6623383aOpen
namespace Go.Proofs.Qxb6623383a.AddSeat
open Go.ChangeShapes Go.WideShapes Go.ChangeAt Go.RowKit

set_option maxRecDepth 100000 in
set_option maxHeartbeats 1000000 in
/-- Where one of the law's own guards says no, the law returns true at once. -/
theorem early (c at' : Int) (a : Option Addr) (len cap : Nat) (ss : List Seat) (s : Seat) (w : World) (h : Seats w a len ss) (hl : len ≤ maxLen)
    (g : (65536 : Int) < (len : Int) ∨ ((len : Int) ≤ 65536 ∧ ((1048576 : Int) < (s.id.size : Int) ∨ ((s.id.size : Int) ≤ 1048576 ∧ (1048576 : Int) < (s.ad.size : Int))))) :
    Calls Try.prog 4 #[.int .u64 c, .slice a len cap, .int .i64 at', .agg #[.string s.id, .string s.ad, .bool s.vo, .bool s.ab, .int .u64 s.inc]] w fun e w' => e = .returned (.bool true) ∧ Below w.heap.size w w' := by
  have hm : Hid (len ≤ maxLen) := hl
  clear hl
  have hb0 : Bel w s ((w.alloc (.cells #[.string s.id, .string s.ad, .bool s.vo, .bool s.ab, .int .u64 s.inc] 33)).alloc (.cells #[.string s.id, .string s.ad, .bool s.vo, .bool s.ab, .int .u64 s.inc] 33)) := (Below.refl _ _).alloc (by simp) _
  have hS0 := h.below ((Below.refl _ _).alloc (Nat.le_refl _) (.cells #[.string s.id, .string s.ad, .bool s.vo, .bool s.ab, .int .u64 s.inc] 33))
  rcases g with g | ⟨g1, g | ⟨g2, g⟩⟩
  all_goals
    go_enter Try.func4, Try.ntmps4
    go_wp2_with (go_at_call 10; refine (bytes2_any c at' a len cap ss s _ hS0 hm.out).mono ?_; rintro e w1 ⟨⟨r, rfl⟩, rfl⟩; cases r)
    all_goals
      go_ret
      exact ⟨rfl, hb0.all⟩

theorem walk (c at' : Int) (a : Option Addr) (len cap : Nat) (ss : List Seat) (s : Seat) (w : World) (h : Seats w a len ss) (hl : len ≤ maxLen) :
    Calls Try.prog 4 #[.int .u64 c, .slice a len cap, .int .i64 at', .agg #[.string s.id, .string s.ad, .bool s.vo, .bool s.ab, .int .u64 s.inc]] w fun e w' => e = .returned (.bool true) ∧ Below w.heap.size w w' := by
  by_cases g : len ≤ 65536 ∧ s.id.size ≤ 1048576 ∧ s.ad.size ≤ 1048576
  · exact add_main c at' a len cap ss s w h g.1 g.2.1 g.2.2
  · exact early c at' a len cap ss s w h hl (by omega)

set_option maxRecDepth 100000 in
theorem lifted (os : Os) (started : os.Started) (H : Type) (enc : TypeId × Value → H) :
    ReturnsInHanded {} Try.checked os 4 .any (Rows.fnMajorityAddSeatSpec.pre6 enc Try.prog Try.f4 Rows.fnMajorityAddSeatRow.domain false) (Rows.fnMajorityAddSeatSpec.post enc Try.prog Try.f4 false true false false) := by
  refine returnsInHanded_of_change (C := Try.checked) Try.own started (by kernel_rfl) Try.func4
    (ChangeSpec.witness6 (enc := enc) (C := Try.checked) false ⟨#[], #[.int .u64 0, .slice none 0 0, .int .i64 0, .agg #[.string ByteArray.empty, .string ByteArray.empty, .bool false, .bool false, .int .u64 0]], []⟩ 8 (by kernel_rfl) (by kernel_rfl) (by kernel_rfl) (by kernel_rfl)) ?_
  intro W base args ds gs before hval0 hW hcnd _
  have hval : ∀ (j : Nat) t v, Try.f4.params[j]? = some t → args[j]? = some v → Value.okWide Try.prog W .any base t v := hval0
  have hW' := hW
  obtain ⟨p, q, hA0, hV, rfl, hfz, hnd⟩ := hW
  have hA : DataW.TrodAll enc Try.prog W 0 (fun _ => true) true Try.f4.params.toList args.toList ds p := hA0
  rw [Try.params4] at hA hval
  obtain ⟨v0, vs0, d0, ds0, p0, q0, hargs, rfl, rfl, h0, r0⟩ := trodAll_cons hA
  obtain ⟨v1, vs1, d1, ds1, p1, q1, rfl, rfl, rfl, h1, r1⟩ := trodAll_cons r0
  obtain ⟨v2, vs2, d2, ds2, p2, q2, rfl, rfl, rfl, h2, r2⟩ := trodAll_cons r1
  obtain ⟨v3, vs3, d3, ds3, p3, q3, rfl, rfl, rfl, h3, r3⟩ := trodAll_cons r2
  obtain ⟨rfl, rfl, rfl⟩ := trodAll_nil r3
  obtain rfl : args = #[v0, v1, v2, v3] := by cases args; simp_all
  obtain ⟨rfl, rfl⟩ := trodVars_none hV
  have k0 := h0
  have k1 := h1
  have k2 := h2
  have k3 := h3
  have lt0 : ∀ x ∈ p0, x.block < W.heap.size := by obtain ⟨m, hm⟩ := k0; exact DataW.trod_lt m _ _ _ hm
  have lt1 : ∀ x ∈ p1, x.block < W.heap.size := by obtain ⟨m, hm⟩ := k1; exact DataW.trod_lt m _ _ _ hm
  have lt2 : ∀ x ∈ p2, x.block < W.heap.size := by obtain ⟨m, hm⟩ := k2; exact DataW.trod_lt m _ _ _ hm
  have lt3 : ∀ x ∈ p3, x.block < W.heap.size := by obtain ⟨m, hm⟩ := k3; exact DataW.trod_lt m _ _ _ hm
  obtain ⟨c, rfl⟩ := okWide_int Try.underlying22 (hval 0 22 v0 rfl rfl)
  obtain ⟨a, len, cap, rfl⟩ := okWide_slice Try.underlying23 (hval 1 23 v1 rfl rfl)
  obtain ⟨at', rfl⟩ := okWide_int Try.underlying3 (hval 2 3 v2 rfl rfl)
  obtain ⟨cs, rfl, _⟩ := okWide_struct Try.underlying33 (hval 3 33 v3 rfl rfl)
  obtain ⟨hl, ss, hS⟩ := seats_of_trod h1
  obtain ⟨s, hs⟩ : ∃ s : Seat, cs = s.cells.toArray := by
    obtain ⟨fuel, hf⟩ := h3
    obtain ⟨s, e⟩ := seat_of_trod hf
    exact ⟨s, by apply Array.ext'; simpa [Value.cells] using e⟩
  subst hs
  clear hA0 hval0
  refine (walk c at' a len cap ss s W hS hl).mono fun e W' ⟨he, bel⟩ => ?_
  subst he
  have c0 := Below.trod Try.laidOut (by kernel_rfl) (of_decide_eq_true (by kernel_rfl)) k0 bel lt0
  have c1 := Below.trod Try.laidOut (by kernel_rfl) (of_decide_eq_true (by kernel_rfl)) k1 bel lt1
  have c2 := Below.trod Try.laidOut (by kernel_rfl) (of_decide_eq_true (by kernel_rfl)) k2 bel lt2
  have c3 := Below.trod Try.laidOut (by kernel_rfl) (of_decide_eq_true (by kernel_rfl)) k3 bel lt3
  exact ⟨_, rfl, _, _, _, [], _, [], hW', trodAll_mk1 (shut_bool Try.underlying4 _), (trodAll_cons_mk c0 (trodAll_cons_mk c1 (trodAll_cons_mk c2 (trodAll_cons_mk c3 trodAll_mk0)))), rfl, bel.frame _, fun h => by cases h⟩

theorem over : Rows.fnMajorityAddSeatRow.holds Try.pinned (OpenSpec.ofChange Rows.fnMajorityAddSeatSpec) :=
  OpenClaim.holds_of_wide 4 Try.f4 rfl rfl rfl rfl rfl rfl rfl ⟨rfl, rfl, rfl, rfl, rfl⟩ rfl rfl rfl rfl rfl (by kernel_rfl) Try.func4 (by kernel_rfl)
    (of_decide_eq_true (by kernel_rfl)) (by unfold Func.isWrapper; first | (rw [if_pos (by decide +kernel)]; kernel_rfl) | (rw [if_neg (by decide +kernel)]; exact ⟨rfl, rfl⟩))
    (fun os started H enc _ => lifted os started H enc)
end Go.Proofs.Qxb6623383a.AddSeat
namespace Go.Proofs.Qxb6623383a

/-- THE STATEMENT. -/
theorem addSeat_proved : Rows.FnMajorityAddSeatSaid := AddSeat.over
end Go.Proofs.Qxb6623383a
