/- THE ROW: 'Rows.FnAppendPositionalDigitByPlaceSaid'. -/
import Derived.Test.Qxb6623330aMain
import Derived.ProofKit
import Derived.OpenShut
import Derived.ShutString
import Derived.ChangeOld
namespace Go.Proofs.Qxb6623330a
open Go.ChangeShapes Go.WideShapes Go.ChangeAt Go.RowKit

theorem Try.own : ownKnob Try.prog.godebug = none := by kernel_rfl
theorem Try.laidOut : laidOutB Try.prog = true := by kernel_rfl
theorem Try.cells22 : Try.prog.cellsOf 22 = 20 := by kernel_rfl
theorem Try.cells5 : Try.prog.cellsOf 5 = 1 := by kernel_rfl

/-- Where one of the law's own guards says no, the law returns true at once. -/
theorem early (neg : Bool) (cs : Array Value) (n point dec : Int) (a : Option Addr) (len cap : Nat) (w : World) (hsz : cs.size = 20) (hm : len ≤ maxLen)
    (h : 1048576 < len ∨ (len ≤ 1048576 ∧ (n < 1 ∨ (1 ≤ n ∧ (20 < n ∨ (n ≤ 20 ∧ (point < -65536 ∨ (-65536 ≤ point ∧ (65536 < point ∨ (point ≤ 65536 ∧ 65536 < dec)))))))))) :
    Calls Try.prog 3 #[.bool neg, .agg cs, .int .i64 n, .int .i64 point, .slice a len cap, .int .i64 dec] w fun e w' => e = .returned (.bool true) ∧ Below w.heap.size w w' := by
  have hg : (w.alloc (.cells cs 22)).heap[w.heap.size]? = some (.cells cs 22 (0, 0)) := heap_alloc_new w _
  have hi : (Try.prog.info? 22).map (·.size) = some cs.size := by rw [hsz]; kernel_rfl
  have fin : Below w.heap.size w ((w.alloc (.cells cs 22)).alloc (.cells cs 22)) := ((Below.refl _ _).alloc (Nat.le_refl _) _).alloc (by simp) _
  rcases h with h | ⟨h, h | ⟨h1, h | ⟨h2, h | ⟨h3, h | ⟨h4, h5⟩⟩⟩⟩⟩
  · have hd : decide (len ≤ 1048576) = false := decide_eq_false (by omega)
    go_enter Try.func3, Try.ntmps3
    go_wp2_with (first
      | (go_at_call 4; refine (bytes_any neg cs n point dec a len cap _ hm).mono ?_; rintro e w1 ⟨rfl, rfl⟩)
      | (refine wpList_load_row rfl 22 _ rfl w.heap.size rfl 22 cs (0, 0) _ hg Try.underlying22 rfl hi ?_))
    go_ret
    exact ⟨rfl, fin⟩
  all_goals
    have hd : decide (len ≤ 1048576) = true := decide_eq_true (by omega)
    go_enter Try.func3, Try.ntmps3
    go_wp2_with (first
      | (go_at_call 4; refine (bytes_any neg cs n point dec a len cap _ hm).mono ?_; rintro e w1 ⟨rfl, rfl⟩)
      | (refine wpList_load_row rfl 22 _ rfl w.heap.size rfl 22 cs (0, 0) _ hg Try.underlying22 rfl hi ?_))
    go_ret
    exact ⟨rfl, fin⟩

theorem walk (neg : Bool) (cs : Array Value) (ds : List Int) (n point dec : Int) (a : Option Addr) (len cap : Nat) (zs : List Int) (w : World) (hrow : IsRow .u8 w a len cap zs)
    (hsz : cs.size = 20) (hcs : ∀ i : Nat, i < 20 → cs[i]? = some (.int .u8 (ds.getD i 0))) (hds : ds.length = 20) (wd : (Lit.int .i64 dec).wf = true) :
    Calls Try.prog 3 #[.bool neg, .agg cs, .int .i64 n, .int .i64 point, .slice a len cap, .int .i64 dec] w fun e w' => e = .returned (.bool true) ∧ Below w.heap.size w w' := by
  have hm : len ≤ maxLen := by
    rcases hrow with ⟨_, h, _, _⟩ | ⟨x, _, h1, h2, _⟩
    · rw [h]; exact Nat.zero_le _
    · exact Nat.le_trans h1 h2
  have hd0 : -9223372036854775808 ≤ dec := by
    simp [Lit.wf, IntKind.min, IntKind.max, IntKind.signed, IntKind.bits] at wd
    omega
  by_cases h : len ≤ 1048576 ∧ 1 ≤ n ∧ n ≤ 20 ∧ -65536 ≤ point ∧ point ≤ 65536 ∧ dec ≤ 65536
  · obtain ⟨g1, g2, g3, g4, g5, g6⟩ := h
    refine main neg cs ds n point dec a len cap (zs.take len) w ?_ ?_ hsz hcs hds g1 g2 g3 g4 g5 hd0 g6
    · rcases hrow with ⟨h1, h2, h3, rfl⟩ | ⟨x, h1, _, _, _, hc, _⟩
      · exact .inl ⟨h1, h2, h3, by simp⟩
      · exact .inr ⟨x, h1, Lie.ofRow hc⟩
    · show (zs.take len).length = len
      rcases hrow with ⟨_, h2, _, h4⟩ | ⟨x, _, h2, _, h3, _⟩
      · rw [h2, h4]; rfl
      · simp; omega
  · exact early neg cs n point dec a len cap w hsz hm (by omega)

set_option maxRecDepth 100000 in
theorem lifted (os : Os) (started : os.Started) (H : Type) (enc : TypeId × Value → H) :
    ReturnsInHanded {} Try.checked os 3 .any (Rows.fnAppendPositionalDigitByPlaceSpec.pre6 enc Try.prog Try.f3 Rows.fnAppendPositionalDigitByPlaceRow.domain false) (Rows.fnAppendPositionalDigitByPlaceSpec.post enc Try.prog Try.f3 false true false false) := by
  refine returnsInHanded_of_change (C := Try.checked) Try.own started (by kernel_rfl) Try.func3
    (ChangeSpec.witness6 (enc := enc) (C := Try.checked) false ⟨#[], #[.bool false, .agg #[.int .u8 0, .int .u8 0, .int .u8 0, .int .u8 0, .int .u8 0, .int .u8 0, .int .u8 0, .int .u8 0, .int .u8 0, .int .u8 0, .int .u8 0, .int .u8 0, .int .u8 0, .int .u8 0, .int .u8 0, .int .u8 0, .int .u8 0, .int .u8 0, .int .u8 0, .int .u8 0], .int .i64 0, .int .i64 0, .slice none 0 0, .int .i64 0], []⟩ 8 (by kernel_rfl) (by kernel_rfl) (by kernel_rfl) (by kernel_rfl)) ?_
  intro W base args ds gs before hval0 hW hcnd _
  have hval : ∀ (j : Nat) t v, Try.f3.params[j]? = some t → args[j]? = some v → Value.okWide Try.prog W .any base t v := hval0
  have hW' := hW
  obtain ⟨p, q, hA0, hV, rfl, hfz, hnd⟩ := hW
  have hA : DataW.TrodAll enc Try.prog W 0 (fun _ => true) true Try.f3.params.toList args.toList ds p := hA0
  rw [Try.params3] at hA hval
  obtain ⟨v0, vs0, d0, ds0, p0, q0, hargs, rfl, rfl, h0, r0⟩ := trodAll_cons hA
  obtain ⟨v1, vs1, d1, ds1, p1, q1, rfl, rfl, rfl, h1, r1⟩ := trodAll_cons r0
  obtain ⟨v2, vs2, d2, ds2, p2, q2, rfl, rfl, rfl, h2, r2⟩ := trodAll_cons r1
  obtain ⟨v3, vs3, d3, ds3, p3, q3, rfl, rfl, rfl, h3, r3⟩ := trodAll_cons r2
  obtain ⟨v4, vs4, d4, ds4, p4, q4, rfl, rfl, rfl, h4, r4⟩ := trodAll_cons r3
  obtain ⟨v5, vs5, d5, ds5, p5, q5, rfl, rfl, rfl, h5, r5⟩ := trodAll_cons r4
  obtain ⟨rfl, rfl, rfl⟩ := trodAll_nil r5
  obtain rfl : args = #[v0, v1, v2, v3, v4, v5] := by cases args; simp_all
  obtain ⟨rfl, rfl⟩ := trodVars_none hV
  have k0 := h0
  have k1 := h1
  have k2 := h2
  have k3 := h3
  have k4 := h4
  have k5 := h5
  have lt0 : ∀ x ∈ p0, x.block < W.heap.size := by obtain ⟨m, hm⟩ := k0; exact DataW.trod_lt m _ _ _ hm
  have lt1 : ∀ x ∈ p1, x.block < W.heap.size := by obtain ⟨m, hm⟩ := k1; exact DataW.trod_lt m _ _ _ hm
  have lt2 : ∀ x ∈ p2, x.block < W.heap.size := by obtain ⟨m, hm⟩ := k2; exact DataW.trod_lt m _ _ _ hm
  have lt3 : ∀ x ∈ p3, x.block < W.heap.size := by obtain ⟨m, hm⟩ := k3; exact DataW.trod_lt m _ _ _ hm
  have lt4 : ∀ x ∈ p4, x.block < W.heap.size := by obtain ⟨m, hm⟩ := k4; exact DataW.trod_lt m _ _ _ hm
  have lt5 : ∀ x ∈ p5, x.block < W.heap.size := by obtain ⟨m, hm⟩ := k5; exact DataW.trod_lt m _ _ _ hm
  obtain ⟨neg, rfl⟩ := okWide_bool Try.underlying4 (hval 0 4 v0 rfl rfl)
  obtain ⟨cs, rfl, hsz, _⟩ : ∃ cs, v1 = .agg cs ∧ cs.size = Try.prog.cellsOf 22 ∧ Row.okWide Try.prog W .any base 22 cs := by
    have := hval 1 22 v1 rfl rfl
    simpa [Value.okWide, Try.underlying22] using this
  rw [Try.cells22] at hsz
  obtain ⟨n, rfl⟩ := okWide_int Try.underlying3 (hval 2 3 v2 rfl rfl)
  obtain ⟨point, rfl⟩ := okWide_int Try.underlying3 (hval 3 3 v3 rfl rfl)
  obtain ⟨a, len, cap, rfl⟩ := okWide_slice Try.underlying23 (hval 4 23 v4 rfl rfl)
  obtain ⟨dec, wd⟩ : ∃ dec, v5 = .int .i64 dec ∧ (Lit.int .i64 dec).wf = true := by
    obtain ⟨x, hx, _, _, wx⟩ := open_int Try.underlying3 (hval 5 3 v5 rfl rfl) h5
    exact ⟨x, hx, wx⟩
  obtain ⟨rfl, wd⟩ := wd
  have hcs : ∀ i : Nat, i < 20 → cs[i]? = some (.int .u8 ((cs.toList.map intOf).getD i 0)) := by
    intro i hi
    obtain ⟨fuel, hf⟩ := h1
    obtain ⟨xs, m, _, _, hl, hxl, hel⟩ := DataW.trod_array Try.underlying22 hf
    have he := hel i hi
    rw [Try.cells5, Nat.mul_one] at he
    obtain ⟨y, hy⟩ : ∃ y, xs[i]? = some y := ⟨xs[i]'(by omega), List.getElem?_eq_getElem (by omega)⟩
    rw [hy] at he
    obtain ⟨x, ex, _, _⟩ := DataW.trod_int Try.underlying5 he
    have e2 : cs.toList[i]? = some (.int .u8 x) := by
      have e3 := congrArg (fun l : List Value => l[0]?) ex
      simpa [Value.cells, List.getElem?_take, List.getElem?_drop] using e3
    have e4 : cs[i]? = some (.int .u8 x) := by simpa using e2
    rw [e4]
    simp [List.getD, e2, intOf]
  obtain ⟨zs, hrow⟩ : ∃ zs, IsRow .u8 W a len cap zs := by
    obtain ⟨fuel, hf⟩ := h4
    rcases open_ints Try.underlying23 Try.underlying5 (by kernel_rfl) hf with ⟨hcs, _⟩ | ⟨x, l, c, zs, hcs, _, hl, hm, hz, _, hcell, hwz⟩
    · simp [Value.cells] at hcs
      obtain ⟨rfl, rfl, rfl⟩ := hcs
      exact ⟨[], .inl ⟨rfl, rfl, rfl, rfl⟩⟩
    · simp [Value.cells] at hcs
      obtain ⟨rfl, rfl, rfl⟩ := hcs
      exact ⟨zs, .inr ⟨_, rfl, hl, hm, by simpa using hz, hcell, hwz⟩⟩
  clear hA0 hval0
  refine (walk neg cs (cs.toList.map intOf) n point dec a len cap zs W hrow hsz hcs (by simp [hsz]) wd).mono fun e W' ⟨he, bel⟩ => ?_
  subst he
  have c0 := Below.trod Try.laidOut (by kernel_rfl) (of_decide_eq_true (by kernel_rfl)) k0 bel lt0
  have c1 := Below.trod Try.laidOut (by kernel_rfl) (of_decide_eq_true (by kernel_rfl)) k1 bel lt1
  have c2 := Below.trod Try.laidOut (by kernel_rfl) (of_decide_eq_true (by kernel_rfl)) k2 bel lt2
  have c3 := Below.trod Try.laidOut (by kernel_rfl) (of_decide_eq_true (by kernel_rfl)) k3 bel lt3
  have c4 := Below.trod Try.laidOut (by kernel_rfl) (of_decide_eq_true (by kernel_rfl)) k4 bel lt4
  have c5 := Below.trod Try.laidOut (by kernel_rfl) (of_decide_eq_true (by kernel_rfl)) k5 bel lt5
  exact ⟨_, rfl, _, _, _, [], _, [], hW', trodAll_mk1 (shut_bool Try.underlying4 _), (trodAll_cons_mk c0 (trodAll_cons_mk c1 (trodAll_cons_mk c2 (trodAll_cons_mk c3 (trodAll_cons_mk c4 (trodAll_cons_mk c5 trodAll_mk0)))))), rfl, bel.frame _, fun h => by cases h⟩

theorem over : Rows.fnAppendPositionalDigitByPlaceRow.holds Try.pinned (OpenSpec.ofChange Rows.fnAppendPositionalDigitByPlaceSpec) :=
  OpenClaim.holds_of_wide 3 Try.f3 rfl rfl rfl rfl rfl rfl rfl ⟨rfl, rfl, rfl, rfl, rfl⟩ rfl rfl rfl rfl rfl (by kernel_rfl) Try.func3 (by kernel_rfl)
    (of_decide_eq_true (by kernel_rfl)) (by unfold Func.isWrapper; first | (rw [if_pos (by decide +kernel)]; kernel_rfl) | (rw [if_neg (by decide +kernel)]; exact ⟨rfl, rfl⟩))
    (fun os started H enc _ => lifted os started H enc)

/-- THE STATEMENT. -/
theorem proved : Rows.FnAppendPositionalDigitByPlaceSaid := over
end Go.Proofs.Qxb6623330a
