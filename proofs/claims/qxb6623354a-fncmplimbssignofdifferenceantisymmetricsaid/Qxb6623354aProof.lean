/- THE ROW: 'Rows.FnCmpLimbsSignOfDifferenceAntisymmetricSaid'. -/
import Derived.Test.Qxb6623354aWalks
import Derived.ProofKit
import Derived.OpenShut
import Derived.ChangeOld
import Derived.Below
namespace Go.Proofs.Qxb6623354a
open Go.ChangeShapes Go.WideShapes Go.ChangeAt Go.RowKit

theorem Try.own : ownKnob Try.prog.godebug = none := by kernel_rfl
theorem Try.laidOut : laidOutB Try.prog = true := by kernel_rfl
theorem Try.cells44 : Try.prog.cellsOf 44 = 4 := by kernel_rfl
theorem Try.cells25 : Try.prog.cellsOf 25 = 1 := by kernel_rfl

theorem word_of_wf {x : Int} (h : (Lit.int .u64 x).wf = true) : Word x := by
  simp [Lit.wf, IntKind.min, IntKind.max, IntKind.signed, IntKind.bits] at h
  exact ⟨by omega, by omega⟩

/-- Four words, out of the reading of what the pointer leads to. -/
theorem words {H : Type} {enc : TypeId × Value → H} {W : World} {base : Nat} {sp : Nat → Bool} {held : Bool} {fuel b off : Nat} {cs : List Value} {y : DataW H × List MemPlace}
    (hcell : ∀ i, i < Try.prog.cellsOf 44 → W.cell? ⟨b, off + i, none⟩ = cs[i]?) (hy : DataW.trod enc Try.prog W base sp held fuel 44 cs = some y) :
    ∃ x : Nat → Int, At W b off x ∧ ∀ i, i < 4 → Word (x i) := by
  obtain ⟨xs, m, _, _, hl, hxl, hel⟩ := DataW.trod_array Try.underlying44 hy
  rw [Try.cells44] at hcell hl
  have key : ∀ i, i < 4 → ∃ x, cs[i]? = some (.int .u64 x) ∧ Word x := by
    intro i hi
    have he := hel i hi
    rw [Try.cells25, Nat.mul_one] at he
    obtain ⟨z, hz⟩ : ∃ z, xs[i]? = some z := ⟨xs[i]'(by omega), List.getElem?_eq_getElem (by omega)⟩
    rw [hz] at he
    obtain ⟨x, ex, _, wx⟩ := DataW.trod_int Try.underlying25 he
    refine ⟨x, ?_, word_of_wf wx⟩
    have e3 := congrArg (fun l : List Value => l[0]?) ex
    simpa [List.getElem?_take, List.getElem?_drop] using e3
  refine ⟨fun i => match cs[i]? with | some (.int _ x) => x | _ => 0, ?_, ?_⟩
  · intro i hi
    obtain ⟨x, hx, _⟩ := key i hi
    rw [hcell i hi, hx]
    simp only [hx]
  · intro i hi
    obtain ⟨x, hx, wx⟩ := key i hi
    simp only [hx]
    exact wx

set_option maxRecDepth 100000 in
theorem lifted (os : Os) (started : os.Started) (H : Type) (enc : TypeId × Value → H) :
    ReturnsInHanded {} Try.checked os 3 .any (Rows.fnCmpLimbsSignOfDifferenceAntisymmetricSpec.pre6 enc Try.prog Try.f3 Rows.fnCmpLimbsSignOfDifferenceAntisymmetricRow.domain false) (Rows.fnCmpLimbsSignOfDifferenceAntisymmetricSpec.post enc Try.prog Try.f3 false true false false) := by
  refine returnsInHanded_of_change (C := Try.checked) Try.own started (by kernel_rfl) Try.func3
    (ChangeSpec.witness6 (enc := enc) (C := Try.checked) false ⟨#[], #[.pointer none, .pointer none], []⟩ 8 (by kernel_rfl) (by kernel_rfl) (by kernel_rfl) (by kernel_rfl)) ?_
  intro W base args ds gs before hval0 hW hcnd _
  have hval : ∀ (j : Nat) t v, Try.f3.params[j]? = some t → args[j]? = some v → Value.okWide Try.prog W .any base t v := hval0
  have hW' := hW
  obtain ⟨p, q, hA0, hV, rfl, hfz, hnd⟩ := hW
  have hA : DataW.TrodAll enc Try.prog W 0 (fun _ => true) true Try.f3.params.toList args.toList ds p := hA0
  rw [Try.params3] at hA hval
  obtain ⟨v0, vs0, d0, ds0, p0, q0, hargs, rfl, rfl, h0, r0⟩ := trodAll_cons hA
  obtain ⟨v1, vs1, d1, ds1, p1, q1, rfl, rfl, rfl, h1, r1⟩ := trodAll_cons r0
  obtain ⟨rfl, rfl, rfl⟩ := trodAll_nil r1
  obtain rfl : args = #[v0, v1] := by cases args; simp_all
  obtain ⟨rfl, rfl⟩ := trodVars_none hV
  have k0 := h0
  have k1 := h1
  have lt0 : ∀ x ∈ p0, x.block < W.heap.size := by obtain ⟨m, hm⟩ := k0; exact DataW.trod_lt m _ _ _ hm
  have lt1 : ∀ x ∈ p1, x.block < W.heap.size := by obtain ⟨m, hm⟩ := k1; exact DataW.trod_lt m _ _ _ hm
  have run : Calls Try.prog 3 #[v0, v1] W fun e w' => e = .returned (.bool true) ∧ Below W.heap.size W w' := by
    rcases open_ptr Try.underlying22 (by rw [Try.cells44]; omega) (hval 0 22 v0 rfl rfl) h0 with ⟨rfl, _, _⟩ | ⟨b1, o1, cs1, y1, f1, rfl, _, _, _, hc1, hy1⟩
    · obtain ⟨a1, rfl⟩ := okWide_pointer Try.underlying22 (hval 1 22 v1 rfl rfl)
      exact law_nil1 a1 W
    · rcases open_ptr Try.underlying22 (by rw [Try.cells44]; omega) (hval 1 22 v1 rfl rfl) h1 with ⟨rfl, _, _⟩ | ⟨b2, o2, cs2, y2, f2, rfl, _, _, _, hc2, hy2⟩
      · exact law_nil2 _ W
      · obtain ⟨x, hx, wx⟩ := words hc1 hy1
        obtain ⟨y, hy, wy⟩ := words hc2 hy2
        exact law_some b1 o1 b2 o2 x y W hx hy wx wy
  clear hA0 hval0
  refine run.mono fun e W' ⟨he, bel⟩ => ?_
  subst he
  have c0 := Below.trod Try.laidOut (by kernel_rfl) (of_decide_eq_true (by kernel_rfl)) k0 bel lt0
  have c1 := Below.trod Try.laidOut (by kernel_rfl) (of_decide_eq_true (by kernel_rfl)) k1 bel lt1
  exact ⟨_, rfl, _, _, _, [], _, [], hW', trodAll_mk1 (shut_bool Try.underlying4 _), (trodAll_cons_mk c0 (trodAll_cons_mk c1 trodAll_mk0)), rfl, bel.frame _, fun h => by cases h⟩

theorem over : Rows.fnCmpLimbsSignOfDifferenceAntisymmetricRow.holds Try.pinned (OpenSpec.ofChange Rows.fnCmpLimbsSignOfDifferenceAntisymmetricSpec) :=
  OpenClaim.holds_of_wide 3 Try.f3 rfl rfl rfl rfl rfl rfl rfl ⟨rfl, rfl, rfl, rfl, rfl⟩ rfl rfl rfl rfl rfl (by kernel_rfl) Try.func3 (by kernel_rfl)
    (of_decide_eq_true (by kernel_rfl)) (by unfold Func.isWrapper; first | (rw [if_pos (by decide +kernel)]; kernel_rfl) | (rw [if_neg (by decide +kernel)]; exact ⟨rfl, rfl⟩))
    (fun os started H enc _ => lifted os started H enc)

/-- THE STATEMENT. -/
theorem proved : Rows.FnCmpLimbsSignOfDifferenceAntisymmetricSaid := over
end Go.Proofs.Qxb6623354a
