/-
  THE ROW Rows.FnEarliestIsEarlierNonzeroCommitSaid. The frame is the seat's own shell, made by program; the walks are ours.
-/
import Derived.Test.Qxb6623394aRows
import Derived.WalkKit
import Derived.ProofKit
import Derived.OpenShut
import Derived.ShutString
namespace Go.Proofs.Qxb6623394a.fnEarliestIsEarlierNonzeroCommit
open Go.ChangeShapes Go.WideShapes Go.ChangeAt Go.RowKit
open Go.ChangeMaps (open_string shut_string)
set_option linter.unusedVariables false      -- a walk need not use every 'w<i>' (that an integer argument fits its kind)

theorem own : ownKnob Try.prog.godebug = none := by kernel_rfl

/-! ### STEP 1: THE WALK: the Go text returns true. 'Grown w w'': the world has at most new blocks (Derived/RowKit3.lean). Part the cases AHEAD of 'go_enter' where a test parts the walk; take each callee by a contract of your own. -/
theorem walk (a0 : Int) (a1 : Int) (w0 : (Lit.int .u64 a0).wf = true) (w1 : (Lit.int .u64 a1).wf = true) (w : World) :
    Calls Try.prog 3 #[.int .u64 a0, .int .u64 a1] w fun e w' => e = .returned (.bool true) ∧ Grown w w' := by
  have b0 : 0 ≤ a0 := by
    simp [Lit.wf, IntKind.min, IntKind.max, IntKind.signed, IntKind.bits] at w0
    omega
  have b1 : 0 ≤ a1 := by
    simp [Lit.wf, IntKind.min, IntKind.max, IntKind.signed, IntKind.bits] at w1
    omega
  clear w0 w1
  by_cases e0 : a0 = 0
  · subst e0
    by_cases e1 : a1 = 0
    · subst e1
      go_enter Try.func3, Try.ntmps3
      go_wp2
      go_ret
      exact ⟨rfl, Grown.refl _⟩
    · have p1 : 0 < a1 := by omega
      have q1 : (a1 == 0) = false := by simp [e1]
      have q2 : ((0 : Int) == a1) = false := by rw [beq_eq_false_iff_ne]; omega
      clear e1
      go_enter Try.func3, Try.ntmps3
      go_wp2
      go_ret
      exact ⟨rfl, Grown.refl _⟩
  · have p0 : 0 < a0 := by omega
    have r1 : (a0 == 0) = false := by simp [e0]
    have r2 : ((0 : Int) == a0) = false := by rw [beq_eq_false_iff_ne]; omega
    by_cases e1 : a1 = 0
    · subst e1
      clear e0
      go_enter Try.func3, Try.ntmps3
      go_wp2
      go_ret
      exact ⟨rfl, Grown.refl _⟩
    · have p1 : 0 < a1 := by omega
      have q1 : (a1 == 0) = false := by simp [e1]
      have q2 : ((0 : Int) == a1) = false := by rw [beq_eq_false_iff_ne]; omega
      clear e0 e1
      by_cases l0 : a0 < a1
      · have s1 : (a0 == a1) = false := by rw [beq_eq_false_iff_ne]; omega
        have s2 : (a1 == a0) = false := by rw [beq_eq_false_iff_ne]; omega
        have l1 : ¬ a1 < a0 := by omega
        go_enter Try.func3, Try.ntmps3
        go_wp2
        go_ret
        exact ⟨rfl, Grown.refl _⟩
      · by_cases l1 : a1 < a0
        · have s1 : (a0 == a1) = false := by rw [beq_eq_false_iff_ne]; omega
          have s2 : (a1 == a0) = false := by rw [beq_eq_false_iff_ne]; omega
          go_enter Try.func3, Try.ntmps3
          go_wp2
          go_ret
          exact ⟨rfl, Grown.refl _⟩
        · obtain rfl : a0 = a1 := by omega
          clear p1 q1 q2 b1 l1
          go_enter Try.func3, Try.ntmps3
          go_wp2
          go_ret
          exact ⟨rfl, Grown.refl _⟩

/-! ### THE ROW's STEP: WRITTEN OUT: LEAVE IT -/
set_option maxRecDepth 100000 in
theorem lifted (os : Os) (started : os.Started) (H : Type) (enc : TypeId × Value → H) :
    ReturnsInHanded {} Try.checked os 3 .any (Rows.fnEarliestIsEarlierNonzeroCommitSpec.pre6 enc Try.prog Try.f3 Rows.fnEarliestIsEarlierNonzeroCommitRow.domain false) (Rows.fnEarliestIsEarlierNonzeroCommitSpec.post enc Try.prog Try.f3 false true false false) := by
  refine returnsInHanded_of_change (C := Try.checked) own started (by kernel_rfl) Try.func3
    (ChangeSpec.witness6 (enc := enc) (C := Try.checked) false ⟨#[], #[.int .u64 0, .int .u64 0], []⟩ 8 (by kernel_rfl) (by kernel_rfl) (by kernel_rfl) (by kernel_rfl)) ?_
  intro W base args ds gs before hval0 hW hcnd _
  have hval : ∀ (j : Nat) t v, Try.f3.params[j]? = some t → args[j]? = some v → Value.okWide Try.prog W .any base t v := hval0
  have hW' := hW
  obtain ⟨p, q, hA0, hV, rfl, hfz, hnd⟩ := hW
  have hA : DataW.TrodAll enc Try.prog W 0 (fun _ => true) true Try.f3.params.toList args.toList ds p := hA0
  rw [Try.params3] at hA hval
  obtain ⟨v0, vs0, d0, ds0, p0, q0, hargs, rfl, rfl, h0, r0⟩ := trodAll_cons hA
  obtain ⟨v1, vs1, d1, ds1, p1, q1, rfl, rfl, rfl, h1, r1⟩ := trodAll_cons r0
  obtain ⟨rfl, rfl, rfl⟩ := trodAll_nil r1
  obtain rfl : args = #[v0, v1] := by cases args; simp_all
  obtain ⟨rfl, rfl⟩ := trodVars_none hV
  obtain ⟨a0, rfl, rfl, rfl, w0⟩ := open_int Try.underlying22 (hval 0 22 v0 rfl rfl) h0
  obtain ⟨a1, rfl, rfl, rfl, w1⟩ := open_int Try.underlying22 (hval 1 22 v1 rfl rfl) h1
  clear hA0 hval0
  simp only [List.append_nil] at hW'
  refine (walk a0 a1 w0 w1 W).mono fun e W' ⟨he, hg⟩ => ?_
  subst he
  exact ⟨_, rfl, post_of_same (pa := []) (pv := []) hW' (fun _ _ _ => (trodAll_cons_mk (shut_bool Try.underlying4 _) trodAll_mk0)) (fun sp _ => (trodAll_cons_mk (shut_int Try.underlying22 w0) (trodAll_cons_mk (shut_int Try.underlying22 w1) trodAll_mk0))) (fun _ _ => rfl) rfl
    (hg.frame _) hg.2.1 (ok_one (by kernel_rfl) rfl (okWide_bool_mk Try.underlying4 _))⟩

theorem over : Rows.fnEarliestIsEarlierNonzeroCommitRow.holds Try.pinned (OpenSpec.ofChange Rows.fnEarliestIsEarlierNonzeroCommitSpec) :=
  OpenClaim.holds_of_wide 3 Try.f3 rfl rfl rfl rfl rfl rfl rfl ⟨rfl, rfl, rfl, rfl, rfl⟩ rfl rfl rfl rfl rfl (by kernel_rfl) Try.func3 (by kernel_rfl)
    (of_decide_eq_true (by kernel_rfl)) (by unfold Func.isWrapper; first | (rw [if_pos (by decide +kernel)]; kernel_rfl) | (rw [if_neg (by decide +kernel)]; exact ⟨rfl, rfl⟩))
    (fun os started H enc _ => lifted os started H enc)

/-- ████ THE STATEMENT ████ -/
theorem proved : Rows.FnEarliestIsEarlierNonzeroCommitSaid :=
  over
end Go.Proofs.Qxb6623394a.fnEarliestIsEarlierNonzeroCommit
namespace Go.Proofs.Qxb6623394a

/-- THE STATEMENT, under a short name. -/
theorem earlier_proved : Rows.FnEarliestIsEarlierNonzeroCommitSaid := fnEarliestIsEarlierNonzeroCommit.proved
end Go.Proofs.Qxb6623394a
