/-
  THE ROW Rows.FnEarliestFoldFindsFirstCommitSaid. The frame is the seat's own shell, made by program; the walks are ours.
-/
import Derived.Test.Qxb6623394aRows
import Derived.WalkKit
import Derived.ProofKit
import Derived.OpenShut
import Derived.ShutString
import Derived.ChangeOld
import Derived.Below
import Derived.Test.Qxb6623394aFold
namespace Go.Proofs.Qxb6623394a.fnEarliestFoldFindsFirstCommit
open Go.ChangeShapes Go.WideShapes Go.ChangeAt Go.RowKit
open Go.ChangeMaps (open_string shut_string)
set_option linter.unusedVariables false

theorem own : ownKnob Try.prog.godebug = none := by kernel_rfl
theorem laidOut : laidOutB Try.prog = true := by kernel_rfl

/-- WHAT THE WALK IS TOLD OF A SLICE OF INTEGERS THAT CAME IN: it is nil; or it leads to a row of 'cap' cells, the numbers 'zs' (the first 'len' are its elements, the rest its spare room), each fitting its kind. -/
def IsRow (k : IntKind) (w : World) (a : Option Addr) (len cap : Nat) (zs : List Int) : Prop :=
  (a = none ∧ len = 0 ∧ cap = 0 ∧ zs = []) ∨
  ∃ x, a = some x ∧ len ≤ cap ∧ cap ≤ maxLen ∧ zs.length = cap ∧ (∀ i, i < zs.length → w.cell? (x.add i) = some (.int k (zs.getD i 0))) ∧ ∀ n ∈ zs, (Lit.int k n).wf = true

set_option maxHeartbeats 1000000 in
theorem main (a : Option Addr) (len cap : Nat) (l : List Int) (w : World) (h : Nums w a len l) (hl : len ≤ 65536) :
    Calls Try.prog 4 #[.slice a len cap] w fun e w' => e = .returned (.bool true) ∧ Below w.heap.size w w' := by
  have hm : Hid (len ≤ maxLen) := by show len ≤ maxLen; unfold maxLen; omega
  have hd : decide (len ≤ 1048576) = true := decide_eq_true (by omega)
  go_enter Try.func4, Try.ntmps4
  go_wp2_with (go_at_call 6; refine (bytes_any a len cap _ hm.out).mono ?_; rintro e w1 ⟨rfl, rfl⟩)
  go_loop [3, 4] (fun v i => ∃ (k : Nat) (r : Int), k ≤ len ∧ i = .int .i64 k ∧ v = .int .u64 r ∧ Hid (First r (l.take k))) (fun _ i => len - (intOf i).toNat)
  case atStart => exact ⟨0, 0, Nat.zero_le _, rfl, rfl, First.nil⟩
  case round =>
    obtain ⟨k, r, hk, rfl, rfl, hF⟩ := hrel
    by_cases hlt : k < len
    · obtain ⟨b, o, c, rfl, hc, cc⟩ := h.at hlt
      have HN : Hid (First (earl r c) (l.take (k + 1))) := by show First _ _; rw [take_next hc]; exact hF.out.snoc
      have m0 : (0 : Int) ≤ (k : Int) := by omega
      have m1 : (k : Int) < (len : Int) := by omega
      go_wp2_with (go_at_call 5; refine (zz_any r c _).mono ?_; rintro e w1 ⟨rfl, rfl⟩)
      go_round
      case rel => exact ⟨k + 1, _, by omega, by go_num, rfl, HN⟩
      case measure => simp [intOf]; omega
    · have hF1 : Hid (First r l) := by
        have e : l.take k = l := List.take_of_length_le (by have := h.1; omega)
        show First r l
        rw [← e]; exact hF.out
      clear hF
      go_wp2
      go_loop [5, 6] (fun v i => ∃ (j : Nat) (s : Int), j ≤ len ∧ i = .int .i64 ((j : Int) - 1) ∧ v = .int .u64 s ∧ Hid (First s (l.drop j))) (fun _ i => (intOf i + 1).toNat)
      case atStart => exact ⟨len, 0, Nat.le_refl _, rfl, rfl, (show First 0 (l.drop len) by rw [List.drop_eq_nil_of_le (by have := h.1; omega)]; exact First.nil)⟩
      case round =>
        obtain ⟨j, s, hj, rfl, rfl, hB⟩ := hrel
        cases j with
        | zero =>
          have e : r = s := hF1.out.eq (by have := hB.out; rwa [List.drop_zero] at this)
          subst e
          go_wp2_with (go_at_call 7; refine (first_any r a len cap l _ h hm.out hF1.out).mono ?_; rintro e w1 ⟨rfl, rfl⟩)
          go_ret
          exact ⟨rfl, Below.refl _ _⟩
        | succ i =>
          have e1 : ((i + 1 : Nat) : Int) - 1 = (i : Int) := by omega
          rw [e1]
          obtain ⟨b, o, c, rfl, hc, cc⟩ := h.at (show i < len by omega)
          have HN : Hid (First (earl c s) (l.drop i)) := by show First _ _; rw [drop_next hc]; exact hB.out.cons
          have m0 : (0 : Int) ≤ (i : Int) := by omega
          have m1 : (i : Int) < (len : Int) := by omega
          go_wp2_with (go_at_call 5; refine (zz_any c s _).mono ?_; rintro e w1 ⟨rfl, rfl⟩)
          go_round
          case rel => exact ⟨i, _, by omega, by go_num, rfl, HN⟩
          case measure => simp [intOf]

set_option maxHeartbeats 1000000 in
theorem early (a : Option Addr) (len cap : Nat) (w : World) (hl : len ≤ maxLen) (hb : (65536 : Int) < (len : Int)) :
    Calls Try.prog 4 #[.slice a len cap] w fun e w' => e = .returned (.bool true) ∧ Below w.heap.size w w' := by
  have hm : Hid (len ≤ maxLen) := hl
  clear hl
  cases hd : decide (len ≤ 1048576)
  all_goals
    go_enter Try.func4, Try.ntmps4
    go_wp2_with (go_at_call 6; refine (bytes_any a len cap _ hm.out).mono ?_; rintro e w1 ⟨rfl, rfl⟩)
    go_ret
    exact ⟨rfl, Below.refl _ _⟩

/-! ### STEP 1: THE WALK: the Go text returns true, AND WRITES NOTHING THAT WAS THERE: 'Below w.heap.size w w'' (Derived/Below.lean: '.refl', '.alloc', '.drew', '.setCell' at a new block, '.trans'). Open each 'IsRow' by 'rcases' AHEAD of 'go_enter'; part every test ahead of the walk. -/
theorem walk (a0 : Option Addr) (len0 cap0 : Nat) (z0 : List Int) (w : World) (w0 : IsRow .u64 w a0 len0 cap0 z0) :
    Calls Try.prog 4 #[.slice a0 len0 cap0] w fun e w' => e = .returned (.bool true) ∧ Below w.heap.size w w' := by
  have hn : Nums w a0 len0 (z0.take len0) ∧ len0 ≤ maxLen := by
    rcases w0 with ⟨rfl, rfl, rfl, rfl⟩ | ⟨x, rfl, h1, h2, h3, hc, _⟩
    · exact ⟨⟨rfl, fun h => absurd h (by omega)⟩, Nat.zero_le _⟩
    · refine ⟨⟨by simp; omega, fun hpos => ?_⟩, Nat.le_trans h1 h2⟩
      obtain ⟨b, o, t⟩ := x
      have ht : t = none := by simpa [Addr.add] using World.cell?_spot (hc 0 (by omega))
      subst ht
      refine ⟨b, o, rfl, fun i hi => ?_⟩
      have := hc i (by omega)
      rw [Addr.add_lit] at this
      rw [this]
      simp [List.getD, hi]
  by_cases hb : (65536 : Int) < (len0 : Int)
  · exact early a0 len0 cap0 w hn.2 hb
  · exact main a0 len0 cap0 _ w hn.1 (by omega)

/-! ### THE ROW's STEP: WRITTEN OUT: LEAVE IT -/
set_option maxRecDepth 100000 in
theorem lifted (os : Os) (started : os.Started) (H : Type) (enc : TypeId × Value → H) :
    ReturnsInHanded {} Try.checked os 4 .any (Rows.fnEarliestFoldFindsFirstCommitSpec.pre6 enc Try.prog Try.f4 Rows.fnEarliestFoldFindsFirstCommitRow.domain false) (Rows.fnEarliestFoldFindsFirstCommitSpec.post enc Try.prog Try.f4 false true false false) := by
  refine returnsInHanded_of_change (C := Try.checked) own started (by kernel_rfl) Try.func4
    (ChangeSpec.witness6 (enc := enc) (C := Try.checked) false ⟨#[], #[.slice none 0 0], []⟩ 8 (by kernel_rfl) (by kernel_rfl) (by kernel_rfl) (by kernel_rfl)) ?_
  intro W base args ds gs before hval0 hW hcnd _
  have hval : ∀ (j : Nat) t v, Try.f4.params[j]? = some t → args[j]? = some v → Value.okWide Try.prog W .any base t v := hval0
  have hW' := hW
  obtain ⟨p, q, hA0, hV, rfl, hfz, hnd⟩ := hW
  have hA : DataW.TrodAll enc Try.prog W 0 (fun _ => true) true Try.f4.params.toList args.toList ds p := hA0
  rw [Try.params4] at hA hval
  obtain ⟨v0, vs0, d0, ds0, p0, q0, hargs, rfl, rfl, h0, r0⟩ := trodAll_cons hA
  obtain ⟨rfl, rfl, rfl⟩ := trodAll_nil r0
  obtain rfl : args = #[v0] := by cases args; simp_all
  obtain ⟨rfl, rfl⟩ := trodVars_none hV
  obtain ⟨a0, len0, cap0, rfl⟩ := okWide_slice Try.underlying25 (hval 0 25 v0 rfl rfl)
  have k0 := h0
  have lt0 : ∀ x ∈ p0, x.block < W.heap.size := by obtain ⟨m, hm⟩ := k0; exact DataW.trod_lt m _ _ _ hm
  obtain ⟨z0, w0⟩ : ∃ zs, IsRow .u64 W a0 len0 cap0 zs := by
    obtain ⟨fuel, hf⟩ := h0
    rcases open_ints Try.underlying25 Try.underlying22 (by kernel_rfl) hf with ⟨hcs, _⟩ | ⟨x, l, c, zs, hcs, _, hl, hm, hz, _, hcell, hwz⟩
    · simp [Value.cells] at hcs
      obtain ⟨rfl, rfl, rfl⟩ := hcs
      exact ⟨[], .inl ⟨rfl, rfl, rfl, rfl⟩⟩
    · simp [Value.cells] at hcs
      obtain ⟨rfl, rfl, rfl⟩ := hcs
      exact ⟨zs, .inr ⟨_, rfl, hl, hm, by simpa using hz, hcell, hwz⟩⟩
  clear hA0 hval0
  refine (walk a0 len0 cap0 z0 W w0).mono fun e W' ⟨he, bel⟩ => ?_
  subst he
  exact ⟨_, rfl, _, _, _, [], _, [], hW', trodAll_mk1 (shut_bool Try.underlying4 _), (trodAll_cons_mk (Below.trod laidOut (by kernel_rfl) (of_decide_eq_true (by kernel_rfl)) k0 bel lt0) trodAll_mk0), rfl, bel.frame _, fun h => by cases h⟩

theorem over : Rows.fnEarliestFoldFindsFirstCommitRow.holds Try.pinned (OpenSpec.ofChange Rows.fnEarliestFoldFindsFirstCommitSpec) :=
  OpenClaim.holds_of_wide 4 Try.f4 rfl rfl rfl rfl rfl rfl rfl ⟨rfl, rfl, rfl, rfl, rfl⟩ rfl rfl rfl rfl rfl (by kernel_rfl) Try.func4 (by kernel_rfl)
    (of_decide_eq_true (by kernel_rfl)) (by unfold Func.isWrapper; first | (rw [if_pos (by decide +kernel)]; kernel_rfl) | (rw [if_neg (by decide +kernel)]; exact ⟨rfl, rfl⟩))
    (fun os started H enc _ => lifted os started H enc)

/-- ████ THE STATEMENT ████ -/
theorem proved : Rows.FnEarliestFoldFindsFirstCommitSaid := over
end Go.Proofs.Qxb6623394a.fnEarliestFoldFindsFirstCommit
namespace Go.Proofs.Qxb6623394a

/-- THE STATEMENT, under a short name. -/
theorem fold_proved : Rows.FnEarliestFoldFindsFirstCommitSaid := fnEarliestFoldFindsFirstCommit.proved
end Go.Proofs.Qxb6623394a
