/- rowsight.appendZeros: n bytes '0' behind what is owned. -/
import Derived.Test.Qxb6623330aKit
namespace Go.Proofs.Qxb6623330a
open Go.RowKit

theorem zeros_next {w wr w1 : World} {o : Obj} {v v1 v2 : Value} {bs : List Int} {j : Nat} (h : Ap w v wr v1 (bs ++ List.replicate j 48))
    (hown : w1.ownsRow 0 5 1 v2 ((bs ++ List.replicate j 48).length + 1) ((bs ++ List.replicate j 48).map (Value.int .u8) ++ [Value.int .u8 48]))
    (hgrow : (wr.alloc o).grownBy w1 v1.ownBlock) (hat : v2.ownBlock = v1.ownBlock ∨ v2.ownBlock = some (wr.heap.size + 1)) : Ap w v w1 v2 (bs ++ List.replicate (j + 1) 48) := by
  have := Ap.push (x := 48) h hown hgrow (by simpa using hat)
  rw [List.replicate_succ', ← List.append_assoc]
  exact this

set_option maxHeartbeats 400000 in
theorem zeros_any (v : Value) (bs : List Int) (k : Int) (w : World) (hown : Own w v bs) (h0 : 0 ≤ k) (hk : k ≤ 1000000) (hb : bs.length ≤ 3000000) :
    Calls Try.prog 9 #[v, .int .i64 k] w fun e w' => ∃ v', e = .returned v' ∧ Ap w v w' v' (bs ++ List.replicate k.toNat 48) := by
  obtain ⟨i0, hi, hz0, hz1, hz2⟩ := info_parts Try.info5
  have hA := Ap.refl hown
  go_enter Try.func9, Try.ntmps9
  go_wp2
  go_loopw [0, 6] (fun v' i wr => ∃ j : Nat, (j : Int) ≤ k ∧ i = .int .i64 j ∧ Ap w v wr v' (bs ++ List.replicate j 48)) (fun _ i _ => (k - intOf i).toNat)
  case atStart => exact ⟨0, by omega, rfl, by simpa using hA⟩
  case round =>
    obtain ⟨j, hj, rfl, hAp⟩ := hrel
    by_cases hlt : (j : Int) < k
    · go_wp2_with (first
        | (at_builtin; refine wpList_append_own_at _ rfl _ _ 23 rfl 0 5 i0 (.int .u8 0) 1 1 Try.underlying23 hi hz0 hz1 hz2 rfl (by decide) _ _ _ rfl (World.ownsRow.alloc hAp.own _) ⟨wr.heap.size, 0, none⟩ 1 1 [.int .u8 48] rfl rfl (cell_one_new _ _ _) (by simp [Value.oneCell']) ?c3 ?c4 ?c5 ?_)
        | go_in)
      case c3 => simp [maxLen]; omega
      case c4 => simp; omega
      case c5 => simp
      intro v' w1 hown' hgrow _ hat
      have R := zeros_next hAp (by simpa using hown') hgrow hat
      go_wp2
      go_roundw
      case rel => exact ⟨j + 1, by omega, by go_num, R⟩
      case measure => simp [intOf]; omega
    · go_wp2
      go_ret
      refine ⟨_, rfl, ?_⟩
      have : j = k.toNat := by omega
      subst this
      exact hAp

end Go.Proofs.Qxb6623330a
