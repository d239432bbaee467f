/- Own bytes, and what an append onto them does: worlds and lists alone. -/
import Derived.Test.Qxb6623330aRows
import Derived.WalkKit
import Derived.WalkSpells
import Derived.StillTactics
import Derived.Laws.Pointers
import Derived.OwnWalk
import Derived.Below
import Derived.Maps.AppendAt
import Derived.Deep.AppendLies
namespace Go.Proofs.Qxb6623330a
open Go.RowKit

/-- The slice value v owns the bytes bs in world w. -/
def Own (w : World) (v : Value) (bs : List Int) : Prop := w.ownsRow 0 5 1 v bs.length (bs.map (Value.int .u8))

/-- From world w and slice v to world w' and slice v', which owns bs: nothing old but v's own row has turned; v' lies in v's row or in new memory. -/
structure Ap (w : World) (v : Value) (w' : World) (v' : Value) (bs : List Int) : Prop where
  own : Own w' v' bs
  grow : w.grownBy w' v.ownBlock
  lies : v'.ownBlock = v.ownBlock ∨ ∃ g, v'.ownBlock = some g ∧ w.heap.size ≤ g

theorem Ap.refl {w : World} {v : Value} {bs : List Int} (h : Own w v bs) : Ap w v w v bs := ⟨h, World.grownBy.refl _ _, .inl rfl⟩

theorem Ap.trans {w w1 w2 : World} {v v1 v2 : Value} {b1 b2 : List Int} (h : Ap w v w1 v1 b1) (k : Ap w1 v1 w2 v2 b2) : Ap w v w2 v2 b2 := by
  refine ⟨k.own, ⟨k.grow.os.trans h.grow.os, k.grow.tape.trans h.grow.tape, k.grow.output.trans h.grow.output, Nat.le_trans h.grow.size k.grow.size, ?_⟩, ?_⟩
  · intro i hi hne
    rw [k.grow.block i (Nat.lt_of_lt_of_le hi h.grow.size) ?_]
    · exact h.grow.block i hi hne
    · rcases h.lies with e | ⟨g, e, hg⟩
      · rw [e]; exact hne
      · rw [e]; intro hc; cases hc; omega
  · rcases k.lies with e | ⟨g, e, hg⟩
    · rw [e]; exact h.lies
    · exact .inr ⟨g, e, Nat.le_trans h.grow.size hg⟩

/-- A new block, and a draw, turn nothing that is owned. -/
theorem Ap.alloc {w w1 : World} {v v1 : Value} {b1 : List Int} (h : Ap w v w1 v1 b1) (o : Obj) : Ap w v (w1.alloc o) v1 b1 :=
  h.trans ⟨World.ownsRow.alloc h.own o, World.grownBy_alloc _ _ _, .inl rfl⟩
theorem grownBy_drew (w : World) (row : Option Nat) : w.grownBy w.drew row := ⟨rfl, rfl, rfl, Nat.le_refl _, fun _ _ _ => rfl⟩
theorem Ap.drew {w w1 : World} {v v1 : Value} {b1 : List Int} (h : Ap w v w1 v1 b1) : Ap w v w1.drew v1 b1 :=
  h.trans ⟨World.ownsRow.drew h.own, grownBy_drew _ _, .inl rfl⟩

/-- What an append by 'wpList_append_own_at' leaves, as one step. -/
theorem Ap.step {w w1 : World} {v v1 : Value} {bs news : List Int} {m : Nat} (hm : m = news.length) (hown : w1.ownsRow 0 5 1 v1 (bs.length + m) (bs.map (Value.int .u8) ++ news.map (Value.int .u8)))
    (hgrow : w.grownBy w1 v.ownBlock) (hat : v1.ownBlock = v.ownBlock ∨ v1.ownBlock = some w.heap.size) : Ap w v w1 v1 (bs ++ news) := by
  subst hm
  refine ⟨?_, hgrow, ?_⟩
  · unfold Own; rw [List.length_append, List.map_append]; exact hown
  · rcases hat with h | h
    · exact .inl h
    · exact .inr ⟨_, h, Nat.le_refl _⟩

/-- 'append(s, x)' of one byte behind the new block that holds it. -/
theorem Ap.push {w wr w1 : World} {o : Obj} {v v1 v2 : Value} {bs : List Int} {x : Int} (h : Ap w v wr v1 bs) (hown : w1.ownsRow 0 5 1 v2 (bs.length + 1) (bs.map (Value.int .u8) ++ [Value.int .u8 x]))
    (hgrow : (wr.alloc o).grownBy w1 v1.ownBlock) (hat : v2.ownBlock = v1.ownBlock ∨ v2.ownBlock = some (wr.alloc o).heap.size) : Ap w v w1 v2 (bs ++ [x]) :=
  (h.alloc o).trans (Ap.step (news := [x]) rfl hown hgrow hat)

/-- A block that is not v's own row stays. -/
theorem Ap.block {w w1 : World} {v v1 : Value} {bs : List Int} (h : Ap w v w1 v1 bs) {k : Nat} (hk : k < w.heap.size) (hne : v.ownBlock ≠ some k) : w1.heap[k]? = w.heap[k]? :=
  h.grow.block k hk (fun e => hne e.symm)

theorem Ap.below {w w1 : World} {v v1 : Value} {bs : List Int} (h : Ap w v w1 v1 bs) {B : Nat} (hB : B ≤ w.heap.size) (hv : ∀ k, v.ownBlock = some k → B ≤ k) : Below B w w1 :=
  (Below.refl B w).grown h.grow hB hv

/-- Bytes owned in v stay owned while another row grows. -/
theorem Own.kept {w w1 : World} {v u u1 : Value} {bs cs : List Int} (h : Own w v bs) (g : Ap w u w1 u1 cs) (hne : v.ownBlock = none ∨ v.ownBlock ≠ u.ownBlock) : Own w1 v bs :=
  World.ownsRow.kept h g.grow hne

theorem Try.info5 : (Try.prog.info? 5).map (fun i => (i.zero, i.size, i.bytes)) = some (some (.int .u8 0), 1, 1) := by kernel_rfl
end Go.Proofs.Qxb6623330a
