/- What the three ways of appendPositional share. -/
import Derived.Test.Qxb6623330aLaws
import Derived.Test.Qxb6623330aZeros
import Derived.Deep.DeepCutAuto
import Derived.Deep.CutBlock
import Derived.Deep.QuietTactic
import Derived.BigQuiet
namespace Go.Proofs.Qxb6623330a
open Go.RowKit

def sgn (neg : Bool) : List Int := if neg then [45] else []

/-- What stands behind the digits: zeros up to 'dec' places. -/
def tail (places dec : Int) : List Int := if places < dec then (if places = 0 then [46] else []) ++ List.replicate (dec - places).toNat 48 else []

/-- What has come in, and the sign. -/
def pre (bs : List Int) (neg : Bool) : List Int := bs ++ sgn neg
theorem pre_le (bs : List Int) (neg : Bool) : (pre bs neg).length ≤ bs.length + 1 := by cases neg <;> simp [pre, sgn]

theorem take_len {ds : List Int} {n : Nat} (h : Hid (ds.length = 20)) (hn : n ≤ 20) : (ds.take n).length = n := by have := h.out; simp; omega
theorem cut_len {ds : List Int} {lo m : Nat} (h : Hid (ds.length = 20)) (hn : lo + m ≤ 20) : ((ds.drop lo).take m).length = m := by have := h.out; simp; omega

theorem Lie.ofAp {w w1 : World} {v v1 : Value} {b1 ds : List Int} {R n : Nat} (hA : Ap w v w1 v1 b1) (hR : v.ownBlock ≠ some R) (cd : Hid (∀ i, i < 20 → w.cell? ⟨R, 1 + i, none⟩ = some (.int .u8 (ds.getD i 0)))) (hds : Hid (ds.length = 20)) (hn : n ≤ 20) :
    Lie w1 ⟨R, 1, none⟩ (ds.take n) := by
  have := Lie.of_cells (m := n) 0 (fun i hi => hA.cell hR (cd.out i hi)) hds.out (by omega)
  simpa using this

theorem Lie.ofApFrom {w w1 : World} {v v1 : Value} {b1 ds : List Int} {R m : Nat} (lo : Nat) (hA : Ap w v w1 v1 b1) (hR : v.ownBlock ≠ some R) (cd : Hid (∀ i, i < 20 → w.cell? ⟨R, 1 + i, none⟩ = some (.int .u8 (ds.getD i 0)))) (hds : Hid (ds.length = 20)) (hn : lo + m ≤ 20) :
    Lie w1 ⟨R, 1 + lo, none⟩ ((ds.drop lo).take m) :=
  Lie.of_cells lo (fun i hi => hA.cell hR (cd.out i hi)) hds.out hn

theorem Ap.drewN {w w1 : World} {v v1 : Value} {b1 : List Int} (h : Ap w v w1 v1 b1) (q : Nat) : Ap w v (w1.drewN q) v1 b1 :=
  h.trans ⟨h.own, ⟨rfl, rfl, rfl, Nat.le_refl _, fun _ _ _ => rfl⟩, .inl rfl⟩

theorem str_dot : Lib.strCells { data := #[48, 46] } = ([48, 46] : List Int).map (Value.int .u8) := rfl

end Go.Proofs.Qxb6623330a
