/- THE PLAIN LAW: what appendPositional writes is the number written place by place. No Go in sight. -/
import Derived.Test.Qxb6623330aPos
import Derived.Test.Qxb6623330aSmall
namespace Go.Proofs.Qxb6623330a
open Go.RowKit

/-- The digits for 10^(top-1) down to 10^(top-j). -/
def whole (ds : List Int) (n point : Int) (top j : Nat) : List Int := (List.range j).map fun (k : Nat) => digAt ds n point ((top : Int) - 1 - (k : Int))
/-- The digits for 10^-1 down to 10^-j. -/
def frac (ds : List Int) (n point : Int) (j : Nat) : List Int := (List.range j).map fun (k : Nat) => digAt ds n point (-((k : Int) + 1))

theorem whole_succ (ds : List Int) (n point : Int) (top j : Nat) : whole ds n point top (j + 1) = whole ds n point top j ++ [digAt ds n point ((top : Int) - 1 - (j : Int))] := by simp [whole, List.range_succ]
theorem frac_succ (ds : List Int) (n point : Int) (j : Nat) : frac ds n point (j + 1) = frac ds n point j ++ [digAt ds n point (-((j : Int) + 1))] := by simp [frac, List.range_succ]
theorem whole_len (ds : List Int) (n point : Int) (top j : Nat) : (whole ds n point top j).length = j := by simp [whole]
theorem frac_len (ds : List Int) (n point : Int) (j : Nat) : (frac ds n point j).length = j := by simp [frac]

/-- The point and what stands behind it. -/
def fracOut (ds : List Int) (n point : Int) (f : Nat) : List Int := if 0 < f then [46] ++ frac ds n point f else []

def topOf (point : Int) : Nat := if point < 1 then 1 else point.toNat
def fOf (n point dec : Int) : Nat := (if (if n - point < 0 then 0 else n - point) < dec then dec else (if n - point < 0 then 0 else n - point)).toNat

theorem ext_range (l : List Int) (m : Nat) (g : Nat → Int) (hl : l.length = m) (h : ∀ i (hi : i < l.length), l[i] = g i) : l = (List.range m).map g := by
  apply List.ext_getElem
  · simp [hl]
  · intro i h1 h2
    rw [h i h1]
    simp

theorem zeros_tail (a dec : Int) : (if a < dec then List.replicate (dec - a).toNat (48 : Int) else []) = List.replicate (dec - a).toNat 48 := by
  split
  · rfl
  · rw [show (dec - a).toNat = 0 by omega]; rfl

theorem law (ds : List Int) (n point dec : Int) (hds : ds.length = 20) (h1 : 1 ≤ n) (h2 : n ≤ 20) :
    posOut ds n point dec = whole ds n point (topOf point) (topOf point) ++ fracOut ds n point (fOf n point dec) := by
  obtain ⟨n, rfl⟩ := Int.eq_ofNat_of_zero_le (show 0 ≤ n by omega)
  unfold posOut
  split
  · rename_i hp
    obtain ⟨q, hq⟩ := Int.eq_ofNat_of_zero_le (show 0 ≤ -point by omega)
    obtain rfl : point = -(q : Int) := by omega
    have t1 : topOf (-(q : Int)) = 1 := by unfold topOf; rw [if_pos (by omega)]
    have e1 : (- -(q : Int)).toNat = q := by omega
    have e2 : (n : Int) - -(q : Int) = (n : Int) + q := by omega
    have w1 : whole ds n (-(q : Int)) 1 1 = [48] := by
      simp only [whole, List.range_succ, List.range_zero, List.nil_append, List.map_cons, List.map_nil]
      rw [digAt_out (by omega)]
    have tl : tail ((n : Int) + q) dec = List.replicate (dec - ((n : Int) + q)).toNat 48 := by
      unfold tail
      rw [if_neg (show ¬ ((n : Int) + q = 0) by omega), List.nil_append, zeros_tail]
    have hf : fOf n (-(q : Int)) dec = n + q + (dec - ((n : Int) + q)).toNat := by
      unfold fOf
      rw [if_neg (show ¬ ((n : Int) - -(q : Int) < 0) by omega)]
      split <;> omega
    rw [t1, w1, e1, e2, tl, hf, fracOut, if_pos (by omega), Int.toNat_natCast]
    rw [show ([48, 46] : List Int) = [48] ++ [46] from rfl, List.append_assoc]
    congr 2
    refine ext_range _ _ _ ?_ ?_
    · simp [hds]; omega
    · intro i hi
      by_cases g1 : i < q
      · rw [digAt_out (by omega), List.getElem_append_left (by simpa using g1)]
        simp
      · rw [List.getElem_append_right (by simpa using g1)]
        by_cases g2 : i - q < n
        · rw [digAt_in (i := i - q) (by omega) (by omega), List.getElem_append_left (by simp [hds]; omega)]
          simp [List.getD, show i - q < ds.length by omega]
        · rw [digAt_out (by omega), List.getElem_append_right (by simp [hds]; omega)]
          simp
  · rename_i hp
    obtain ⟨p, rfl⟩ := Int.eq_ofNat_of_zero_le (show 0 ≤ point by omega)
    have t1 : topOf (p : Int) = p := by unfold topOf; rw [if_neg (by omega)]; simp
    split
    · rename_i hnp
      have e1 : ((p : Int) - (n : Int)).toNat = p - n := by omega
      have hf : fOf n (p : Int) dec = dec.toNat := by
        unfold fOf
        by_cases hz : (n : Int) - (p : Int) < 0
        · rw [if_pos hz]; split <;> omega
        · rw [if_neg hz]; split <;> omega
      rw [t1, hf, e1, Int.toNat_natCast, ← List.append_assoc]
      congr 1
      · refine ext_range _ _ _ ?_ ?_
        · simp [hds]; omega
        · intro i hi
          by_cases g1 : i < n
          · rw [digAt_in (i := i) (by omega) (by omega), List.getElem_append_left (by simp [hds]; omega)]
            simp [List.getD, show i < ds.length by omega]
          · rw [digAt_out (by omega), List.getElem_append_right (by simp [hds]; omega)]
            simp
      · unfold tail fracOut
        by_cases hd : 0 < dec
        · rw [if_pos hd, if_pos rfl, if_pos (by omega)]
          congr 1
          refine ext_range _ _ _ (by simp) ?_
          intro i hi
          rw [digAt_out (by omega)]
          simp
        · rw [if_neg hd, if_neg (by omega)]
    · rename_i hnp
      have e1 : ((n : Int) - (p : Int)).toNat = n - p := by omega
      have tl : tail ((n : Int) - p) dec = List.replicate (dec - ((n : Int) - p)).toNat 48 := by
        unfold tail
        rw [if_neg (show ¬ ((n : Int) - p = 0) by omega), List.nil_append, zeros_tail]
      have hf : fOf n (p : Int) dec = n - p + (dec - ((n : Int) - p)).toNat := by
        unfold fOf
        rw [if_neg (show ¬ ((n : Int) - (p : Int) < 0) by omega)]
        split <;> omega
      rw [t1, hf, e1, tl, fracOut, if_pos (by omega), Int.toNat_natCast]
      congr 1
      · refine ext_range _ _ _ ?_ ?_
        · simp [hds]; omega
        · intro i hi
          have hi' : i < p := by simp at hi; omega
          rw [digAt_in (i := i) (by omega) (by omega)]
          simp [List.getD, show i < ds.length by omega]
      · congr 1
        refine ext_range _ _ _ ?_ ?_
        · simp [hds]; omega
        · intro i hi
          by_cases g1 : i < n - p
          · rw [digAt_in (i := p + i) (by omega) (by omega), List.getElem_append_left (by simp [hds]; omega)]
            simp [List.getD, show p + i < ds.length by omega]
          · rw [digAt_out (by omega), List.getElem_append_right (by simp [hds]; omega)]
            simp
end Go.Proofs.Qxb6623330a
