/- THE PLAIN LAW: two four-word magnitudes, compared from the top word down, and subtracted from the bottom word up. No Go in sight. -/
import Derived.Test.Qxb6623354aRows
import Derived.WalkKit
import Derived.Laws.BitsAllLaws
namespace Go.Proofs.Qxb6623354a
open Go.RowKit

/-- A word. -/
def Word (x : Int) : Prop := 0 ≤ x ∧ x < 18446744073709551616

/-- The first k words compared, the highest first: -1, 0 or 1. -/
def cmpTo (x y : Nat → Int) : Nat → Int
  | 0 => 0
  | k + 1 => if x k < y k then -1 else if y k < x k then 1 else cmpTo x y k

theorem cmpTo_anti (x y : Nat → Int) (k : Nat) : cmpTo y x k = - cmpTo x y k := by
  induction k with
  | zero => rfl
  | succ k ih =>
    simp only [cmpTo]
    by_cases h1 : x k < y k
    · rw [if_neg (show ¬ y k < x k by omega), if_pos h1, if_pos h1]; rfl
    · by_cases h2 : y k < x k
      · rw [if_pos h2, if_neg h1, if_pos h2]
      · rw [if_neg h2, if_neg h1, if_neg h1, if_neg h2, ih]

theorem cmpTo_range (x y : Nat → Int) (k : Nat) : cmpTo x y k = -1 ∨ cmpTo x y k = 0 ∨ cmpTo x y k = 1 := by
  induction k with
  | zero => exact .inr (.inl rfl)
  | succ k ih =>
    simp only [cmpTo]
    split
    · exact .inl rfl
    · split
      · exact .inr (.inr rfl)
      · exact ih

theorem cmpTo_lt {x y : Nat → Int} {k : Nat} (h : x k < y k) : cmpTo x y (k + 1) = -1 := if_pos h
theorem cmpTo_gt {x y : Nat → Int} {k : Nat} (h : y k < x k) : cmpTo x y (k + 1) = 1 := by simp only [cmpTo]; rw [if_neg (by omega), if_pos h]
theorem cmpTo_eq {x y : Nat → Int} {k : Nat} (h : x k = y k) : cmpTo x y (k + 1) = cmpTo x y k := by simp only [cmpTo]; rw [if_neg (by omega), if_neg (by omega)]

theorem or_word {a b : Int} (ha : Word a) (hb : Word b) : Word (bits .or .u64 a b) ∧ (bits .or .u64 a b = 0 ↔ a = 0 ∧ b = 0) := by
  obtain ⟨a1, a2⟩ := ha
  obtain ⟨b1, b2⟩ := hb
  rw [u64_or a b a1 a2 b1 b2]
  have hlt : a.toNat ||| b.toNat < 2 ^ 64 := Nat.or_lt_two_pow (by omega) (by omega)
  refine ⟨⟨by omega, by omega⟩, ?_⟩
  constructor
  · intro h
    have h' : a.toNat ||| b.toNat = 0 := by omega
    have := Nat.or_eq_zero_iff.1 h'
    omega
  · rintro ⟨rfl, rfl⟩
    rfl

theorem word_wrap (n : Int) : Word (IntKind.u64.wrap n) := by
  rw [IntKind.wrap_u64]
  exact ⟨by omega, by omega⟩

/-- One word's difference, no borrow coming in: none where the words are equal. -/
theorem diff0 {a b : Int} (ha : Word a) (hb : Word b) : IntKind.u64.wrap (a - b) = 0 ↔ a = b := by
  obtain ⟨_, _⟩ := ha
  obtain ⟨_, _⟩ := hb
  rw [IntKind.wrap_u64]
  omega
theorem diff00 {a b : Int} (ha : Word a) (hb : Word b) : IntKind.u64.wrap (IntKind.u64.wrap (a - b)) = 0 ↔ a = b := by
  obtain ⟨_, _⟩ := ha
  obtain ⟨_, _⟩ := hb
  rw [IntKind.wrap_u64, IntKind.wrap_u64]
  omega

/-- The running 'or' of the differences is 0 just where the words so far are equal. -/
theorem step_or {x y : Nat → Int} {k : Nat} {nz bo D : Int} (hnz : Word nz) (hD : Word D) (hb : bo = 1 ↔ cmpTo x y k = -1) (hz : nz = 0 ↔ cmpTo x y k = 0) (h01 : bo = 0 ∨ bo = 1) (h0 : bo = 0 → (D = 0 ↔ x k = y k)) :
    Word (bits .or .u64 nz D) ∧ (bits .or .u64 nz D = 0 ↔ cmpTo x y (k + 1) = 0) := by
  obtain ⟨o1, o2⟩ := or_word hnz hD
  refine ⟨o1, o2.trans ?_⟩
  by_cases hlt : x k < y k
  · rw [cmpTo_lt hlt]
    constructor
    · rintro ⟨h1, h2⟩
      have hc := hz.1 h1
      rcases h01 with e | e
      · have := (h0 e).1 h2; omega
      · have := hb.1 e; omega
    · intro h; omega
  · by_cases hgt : y k < x k
    · rw [cmpTo_gt hgt]
      constructor
      · rintro ⟨h1, h2⟩
        have hc := hz.1 h1
        rcases h01 with e | e
        · have := (h0 e).1 h2; omega
        · have := hb.1 e; omega
      · intro h; omega
    · have he : x k = y k := by omega
      rw [cmpTo_eq he]
      constructor
      · rintro ⟨h1, _⟩
        exact hz.1 h1
      · intro hc
        have e : bo = 0 := by
          rcases h01 with e | e
          · exact e
          · have := hb.1 e; omega
        exact ⟨hz.2 hc, (h0 e).2 he⟩
end Go.Proofs.Qxb6623354a
