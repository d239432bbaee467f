/- The fold: the plain law, and the walks of what FnEarliestFoldFindsFirstCommit calls. -/
import Derived.Test.Qxb6623394aRows
import Derived.WalkKit
import Derived.WalkSpells
import Derived.Below
namespace Go.Proofs.Qxb6623394a
open Go.RowKit

/-! ### THE PLAIN LAW -/
/-- The earlier of two commits, 0 for none. -/
def earl (a b : Int) : Int := if a = 0 ∨ (b ≠ 0 ∧ b < a) then b else a

/-- r is the least commit of the list that is not 0, or 0 where it has none. -/
def First (r : Int) (l : List Int) : Prop := (∀ c ∈ l, c ≠ 0 → r ≠ 0 ∧ r ≤ c) ∧ (r ≠ 0 → r ∈ l)

theorem First.nil : First 0 [] := ⟨(fun c h => by cases h), fun h => absurd rfl h⟩

theorem First.eq {r s : Int} {l : List Int} (h : First r l) (k : First s l) : r = s := by
  by_cases hr : r = 0
  · by_cases hs : s = 0
    · omega
    · exact absurd hr (h.1 s (k.2 hs) hs).1
  · have h1 := k.1 r (h.2 hr) hr
    have h2 := h.1 s (k.2 h1.1) h1.1
    omega

theorem First.snoc {r c : Int} {l : List Int} (h : First r l) : First (earl r c) (l ++ [c]) := by
  unfold earl
  split
  · rename_i hc
    refine ⟨fun x hx h0 => ?_, fun _ => by simp⟩
    rcases List.mem_append.1 hx with hx | hx
    · have := h.1 x hx h0
      rcases hc with hc | ⟨h1, h2⟩
      · exact absurd hc this.1
      · exact ⟨h1, by omega⟩
    · simp at hx
      subst hx
      exact ⟨h0, Int.le_refl _⟩
  · rename_i hc
    refine ⟨fun x hx h0 => ?_, fun h0 => by simp [h.2 h0]⟩
    rcases List.mem_append.1 hx with hx | hx
    · exact h.1 x hx h0
    · simp at hx
      subst hx
      exact ⟨fun e => hc (.inl e), by omega⟩

theorem First.cons {r c : Int} {l : List Int} (h : First r l) : First (earl c r) (c :: l) := by
  unfold earl
  split
  · rename_i hc
    refine ⟨fun x hx h0 => ?_, fun h0 => by simp [h.2 h0]⟩
    rcases List.mem_cons.1 hx with hx | hx
    · subst hx
      rcases hc with hc | ⟨h1, h2⟩
      · exact absurd hc h0
      · exact ⟨h1, by omega⟩
    · exact h.1 x hx h0
  · rename_i hc
    refine ⟨fun x hx h0 => ?_, fun _ => by simp⟩
    rcases List.mem_cons.1 hx with hx | hx
    · subst hx
      exact ⟨h0, Int.le_refl _⟩
    · have := h.1 x hx h0
      exact ⟨fun e => hc (.inl e), by omega⟩

/-! ### THE WALKS -/
theorem earl_0 (b : Int) : earl 0 b = b := if_pos (.inl rfl)
theorem earl_b {a b : Int} (h1 : b ≠ 0) (h2 : b < a) : earl a b = b := if_pos (.inr ⟨h1, h2⟩)
theorem earl_a {a b : Int} (h0 : a ≠ 0) (h : b = 0 ∨ ¬ b < a) : earl a b = a := if_neg (by omega)

/-- earliest. -/
theorem earliest_any (a b : Int) (w : World) : Calls Try.prog 8 #[.int .u64 a, .int .u64 b] w fun e w' => e = .returned (.int .u64 (earl a b)) ∧ w' = w := by
  by_cases e0 : a = 0
  · subst e0
    rw [earl_0]
    go_enter Try.func8, Try.ntmps8
    go_wp2
    go_ret
    exact ⟨rfl, rfl⟩
  · have q0 : (a == 0) = false := by simp [e0]
    by_cases e1 : b = 0
    · subst e1
      rw [earl_a e0 (.inl rfl)]
      clear e0
      go_enter Try.func8, Try.ntmps8
      go_wp2
      go_ret
      exact ⟨rfl, rfl⟩
    · have q1 : (b == 0) = false := by simp [e1]
      have q2 : (b != 0) = true := by simp [e1]
      by_cases l : b < a
      · rw [earl_b e1 l]
        clear e0 e1
        go_enter Try.func8, Try.ntmps8
        go_wp2
        go_ret
        exact ⟨rfl, rfl⟩
      · rw [earl_a e0 (.inr l)]
        clear e0 e1
        go_enter Try.func8, Try.ntmps8
        go_wp2
        go_ret
        exact ⟨rfl, rfl⟩

/-- ZZearliest hands on. -/
theorem zz_any (a b : Int) (w : World) : Calls Try.prog 5 #[.int .u64 a, .int .u64 b] w fun e w' => e = .returned (.int .u64 (earl a b)) ∧ w' = w := by
  go_enter Try.func5, Try.ntmps5
  go_wp2_with (go_at_call 8; refine (earliest_any a b _).mono ?_; rintro e w1 ⟨rfl, rfl⟩)
  go_ret
  exact ⟨rfl, rfl⟩

/-- zzBytes. -/
theorem bytes_any (a : Option Addr) (len cap : Nat) (w : World) (hl : len ≤ maxLen) : Calls Try.prog 6 #[.slice a len cap] w fun e w' => e = .returned (.bool (decide (len ≤ 1048576))) ∧ w' = w := by
  unfold maxLen at hl
  by_cases h : len ≤ 1048576
  · go_enter Try.func6, Try.ntmps6
    go_wp2
    go_ret
    exact ⟨by simp [h], rfl⟩
  · go_enter Try.func6, Try.ntmps6
    go_wp2
    go_ret
    exact ⟨by simp [h], rfl⟩

/-- The slice (a, len) leads to the numbers l. -/
def Nums (w : World) (a : Option Addr) (len : Nat) (l : List Int) : Prop := l.length = len ∧ (0 < len → ∃ b o, a = some ⟨b, o, none⟩ ∧ ∀ i, i < len → w.cell? ⟨b, o + i, none⟩ = some (.int .u64 (l.getD i 0)))

theorem Nums.at {w : World} {a : Option Addr} {len : Nat} {l : List Int} (h : Nums w a len l) {k : Nat} (hk : k < len) : ∃ b o c, a = some ⟨b, o, none⟩ ∧ l[k]? = some c ∧ w.cell? ⟨b, o + k, none⟩ = some (.int .u64 c) := by
  obtain ⟨b, o, ha, hc⟩ := h.2 (by omega)
  have hl : k < l.length := by have := h.1; omega
  refine ⟨b, o, l[k], ha, List.getElem?_eq_getElem hl, ?_⟩
  rw [hc k hk]
  simp [List.getD, hl]

theorem take_next {l : List Int} {k : Nat} {c : Int} (h : l[k]? = some c) : l.take (k + 1) = l.take k ++ [c] := by
  rw [List.take_add_one, h]; rfl
theorem drop_next {l : List Int} {k : Nat} {c : Int} (h : l[k]? = some c) : l.drop k = c :: l.drop (k + 1) := by
  obtain ⟨hk, e⟩ := List.getElem?_eq_some_iff.1 h
  rw [List.drop_eq_getElem_cons hk, e]

def anyOf (l : List Int) : Bool := l.any (fun c => c != 0)
def has (r : Int) (l : List Int) : Bool := l.any (fun c => c != 0 && c == r)
theorem any_snoc (l : List Int) (c : Int) : anyOf (l ++ [c]) = (anyOf l || c != 0) := by simp [anyOf]
theorem has_snoc (r : Int) (l : List Int) (c : Int) : has r (l ++ [c]) = (has r l || (c != 0 && c == r)) := by simp [has]

theorem First.none {r : Int} {l : List Int} (h : First r l) (ha : anyOf l = false) : r = 0 := by
  by_cases hr : r = 0
  · exact hr
  · have := h.2 hr
    simp [anyOf] at ha
    exact absurd (ha r this) hr
theorem First.some {r : Int} {l : List Int} (h : First r l) (ha : anyOf l = true) : r ≠ 0 ∧ has r l = true := by
  simp [anyOf] at ha
  obtain ⟨c, hc, h0⟩ := ha
  have hr := (h.1 c hc h0).1
  refine ⟨hr, ?_⟩
  simp only [has, List.any_eq_true]
  exact ⟨r, h.2 hr, by simp [hr]⟩

set_option maxHeartbeats 1000000 in
/-- isFirstCommit, at the least commit. -/
theorem first_any (r : Int) (a : Option Addr) (len cap : Nat) (l : List Int) (w : World) (h : Nums w a len l) (hl : len ≤ maxLen) (hF : First r l) :
    Calls Try.prog 7 #[.int .u64 r, .slice a len cap] w fun e w' => e = .returned (.bool true) ∧ w' = w := by
  unfold maxLen at hl
  go_enter Try.func7, Try.ntmps7
  go_wp2
  go_loop [5, 6, 7] (fun x f i => ∃ k : Nat, k ≤ len ∧ i = .int .i64 k ∧ x = .bool (anyOf (l.take k)) ∧ f = .bool (has r (l.take k))) (fun _ _ i => len - (intOf i).toNat)
  case atStart => exact ⟨0, Nat.zero_le _, rfl, rfl, rfl⟩
  case round =>
    obtain ⟨k, hk, rfl, rfl, rfl⟩ := hrel
    by_cases hlt : k < len
    · obtain ⟨b, o, c, rfl, hc, cc⟩ := h.at hlt
      have HA : Hid (anyOf (l.take (k + 1)) = (anyOf (l.take k) || c != 0)) := by show _ = _; rw [take_next hc, any_snoc]
      have HH : Hid (has r (l.take (k + 1)) = (has r (l.take k) || (c != 0 && c == r))) := by show _ = _; rw [take_next hc, has_snoc]
      have m0 : (0 : Int) ≤ (k : Int) := by omega
      have m1 : (k : Int) < (len : Int) := by omega
      generalize anyOf (l.take k) = A at *
      generalize has r (l.take k) = F at *
      have hmem : c ∈ l := List.mem_of_getElem? hc
      by_cases e0 : c = 0
      · subst e0
        go_wp2
        go_round
        case rel => exact ⟨k + 1, by omega, by go_num, by rw [HA.out]; simp, by rw [HH.out]; simp⟩
        case measure => simp [intOf]; omega
      · have q0 : (c == 0) = false := by simp [e0]
        have hle : ¬ c < r := by have := (hF.1 c hmem e0).2; omega
        by_cases e1 : c = r
        · have q1 : (c == r) = true := by simp [e1]
          have H2 : Hid ((c != 0) = true) := by show _ = _; simp [e0]
          have H3 : Hid ((c == r) = true) := q1
          clear e0 e1
          go_wp2
          go_round
          case rel => exact ⟨k + 1, by omega, by go_num, by rw [HA.out, H2.out, Bool.or_true], by rw [HH.out, H2.out, H3.out]; simp⟩
          case measure => simp [intOf]; omega
        · have q1 : (c == r) = false := by simp [e1]
          have H2 : Hid ((c != 0) = true) := by show _ = _; simp [e0]
          have H3 : Hid ((c == r) = false) := q1
          clear e0 e1
          go_wp2
          go_round
          case rel => exact ⟨k + 1, by omega, by go_num, by rw [HA.out, H2.out, Bool.or_true], by rw [HH.out, H2.out, H3.out]; simp⟩
          case measure => simp [intOf]; omega
    · have e : l.take k = l := List.take_of_length_le (by have := h.1; omega)
      rw [e]
      cases hA : anyOf l
      · have hr : r = 0 := hF.none hA
        subst hr
        clear hA
        go_wp2
        go_ret
        exact ⟨rfl, rfl⟩
      · obtain ⟨hr, hH⟩ := hF.some hA
        have q0 : (r == 0) = false := by simp [hr]
        have q1 : (r != 0) = true := by simp [hr]
        rw [hH]
        clear hA hH hr
        go_wp2
        go_ret
        exact ⟨rfl, rfl⟩
end Go.Proofs.Qxb6623394a
