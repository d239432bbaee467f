/- The walks: cmpLimbs, ZZCmpLimbs, zzSignOfDifference. -/
import Derived.Test.Qxb6623354aPlain
import Derived.WalkSpells
import Derived.StillTactics
import Derived.Laws.Pointers
import Derived.Deep.QuietTactic
import Derived.BigQuiet
namespace Go.Proofs.Qxb6623354a
open Go.RowKit

/-- Four words lie at the address. -/
def At (w : World) (b o : Nat) (x : Nat → Int) : Prop := ∀ i, i < 4 → w.cell? ⟨b, o + i, none⟩ = some (.int .u64 (x i))

theorem At.drewN {w : World} {b o : Nat} {x : Nat → Int} (h : At w b o x) (q : Nat) : At (w.drewN q) b o x := h

theorem dr_more (w : World) (q k : Nat) : ∃ n, (w.drewN q).drewN k = w.drewN n := ⟨_, World.drewN_drewN _ _ _⟩
theorem dr_more2 (w : World) (q k l : Nat) : ∃ n, ((w.drewN q).drewN k).drewN l = w.drewN n := ⟨_, by rw [World.drewN_drewN, World.drewN_drewN]⟩

set_option maxHeartbeats 1000000 in
/-- cmpLimbs. -/
theorem cmp_any (b1 o1 b2 o2 : Nat) (x y : Nat → Int) (w : World) (hx : At w b1 o1 x) (hy : At w b2 o2 y) :
    Calls Try.prog 6 #[.pointer (some ⟨b1, o1, none⟩), .pointer (some ⟨b2, o2, none⟩)] w fun e w' => e = .returned (.int .i64 (cmpTo x y 4)) ∧ ∃ q, w' = w.drewN q := by
  go_enter Try.func6, Try.ntmps6
  go_wp2
  go_loopw [5] (fun i wr => ∃ k q : Nat, k ≤ 4 ∧ i = .int .i64 ((k : Int) - 1) ∧ wr = w.drewN q ∧ Hid (cmpTo x y 4 = cmpTo x y k)) (fun i _ => (intOf i + 1).toNat)
  case atStart => exact ⟨4, 0, Nat.le_refl _, by go_num, rfl, rfl⟩
  case round =>
    obtain ⟨k, q, hk, rfl, rfl, hc⟩ := hrel
    cases k with
    | zero =>
      go_wp2
      go_ret
      exact ⟨by rw [hc.out]; rfl, _, rfl⟩
    | succ m =>
      have cx := hx m (by omega)
      have cy := hy m (by omega)
      have e1 : ((m + 1 : Nat) : Int) - 1 = (m : Int) := by omega
      rw [e1]
      have m0 : (0 : Int) ≤ (m : Int) := by omega
      have m4 : (m : Int) < 4 := by omega
      by_cases h1 : x m < y m
      · have hr := cmpTo_lt h1
        have HR : Hid (cmpTo x y (m + 1) = -1) := hr
        clear hr
        go_wp2
        go_quiet (fail)
        go_wp2
        go_ret
        exact ⟨by rw [hc.out, HR.out]; rfl, dr_more _ _ _⟩
      · by_cases h2 : y m < x m
        · have HR : Hid (cmpTo x y (m + 1) = 1) := cmpTo_gt h2
          go_wp2
          go_quiet (fail)
          go_wp2
          go_quiet (fail)
          go_wp2
          go_ret
          exact ⟨by rw [hc.out, HR.out]; rfl, dr_more2 _ _ _ _⟩
        · have HR : Hid (cmpTo x y (m + 1) = cmpTo x y m) := cmpTo_eq (by omega)
          go_wp2
          go_quiet (fail)
          go_wp2
          go_quiet (fail)
          go_wp2
          go_roundw
          case rel => exact ⟨m, _, by omega, by go_num, rfl, hc.out.trans HR.out⟩
          case measure => simp [intOf]

/-- ZZCmpLimbs hands on. -/
theorem zz_any (b1 o1 b2 o2 : Nat) (x y : Nat → Int) (w : World) (hx : At w b1 o1 x) (hy : At w b2 o2 y) :
    Calls Try.prog 5 #[.pointer (some ⟨b1, o1, none⟩), .pointer (some ⟨b2, o2, none⟩)] w fun e w' => e = .returned (.int .i64 (cmpTo x y 4)) ∧ ∃ q, w' = w.drewN q := by
  go_enter Try.func5, Try.ntmps5
  go_wp2_with (go_at_call 6; refine (cmp_any b1 o1 b2 o2 x y _ hx hy).mono ?_; rintro e w1 ⟨rfl, q, rfl⟩)
  go_ret
  exact ⟨rfl, _, rfl⟩

set_option maxHeartbeats 1000000 in
theorem sign_any (b1 o1 b2 o2 : Nat) (x y : Nat → Int) (w : World) (hx : At w b1 o1 x) (hy : At w b2 o2 y) (wx : ∀ i, i < 4 → Word (x i)) (wy : ∀ i, i < 4 → Word (y i)) :
    Calls Try.prog 4 #[.pointer (some ⟨b1, o1, none⟩), .pointer (some ⟨b2, o2, none⟩)] w fun e w' => e = .returned (.int .i64 (cmpTo x y 4)) ∧ w' = w := by
  go_enter Try.func4, Try.ntmps4
  go_wp2
  go_loop [5, 6, 7] (fun b z i => ∃ (k : Nat) (bo nz : Int), k ≤ 4 ∧ i = .int .i64 k ∧ b = .int .u64 bo ∧ z = .int .u64 nz ∧ Word nz ∧ (bo = 0 ∨ bo = 1) ∧ Hid (bo = 1 ↔ cmpTo x y k = -1) ∧ Hid (nz = 0 ↔ cmpTo x y k = 0)) (fun _ _ i => 4 - (intOf i).toNat)
  case atStart => exact ⟨0, 0, 0, by omega, rfl, rfl, rfl, ⟨by omega, by omega⟩, .inl rfl, (show _ ↔ _ by simp [cmpTo]), (show _ ↔ _ by simp [cmpTo])⟩
  case round =>
    obtain ⟨k, bo, nz, hk, rfl, rfl, rfl, hnz, hbo, hb, hz⟩ := hrel
    by_cases hlt : k < 4
    · have cx := hx k hlt
      have cy := hy k hlt
      have m0 : (0 : Int) ≤ (k : Int) := by omega
      have m4 : (k : Int) < 4 := by omega
      have ax := wx k hlt
      have ay := wy k hlt
      have AX : Hid (Word (x k)) := ax
      have AY : Hid (Word (y k)) := ay
      clear ax ay
      rcases hbo with rfl | rfl
      · by_cases h1 : x k < y k
        · go_wp2
          go_round
          case rel =>
            have S := step_or (D := IntKind.u64.wrap (IntKind.u64.wrap (x k - y k))) hnz (word_wrap _) hb hz (.inl rfl) (fun _ => diff00 AX.out AY.out)
            exact ⟨k + 1, _, _, by omega, by go_num, rfl, rfl, S.1, .inr rfl, (show _ ↔ _ by rw [cmpTo_lt h1]; simp), S.2⟩
          case measure => simp [intOf]; omega
        · by_cases h2 : x k = y k
          · have h3 : (x k == y k) = true := by simp [h2]
            go_wp2
            go_round
            case rel =>
              have S := step_or (D := 0) hnz ⟨by omega, by omega⟩ hb hz (.inl rfl) (fun _ => by simp [h2])
              exact ⟨k + 1, _, _, by omega, by go_num, rfl, rfl, S.1, .inl rfl, (show _ ↔ _ by rw [cmpTo_eq h2]; exact hb.out), S.2⟩
            case measure => simp [intOf]; omega
          · have h3 : (x k == y k) = false := by simp [h2]
            go_wp2
            go_round
            case rel =>
              have S := step_or (D := IntKind.u64.wrap (IntKind.u64.wrap (x k - y k))) hnz (word_wrap _) hb hz (.inl rfl) (fun _ => diff00 AX.out AY.out)
              exact ⟨k + 1, _, _, by omega, by go_num, rfl, rfl, S.1, .inl rfl, (show _ ↔ _ by rw [cmpTo_gt (by omega)]; simp), S.2⟩
            case measure => simp [intOf]; omega
      · by_cases h1 : x k < y k
        · go_wp2
          go_round
          case rel =>
            have S := step_or (D := IntKind.u64.wrap (IntKind.u64.wrap (x k - y k) - 1)) hnz (word_wrap _) hb hz (.inr rfl) (fun h => by cases h)
            exact ⟨k + 1, _, _, by omega, by go_num, rfl, rfl, S.1, .inr rfl, (show _ ↔ _ by rw [cmpTo_lt h1]; simp), S.2⟩
          case measure => simp [intOf]; omega
        · by_cases h2 : x k = y k
          · have h3 : (x k == y k) = true := by simp [h2]
            go_wp2
            go_round
            case rel =>
              have S := step_or (D := IntKind.u64.wrap (-1)) hnz (word_wrap _) hb hz (.inr rfl) (fun h => by cases h)
              exact ⟨k + 1, _, _, by omega, by go_num, rfl, rfl, S.1, .inr rfl, (show _ ↔ _ by rw [cmpTo_eq h2]; exact hb.out), S.2⟩
            case measure => simp [intOf]; omega
          · have h3 : (x k == y k) = false := by simp [h2]
            go_wp2
            go_round
            case rel =>
              have S := step_or (D := IntKind.u64.wrap (IntKind.u64.wrap (x k - y k) - 1)) hnz (word_wrap _) hb hz (.inr rfl) (fun h => by cases h)
              exact ⟨k + 1, _, _, by omega, by go_num, rfl, rfl, S.1, .inl rfl, (show _ ↔ _ by rw [cmpTo_gt (by omega)]; simp), S.2⟩
            case measure => simp [intOf]; omega
    · have e : k = 4 := by omega
      subst e
      rcases hbo with rfl | rfl
      · by_cases h0 : nz = 0
        · have h1 : (nz == 0) = true := by simp [h0]
          have H : Hid (cmpTo x y 4 = 0) := hz.out.1 h0
          clear h0
          go_wp2
          go_ret
          exact ⟨by rw [H.out]; rfl, rfl⟩
        · have h1 : (nz == 0) = false := by simp [h0]
          have H : Hid (cmpTo x y 4 = 1) := by
            show _ = _
            have n1 : ¬ cmpTo x y 4 = 0 := fun h => h0 (hz.out.2 h)
            have n2 : ¬ cmpTo x y 4 = -1 := fun h => by have := hb.out.2 h; omega
            have := cmpTo_range x y 4
            omega
          go_wp2
          go_ret
          exact ⟨by rw [H.out]; rfl, rfl⟩
      · have H : Hid (cmpTo x y 4 = -1) := hb.out.1 rfl
        go_wp2
        go_ret
        exact ⟨by rw [H.out]; rfl, rfl⟩

theorem cmp4_bd (x y : Nat → Int) : -1 ≤ cmpTo x y 4 ∧ cmpTo x y 4 ≤ 1 := by have := cmpTo_range x y 4; omega

/-- The law, both pointers not nil. -/
theorem law_some (b1 o1 b2 o2 : Nat) (x y : Nat → Int) (w : World) (hx : At w b1 o1 x) (hy : At w b2 o2 y) (wx : ∀ i, i < 4 → Word (x i)) (wy : ∀ i, i < 4 → Word (y i)) :
    Calls Try.prog 3 #[.pointer (some ⟨b1, o1, none⟩), .pointer (some ⟨b2, o2, none⟩)] w fun e w' => e = .returned (.bool true) ∧ Below w.heap.size w w' := by
  obtain ⟨c1, c2⟩ := cmp4_bd x y
  have ha : Hid (cmpTo y x 4 = - cmpTo x y 4) := cmpTo_anti x y 4
  go_enter Try.func3, Try.ntmps3
  go_wp2_with (go_at_call 4; refine (sign_any b1 o1 b2 o2 x y _ hx hy wx wy).mono ?_; rintro e w1 ⟨rfl, rfl⟩)
  refine (zz_any b1 o1 b2 o2 x y _ hx hy).mono ?_
  rintro e w1 ⟨rfl, q1, rfl⟩
  go_wp2_with fail
  refine (zz_any b2 o2 b1 o1 y x _ (hy.drewN q1) (hx.drewN q1)).mono ?_
  rintro e w2 ⟨rfl, q2, rfl⟩
  rw [ha.out]
  go_wp2
  go_ret
  exact ⟨rfl, ⟨rfl, rfl, rfl, Nat.le_refl _, fun _ _ => rfl⟩⟩

/-- The law, a pointer that is nil. -/
theorem law_nil1 (p : Option Addr) (w : World) : Calls Try.prog 3 #[.pointer none, .pointer p] w fun e w' => e = .returned (.bool true) ∧ Below w.heap.size w w' := by
  go_enter Try.func3, Try.ntmps3
  go_wp2
  go_ret
  exact ⟨rfl, Below.refl _ _⟩
theorem law_nil2 (p : Addr) (w : World) : Calls Try.prog 3 #[.pointer (some p), .pointer none] w fun e w' => e = .returned (.bool true) ∧ Below w.heap.size w w' := by
  go_enter Try.func3, Try.ntmps3
  go_wp2
  go_ret
  exact ⟨rfl, Below.refl _ _⟩
end Go.Proofs.Qxb6623354a
