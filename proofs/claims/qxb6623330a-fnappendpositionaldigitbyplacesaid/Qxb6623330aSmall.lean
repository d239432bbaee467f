/- The law's three small helpers: the bound on lengths, the digit at a place, two byte slices compared. -/
import Derived.Test.Qxb6623330aZeros
import Derived.WalkLawsBesides
import Derived.Deep.QuietTactic
import Derived.BigQuiet
namespace Go.Proofs.Qxb6623330a
open Go.RowKit

set_option maxHeartbeats 400000 in
theorem bytes_any (neg : Bool) (cs : Array Value) (n point dec : Int) (a : Option Addr) (len cap : Nat) (w : World) (hlen : len ≤ maxLen) :
    Calls Try.prog 4 #[.bool neg, .agg cs, .int .i64 n, .int .i64 point, .slice a len cap, .int .i64 dec] w fun e w' => e = .returned (.bool (decide (len ≤ 1048576))) ∧ w' = w.alloc (.cells cs 22) := by
  unfold maxLen at hlen
  by_cases h : len ≤ 1048576
  · go_enter Try.func4, Try.ntmps4
    go_wp2
    go_ret
    exact ⟨by simp [h], rfl⟩
  · go_enter Try.func4, Try.ntmps4
    go_wp2
    go_ret
    exact ⟨by simp [h], rfl⟩

/-- The digit at the power 10^e. -/
def digAt (ds : List Int) (n point e : Int) : Int := if 0 ≤ point - 1 - e ∧ point - 1 - e < n then ds.getD (point - 1 - e).toNat 0 else 48

theorem digAt_in {ds : List Int} {n point e : Int} {i : Nat} (hi : point - 1 - e = i) (hin : (i : Int) < n) : digAt ds n point e = ds.getD i 0 := by
  unfold digAt
  rw [if_pos ⟨by omega, by omega⟩, hi]
  simp

theorem digAt_out {ds : List Int} {n point e : Int} (h : point - 1 - e < 0 ∨ n ≤ point - 1 - e) : digAt ds n point e = 48 := by
  unfold digAt
  rw [if_neg (by omega)]

theorem digit_in (cs : Array Value) (n point e : Int) (i : Nat) (x : Int) (w : World) (hi : point - 1 - e = i) (hin : (i : Int) < n) (hn : n ≤ 20) (hc : cs[i]? = some (.int .u8 x)) (hp1 : -65536 ≤ point) (hp2 : point ≤ 65536) (he1 : -200000 ≤ e) (he2 : e ≤ 200000) :
    Calls Try.prog 5 #[.agg cs, .int .i64 n, .int .i64 point, .int .i64 e] w fun e w' => e = .returned (.int .u8 x) ∧ w' = w.alloc (.cells cs 22) := by
  have h20 : (i : Int) < 20 := by omega
  go_enter Try.func5, Try.ntmps5
  go_wp2
  go_ret
  exact ⟨rfl, rfl⟩

theorem digit_lo (cs : Array Value) (n point e : Int) (w : World) (hi : point - 1 - e < 0) (hp1 : -65536 ≤ point) (hp2 : point ≤ 65536) (he1 : -200000 ≤ e) (he2 : e ≤ 200000) :
    Calls Try.prog 5 #[.agg cs, .int .i64 n, .int .i64 point, .int .i64 e] w fun e w' => e = .returned (.int .u8 48) ∧ w' = w.alloc (.cells cs 22) := by
  go_enter Try.func5, Try.ntmps5
  go_wp2
  go_ret
  exact ⟨rfl, rfl⟩

theorem digit_hi (cs : Array Value) (n point e : Int) (w : World) (h0 : 0 ≤ point - 1 - e) (hi : n ≤ point - 1 - e) (hp1 : -65536 ≤ point) (hp2 : point ≤ 65536) (he1 : -200000 ≤ e) (he2 : e ≤ 200000) :
    Calls Try.prog 5 #[.agg cs, .int .i64 n, .int .i64 point, .int .i64 e] w fun e w' => e = .returned (.int .u8 48) ∧ w' = w.alloc (.cells cs 22) := by
  go_enter Try.func5, Try.ntmps5
  go_wp2
  go_ret
  exact ⟨rfl, rfl⟩

/-- zzDigitAt, whatever the place. -/
theorem digit_any (cs : Array Value) (ds : List Int) (n point e : Int) (w : World) (hcs : ∀ i : Nat, i < 20 → cs[i]? = some (.int .u8 (ds.getD i 0))) (hn : n ≤ 20) (hp1 : -65536 ≤ point) (hp2 : point ≤ 65536) (he1 : -200000 ≤ e) (he2 : e ≤ 200000) :
    Calls Try.prog 5 #[.agg cs, .int .i64 n, .int .i64 point, .int .i64 e] w fun r w' => r = .returned (.int .u8 (digAt ds n point e)) ∧ w' = w.alloc (.cells cs 22) := by
  by_cases h0 : point - 1 - e < 0
  · rw [digAt_out (.inl h0)]
    exact digit_lo cs n point e w h0 hp1 hp2 he1 he2
  · by_cases h1 : n ≤ point - 1 - e
    · rw [digAt_out (.inr h1)]
      exact digit_hi cs n point e w (by omega) h1 hp1 hp2 he1 he2
    · obtain ⟨i, hi⟩ := Int.eq_ofNat_of_zero_le (show 0 ≤ point - 1 - e by omega)
      rw [digAt_in hi (by omega)]
      exact digit_in cs n point e i _ w hi (by omega) hn (hcs i (by omega)) hp1 hp2 he1 he2

set_option maxHeartbeats 400000 in
/-- zzSameBytes over two rows that hold the same bytes. -/
theorem same_any (g h n c1 c2 : Nat) (bs : List Int) (w : World) (hn : n ≤ 1000000000) (ha : ∀ i, i < n → w.cell? ⟨g, i, none⟩ = some (.int .u8 (bs.getD i 0))) (hb : ∀ i, i < n → w.cell? ⟨h, i, none⟩ = some (.int .u8 (bs.getD i 0))) :
    Calls Try.prog 7 #[.slice (some ⟨g, 0, none⟩) n c1, .slice (some ⟨h, 0, none⟩) n c2] w fun e w' => e = .returned (.bool true) ∧ ∃ q, w' = w.drewN q := by
  go_enter Try.func7, Try.ntmps7
  go_wp2
  go_loopw [5] (fun i wr => ∃ k q : Nat, k ≤ n ∧ i = .int .i64 k ∧ wr = w.drewN q) (fun i _ => n - (intOf i).toNat)
  case atStart => exact ⟨0, 0, Nat.zero_le _, rfl, rfl⟩
  case round =>
    obtain ⟨k, q, hk, rfl, rfl⟩ := hrel
    by_cases hlt : k < n
    · have c1 := ha k hlt
      have c2 := hb k hlt
      have b1 : (0 : Int) ≤ (k : Int) := by omega
      have b2 : (k : Int) < (n : Int) := by omega
      go_wp2
      go_quiet (fail)
      go_wp2
      go_roundw
      case rel => exact ⟨k + 1, _, by omega, by go_num, rfl⟩
      case measure => simp [intOf]; omega
    · go_wp2
      go_ret
      exact ⟨rfl, _, rfl⟩
end Go.Proofs.Qxb6623330a
