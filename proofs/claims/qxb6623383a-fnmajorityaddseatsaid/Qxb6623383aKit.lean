/- Seats in memory: worlds and lists alone. -/
import Derived.Test.Qxb6623383aRows
import Derived.WalkKit
import Derived.WalkSpells
import Derived.StillTactics
import Derived.Laws.Pointers
import Derived.OwnWalk
import Derived.Below
import Derived.Maps.AppendAt
import Derived.Deep.AppendLies
namespace Go.Proofs.Qxb6623383a
open Go.RowKit

/-- One seat. -/
structure Seat where
  id : ByteArray
  ad : ByteArray
  vo : Bool
  ab : Bool
  inc : Int

/-- A seat's five cells. -/
def Seat.cells (s : Seat) : List Value := [.string s.id, .string s.ad, .bool s.vo, .bool s.ab, .int .u64 s.inc]
theorem Seat.cells_len (s : Seat) : s.cells.length = 5 := rfl

/-- All seats' cells. -/
def cellsOf (ss : List Seat) : List Value := ss.flatMap Seat.cells

/-- How many vote. -/
def cnt (ss : List Seat) : Nat := (ss.filter (·.vo)).length
theorem cnt_le (ss : List Seat) : cnt ss ≤ ss.length := List.length_filter_le _ _
theorem cnt_append (ss ts : List Seat) : cnt (ss ++ ts) = cnt ss + cnt ts := by simp [cnt]
theorem cnt_yes {s : Seat} (h : s.vo = true) : cnt [s] = 1 := by simp [cnt, h]
theorem cnt_no {s : Seat} (h : s.vo = false) : cnt [s] = 0 := by simp [cnt, h]

/-- The slice (a, len) leads to the seats ss. -/
def Seats (w : World) (a : Option Addr) (len : Nat) (ss : List Seat) : Prop :=
  ss.length = len ∧ (0 < len → ∃ b o, a = some ⟨b, o, none⟩ ∧ ∀ i s, ss[i]? = some s → ∀ j u, s.cells[j]? = some u → w.cell? ⟨b, o + i * 5 + j, none⟩ = some u)

/-- The five cells of seat k. -/
def SeatAt (w : World) (b o : Nat) (s : Seat) : Prop :=
  w.cell? ⟨b, o, none⟩ = some (.string s.id) ∧ w.cell? ⟨b, o + 1, none⟩ = some (.string s.ad) ∧ w.cell? ⟨b, o + 2, none⟩ = some (.bool s.vo) ∧ w.cell? ⟨b, o + 3, none⟩ = some (.bool s.ab) ∧ w.cell? ⟨b, o + 4, none⟩ = some (.int .u64 s.inc)

theorem Seats.at {w : World} {a : Option Addr} {len : Nat} {ss : List Seat} (h : Seats w a len ss) {k : Nat} (hk : k < len) : ∃ b o s, a = some ⟨b, o, none⟩ ∧ ss[k]? = some s ∧ SeatAt w b (o + k * 5) s := by
  obtain ⟨b, o, ha, hc⟩ := h.2 (by omega)
  have hs : ss[k]? = some (ss[k]'(by have := h.1; omega)) := List.getElem?_eq_getElem _
  refine ⟨b, o, _, ha, hs, hc k _ hs 0 _ rfl, hc k _ hs 1 _ rfl, hc k _ hs 2 _ rfl, hc k _ hs 3 _ rfl, hc k _ hs 4 _ rfl⟩

theorem take_next {ss : List Seat} {k : Nat} {s : Seat} (h : ss[k]? = some s) : ss.take (k + 1) = ss.take k ++ [s] := by
  rw [List.take_add_one, h]; rfl
theorem cnt_next {ss : List Seat} {k : Nat} {s : Seat} (h : ss[k]? = some s) : cnt (ss.take (k + 1)) = cnt (ss.take k) + cnt [s] := by
  rw [take_next h, cnt_append]
end Go.Proofs.Qxb6623383a
