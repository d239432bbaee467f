/- Seats out of the reading of the arguments. -/
import Derived.Test.Qxb6623383aKit
import Derived.ProofKit
import Derived.OpenShut
import Derived.ChangeOld
import Derived.Deep.Slices
namespace Go.Proofs.Qxb6623383a
open Go.ChangeShapes Go.WideShapes Go.ChangeAt Go.RowKit

theorem Try.own : ownKnob Try.prog.godebug = none := by kernel_rfl
theorem Try.laidOut : laidOutB Try.prog = true := by kernel_rfl
theorem Try.cells33 : Try.prog.cellsOf 33 = 5 := by kernel_rfl
theorem Try.cells9 : Try.prog.cellsOf 9 = 1 := by kernel_rfl
theorem Try.cells4 : Try.prog.cellsOf 4 = 1 := by kernel_rfl
theorem Try.cells22 : Try.prog.cellsOf 22 = 1 := by kernel_rfl

/-- A struct that can be read is a seat. -/
theorem seat_of_trod {H : Type} {enc : TypeId × Value → H} {W : World} {base : Nat} {sp : Nat → Bool} {held : Bool} {fuel : Nat} {cs : List Value} {y : DataW H × List MemPlace}
    (h : DataW.trod enc Try.prog W base sp held fuel 33 cs = some y) : ∃ s : Seat, cs = s.cells := by
  obtain ⟨xs, m, _, _, hl, hxl, hel⟩ := DataW.trod_struct Try.underlying33 h
  rw [Try.cells33] at hl
  match cs, hl with
  | [e0, e1, e2, e3, e4], _ =>
    match xs, hxl with
    | [y0, y1, y2, y3, y4], _ =>
      have g0 : DataW.trod enc Try.prog W base sp held m 9 (([e0, e1, e2, e3, e4].drop 0).take (Try.prog.cellsOf 9)) = some y0 := hel 0 _ rfl
      have g1 : DataW.trod enc Try.prog W base sp held m 9 (([e0, e1, e2, e3, e4].drop 1).take (Try.prog.cellsOf 9)) = some y1 := hel 1 _ rfl
      have g2 : DataW.trod enc Try.prog W base sp held m 4 (([e0, e1, e2, e3, e4].drop 2).take (Try.prog.cellsOf 4)) = some y2 := hel 2 _ rfl
      have g3 : DataW.trod enc Try.prog W base sp held m 4 (([e0, e1, e2, e3, e4].drop 3).take (Try.prog.cellsOf 4)) = some y3 := hel 3 _ rfl
      have g4 : DataW.trod enc Try.prog W base sp held m 22 (([e0, e1, e2, e3, e4].drop 4).take (Try.prog.cellsOf 22)) = some y4 := hel 4 _ rfl
      rw [Try.cells9] at g0 g1
      rw [Try.cells4] at g2 g3
      rw [Try.cells22] at g4
      obtain ⟨s0, q0, _, _⟩ := DataW.trod_string Try.underlying9 g0
      obtain ⟨s1, q1, _, _⟩ := DataW.trod_string Try.underlying9 g1
      obtain ⟨b2, q2, _⟩ := DataW.trod_bool Try.underlying4 g2
      obtain ⟨b3, q3, _⟩ := DataW.trod_bool Try.underlying4 g3
      obtain ⟨n4, q4, _, _⟩ := DataW.trod_int Try.underlying22 g4
      simp at q0 q1 q2 q3 q4
      subst q0 q1 q2 q3 q4
      exact ⟨⟨s0, s1, b2, b3, n4⟩, rfl⟩

/-- A slice that can be read leads to seats. -/
theorem seats_of_trod {H : Type} {enc : TypeId × Value → H} {W : World} {base : Nat} {sp : Nat → Bool} {held : Bool} {a : Option Addr} {len cap : Nat} {d : DataW H} {p : List MemPlace}
    (h : DataW.Trod enc Try.prog W base sp held 23 (.slice a len cap) d p) : len ≤ maxLen ∧ ∃ ss, Seats W a len ss := by
  obtain ⟨fuel, hf⟩ := h
  rcases Deep.open_slice Try.underlying23 hf with ⟨hcs, _⟩ | ⟨x, l, c, m, n, D, Pl, hcs, _, hlc, hcm, hm, _, hel⟩
  · simp [Value.cells] at hcs
    obtain ⟨rfl, rfl, rfl⟩ := hcs
    exact ⟨Nat.zero_le _, [], rfl, fun h => by omega⟩
  · simp [Value.cells] at hcs
    obtain ⟨rfl, rfl, rfl⟩ := hcs
    refine ⟨Nat.le_trans hlc hcm, ?_⟩
    have hlm : len ≤ m := by rw [hm]; split <;> omega
    rw [Try.cells33] at hel
    obtain ⟨f, hfs⟩ := @Deep.choose_lt Seat ⟨⟨ByteArray.empty, ByteArray.empty, false, false, 0⟩⟩ len (fun i s => ∀ j u, s.cells[j]? = some u → W.cell? ((x.add (i * 5)).add j) = some u) (fun i hi => by
      obtain ⟨cs', h1, h2⟩ := hel i (by omega)
      obtain ⟨s, rfl⟩ := seat_of_trod h2
      obtain ⟨_, _, h3⟩ := World.cells?_some h1
      refine ⟨s, fun j u hu => ?_⟩
      rw [h3 j (List.getElem?_eq_some_iff.1 hu).1]
      exact hu)
    refine ⟨(List.range len).map f, by simp, fun hpos => ?_⟩
    obtain ⟨b, o, t⟩ := x
    have hsp : t = none := by
      have := World.cell?_spot (hfs 0 hpos 0 _ rfl)
      simpa [Addr.add] using this
    subst hsp
    refine ⟨b, o, rfl, fun i s hs j u hu => ?_⟩
    have hi : i < len := by
      have := (List.getElem?_eq_some_iff.1 hs).1
      simpa using this
    have e : s = f i := by
      simp [hi] at hs
      exact hs.symm
    subst e
    have := hfs i hi j u hu
    rwa [Addr.add_lit, Addr.add_lit] at this
end Go.Proofs.Qxb6623383a
