/- Appends onto owned bytes, as steps of the walk: out of a row of bytes, of one byte, of a string; in a plain region and in one that draws its order. -/
import Derived.Test.Qxb6623330aKit
import Derived.Lib.AppendStr
import Derived.Deep.RegionHeld3
namespace Go.Proofs.Qxb6623330a
open Go.RowKit

/-- The bytes 'news' lie at the address. -/
def Lie (w : World) (ad : Addr) (news : List Int) : Prop := ∀ j u, (news.map (Value.int .u8))[j]? = some u → w.cell? (ad.add j) = some u

theorem run_ap {w w0 : World} {v v0 : Value} {bs : List Int} (ty : TypeId) (hA : Ap w0 v0 w v bs) (ad : Addr) (m c : Nat) (news : List Int) (hl : news.length = m) (hnews : Lie w ad news) (hb : bs.length + m ≤ 100000000) :
    ∃ v' w', (Builtin.append_ #[23, 23] ty #[v, .slice (some ad) m c]).run Try.prog w = .ok v' w' ∧ Ap w0 v0 w' v' (bs ++ news) ∧ w.grownBy w' v.ownBlock := by
  obtain ⟨i0, hi, hz0, hz1, hz2⟩ := info_parts Try.info5
  obtain ⟨v', w', hr, h2, h3, _, h5⟩ := run_append_own_at (P := Try.prog) w 0 23 ty 5 i0 (.int .u8 0) 1 1 Try.underlying23 hi hz0 hz1 hz2 rfl (by decide) v bs.length (bs.map (Value.int .u8)) hA.own ad m c (news.map (Value.int .u8)) (by simp [hl]) hnews (ints_oneCell _ _)
    (by unfold maxLen; omega) (by omega) (Nat.zero_le _)
  exact ⟨v', w', hr, hA.trans (Ap.step hl.symm h2 h3 h5), h3⟩

/-- At a plain region's list. -/
theorem wl_ap {w : World} {ops : Array Oper} {rest : List Oper} {o : Oper} {a : Act} {Q : Exit → Act → World → Prop} (hgd : o.guard = none) (s x : Operand)
    (ho : o.op = .call { callee := .builtin .append, args := #[s, x], argTypes := #[23, 23] })
    {w0 : World} {v v0 : Value} {bs : List Int} (hA : Ap w0 v0 w v bs) (hs : a.eval s = v) (ad : Addr) (m c : Nat) (hx : a.eval x = .slice (some ad) m c) (news : List Int) (hl : news.length = m) (hnews : Lie w ad news) (hb : bs.length + m ≤ 100000000)
    (h : ∀ v' w', Ap w0 v0 w' v' (bs ++ news) → w.grownBy w' v.ownBlock → wpList Try.prog ops Q rest (a.put o.dst v') w') : wpList Try.prog ops Q (o :: rest) a w := by
  refine wpList_plain hgd fun K hK => ?_
  obtain ⟨v', w', hr, h2, h3⟩ := run_ap o.type hA ad m c news hl hnews hb
  unfold Oper.wp execOp
  simp only [ho, resolve, invoke, builtin, Sem.run_bind, Sem.run_pure, Result.andThen_ok, List.map_toArray, List.map_cons, List.map_nil, hs, hx, hr]
  exact hK _ _ (h v' w' h2 h3)

/-- At a step of a region that draws its order. -/
theorem st_ap {w : World} {ops : Array Oper} {o : Oper} {a : Act} {K : Act → World → Prop} {Q : Exit → Act → World → Prop} {E : Prop} (hgd : o.guard = none) (s x : Operand)
    (ho : o.op = .call { callee := .builtin .append, args := #[s, x], argTypes := #[23, 23] })
    {w0 : World} {v v0 : Value} {bs : List Int} (hA : Ap w0 v0 w v bs) (hs : a.eval s = v) (ad : Addr) (m c : Nat) (hx : a.eval x = .slice (some ad) m c) (news : List Int) (hl : news.length = m) (hnews : Lie w ad news) (hb : bs.length + m ≤ 100000000)
    (h : ∀ v' w', Ap w0 v0 w' v' (bs ++ news) → w.grownBy w' v.ownBlock → K (a.put o.dst v') w') :
    if Region.wanted o (yielded ops a.tmps) = true then Oper.wp Try.prog o a w K Q else E := by
  have hw : Region.wanted o (yielded ops a.tmps) = true := by simp [Region.wanted, hgd]
  rw [if_pos hw]
  obtain ⟨v', w', hr, h2, h3⟩ := run_ap o.type hA ad m c news hl hnews hb
  unfold Oper.wp execOp
  simp only [ho, resolve, invoke, builtin, Sem.run_bind, Sem.run_pure, Result.andThen_ok, List.map_toArray, List.map_cons, List.map_nil, hs, hx, hr]
  exact h v' w' h2 h3

theorem Lie.one (w : World) (x : Int) (t : TypeId) : Lie (w.alloc (.cells #[.int .u8 x] t)) ⟨w.heap.size, 0, none⟩ [x] := cell_one_new w (.int .u8 x) t

/-- 'append(s, x)' of one byte: the byte has just been laid into a block of its own. -/
theorem wl_push {wr : World} {ops : Array Oper} {rest : List Oper} {o : Oper} {a : Act} {Q : Exit → Act → World → Prop} (hgd : o.guard = none) (s x : Operand)
    (ho : o.op = .call { callee := .builtin .append, args := #[s, x], argTypes := #[23, 23] })
    {w0 : World} {v v0 : Value} {bs : List Int} (hA : Ap w0 v0 wr v bs) (hs : a.eval s = v) (y : Int) (hx : a.eval x = .slice (some ⟨wr.heap.size, 0, none⟩) 1 1) (hb : bs.length ≤ 90000000)
    (h : ∀ v' w', Ap w0 v0 w' v' (bs ++ [y]) → wpList Try.prog ops Q rest (a.put o.dst v') w') : wpList Try.prog ops Q (o :: rest) a (wr.alloc (.cells #[.int .u8 y] 5)) :=
  wl_ap hgd s x ho (hA.alloc _) hs _ 1 1 hx [y] rfl (Lie.one wr y 5) (by omega) fun v' w' h2 _ => h v' w' h2

/-- A string's bytes, not none, behind owned bytes: where the new slice lies. -/
theorem run_ap_str {w w0 : World} {v v0 : Value} {bs : List Int} (ty : TypeId) (hA : Ap w0 v0 w v bs) (s : ByteArray) (news : List Int) (hnews : Lib.strCells s = news.map (Value.int .u8)) (h0 : 0 < s.size) (hb : bs.length + s.size ≤ 100000000) :
    ∃ v' w', (Builtin.append_ #[23, 9] ty #[v, .string s]).run Try.prog w = .ok v' w' ∧ Ap w0 v0 w' v' (bs ++ news) := by
  obtain ⟨i0, hi, hz0, hz1, hz2⟩ := info_parts Try.info5
  have hown : w.ownsRow 0 5 1 v bs.length (bs.map (Value.int .u8)) := hA.own
  obtain ⟨v', w', hr, h2, h3, _⟩ := Lib.run_append_own_string (P := Try.prog) w 0 23 9 ty 5 i0 Try.underlying23 Try.underlying9 hi hz0 hz1 hz2 v bs.length (bs.map (Value.int .u8)) hown s (by unfold maxLen; omega) (by omega) (Nat.zero_le _)
  have hlen : s.size = news.length := by have := congrArg List.length hnews; simpa [Lib.strCells_length] using this
  have lies : v'.ownBlock = v.ownBlock ∨ v'.ownBlock = some w.heap.size := by
    rcases hown.2 with ⟨rfl, hn0⟩ | ⟨g, cap, cur, rfl, _, hg, hnc, hcm, hcs, htake⟩
    · have := Go.run_append_nil_string (P := Try.prog) w 23 9 ty 5 i0 (.int .u8 0) Try.underlying23 Try.underlying9 hi hz0 s h0 (by omega) (by rw [hz2]; omega)
      rw [hr] at this
      injection this with e1 e2
      subst e1
      exact .inr rfl
    · by_cases hroom : bs.length + s.size ≤ cap
      · have := Lib.run_append_room_string (P := Try.prog) w 23 9 ty 5 i0 Try.underlying23 Try.underlying9 hi hz1 g bs.length cap cur hg s hroom (by omega)
        rw [hr] at this
        injection this with e1 e2
        subst e1
        exact .inl rfl
      · have holds : ∀ j u, (bs.map (Value.int .u8))[j]? = some u → w.cell? ((⟨g, 0, none⟩ : Addr).add j) = some u := hown.cells (g := g) rfl
        have := Lib.run_append_grow_string (P := Try.prog) w 23 9 ty 5 i0 (.int .u8 0) Try.underlying23 Try.underlying9 hi hz0 ⟨g, 0, none⟩ bs.length cap (bs.map (Value.int .u8)) (by rw [hz1]; simp) holds s (by omega) (by omega) (by rw [hz2]; exact growslice_fits (by omega) (by omega))
        rw [hr] at this
        injection this with e1 e2
        subst e1
        exact .inr rfl
  rw [hnews] at h2
  exact ⟨v', w', hr, hA.trans (Ap.step hlen h2 h3 lies)⟩

theorem wl_str {w : World} {ops : Array Oper} {rest : List Oper} {o : Oper} {a : Act} {Q : Exit → Act → World → Prop} (hgd : o.guard = none) (sl x : Operand)
    (ho : o.op = .call { callee := .builtin .append, args := #[sl, x], argTypes := #[23, 9] })
    {w0 : World} {v v0 : Value} {bs : List Int} (hA : Ap w0 v0 w v bs) (hs : a.eval sl = v) (s : ByteArray) (hx : a.eval x = .string s) (news : List Int) (hnews : Lib.strCells s = news.map (Value.int .u8)) (h0 : 0 < s.size) (hb : bs.length + s.size ≤ 100000000)
    (h : ∀ v' w', Ap w0 v0 w' v' (bs ++ news) → wpList Try.prog ops Q rest (a.put o.dst v') w') : wpList Try.prog ops Q (o :: rest) a w := by
  refine wpList_plain hgd fun K hK => ?_
  obtain ⟨v', w', hr, h2⟩ := run_ap_str o.type hA s news hnews h0 hb
  unfold Oper.wp execOp
  simp only [ho, resolve, invoke, builtin, Sem.run_bind, Sem.run_pure, Result.andThen_ok, List.map_toArray, List.map_cons, List.map_nil, hs, hx, hr]
  exact hK _ _ (h v' w' h2)

/-- A cell of a block that is not v's own row. -/
theorem Ap.cell {w w1 : World} {v v1 : Value} {bs : List Int} (h : Ap w v w1 v1 bs) {k o : Nat} {x : Value} (hne : v.ownBlock ≠ some k) (hc : w.cell? ⟨k, o, none⟩ = some x) : w1.cell? ⟨k, o, none⟩ = some x :=
  h.grow.cell hc (fun e => hne e.symm)

theorem Lie.of_cells {w : World} {b o m : Nat} {ds : List Int} (lo : Nat) (hc : ∀ i, i < 20 → w.cell? ⟨b, o + i, none⟩ = some (.int .u8 (ds.getD i 0))) (hd : ds.length = 20) (hm : lo + m ≤ 20) : Lie w ⟨b, o + lo, none⟩ ((ds.drop lo).take m) := by
  intro j u hu
  have hj : j < m := by
    have := (List.getElem?_eq_some_iff.1 hu).1
    simp at this; omega
  have e : (((ds.drop lo).take m).map (Value.int .u8))[j]? = some (.int .u8 (ds.getD (lo + j) 0)) := by
    simp [List.getD, hj, show lo + j < ds.length by omega]
  rw [e] at hu
  rw [Addr.add_lit, Nat.add_assoc, hc (lo + j) (by omega)]
  exact hu

end Go.Proofs.Qxb6623330a
