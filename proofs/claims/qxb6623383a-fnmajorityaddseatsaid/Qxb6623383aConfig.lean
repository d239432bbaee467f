/- toConfig: the same seats in new memory. -/
import Derived.Test.Qxb6623383aVoters
import Derived.WalkLawsBesides
import Derived.Deep.DeepCutAuto
import Derived.Deep.CutBlock
namespace Go.Proofs.Qxb6623383a
open Go.RowKit

theorem cellsOf_append (ss ts : List Seat) : cellsOf (ss ++ ts) = cellsOf ss ++ cellsOf ts := by simp [cellsOf]
theorem cellsOf_one (s : Seat) : cellsOf [s] = s.cells := by simp [cellsOf]

theorem cellsOf_get {ss : List Seat} : ∀ {i : Nat} {s : Seat}, ss[i]? = some s → ∀ {j : Nat} {u : Value}, s.cells[j]? = some u → (cellsOf ss)[i * 5 + j]? = some u := by
  induction ss with
  | nil => intro i s h; simp at h
  | cons t ts ih =>
    intro i s h j u hu
    have hj : j < 5 := (List.getElem?_eq_some_iff.1 hu).1
    have e : cellsOf (t :: ts) = t.cells ++ cellsOf ts := by simp [cellsOf]
    rw [e]
    cases i with
    | zero =>
      simp at h
      subst h
      rw [List.getElem?_append_left (by rw [Seat.cells_len]; omega)]
      simpa using hu
    | succ i =>
      have h' : ts[i]? = some s := by simpa using h
      rw [List.getElem?_append_right (by rw [Seat.cells_len]; omega), Seat.cells_len, show (i + 1) * 5 + j - 5 = i * 5 + j by omega]
      exact ih h' hu

/-- The slice value v owns the seats ss (of element type E), in a row from block 'base' on. -/
def OwnS (base : Nat) (E : TypeId) (w : World) (v : Value) (ss : List Seat) : Prop := w.ownsRow base E 5 v ss.length (cellsOf ss)

theorem OwnS.seats {base : Nat} {E : TypeId} {w : World} {v : Value} {ss : List Seat} (h : OwnS base E w v ss) : ∃ a cap, v = .slice a ss.length cap ∧ Seats w a ss.length ss := by
  rcases h.2 with ⟨hv, hn⟩ | ⟨g, cap, cur, hv, _⟩
  · exact ⟨none, 0, by rw [hv, hn], rfl, fun hl => by omega⟩
  · refine ⟨some ⟨g, 0, none⟩, cap, hv, rfl, fun _ => ⟨g, 0, rfl, fun i s hs j u hu => ?_⟩⟩
    have := World.ownsRow.cells h (g := g) (by rw [hv]; rfl) (i * 5 + j) u (cellsOf_get hs hu)
    rw [Addr.add_lit] at this
    simpa using this

theorem OwnS.next {base : Nat} {E : TypeId} {w : World} {v : Value} {ss : List Seat} {k : Nat} {s : Seat} (hs : ss[k]? = some s) (h : w.ownsRow base E 5 v ((ss.take k).length + 1) (cellsOf (ss.take k) ++ s.cells)) : OwnS base E w v (ss.take (k + 1)) := by
  unfold OwnS
  rw [take_next hs, cellsOf_append, cellsOf_one, List.length_append]
  exact h

theorem Seat.one (s : Seat) : ∀ u ∈ s.cells, u.oneCell' = true := by
  intro u hu
  simp [Seat.cells] at hu
  rcases hu with rfl | rfl | rfl | rfl | rfl <;> rfl

theorem Try.info36 : (Try.prog.info? 36).map (fun i => (i.zero, i.size, i.bytes)) = some (some (.agg #[.string ByteArray.empty, .string ByteArray.empty, .bool false, .bool false, .int .u64 0]), 5, 48) := by kernel_rfl
theorem Try.info33 : (Try.prog.info? 33).map (fun i => (i.zero, i.size, i.bytes)) = some (some (.agg #[.string ByteArray.empty, .string ByteArray.empty, .bool false, .bool false, .int .u64 0]), 5, 48) := by kernel_rfl

theorem OwnS.alloc {base : Nat} {E : TypeId} {w : World} {v : Value} {ss : List Seat} (h : OwnS base E w v ss) (o : Obj) : OwnS base E (w.alloc o) v ss := World.ownsRow.alloc h o

theorem OwnS.seatsAt {base : Nat} {E : TypeId} {w : World} {a : Option Addr} {n cap : Nat} {ss : List Seat} (h : OwnS base E w (.slice a n cap) ss) (hn : ss.length = n) : Seats w a n ss := by
  obtain ⟨a2, c2, e, hS⟩ := h.seats
  injection e with e1 e2 e3
  subst e1
  rw [hn] at hS
  exact hS
theorem OwnS.setBelow {base : Nat} {E : TypeId} {w : World} {v : Value} {ss : List Seat} (h : OwnS base E w v ss) {p : Addr} (hp : p.block < base) (u : Value) : OwnS base E (w.setCell p u) v ss := ownsRow_setCell_below h hp u

def zeroSeat : Value := .agg #[.string ByteArray.empty, .string ByteArray.empty, .bool false, .bool false, .int .u64 0]

/-- 'append(out, seat)': the seat has just been laid into a block of its own. -/
theorem wl_seat {W : World} {ops : Array Oper} {rest : List Oper} {o : Oper} {a : Act} {Q : Exit → Act → World → Prop} (T E : TypeId) (hT : Try.prog.underlying T = some (.slice E))
    (hE : (Try.prog.info? E).map (fun i => (i.zero, i.size, i.bytes)) = some (some zeroSeat, 5, 48)) (hgd : o.guard = none) (sl x : Operand)
    (ho : o.op = .call { callee := .builtin .append, args := #[sl, x], argTypes := #[T, T] }) {base : Nat} {v : Value} {ss : List Seat} (hown : OwnS base E W v ss) (hs : a.eval sl = v) (s : Seat)
    (g : Nat) (hg : W.heap.size = g) (hx : a.eval x = .slice (some ⟨g, 0, none⟩) 1 1) (hl : ss.length ≤ 2000000) (hbase : base ≤ W.heap.size)
    (h : ∀ v' w', OwnS base E w' v' (ss ++ [s]) → (∀ B w0, Below B w0 W → B ≤ base → B ≤ W.heap.size → Below B w0 w') → wpList Try.prog ops Q rest (a.put o.dst v') w') :
    wpList Try.prog ops Q (o :: rest) a (W.alloc (.cells #[.string s.id, .string s.ad, .bool s.vo, .bool s.ab, .int .u64 s.inc] E)) := by
  subst hg
  obtain ⟨i0, hi, hz0, hz1, hz2⟩ := info_parts hE
  refine wpList_append_own _ hgd sl x T ho base E i0 zeroSeat 5 48 hT hi hz0 hz1 hz2 rfl (by decide) v ss.length (cellsOf ss) hs (World.ownsRow.alloc hown _) ⟨W.heap.size, 0, none⟩ 1 1 s.cells hx rfl
    (World.news_of_block (cs := s.cells.toArray) (heap_alloc_new W _)) (Seat.one s) (by unfold maxLen; omega) (by omega) (by simp; omega) ?_
  intro v' w' hown' hgrow _
  refine h v' w' ?_ ?_
  · unfold OwnS
    rw [cellsOf_append, cellsOf_one, List.length_append]
    exact hown'
  · intro B w0 hb hB hBs
    refine (hb.alloc hBs _).grown hgrow (by simp; omega) ?_
    intro k hk
    have := World.ownsRow.lt hown k hk
    omega

theorem nil_seats {w : World} {len : Nat} {ss : List Seat} (h : Seats w none len ss) : ss = [] := by
  by_cases hl : 0 < len
  · obtain ⟨_, _, e, _⟩ := h.2 hl
    cases e
  · exact List.eq_nil_of_length_eq_zero (by have := h.1; omega)
theorem below_w {w wx : World} {o : Obj} (hb : Below (w.heap.size + 1) (w.alloc o) wx) : Below w.heap.size w wx :=
  ((Below.refl _ _).alloc (Nat.le_refl _) _).trans (hb.mono (by omega))
theorem take_len {w : World} {a : Option Addr} {len k : Nat} {ss : List Seat} (h : Seats w a len ss) (hk : k < len) : (ss.take k).length = k := by have := h.1; simp; omega

set_option maxRecDepth 100000 in
set_option maxHeartbeats 1000000 in
theorem config_any (c : Int) (a : Option Addr) (len cap : Nat) (ss : List Seat) (w : World) (h : Seats w a len ss) (hl : len ≤ 1000000) :
    Calls Try.prog 7 #[.int .u64 c, .slice a len cap] w fun e w' => ∃ a' cap', e = .returned (.agg #[.int .u64 c, .slice a' len cap']) ∧ Seats w' a' len ss ∧ Below w.heap.size w w' := by
  obtain ⟨i0, hi, hz0, hz1, hz2⟩ := info_parts Try.info36
  have hm : len ≤ maxLen := by unfold maxLen; omega
  have hb0 : Below (w.heap.size + 1) (w.alloc (.cells #[.int .u64 0, .slice none 0 0] 28)) (w.alloc (.cells #[.int .u64 0, .slice none 0 0] 28)) := Below.refl _ _
  go_enter Try.func7, Try.ntmps7
  go_upto_if 9 with fail
  go_cut [5] (fun v wx => OwnS (w.heap.size + 1) 36 wx v ss ∧ Below (w.heap.size + 1) (w.alloc (.cells #[.int .u64 0, .slice none 0 0] 28)) wx)
  case first =>
    cases a with
    | none =>
      have e : ss = [] := nil_seats h
      subst e
      go_wp2
      go_meet
      case rel => exact ⟨World.ownsRow_nil _ _ _ _, hb0⟩
    | some x =>
      go_wp2_with (at_make; refine wpList_make_own _ rfl _ _ 26 rfl (w.heap.size + 1) 36 i0 zeroSeat 5 Try.underlying26 hi hz0 hz1 _ _ _ len rfl rfl rfl (by rw [hz2]; omega) hm (by simp) ?_; intro w1 hown1 hgrow1)
      have hb1 := hb0.grown hgrow1 (by simp) (by intro k hk; cases hk)
      go_loopw [5, 6] (fun v i wr => ∃ k : Nat, k ≤ len ∧ i = .int .i64 k ∧ OwnS (w.heap.size + 1) 36 wr v (ss.take k) ∧ Below (w.heap.size + 1) (w.alloc (.cells #[.int .u64 0, .slice none 0 0] 28)) wr) (fun _ i _ => len - (intOf i).toNat)
      case atStart => exact ⟨0, Nat.zero_le _, rfl, (show OwnS _ _ _ _ [] by simpa [OwnS, cellsOf] using hown1), hb1⟩
      case round =>
        obtain ⟨k, hk, rfl, hown, hbr⟩ := hrel
        have hsz : w.heap.size + 1 ≤ wr.heap.size := by have := hbr.size; simpa using this
        by_cases hlt : k < len
        · obtain ⟨b, o, s, hx, hs, c0, c1, c2, c3, c4⟩ := (h.below (below_w hbr)).at hlt
          obtain rfl : x = ⟨b, o, none⟩ := by simpa using hx
          have hkl : Hid ((ss.take k).length = k) := take_len h hlt
          have m0 : (0 : Int) ≤ (k : Int) := by omega
          have m1 : (k : Int) < (len : Int) := by omega
          go_wp2_with (at_builtin; refine wl_seat 26 36 Try.underlying26 Try.info36 rfl _ _ rfl (OwnS.alloc hown _) rfl s (wr.heap.size + 1) (by simp) rfl (by rw [hkl.out]; omega) (by simp; omega) ?_; intro v2 w2 hown2 hB2)
          have hb2 := hB2 _ _ (hbr.alloc hsz _) (Nat.le_refl _) (by simp; omega)
          rw [← take_next hs] at hown2
          go_roundw
          case rel => exact ⟨k + 1, by omega, by go_num, hown2, hb2⟩
          case measure => simp [intOf]; omega
        · go_wp2
          go_meet
          case rel =>
            have e : k = ss.length := by have := h.1; omega
            rw [e, List.take_length] at hown
            exact ⟨hown, hbr⟩
  case rest =>
    obtain ⟨hown, hbr⟩ := hcut
    obtain ⟨a', cap', rfl, hS⟩ := hown.seats
    rw [h.1] at hS hown ⊢
    have q0 : wc.cell? ⟨w.heap.size, 0, none⟩ = some (.int .u64 0) := by rw [hbr.cell (by simp)]; simp
    have q1 : wc.cell? ⟨w.heap.size, 1, none⟩ = some (.slice none 0 0) := by rw [hbr.cell (by simp)]; simp
    have f0 : wc.frozen? ⟨w.heap.size, 0, none⟩ = false := by rw [hbr.frozen (by simp)]; simp
    have f1 : wc.frozen? ⟨w.heap.size, 1, none⟩ = false := by rw [hbr.frozen (by simp)]; simp
    have hS2 : Seats ((wc.setCell ⟨w.heap.size, 0, none⟩ (.int .u64 c)).setCell ⟨w.heap.size, 1, none⟩ (.slice a' len cap')) a' len ss :=
      OwnS.seatsAt ((hown.setBelow (Nat.lt_succ_self _) _).setBelow (Nat.lt_succ_self _) _) h.1
    have hB2 : Below w.heap.size w ((wc.setCell ⟨w.heap.size, 0, none⟩ (.int .u64 c)).setCell ⟨w.heap.size, 1, none⟩ (.slice a' len cap')) :=
      ((below_w hbr).setCell (Nat.le_refl _) _).setCell (Nat.le_refl _) _
    go_wp2
    exact bodyPost_ret (v := .agg #[.int .u64 c, .slice a' len cap']) (by simp [results, Try.results7, go_sem, q0, q1]) rfl ⟨a', cap', rfl, hS2, hB2⟩
end Go.Proofs.Qxb6623383a
