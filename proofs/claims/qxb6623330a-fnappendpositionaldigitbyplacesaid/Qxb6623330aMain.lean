/- The law's own walk. -/
import Derived.Test.Qxb6623330aPlain
import Derived.Laws.AppendOwnNone
import Derived.Laws.CopyOwn
namespace Go.Proofs.Qxb6623330a
open Go.RowKit

/-- WHAT THE WALK IS TOLD OF THE SLICE THAT CAME IN. -/
def IsRow (k : IntKind) (w : World) (a : Option Addr) (len cap : Nat) (zs : List Int) : Prop :=
  (a = none ∧ len = 0 ∧ cap = 0 ∧ zs = []) ∨
  ∃ x, a = some x ∧ len ≤ cap ∧ cap ≤ maxLen ∧ zs.length = cap ∧ (∀ i, i < zs.length → w.cell? (x.add i) = some (.int k (zs.getD i 0))) ∧ ∀ n ∈ zs, (Lit.int k n).wf = true

/-- The copy 'in' and the box of the digits, in world wx. -/
structure St (w : World) (cs : Array Value) (wx : World) (vin : Value) (bs : List Int) : Prop where
  own : Own wx vin bs
  lt : ∀ k, vin.ownBlock = some k → w.heap.size + 2 ≤ k
  below : Below (w.heap.size + 1) (w.alloc (.cells cs 22)) wx
  size : w.heap.size + 2 ≤ wx.heap.size

/-- 'copy(in, dst)', in just made, of dst's length. -/
theorem wl_copy {w : World} {ops : Array Oper} {rest : List Oper} {o : Oper} {a : Act} {Q : Exit → Act → World → Prop} (hgd : o.guard = none) (d s : Operand)
    (ho : o.op = .call { callee := .builtin .copy, args := #[d, s], argTypes := #[23, 23] }) (g len cap : Nat) (ad : Addr) (hd : a.eval d = .slice (some ⟨g, 0, none⟩) len len) (hs : a.eval s = .slice (some ad) len cap)
    (L : List Value) (hown : w.ownsRow 0 5 1 (.slice (some ⟨g, 0, none⟩) len len) len L) (bs : List Int) (hl : bs.length = len) (hlie : Lie w ad bs)
    (h : ∀ w' q, Own w' (.slice (some ⟨g, 0, none⟩) len len) bs → w.grownBy w' (some g) → wpList Try.prog ops Q rest (a.put o.dst q) w') : wpList Try.prog ops Q (o :: rest) a w := by
  rcases hown.2 with ⟨h0, _⟩ | ⟨g', cap', cur, hv, _, hg, hnc, hcm, hcs, _⟩
  · cases h0
  · injection hv with e1 e2 e3
    injection e1 with e1
    injection e1 with e1 _ _
    subst e1; subst e3
    have hcl : (bs.map (Value.int .u8)).length = len := by simp [hl]
    refine wpList_copy_own hgd d s 23 23 ho 5 Try.underlying23 (by kernel_rfl) g 0 len len ad len cap hd hs cur 5 hg (bs.map (Value.int .u8)) (by rw [hcl]; exact (Nat.min_self _).symm) hlie (by rw [hcl]; omega) (ints_oneCell _ _) ?_
    refine h _ _ ⟨by simp, .inr ⟨g, len, _, by rw [hl], Nat.zero_le _, setRow_heap w g cur _ 5 _ hg, by omega, hcm, ?_, ?_⟩⟩ ⟨rfl, rfl, rfl, by simp, fun k _ hk => setRow_other w g k _ (fun e => hk (by rw [e]))⟩
    · simp [hl]; omega
    · simp

theorem Lie.ofRow {w : World} {x : Addr} {zs : List Int} {len : Nat} (hc : ∀ i, i < zs.length → w.cell? (x.add i) = some (.int .u8 (zs.getD i 0))) : Lie w x (zs.take len) := by
  intro j u hu
  have hj := (List.getElem?_eq_some_iff.1 hu).1
  simp at hj
  have e : ((zs.take len).map (Value.int .u8))[j]? = some (.int .u8 (zs.getD j 0)) := by
    simp [List.getD, show j < len by omega, show j < zs.length by omega]
  rw [e] at hu
  rw [hc j (by omega)]
  exact hu

theorem Lie.below {w w' : World} {x : Addr} {bs : List Int} {B : Nat} (h : Lie w x bs) (hb : Below B w w') (hB : w.heap.size ≤ B) : Lie w' x bs := by
  intro j u hu
  have hc := h j u hu
  exact (hb.cell (Nat.lt_of_lt_of_le (World.block_lt_of_cell? w _ hc) hB)).trans hc

theorem below_w {w wx : World} {cs : Array Value} (hb : Below (w.heap.size + 1) (w.alloc (.cells cs 22)) wx) : Below w.heap.size w wx :=
  ((Below.refl _ _).alloc (Nat.le_refl _) _).trans (hb.mono (by omega))

/-- zzSameBytes over two slices that own the same bytes, not none. -/
theorem same_own (va vb : Value) (L : List Int) (w : World) (ha : Own w va L) (hb : Own w vb L) (h0 : 0 < L.length) (hn : L.length ≤ 1000000000) :
    Calls Try.prog 7 #[va, vb] w fun e w' => e = .returned (.bool true) ∧ ∃ q, w' = w.drewN q := by
  have cells : ∀ g, ∀ v : Value, v.ownBlock = some g → Own w v L → ∀ i, i < L.length → w.cell? ⟨g, i, none⟩ = some (.int .u8 (L.getD i 0)) := by
    intro g v hv hO i hi
    have := World.ownsRow.cells hO hv i (.int .u8 (L.getD i 0)) (by simp [List.getD, hi])
    rwa [Addr.add_lit, Nat.zero_add] at this
  obtain ⟨g, c1, rfl, _, _⟩ := World.ownsRow.form ha h0
  obtain ⟨h, c2, rfl, _, _⟩ := World.ownsRow.form hb h0
  exact same_any g h L.length c1 c2 L w hn (cells g _ rfl ha) (cells h _ rfl hb)

/-- What stands once 'want' has been made: its row is block g. -/
structure St2 (w : World) (cs : Array Value) (W2 : World) (v0 vin : Value) (bs : List Int) : Prop where
  own : Own W2 vin bs
  box : W2.heap[w.heap.size]? = some (.cells cs 22 (0, 0))
  below : Below w.heap.size w W2
  want : ∀ k, v0.ownBlock = some k → w.heap.size < k
  apart : ∀ k, vin.ownBlock = some k → w.heap.size ≤ k ∧ v0.ownBlock ≠ some k ∧ k < W2.heap.size

theorem St2.boxAt {w : World} {cs : Array Value} {W2 wr : World} {v0 vin vw : Value} {bs L : List Int} (h : St2 w cs W2 v0 vin bs) (hA : Ap W2 v0 wr vw L) : wr.heap[w.heap.size]? = some (.cells cs 22 (0, 0)) := by
  have hlt : w.heap.size < W2.heap.size := (Array.getElem?_eq_some_iff.1 h.box).1
  rw [hA.block hlt ?_]
  · exact h.box
  · intro e
    have := h.want _ e
    omega

theorem St2.ownAt {w : World} {cs : Array Value} {W2 wr : World} {v0 vin vw : Value} {bs L : List Int} (h : St2 w cs W2 v0 vin bs) (hA : Ap W2 v0 wr vw L) : Own wr vin bs := by
  refine h.own.kept hA ?_
  cases e : vin.ownBlock with
  | none => exact .inl rfl
  | some k => exact .inr (fun e2 => (h.apart k e).2.1 e2.symm)

theorem St2.belowAt {w : World} {cs : Array Value} {W2 wr : World} {v0 vin vw : Value} {bs L : List Int} (h : St2 w cs W2 v0 vin bs) (hA : Ap W2 v0 wr vw L) : Below w.heap.size w wr :=
  h.below.trans (hA.below (by have := (Array.getElem?_eq_some_iff.1 h.box).1; omega) (fun k hk => by have := h.want k hk; omega))

/-- Behind the call: both are owned, nothing old has turned. -/
theorem St2.last {w : World} {cs : Array Value} {W2 wr w9 : World} {v0 vin vw v9 : Value} {bs L M : List Int} (h : St2 w cs W2 v0 vin bs) (hA : Ap W2 v0 wr vw L) (h9 : Ap wr vin w9 v9 M) : Own w9 vw L ∧ Below w.heap.size w w9 := by
  refine ⟨hA.own.kept h9 ?_, (h.belowAt hA).trans (h9.below (by have := (h.belowAt hA).size; omega) (fun k hk => (h.apart k hk).1))⟩
  cases e : vin.ownBlock with
  | none =>
    cases e1 : vw.ownBlock with
    | none => exact .inl rfl
    | some k => exact .inr (by simp)
  | some k =>
    refine .inr fun e2 => ?_
    rcases hA.lies with e3 | ⟨g, e3, hg⟩
    · exact (h.apart k e).2.1 (by rw [← e3, e2])
    · rw [e3] at e2
      cases e2
      have := (h.apart _ e).2.2
      omega

def f0Of (n point : Int) : Int := if n - point < 0 then 0 else n - point
theorem f0_bd {n point : Int} (h2 : n ≤ 20) (hp1 : -65536 ≤ point) : 0 ≤ f0Of n point ∧ f0Of n point ≤ 65556 := by unfold f0Of; split <;> omega
theorem f_eq {n point dec : Int} (h : f0Of n point < dec) : (fOf n point dec : Int) = dec := by
  have : fOf n point dec = (if f0Of n point < dec then dec else f0Of n point).toNat := rfl
  rw [this, if_pos h]
  have : 0 ≤ f0Of n point := by unfold f0Of; split <;> omega
  omega
theorem f_eq0 {n point dec : Int} (h : ¬ f0Of n point < dec) : (fOf n point dec : Int) = f0Of n point := by
  have : fOf n point dec = (if f0Of n point < dec then dec else f0Of n point).toNat := rfl
  rw [this, if_neg h]
  have : 0 ≤ f0Of n point := by unfold f0Of; split <;> omega
  omega
theorem f_bd {n point dec : Int} (h2 : n ≤ 20) (hp1 : -65536 ≤ point) (hd : dec ≤ 65536) : fOf n point dec ≤ 65556 := by
  have := f0_bd h2 hp1
  by_cases h : f0Of n point < dec
  · have := f_eq h; omega
  · have := f_eq0 h; omega
theorem top_bd {point : Int} (hp2 : point ≤ 65536) : 1 ≤ topOf point ∧ topOf point ≤ 65536 := by unfold topOf; split <;> omega
theorem top_lo {point : Int} (h : point < 1) : (topOf point : Int) = 1 := by unfold topOf; rw [if_pos h]; rfl
theorem top_hi {point : Int} (h : ¬ point < 1) : (topOf point : Int) = point := by unfold topOf; rw [if_neg h]; omega

theorem St2.made {w wc W2 : World} {cs : Array Value} {vin : Value} {bs : List Int} {c : Nat} (h : St w cs wc vin bs) (hown : W2.ownsRow 0 5 1 (.slice (some ⟨wc.heap.size, 0, none⟩) 0 c) 0 []) (hgrow : wc.grownBy W2 none) :
    St2 w cs W2 (.slice (some ⟨wc.heap.size, 0, none⟩) 0 c) vin bs := by
  have hs := h.size
  have hlt := World.ownsRow.lt hown wc.heap.size rfl
  refine ⟨?_, ?_, (below_w h.below).trans ((Below.refl _ _).grown hgrow (by omega) (by intro k hk; cases hk)), ?_, ?_⟩
  · refine World.ownsRow.kept h.own hgrow ?_
    cases e : vin.ownBlock with
    | none => exact .inl rfl
    | some k => exact .inr (by simp)
  · rw [hgrow.block _ (by omega) (by simp), h.below.block _ (by omega)]
    exact heap_alloc_new w _
  · intro k hk
    simp [Value.ownBlock] at hk
    omega
  · intro k hk
    have h1 := h.lt k hk
    have h2 := World.ownsRow.lt h.own k hk
    refine ⟨by omega, ?_, by omega⟩
    intro e
    simp [Value.ownBlock] at e
    omega

/-- 'wl_push', the new block's number a letter. -/
theorem wl_push2 {wr : World} {ops : Array Oper} {rest : List Oper} {o : Oper} {a : Act} {Q : Exit → Act → World → Prop} (hgd : o.guard = none) (s x : Operand)
    (ho : o.op = .call { callee := .builtin .append, args := #[s, x], argTypes := #[23, 23] })
    {w0 : World} {v v0 : Value} {bs : List Int} (hA : Ap w0 v0 wr v bs) (hs : a.eval s = v) (y : Int) (g : Nat) (hg : wr.heap.size = g) (hx : a.eval x = .slice (some ⟨g, 0, none⟩) 1 1) (hb : bs.length ≤ 90000000)
    (h : ∀ v' w', Ap w0 v0 w' v' (bs ++ [y]) → wpList Try.prog ops Q rest (a.put o.dst v') w') : wpList Try.prog ops Q (o :: rest) a (wr.alloc (.cells #[.int .u8 y] 5)) := by
  subst hg
  exact wl_push hgd s x ho hA hs y hx hb h

set_option maxRecDepth 100000 in
set_option maxHeartbeats 4000000 in
theorem main (neg : Bool) (cs : Array Value) (ds : List Int) (n point dec : Int) (a : Option Addr) (len cap : Nat) (bs : List Int) (w : World)
    (hsrc : Hid ((a = none ∧ len = 0 ∧ cap = 0 ∧ bs = []) ∨ ∃ x, a = some x ∧ Lie w x bs)) (hbl : Hid (bs.length = len))
    (hsz : cs.size = 20) (hcs : Hid (∀ i : Nat, i < 20 → cs[i]? = some (.int .u8 (ds.getD i 0)))) (hds : Hid (ds.length = 20))
    (hl : len ≤ 1048576) (h1 : 1 ≤ n) (h2 : n ≤ 20) (hp1 : -65536 ≤ point) (hp2 : point ≤ 65536) (hdec0 : -9223372036854775808 ≤ dec) (hdec : dec ≤ 65536) :
    Calls Try.prog 3 #[.bool neg, .agg cs, .int .i64 n, .int .i64 point, .slice a len cap, .int .i64 dec] w fun e w' => e = .returned (.bool true) ∧ Below w.heap.size w w' := by
  have hg : (w.alloc (.cells cs 22)).heap[w.heap.size]? = some (.cells cs 22 (0, 0)) := heap_alloc_new w _
  have hi : (Try.prog.info? 22).map (·.size) = some cs.size := by rw [hsz]; kernel_rfl
  have hd : decide (len ≤ 1048576) = true := decide_eq_true hl
  have hm : len ≤ maxLen := by unfold maxLen; omega
  have hm8 : len + 8 ≤ maxLen := by unfold maxLen; omega
  have hbs : bs.length ≤ 1048576 := by have := hbl.out; omega
  have hpre := pre_le bs neg
  obtain ⟨i5, hi5, hz0, hz1, hz2⟩ := info_parts Try.info5
  go_enter Try.func3, Try.ntmps3
  go_upto_if 46 with (first
    | (go_at_call 4; refine (bytes_any neg cs n point dec a len cap _ hm).mono ?_; rintro e w1 ⟨rfl, rfl⟩)
    | (refine wpList_load_row rfl 22 _ rfl w.heap.size rfl 22 cs (0, 0) _ hg Try.underlying22 rfl hi ?_))
  have hb0 : Below (w.heap.size + 1) (w.alloc (.cells cs 22)) ((w.alloc (.cells cs 22)).alloc (.cells cs 22)) := (Below.refl _ _).alloc (by simp) _
  go_cut [13] (fun vin wx => St w cs wx vin bs)
  case first =>
    rcases hsrc.out with ⟨rfl, rfl, rfl, rfl⟩ | ⟨x, rfl, hlie⟩
    · go_wp2
      go_meet
      case rel => exact ⟨World.ownsRow_nil _ _ _ _, fun k hk => (by cases hk), hb0, by simp⟩
    · go_wp2_with (first
        | (at_make; refine wpList_make_full _ rfl _ _ 23 rfl 0 5 i5 (.int .u8 0) 1 Try.underlying23 hi5 hz0 hz1 _ _ _ _ len rfl rfl rfl rfl (by rw [hz2]; omega) hm (Nat.zero_le _) ?_; intro w2 hown2 hgrow2; have hb2 := hb0.grown hgrow2 (by simp) (by intro k hk; cases hk))
        | (refine wl_copy rfl (.tmp 50) (.tmp 51) (by rfl) (w.heap.size + 1 + 1) len cap x (by rfl) (by rfl) _ (by simpa using hown2) bs hbl.out (hlie.below (below_w hb2) (Nat.le_refl _)) ?_; intro w3 q3 hown3 hgrow3))
      have z2 : w.heap.size + 2 ≤ w2.heap.size := by have := hgrow2.size; simpa using this
      have hb3 := hb2.grown hgrow3 (by omega) (by intro k hk; cases hk; omega)
      have hs3 : w.heap.size + 2 ≤ w3.heap.size := Nat.le_trans z2 hgrow3.size
      go_meet
      case rel => exact ⟨hown3, fun k hk => (by cases hk; exact Nat.le_refl _), hb3, hs3⟩
  case rest =>
    have hSt := hcut
    go_upto_region 16 with (at_make; refine wpList_make_own _ rfl _ _ 23 rfl 0 5 i5 (.int .u8 0) 1 Try.underlying23 hi5 hz0 hz1 _ _ _ (len + 8) rfl rfl (by omega) (by rw [hz2]; omega) hm8 (Nat.zero_le _) ?_; intro W2 hown4 hgrow4)
    have hS2 := St2.made hSt hown4 hgrow4
    have hA0 : Ap W2 (.slice (some ⟨wc.heap.size, 0, none⟩) 0 (len + 8)) W2 (.slice (some ⟨wc.heap.size, 0, none⟩) 0 (len + 8)) [] := Ap.refl hown4
    obtain ⟨v0, hv0⟩ : ∃ v0, v0 = Value.slice (some ⟨wc.heap.size, 0, none⟩) 0 (len + 8) := ⟨_, rfl⟩
    rw [← hv0] at hS2 hA0 ⊢
    have Hv0 : Hid (v0 = Value.slice (some ⟨wc.heap.size, 0, none⟩) 0 (len + 8)) := hv0
    clear hv0 hSt hcut hgrow4
    have hOw : W2.ownsRow 0 5 1 v0 0 [] := hA0.own
    clear hown4
    go_cut [14] (fun vw wx => Ap W2 v0 wx vw bs)
    case first =>
      rcases hsrc.out with ⟨rfl, rfl, rfl, rfl⟩ | ⟨x, rfl, hlie⟩
      · go_wp2_with (at_builtin; refine wpList_append_own_none rfl _ _ 23 rfl 0 5 i5 1 Try.underlying23 hi5 v0 0 [] rfl hOw rfl ?_)
        go_meet
        case rel => exact hA0
      · go_wp2_with (at_builtin; refine wl_ap rfl _ _ rfl hA0 rfl x len cap rfl bs hbl.out (hlie.below hS2.below (Nat.le_refl _)) (by simp; omega) ?_; intro v5 w5 hA5 hG5)
        go_meet
        case rel => simpa using hA5
    case rest =>
      have hA6 := hcut
      clear hcut hA0 hOw
      go_upto_if 60 with fail
      go_cut [14] (fun vw wx => Ap W2 v0 wx vw (pre bs neg))
      case first =>
        cases neg
        · go_wp2
          go_meet
          case rel => simpa [pre, sgn] using hA6
        · go_wp2_with (at_builtin; refine wl_push rfl _ _ rfl hA6 rfl 45 rfl (by omega) ?_; intro v7 w7 hA7)
          go_meet
          case rel => simpa [pre, sgn] using hA7
      case rest =>
        have hA8 := hcut
        clear hcut hA6
        have htop := top_bd hp2
        obtain ⟨htop1, htop2⟩ := htop
        go_upto_if 66 with fail
        go_cut [15] (fun t wx => t = .int .i64 (topOf point) ∧ Ap W2 v0 wx u14 (pre bs neg))
        case first =>
          by_cases hp : point < 1
          · have ht := top_lo hp
            go_wp2
            go_meet
            case rel => exact ⟨by rw [ht], hA8⟩
          · have ht := top_hi hp
            have Ht : Hid ((topOf point : Int) = point) := ht
            clear ht
            go_wp2
            go_meet
            case rel => exact ⟨by rw [Ht.out], hA8⟩
        case rest =>
          obtain ⟨rfl, hA9⟩ := hcut
          clear hA8
          go_upto_block 0 with fail
          go_cut [14] (fun vw wx => Ap W2 v0 wx vw (pre bs neg ++ whole ds n point (topOf point) (topOf point)))
          case first =>
            go_wp2
            go_loopw [14, 16] (fun vw e wr => ∃ j : Nat, j ≤ topOf point ∧ e = .int .i64 ((topOf point : Int) - 1 - (j : Int)) ∧ Ap W2 v0 wr vw (pre bs neg ++ whole ds n point (topOf point) j)) (fun _ e _ => (intOf e + 1).toNat)
            case atStart => exact ⟨0, Nat.zero_le _, by go_num, by simpa [whole] using hA9⟩
            case round =>
              obtain ⟨j, hj, rfl, hAp⟩ := hrel
              have hwl := whole_len ds n point (topOf point) j
              have Hwl : Hid ((whole ds n point (topOf point) j).length = j) := hwl
              clear hwl
              by_cases hlt : j < topOf point
              · have hbx := hS2.boxAt hAp
                go_wp2_with (first
                  | (at_builtin; refine wl_push2 rfl _ _ rfl (hAp.alloc _) rfl _ (wr.heap.size + 1) (by simp) rfl (by have := Hwl.out; simp; omega) ?_; intro v2 w2 hA2)
                  | (go_at_call 5; refine (digit_any cs ds n point _ _ hcs.out h2 hp1 hp2 (by omega) (by omega)).mono ?_; rintro e w1 ⟨rfl, rfl⟩)
                  | (refine wpList_load_row rfl 22 _ rfl w.heap.size rfl 22 cs (0, 0) _ hbx Try.underlying22 rfl hi ?_))
                go_roundw
                case rel => exact ⟨j + 1, by omega, by go_num, by rw [whole_succ, ← List.append_assoc]; exact hA2⟩
                case measure => simp [intOf]; omega
              · go_wp2
                go_meet
                case rel =>
                  have e : j = topOf point := by omega
                  rw [e] at hAp
                  exact hAp
          case rest =>
            have hA10 := hcut
            clear hcut hA9
            have hwl := whole_len ds n point (topOf point) (topOf point)
            have hlw : (pre bs neg ++ whole ds n point (topOf point) (topOf point)).length ≤ 1200000 := by rw [List.length_append, hwl]; omega
            clear hwl
            obtain ⟨PW, hPW⟩ : ∃ PW, PW = pre bs neg ++ whole ds n point (topOf point) (topOf point) := ⟨_, rfl⟩
            rw [← hPW] at hA10 hlw
            have HPW : Hid (PW = pre bs neg ++ whole ds n point (topOf point) (topOf point)) := hPW
            clear hPW
            obtain ⟨f0a, f0b⟩ := f0_bd h2 hp1
            have fbd := f_bd h2 hp1 hdec
            go_upto_if 85 with fail
            go_cut [17] (fun f wx => f = .int .i64 (f0Of n point) ∧ Ap W2 v0 wx u14 PW)
            case first =>
              by_cases hf : n - point < 0
              · have H : Hid (f0Of n point = 0) := if_pos hf
                go_wp2
                go_meet
                case rel => exact ⟨by rw [H.out], hA10⟩
              · have H : Hid (f0Of n point = n - point) := if_neg hf
                go_wp2
                go_meet
                case rel => exact ⟨by rw [H.out], hA10⟩
            case rest =>
              obtain ⟨rfl, hA11⟩ := hcut
              clear hA10
              go_upto_if 88 with fail
              go_cut [17] (fun f wx => f = .int .i64 (fOf n point dec) ∧ Ap W2 v0 wx u14 PW)
              case first =>
                by_cases hf : f0Of n point < dec
                · have H : Hid ((fOf n point dec : Int) = dec) := f_eq hf
                  go_wp2
                  go_meet
                  case rel => exact ⟨by rw [H.out], hA11⟩
                · have H : Hid ((fOf n point dec : Int) = f0Of n point) := f_eq0 hf
                  go_wp2
                  go_meet
                  case rel => exact ⟨by rw [H.out], hA11⟩
              case rest =>
                obtain ⟨rfl, hA12⟩ := hcut
                clear hA11
                go_upto_if 91 with fail
                go_cut [14] (fun vw wx => Ap W2 v0 wx vw (PW ++ fracOut ds n point (fOf n point dec)))
                case first =>
                  by_cases hf : 0 < fOf n point dec
                  · have hF : Hid (fracOut ds n point (fOf n point dec) = [46] ++ frac ds n point (fOf n point dec)) := if_pos hf
                    have hf' : (0 : Int) < (fOf n point dec : Int) := by omega
                    go_wp2_with (at_builtin; refine wl_push rfl _ _ rfl hA12 rfl 46 rfl (by omega) ?_; intro v13 w13 hA13)
                    go_loopw [14, 18] (fun vw k wr => ∃ j : Nat, j ≤ fOf n point dec ∧ k = .int .i64 ((j : Int) + 1) ∧ Ap W2 v0 wr vw (PW ++ [46] ++ frac ds n point j)) (fun _ k _ => (fOf n point dec + 1 - intOf k).toNat)
                    case atStart => exact ⟨0, Nat.zero_le _, by go_num, by simpa [frac] using hA13⟩
                    case round =>
                      obtain ⟨j, hj, rfl, hAp⟩ := hrel
                      have Hwl : Hid ((frac ds n point j).length = j) := frac_len ds n point j
                      by_cases hlt : j < fOf n point dec
                      · have hbx := hS2.boxAt hAp
                        go_wp2_with (first
                          | (at_builtin; refine wl_push2 rfl _ _ rfl (hAp.alloc _) rfl _ (wr.heap.size + 1) (by simp) rfl (by have := Hwl.out; simp; omega) ?_; intro v2 w2 hA2)
                          | (go_at_call 5; refine (digit_any cs ds n point _ _ hcs.out h2 hp1 hp2 (by omega) (by omega)).mono ?_; rintro e w1 ⟨rfl, rfl⟩)
                          | (refine wpList_load_row rfl 22 _ rfl w.heap.size rfl 22 cs (0, 0) _ hbx Try.underlying22 rfl hi ?_))
                        go_roundw
                        case rel => exact ⟨j + 1, by omega, by go_num, by rw [frac_succ, ← List.append_assoc]; exact hA2⟩
                        case measure => simp [intOf]; omega
                      · go_wp2
                        go_meet
                        case rel =>
                          have e : j = fOf n point dec := by omega
                          rw [e] at hAp
                          rw [hF.out, ← List.append_assoc]
                          exact hAp
                  · have hF : Hid (fracOut ds n point (fOf n point dec) = []) := if_neg hf
                    go_wp2
                    go_meet
                    case rel => rw [hF.out, List.append_nil]; exact hA12
                case rest =>
                  have hA14 := hcut
                  clear hcut hA12
                  have hbx := hS2.boxAt hA14
                  have hvin := hS2.ownAt hA14
                  have hL : Hid (pre bs neg ++ posOut ds n point dec = PW ++ fracOut ds n point (fOf n point dec)) := by
                    show _ = _
                    rw [HPW.out, law ds n point dec hds.out h1 h2, List.append_assoc]
                  have hLn : 0 < (PW ++ fracOut ds n point (fOf n point dec)).length ∧ (PW ++ fracOut ds n point (fOf n point dec)).length ≤ 1000000000 := by
                    have e1 := whole_len ds n point (topOf point) (topOf point)
                    have e2 := frac_len ds n point (fOf n point dec)
                    have e3 : (fracOut ds n point (fOf n point dec)).length ≤ 65557 := by unfold fracOut; split <;> simp [e2] <;> omega
                    have e4 : 1 ≤ PW.length := by rw [HPW.out, List.length_append, e1]; omega
                    rw [List.length_append]
                    omega
                  obtain ⟨hLn0, hLn1⟩ := hLn
                  go_wp2_with (first
                    | (go_at_call 6; refine (zz_any cs u13 bs ds neg n point dec _ hvin hsz hcs hds h1 h2 hp1 hp2 hdec hbs).mono ?_; rintro e w15 ⟨v15, rfl, hA15⟩; rw [hL.out] at hA15; obtain ⟨hO15, hB15⟩ := hS2.last hA14 hA15)
                    | (go_at_call 7; refine (same_own _ _ _ _ hA15.own hO15 hLn0 hLn1).mono ?_; rintro e w16 ⟨rfl, q16, rfl⟩)
                    | (refine wpList_load_row rfl 22 _ rfl w.heap.size rfl 22 cs (0, 0) _ hbx Try.underlying22 rfl hi ?_))
                  go_ret
                  exact ⟨rfl, hB15.trans ⟨rfl, rfl, rfl, Nat.le_refl _, fun _ _ => rfl⟩⟩
end Go.Proofs.Qxb6623330a
