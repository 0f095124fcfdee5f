/-
  Seat b6600830aD: the walk of ParseFields.
-/
import Derived.Test.Qxb6600830aDoorSplit
import Derived.Test.Qxb6600830aDoorStrs
import Derived.Maps.AppendAt
namespace Go.Proofs.Qxb6600830aDoor
open Go.RowKit Go.Shelf

attribute [local go_sem] Oper.semAt_some

/-- Go's four tables, as the row lists them. -/
structure Tabs (w : World) : Prop where
  sp : Lib.TabIs Tryd.prog w "strings.asciiSpace" .u8 Lib.asciiSpaceTab
  u8 : Lib.Utf8Tabs 2 3 w
  ws : Lib.WhiteTab 1 w
theorem Tabs.below {w w' : World} (h : Tabs w) (hb : Below w.heap.size w w') : Tabs w' :=
  ⟨by
    have hlt : 0 < w.heap.size := by
      obtain ⟨_, _, _, _, h1, _⟩ := h.ws
      have := World.block_lt_of_cell? _ _ h1
      omega
    exact var?_below hb Tryd.Space_Extra_163.gNamed hlt h.sp, Utf8Tabs_below h.u8 hb, WhiteTab_below h.ws hb⟩

set_option maxHeartbeats 1000000 in
theorem splitSeq_any (s p : ByteArray) (w : World) :
    Calls Tryd.prog 13 #[.string s, .string p] w fun e w' => e = .returned (.func (.func 28) #[] #[.pointer (some ⟨w.heap.size + 1, 0, none⟩), .pointer (some ⟨w.heap.size, 0, none⟩), .pointer (some ⟨w.heap.size + 2, 0, none⟩)]) ∧
      w' = ((w.alloc (.cells #[.string s] 9)).alloc (.cells #[.string p] 9)).alloc (.cells #[.int .i64 0] 3) := by
  go_enter Tryd.func13, Tryd.ntmps13
  go_wp2
  go_ret
  exact ⟨rfl, rfl⟩

/-! ### a struct of two slices in a block -/
def Pair (W : World) (B : Nat) (u v : Value) : Prop := W.heap[B]? = some (.cells #[u, v] 29 (0, 0))
theorem Pair.lt {W : World} {B : Nat} {u v : Value} (h : Pair W B u v) : B < W.heap.size := (Array.getElem?_eq_some_iff.1 h).1
theorem Pair.cell0 {W : World} {B : Nat} {u v : Value} (h : Pair W B u v) : W.cell? ⟨B, 0, none⟩ = some u := by simp [World.cell?, show W.heap[B]? = _ from h]
theorem Pair.cell1 {W : World} {B : Nat} {u v : Value} (h : Pair W B u v) : W.cell? ⟨B, 1, none⟩ = some v := by simp [World.cell?, show W.heap[B]? = _ from h]
theorem Pair.frozen {W : World} {B : Nat} {u v : Value} (h : Pair W B u v) (i : Nat) : W.frozen? ⟨B, i, none⟩ = false := by simp [World.frozen?, show W.heap[B]? = _ from h]
theorem Pair.set0 {W : World} {B : Nat} {u v : Value} (u' : Value) (h : Pair W B u v) : Pair (W.setCell ⟨B, 0, none⟩ u') B u' v := by
  obtain ⟨hlt, hk⟩ := Array.getElem?_eq_some_iff.1 h
  show (W.heap.modify B _)[B]? = _
  rw [Array.getElem?_eq_getElem (by rw [Array.size_modify]; exact hlt), Array.getElem_modify_self, hk]
  rfl
theorem Pair.set1 {W : World} {B : Nat} {u v : Value} (v' : Value) (h : Pair W B u v) : Pair (W.setCell ⟨B, 1, none⟩ v') B u v' := by
  obtain ⟨hlt, hk⟩ := Array.getElem?_eq_some_iff.1 h
  show (W.heap.modify B _)[B]? = _
  rw [Array.getElem?_eq_getElem (by rw [Array.size_modify]; exact hlt), Array.getElem_modify_self, hk]
  rfl
theorem Pair.other {W : World} {B : Nat} {u v : Value} (h : Pair W B u v) (a : Addr) (x : Value) (hne : B ≠ a.block) : Pair (W.setCell a x) B u v := (Below.heap_setCell W a x B hne).trans h

/-! ### one step of a round: the struct's block Bf, the call's own rows from 'base' on, new blocks -/
structure Step (base Bf : Nat) (W W' : World) : Prop where
  os : W'.os = W.os
  tape : W'.tape = W.tape
  output : W'.output = W.output
  size : W.heap.size ≤ W'.heap.size
  low : ∀ k, k < base → k ≠ Bf → W'.heap[k]? = W.heap[k]?
  high : ∀ k (o : Obj), base ≤ k → W.heap[k]? = some o → o.isCells = false → W'.heap[k]? = some o

theorem Step.refl (base Bf : Nat) (W : World) : Step base Bf W W := ⟨rfl, rfl, rfl, Nat.le_refl _, fun _ _ _ => rfl, fun _ _ _ h _ => h⟩
theorem Step.trans {base Bf : Nat} {A B C : World} (h : Step base Bf A B) (k : Step base Bf B C) : Step base Bf A C :=
  ⟨k.os.trans h.os, k.tape.trans h.tape, k.output.trans h.output, Nat.le_trans h.size k.size, fun i h1 h2 => (k.low i h1 h2).trans (h.low i h1 h2), fun i o h1 h2 h3 => k.high i o h1 (h.high i o h1 h2 h3) h3⟩
theorem Step.of_below {base Bf : Nat} {W W' : World} (hb : base ≤ W.heap.size) (h : Below W.heap.size W W') : Step base Bf W W' :=
  ⟨h.os, h.tape, h.output, h.size, fun k h1 _ => h.block k (by omega), fun k o _ hk _ => (h.block k (Array.getElem?_eq_some_iff.1 hk).1).trans hk⟩
theorem Step.of_grown {base Bf : Nat} {W W' : World} {v : Value} {e n : Nat} {L : List Value} (hb : base ≤ W.heap.size) (hown : W.ownsRow base e 1 v n L) (hg : W.grownBy W' v.ownBlock) : Step base Bf W W' :=
  ⟨hg.os, hg.tape, hg.output, hg.size, fun k h1 _ => hg.block k (by omega) (fun e' => by have := (hown.lt k e'.symm).1; omega), fun k o _ hk ho => by
    refine (hg.block k (Array.getElem?_eq_some_iff.1 hk).1 ?_).trans hk
    intro e'
    rcases hown.2 with ⟨rfl, _⟩ | ⟨g, cap, cur, rfl, _, hgb, _⟩
    · simp [Value.ownBlock] at e'
    · obtain rfl : k = g := by simpa [Value.ownBlock] using e'
      rw [hgb] at hk; cases hk; cases ho⟩
theorem Step.set {base Bf : Nat} (W : World) (i : Nat) (x : Value) (hBf : Bf < base) : Step base Bf W (W.setCell ⟨Bf, i, none⟩ x) :=
  ⟨rfl, rfl, rfl, by simp [World.setCell], fun k _ h => Below.heap_setCell W ⟨Bf, i, none⟩ x k h, fun k _ h hk _ => (Below.heap_setCell W ⟨Bf, i, none⟩ x k (by show k ≠ Bf; omega)).trans hk⟩
theorem Step.keeps {base Bf : Nat} {W W' : World} (h : Step base Bf W W') : KeepsFrom base W W' := ⟨h.size, h.high⟩
theorem Step.kp {base Bf lo : Nat} {W W' : World} (h : Step base Bf W W') (hl : Bf < lo) : KpR lo base W W' := fun k h1 h2 => h.low k h2 (by omega)
theorem Step.below {base Bf B : Nat} {w W W' : World} (h : Step base Bf W W') (hw : Below B w W) (hB : B ≤ base) (hf : B ≤ Bf) : Below B w W' :=
  hw.trans ⟨h.os, h.tape, h.output, h.size, fun k hk => h.low k (by omega) (by omega)⟩

theorem own_below {W W' : World} {base e n : Nat} {v : Value} {L : List Value} (h : W.ownsRow base e 1 v n L) (hb : Below W.heap.size W W') : W'.ownsRow base e 1 v n L :=
  h.kept (row := none) ⟨hb.os, hb.tape, hb.output, hb.size, fun k hk _ => hb.block k hk⟩ (by cases v.ownBlock <;> simp)
theorem pair_below {W W' : World} {B : Nat} {u v : Value} (h : Pair W B u v) (hb : Below W.heap.size W W') : Pair W' B u v := (hb.block B h.lt).trans h

/-- What is between two rounds: 'pre' has come. -/
def strV (l : List UInt8) : Value := .string (baOf l)
def lsOf (pre : List ByteArray) : List (List UInt8) := pre.map (·.data.toList)
theorem lsOf_snoc (pre : List ByteArray) (x : ByteArray) : lsOf (pre ++ [x]) = lsOf pre ++ [x.data.toList] := by simp [lsOf]
theorem lsOf_length (pre : List ByteArray) : (lsOf pre).length = pre.length := by simp [lsOf]

def Two (base Bf Br : Nat) (xs ys : List (List UInt8)) (W : World) : Prop :=
  ∃ u v, Pair W Bf u v ∧ Pair W Br (.slice none 0 0) (.slice none 0 0) ∧ W.ownsRow base 9 1 u xs.length (xs.map strV) ∧ W.ownsRow base 9 1 v ys.length (ys.map strV) ∧ (u.ownBlock = none ∨ u.ownBlock ≠ v.ownBlock)

def Inv (base Bf Br : Nat) (w : World) (pre : List ByteArray) (W : World) : Prop := Two base Bf Br (onlyOf (lsOf pre)) (exOf (lsOf pre)) W ∧ Below w.heap.size w W ∧ base ≤ W.heap.size

theorem own_none_of_nil {W : World} {base e n : Nat} {v : Value} {L : List Value} (h : W.ownsRow base e 1 v n L) {r : Nat} {o : Obj} (hr : W.heap[r]? = some o) (ho : o.isCells = false) : v.ownBlock ≠ some r := by
  intro e'
  rcases h.2 with ⟨rfl, _⟩ | ⟨g, cap, cur, rfl, _, hgb, _⟩
  · simp [Value.ownBlock] at e'
  · obtain rfl : g = r := by simpa [Value.ownBlock] using e'
    rw [hgb] at hr; cases hr; cases ho

theorem kept_row {W W' : World} {row : Option Nat} {base e n : Nat} {v : Value} {L : List Value} (h : W.ownsRow base e 1 v n L) (hg : W.grownBy W' row) (hr : ∀ r, row = some r → ∃ o : Obj, W.heap[r]? = some o ∧ o.isCells = false) : W'.ownsRow base e 1 v n L := by
  refine h.kept hg ?_
  cases row with
  | none => cases v.ownBlock <;> simp
  | some r =>
    obtain ⟨o, h1, h2⟩ := hr r rfl
    exact .inr (own_none_of_nil h h1 h2)

theorem inv_own {base Bf Br : Nat} {w : World} (hw : w.heap.size ≤ base) (hBf : Bf < base) (hBr : Br < base) : OwnFrom base (Inv base Bf Br w) := by
  rintro pre W W' row ⟨⟨u, v, h1, h2, h3, h4, h5⟩, hb, hz⟩ hg hrow
  have hlow : ∀ k, k < base → k < W.heap.size → W'.heap[k]? = W.heap[k]? := fun k hk hk2 => hg.block k hk2 (fun e => by have := (hrow k e.symm).1; omega)
  refine ⟨⟨u, v, (hlow Bf hBf h1.lt).trans h1, (hlow Br hBr h2.lt).trans h2, kept_row h3 hg (fun r e => (hrow r e).2), kept_row h4 hg (fun r e => (hrow r e).2), h5⟩, ?_, Nat.le_trans hz hg.size⟩
  exact hb.trans ⟨hg.os, hg.tape, hg.output, hg.size, fun k hk => hlow k (by omega) (by omega)⟩

theorem inv_cell {base Bf Br Bs : Nat} {w : World} (hBs : Bs < base) (hws : w.heap.size ≤ Bs) (d1 : Bf ≠ Bs) (d2 : Br ≠ Bs) (pre : List ByteArray) (W : World) (x : Value) (h : Inv base Bf Br w pre W) : Inv base Bf Br w pre (W.setCell ⟨Bs, 0, none⟩ x) := by
  obtain ⟨⟨u, v, h1, h2, h3, h4, h5⟩, hb, hz⟩ := h
  exact ⟨⟨u, v, h1.other _ _ d1, h2.other _ _ d2, ownsRow_setCell_below h3 (a := ⟨Bs, 0, none⟩) hBs x, ownsRow_setCell_below h4 (a := ⟨Bs, 0, none⟩) hBs x, h5⟩, hb.setCell (p := ⟨Bs, 0, none⟩) hws x, by simp [World.setCell]; exact hz⟩

/-! ### 'xs = append(xs, x)': one string more, and WHERE the new slice lies -/
theorem run_append_one {w : World} {base n : Nat} {v : Value} {L : List Value} (ty : TypeId) (hown : w.ownsRow base 9 1 v n L) (ad : Addr) (x : Value) (hx : x.oneCell' = true) (hc : w.cell? ad = some x) (hn : n ≤ 8388608) (hb : base ≤ w.heap.size) :
    ∃ g cap w', (Builtin.append_ #[22, 22] ty #[v, .slice (some ad) 1 1]).run Tryd.prog w = .ok (.slice (some ⟨g, 0, none⟩) (n + 1) cap) w' ∧ w'.ownsRow base 9 1 (.slice (some ⟨g, 0, none⟩) (n + 1) cap) (n + 1) (L ++ [x]) ∧ w.grownBy w' v.ownBlock ∧ (v.ownBlock = some g ∨ w.heap.size ≤ g) := by
  obtain ⟨i0, hi, hz0, hz1, hz2⟩ := info_parts info9
  have hnews : ∀ j u, [x][j]? = some u → w.cell? (ad.add j) = some u := by
    intro j u hj
    match j, hj with
    | 0, hj => simp at hj; subst hj; rw [show ad.add 0 = ad from by cases ad; unfold Addr.add; split <;> simp_all]; exact hc
    | j + 1, hj => simp at hj
  have h1c : ∀ u ∈ [x], u.oneCell' = true := fun u hu => by simp at hu; subst hu; exact hx
  rcases hown.2 with ⟨rfl, rfl⟩ | ⟨g, cap, cur, rfl, hbg, hgb, hnc, hcm, hcs, htk⟩
  · have hL : L = [] := List.eq_nil_of_length_eq_zero (by simpa using hown.1)
    subst hL
    obtain ⟨v', w', hrun, r1, r2, _⟩ := run_append_own (P := Tryd.prog) w w.heap.size 22 ty 9 i0 (.string ByteArray.empty) 1 16 Tryd.underlying22 hi hz0 hz1 hz2 rfl (by decide) (.slice none 0 0) 0 [] (World.ownsRow_nil w _ 9 1) ad 1 1 [x] rfl hnews h1c (by unfold maxLen; omega) (by omega) (Nat.le_refl _)
    obtain ⟨g, cap, rfl⟩ := ownsRow_succ r1
    have hge := (r1.lt g rfl).1
    exact ⟨g, cap, w', hrun, ⟨r1.1, .inr (by
      rcases r1.2 with ⟨h, _⟩ | ⟨g', c', cur', h, _, rest⟩
      · cases h
      · cases h; exact ⟨g, cap, cur', rfl, by omega, rest⟩)⟩, r2, .inr hge⟩
  · by_cases hroom : n + 1 ≤ cap
    · obtain ⟨w', hrun, r1, r2⟩ := run_append_fits (P := Tryd.prog) w base 22 ty 9 i0 1 Tryd.underlying22 hi hz1 g n cap L hown ad 1 1 [x] rfl hnews h1c hroom
      exact ⟨g, cap, w', hrun, r1, r2, .inl rfl⟩
    · obtain ⟨v', w', hrun, r1, r2⟩ := run_append_arg_grows (P := Tryd.prog) w 22 ty 9 i0 (.string ByteArray.empty) 1 16 Tryd.underlying22 hi hz0 hz1 hz2 rfl (by decide) ⟨g, 0, none⟩ n cap L (by simpa using hown.1) (fun j u hu => hown.cells rfl j u hu) ad 1 1 [x] rfl hnews (by omega) (by unfold maxLen; omega) (by omega)
      obtain ⟨g', cap', rfl⟩ := ownsRow_succ r1
      have hge := (r1.lt g' rfl).1
      refine ⟨g', cap', w', hrun, ⟨r1.1, .inr (by
        rcases r1.2 with ⟨h, _⟩ | ⟨g2, c2, cur2, h, _, rest⟩
        · cases h
        · cases h; exact ⟨g', cap', cur2, rfl, by omega, rest⟩)⟩, ⟨r2.os, r2.tape, r2.output, r2.size, fun k hk _ => r2.block k hk (by simp)⟩, .inr hge⟩

theorem wpListIn_append_one {F : Fence} {n : Nat} (w : World) {ops : Array Oper} {rest : List Oper} {o : Oper} {a : Act} {Q : Exit → Act → World → Prop}
    (hg : o.guard = none) (s y : Operand) (hop : o.op = Op.call { callee := Callee.builtin Builtin.append, args := #[s, y], argTypes := #[22, 22] })
    {base k : Nat} {v : Value} {L : List Value} (hs : a.eval s = v) (hown : w.ownsRow base 9 1 v k L) (ad : Addr) (x : Value) (hy : a.eval y = .slice (some ad) 1 1) (hx : x.oneCell' = true) (hc : w.cell? ad = some x) (hn : k ≤ 8388608) (hb : base ≤ w.heap.size)
    (hK : ∀ g cap w', w'.ownsRow base 9 1 (.slice (some ⟨g, 0, none⟩) (k + 1) cap) (k + 1) (L ++ [x]) → w.grownBy w' v.ownBlock → (v.ownBlock = some g ∨ w.heap.size ≤ g) → wpListIn F n Tryd.prog ops Q rest (a.put o.dst (.slice (some ⟨g, 0, none⟩) (k + 1) cap)) w') :
    wpListIn F n Tryd.prog ops Q (o :: rest) a w := by
  refine wpListIn_plain hg fun K hK' => ?_
  obtain ⟨g, cap, w', hrun, r1, r2, r3⟩ := run_append_one o.type hown ad x hx hc hn hb
  unfold Oper.wpIn
  refine ⟨?_, ?_⟩
  · simp [Oper.about, hop, resolve, Target.leads, Sem.run_pure]
  · rw [Oper.semAt_plain F _ _ (by rw [hop]; intro c hc'; cases hc')]
    simp [execOp, hop, resolve, invoke, builtin, hs, hy, hrun, Result.andThen]
    exact hK' _ _ (hK g cap w' r1 r2 r3)

theorem stepIn_append_one {F : Fence} {n : Nat} {w : World} {ops : Array Oper} {o : Oper} {a : Act} {K : Act → World → Prop} {Q : Exit → Act → World → Prop} {E : Prop}
    (hg : o.guard = none) (s y : Operand) (hop : o.op = Op.call { callee := Callee.builtin Builtin.append, args := #[s, y], argTypes := #[22, 22] })
    {base k : Nat} {v : Value} {L : List Value} (hs : a.eval s = v) (hown : w.ownsRow base 9 1 v k L) (ad : Addr) (x : Value) (hy : a.eval y = .slice (some ad) 1 1) (hx : x.oneCell' = true) (hc : w.cell? ad = some x) (hn : k ≤ 8388608) (hb : base ≤ w.heap.size)
    (hK : ∀ g cap w', w'.ownsRow base 9 1 (.slice (some ⟨g, 0, none⟩) (k + 1) cap) (k + 1) (L ++ [x]) → w.grownBy w' v.ownBlock → (v.ownBlock = some g ∨ w.heap.size ≤ g) → K (a.put o.dst (.slice (some ⟨g, 0, none⟩) (k + 1) cap)) w') :
    if Region.wanted o (yielded ops a.tmps) = true then Oper.wpIn F n Tryd.prog o a w K Q else E := by
  have hw : Region.wanted o (yielded ops a.tmps) = true := by simp [Region.wanted, hg]
  rw [if_pos hw]
  obtain ⟨g, cap, w', hrun, r1, r2, r3⟩ := run_append_one o.type hown ad x hx hc hn hb
  unfold Oper.wpIn
  refine ⟨?_, ?_⟩
  · simp [Oper.about, hop, resolve, Target.leads, Sem.run_pure]
  · rw [Oper.semAt_plain F _ _ (by rw [hop]; intro c hc'; cases hc')]
    simp [execOp, hop, resolve, invoke, builtin, hs, hy, hrun, Result.andThen]
    exact hK g cap w' r1 r2 r3

/-! ### what an append to one of the two does -/
/-- Behind the append to u (a block 'tmp' laid for the one value), ahead of the store. -/
theorem app_mid {base Bf n k : Nat} {Wa w1 : World} {u v : Value} {L M : List Value} {tmp : Obj} {g : Nat} (hBf : Bf < base) (hza : base ≤ Wa.heap.size) (pF : Pair Wa Bf u v) (ownU : Wa.ownsRow base 9 1 u n L) (ownV : Wa.ownsRow base 9 1 v k M) (hdis : u.ownBlock = none ∨ u.ownBlock ≠ v.ownBlock)
    (hgrow : (Wa.alloc tmp).grownBy w1 u.ownBlock) (hg : u.ownBlock = some g ∨ (Wa.alloc tmp).heap.size ≤ g) :
    Pair w1 Bf u v ∧ w1.ownsRow base 9 1 v k M ∧ Step base Bf Wa w1 ∧ (some g ≠ v.ownBlock) := by
  have hb : Below Wa.heap.size Wa (Wa.alloc tmp) := (Below.refl _ Wa).alloc (Nat.le_refl _) tmp
  have pF' := pair_below pF hb
  refine ⟨(hgrow.block Bf pF'.lt (fun e => by have := (ownU.lt Bf e.symm).1; omega)).trans pF', ?_, (Step.of_below hza hb).trans (Step.of_grown (by simp; omega) (ownU.alloc tmp) hgrow), ?_⟩
  · refine (ownV.alloc tmp).kept hgrow ?_
    rcases hdis with h | h
    · rw [h]; cases v.ownBlock <;> simp
    · exact .inr h.symm
  · intro e
    rcases hg with h | h
    · rcases hdis with h' | h'
      · rw [h'] at h; cases h
      · exact h' (h.trans e)
    · have := (ownV.lt g e.symm).2
      simp at h; omega

theorem fin_only {base Bf Br lo : Nat} {w W w1 : World} {pre : List ByteArray} {x : ByteArray} {u v : Value} {g cap : Nat} {a : Act} (hst : Step base Bf W w1) (b1 : Bf < lo) (b2 : lo ≤ base) (b3 : w.heap.size ≤ Bf) (b4 : Br < Bf) (hbW : Below w.heap.size w W) (hzW : base ≤ W.heap.size)
    (pR : Pair W Br (.slice none 0 0) (.slice none 0 0)) (pF : Pair w1 Bf u v) (hown : w1.ownsRow base 9 1 (.slice (some ⟨g, 0, none⟩) ((onlyOf (lsOf pre)).length + 1) cap) ((onlyOf (lsOf pre)).length + 1) ((onlyOf (lsOf pre)).map strV ++ [strV (Lib.trimSpaceD x.data.toList)]))
    (ownV : w1.ownsRow base 9 1 v (exOf (lsOf pre)).length ((exOf (lsOf pre)).map strV)) (hne : some g ≠ v.ownBlock) (hex : exB x.data.toList = false) :
    cellPost base (KpR lo base) (Inv base Bf Br w) (pre ++ [x]) W .normal a (w1.setCell ⟨Bf, 0, none⟩ (.slice (some ⟨g, 0, none⟩) ((onlyOf (lsOf pre)).length + 1) cap)) := by
  have st := hst.trans (Step.set w1 0 (.slice (some ⟨g, 0, none⟩) ((onlyOf (lsOf pre)).length + 1) cap) (by omega))
  refine ⟨st.keeps, st.kp b1, ⟨_, v, pF.set0 _, (st.low Br (by omega) (by omega)).trans pR, ?_, ?_, .inr hne⟩, st.below hbW (by omega) b3, Nat.le_trans hzW st.size⟩
  · rw [lsOf_snoc, onlyOf_yes _ hex, List.length_append, List.map_append]
    exact ownsRow_setCell_below hown (a := ⟨Bf, 0, none⟩) (by show Bf < base; omega) _
  · rw [lsOf_snoc, exOf_no _ hex]
    exact ownsRow_setCell_below ownV (a := ⟨Bf, 0, none⟩) (by show Bf < base; omega) _

theorem fin_ex {base Bf Br lo : Nat} {w W w1 : World} {pre : List ByteArray} {x : ByteArray} {u v : Value} {g cap : Nat} {a : Act} (hst : Step base Bf W w1) (b1 : Bf < lo) (b2 : lo ≤ base) (b3 : w.heap.size ≤ Bf) (b4 : Br < Bf) (hbW : Below w.heap.size w W) (hzW : base ≤ W.heap.size)
    (pR : Pair W Br (.slice none 0 0) (.slice none 0 0)) (pF : Pair w1 Bf u v) (hown : w1.ownsRow base 9 1 (.slice (some ⟨g, 0, none⟩) ((exOf (lsOf pre)).length + 1) cap) ((exOf (lsOf pre)).length + 1) ((exOf (lsOf pre)).map strV ++ [strV (Lib.trimSpaceD ((Lib.trimSpaceD x.data.toList).drop 1))]))
    (ownU : w1.ownsRow base 9 1 u (onlyOf (lsOf pre)).length ((onlyOf (lsOf pre)).map strV)) (hne : some g ≠ u.ownBlock) (hex : exB x.data.toList = true) :
    cellPost base (KpR lo base) (Inv base Bf Br w) (pre ++ [x]) W .normal a (w1.setCell ⟨Bf, 1, none⟩ (.slice (some ⟨g, 0, none⟩) ((exOf (lsOf pre)).length + 1) cap)) := by
  have st := hst.trans (Step.set w1 1 (.slice (some ⟨g, 0, none⟩) ((exOf (lsOf pre)).length + 1) cap) (by omega))
  refine ⟨st.keeps, st.kp b1, ⟨u, _, pF.set1 _, (st.low Br (by omega) (by omega)).trans pR, ?_, ?_, .inr hne.symm⟩, st.below hbW (by omega) b3, Nat.le_trans hzW st.size⟩
  · rw [lsOf_snoc, onlyOf_no _ hex]
    exact ownsRow_setCell_below ownU (a := ⟨Bf, 1, none⟩) (by show Bf < base; omega) _
  · rw [lsOf_snoc, exOf_yes _ hex, List.length_append, List.map_append]
    exact ownsRow_setCell_below hown (a := ⟨Bf, 1, none⟩) (by show Bf < base; omega) _

/-- The same for the second of the two. -/
theorem app_mid2 {base Bf n k : Nat} {Wa w1 : World} {u v : Value} {L M : List Value} {tmp : Obj} {g : Nat} (hBf : Bf < base) (hza : base ≤ Wa.heap.size) (pF : Pair Wa Bf u v) (ownU : Wa.ownsRow base 9 1 u n L) (ownV : Wa.ownsRow base 9 1 v k M) (hdis : u.ownBlock = none ∨ u.ownBlock ≠ v.ownBlock)
    (hgrow : (Wa.alloc tmp).grownBy w1 v.ownBlock) (hg : v.ownBlock = some g ∨ (Wa.alloc tmp).heap.size ≤ g) :
    Pair w1 Bf u v ∧ w1.ownsRow base 9 1 u n L ∧ Step base Bf Wa w1 ∧ (some g ≠ u.ownBlock) := by
  have hb : Below Wa.heap.size Wa (Wa.alloc tmp) := (Below.refl _ Wa).alloc (Nat.le_refl _) tmp
  have pF' := pair_below pF hb
  refine ⟨(hgrow.block Bf pF'.lt (fun e => by have := (ownV.lt Bf e.symm).1; omega)).trans pF', (ownU.alloc tmp).kept hgrow hdis, (Step.of_below hza hb).trans (Step.of_grown (by simp; omega) (ownV.alloc tmp) hgrow), ?_⟩
  intro e
  rcases hg with h | h
  · rcases hdis with h' | h'
    · rw [h'] at e; cases e
    · exact h' (e.symm.trans h.symm)
  · have := (ownU.lt g e.symm).2
    simp at h; omega

theorem after_call {base Bf n k : Nat} {W Wa Wb : World} {u v : Value} {L M : List Value} (pF : Pair Wa Bf u v) (ownU : Wa.ownsRow base 9 1 u n L) (ownV : Wa.ownsRow base 9 1 v k M) (sa : Step base Bf W Wa) (hza : base ≤ Wa.heap.size) (hb : Below Wa.drew.heap.size Wa.drew Wb) :
    Pair Wb Bf u v ∧ Wb.ownsRow base 9 1 u n L ∧ Wb.ownsRow base 9 1 v k M ∧ Step base Bf W Wb ∧ base ≤ Wb.heap.size ∧ Bf < Wb.heap.size := by
  have hb' : Below Wa.heap.size Wa Wb := ((Below.refl _ Wa).drew).trans hb
  exact ⟨pair_below pF hb', own_below ownU hb', own_below ownV hb', sa.trans (Step.of_below hza hb'), Nat.le_trans hza hb'.size, (pair_below pF hb').lt⟩

theorem cell_new1 (W : World) (x : Value) : (W.alloc (.cells #[x] 9)).cell? ⟨W.heap.size, 0, none⟩ = some x := (Boxed.new W 9 x).cell

theorem own_slice {W : World} {base e n : Nat} {v : Value} {L : List Value} (h : W.ownsRow base e 1 v n L) : ∃ a c, v = .slice a n c := by
  rcases h.2 with ⟨rfl, rfl⟩ | ⟨g, cap, _, rfl, _⟩
  · exact ⟨none, 0, rfl⟩
  · exact ⟨_, _, rfl⟩
end Go.Proofs.Qxb6600830aDoor
