/-
  Seat b6601188aD: the walk of (*jsonTokens).next.
-/
import Derived.Test.Qxb6601188aDoorTail
import Derived.Test.Qxb6601188aDoorPlain
import Derived.Test.Qxb6601188aDoorShelf
import Derived.Shelf.Bytes.SlTrim
import Derived.WalkKit
import Derived.WalkSpells
import Derived.WalkLawsBesides
import Derived.Deep.QuietTactic
import Derived.BigQuiet
import Derived.Lib.SliceRun
namespace Go.Proofs.Qxb6601188aDoor
open Go.RowKit Go.Shelf

/-! ### the struct's block -/
def Pair (W : World) (B : Nat) (u v : Value) : Prop := W.heap[B]? = some (.cells #[u, v] 37 (0, 0))
theorem Pair.lt {W : World} {B : Nat} {u v : Value} (h : Pair W B u v) : B < W.heap.size := (Array.getElem?_eq_some_iff.1 h).1
theorem Pair.cell0 {W : World} {B : Nat} {u v : Value} (h : Pair W B u v) : W.cell? ⟨B, 0, none⟩ = some u := by simp [World.cell?, show W.heap[B]? = _ from h]
theorem Pair.cell1 {W : World} {B : Nat} {u v : Value} (h : Pair W B u v) : W.cell? ⟨B, 1, none⟩ = some v := by simp [World.cell?, show W.heap[B]? = _ from h]
theorem Pair.frozen {W : World} {B : Nat} {u v : Value} (h : Pair W B u v) (i : Nat) : W.frozen? ⟨B, i, none⟩ = false := by simp [World.frozen?, show W.heap[B]? = _ from h]
theorem Pair.set1 {W : World} {B : Nat} {u v : Value} (v' : Value) (h : Pair W B u v) : Pair (W.setCell ⟨B, 1, none⟩ v') B u v' := by
  obtain ⟨hlt, hk⟩ := Array.getElem?_eq_some_iff.1 h
  show (W.heap.modify B _)[B]? = _
  rw [Array.getElem?_eq_getElem (by rw [Array.size_modify]; exact hlt), Array.getElem_modify_self, hk]
  rfl
theorem Pair.below {W W' : World} {B : Nat} {u v : Value} (h : Pair W B u v) (hb : Below W.heap.size W W') : Pair W' B u v := (hb.block B h.lt).trans h

/-- All blocks of W but B are as they were. -/
structure Keep (B : Nat) (W W' : World) : Prop where
  os : W'.os = W.os
  tape : W'.tape = W.tape
  output : W'.output = W.output
  size : W.heap.size ≤ W'.heap.size
  block : ∀ k, k < W.heap.size → k ≠ B → W'.heap[k]? = W.heap[k]?
theorem Keep.refl (B : Nat) (W : World) : Keep B W W := ⟨rfl, rfl, rfl, Nat.le_refl _, fun _ _ _ => rfl⟩
theorem Keep.trans {B : Nat} {A W W' : World} (h : Keep B A W) (k : Keep B W W') : Keep B A W' :=
  ⟨k.os.trans h.os, k.tape.trans h.tape, k.output.trans h.output, Nat.le_trans h.size k.size, fun i h1 h2 => (k.block i (Nat.lt_of_lt_of_le h1 h.size) h2).trans (h.block i h1 h2)⟩
theorem Keep.of_below {B : Nat} {W W' : World} (h : Below W.heap.size W W') : Keep B W W' := ⟨h.os, h.tape, h.output, h.size, fun k hk _ => h.block k hk⟩
theorem Keep.set {B : Nat} (W : World) (i : Nat) (x : Value) : Keep B W (W.setCell ⟨B, i, none⟩ x) :=
  ⟨rfl, rfl, rfl, by simp [World.setCell], fun k _ h => Below.heap_setCell W ⟨B, i, none⟩ x k h⟩
theorem Keep.drew {B : Nat} {W W' : World} (h : Keep B W W') (q : Nat) : Keep B W (W'.drewN q) := ⟨h.os, h.tape, h.output, h.size, h.block⟩

/-- The bytes bs lie in block b from o on. -/
def Lies (W : World) (b o : Nat) (bs : List UInt8) : Prop := ∀ i, i < bs.length → W.cell? ⟨b, o + i, none⟩ = some (.int .u8 (bs.getD i 0).toNat)
theorem Lies.keep {B b o : Nat} {W W' : World} {bs : List UInt8} (h : Lies W b o bs) (k : Keep B W W') (hb : b < W.heap.size) (hne : b ≠ B) : Lies W' b o bs := fun i hi => by
  have := k.block b hb hne
  have h1 := h i hi
  unfold World.cell? at *
  simp only at *
  rw [this]; exact h1
theorem Lies.at {W : World} {b o n k : Nat} {bs : List UInt8} (h : Lies W b o bs) (hk : k + n = bs.length) : Lib.BytesAt W (some ⟨b, o + k, none⟩) n (bs.drop k) := fun _ =>
  ⟨b, o + k, rfl, fun i hi => by
    have := h (k + i) (by omega)
    rw [Nat.add_assoc, this]
    simp [List.getD]⟩

theorem leftV_slice (p : Option Addr) (n c j : Nat) (hj : j ≤ n) : ∃ a' c', Lib.leftV p n c j = .slice a' (n - j) c' := by
  unfold Lib.leftV Lib.fromV
  split
  · subst_vars; exact ⟨none, 0, by simp⟩
  · exact ⟨_, _, rfl⟩

theorem ext_draw (W : World) : ∃ g : Ext W, { W with drawn := W.drawn + 1 } = g.g := ⟨⟨{ W with drawn := W.drawn + 1 }, ⟨rfl, rfl, rfl, Nat.le_refl _, fun _ _ => rfl⟩⟩, rfl⟩

theorem asc (l : List UInt8) (h : l.all (fun b => decide (b.toNat < 128)) = true) : ∀ (j : Nat) b, l[j]? = some b → b.toNat < 128 := fun _ b hb => by
  have := List.all_eq_true.1 h b (List.mem_of_getElem? hb)
  simpa using this

/-- bytes.TrimLeft of what is left of the data, in a world that has grown. -/
theorem trim_ext (cs : List UInt8) (hcs : (⟨cs.toArray⟩ : ByteArray).size < 4294967281) (hascii : ∀ (j : Nat) b, cs[j]? = some b → b.toNat < 128) (w : World) (b o n c k : Nat) (bs : List UInt8) (hn : bs.length = n) (hl : Lies w b o bs) (hb : b < w.heap.size) (hk : k ≤ n) (hc : n ≤ c) (hbig : c ≤ 9223372036854775807) :
    ∃ a' c', ∀ g : Ext w, Calls Tryd.prog 24 #[.slice (some ⟨b, o + k, none⟩) (n - k) (c - k), .string ⟨cs.toArray⟩] g.g fun e w' => e = .returned (.slice a' (n - k - past cs (bs.drop k)) c') ∧ ∃ g' : Ext w, w' = g'.g := by
  obtain ⟨a', c', hv⟩ := leftV_slice (some ⟨b, o + k, none⟩) (n - k) (c - k) (past cs (bs.drop k)) (by have := past_le cs (bs.drop k); rw [List.length_drop] at this; omega)
  refine ⟨a', c', fun g => ?_⟩
  have hlen : (bs.drop k).length = n - k := by rw [List.length_drop, hn]
  refine (Tryd.bytes_TrimLeft (some ⟨b, o + k, none⟩) (n - k) (c - k) (bs.drop k) ⟨cs.toArray⟩ g.g hlen (by omega) (by omega) ?_ hcs (by simpa using hascii)).mono ?_
  · have : Lies g.g b o bs := hl.keep (B := b + 1) (Keep.of_below g.h) hb (by omega)
    exact this.at (by omega)
  · rintro e w' ⟨rfl, hB⟩
    refine ⟨?_, ⟨w', g.h.trans (hB.mono g.h.size)⟩, rfl⟩
    rw [← hv]
    unfold past
    rw [hlen]

def RetNext (W : World) (B b o n c p e : Nat) (bs : List UInt8) (e' : Ending) (w' : World) : Prop :=
  e' = .returned (.tuple #[.int .u8 (bs.getD p 0).toNat, .slice (some ⟨b, o + p, none⟩) (e - p) (c - p)]) ∧ Pair w' B (.slice (some ⟨b, o, none⟩) n c) (.int .i64 e) ∧ Keep B W w'

theorem leaf1 {W V : World} {B b o n c k p e x : Nat} {bs : List UInt8} (hGP : Pair V B (.slice (some ⟨b, o, none⟩) n c) (.int .i64 k)) (hGK : Keep B W V) (hX : (bs.getD p 0).toNat = x) (q : Nat) (z : Int) (m : Nat) (hz : z = e) (hm : m = e - p) :
    RetNext W B b o n c p e bs (.returned (.tuple #[.int .u8 x, .slice (some ⟨b, o + p, none⟩) m (c - p)])) ((V.setCell ⟨B, 1, none⟩ (.int .i64 z)).drewN q) := by
  subst hX hz hm
  exact ⟨rfl, hGP.set1 _, (hGK.trans (Keep.set V 1 _)).drew q⟩
theorem leaf {W V : World} {B b o n c k p e x : Nat} {bs : List UInt8} (hGP : Pair V B (.slice (some ⟨b, o, none⟩) n c) (.int .i64 k)) (hGK : Keep B W V) (hX : (bs.getD p 0).toNat = x) (q : Nat) (y z : Int) (m : Nat) (hz : z = e) (hm : m = e - p) :
    RetNext W B b o n c p e bs (.returned (.tuple #[.int .u8 x, .slice (some ⟨b, o + p, none⟩) m (c - p)])) (((V.setCell ⟨B, 1, none⟩ (.int .i64 y)).setCell ⟨B, 1, none⟩ (.int .i64 z)).drewN q) := by
  subst hX hz hm
  exact ⟨rfl, (hGP.set1 _).set1 _, ((hGK.trans (Keep.set V 1 _)).trans (Keep.set _ 1 _)).drew q⟩

def atOf (B : Nat) (w : World) : Nat := (intOf ((w.cell? ⟨B, 1, none⟩).getD undef)).toNat
theorem pair_at {w : World} {B q : Nat} {u : Value} (h : Pair w B u (.int .i64 (q : Nat))) : atOf B w = q := by unfold atOf; rw [h.cell1]; simp [intOf]
theorem one_pair {w : World} {B q : Nat} {u v : Value} (h : Pair w B u v) (m : Nat) (y : Int) (hy : y = (q : Int)) : Pair ((w.drewN m).setCell ⟨B, 1, none⟩ (.int .i64 y)) B u (.int .i64 (q : Nat)) := by
  subst hy; exact (show Pair (w.drewN m) B u v from h).set1 _
theorem two_pair {w : World} {B q : Nat} {u v : Value} (h : Pair w B u v) (m : Nat) (x : Value) (y : Int) (hy : y = (q : Int)) : Pair (((w.drewN m).setCell ⟨B, 1, none⟩ x).setCell ⟨B, 1, none⟩ (.int .i64 y)) B u (.int .i64 (q : Nat)) := by
  subst hy; exact ((show Pair (w.drewN m) B u v from h).set1 _).set1 _
/-- Between two rounds of the loop over a string's bytes: the closing quote at Q lies ahead. -/
def QRel (W : World) (B b o n c Q : Nat) (bs : List UInt8) (w : World) : Prop :=
  ∃ q r, Pair w B (.slice (some ⟨b, o, none⟩) n c) (.int .i64 (q : Nat)) ∧ Keep B W w ∧ skipTo (bs.drop q) = some r ∧ q + r = Q

set_option maxHeartbeats 4000000 in
set_option maxRecDepth 100000 in
theorem next_any (W : World) (B b o n c k p e : Nat) (bs : List UInt8) (hn : bs.length = n) (hp : Pair W B (.slice (some ⟨b, o, none⟩) n c) (.int .i64 k)) (hl : Lies W b o bs) (hb : b < W.heap.size) (hne : b ≠ B) (hk : k ≤ n) (hc : n ≤ c) (hbig : c ≤ 9223372036854775807) (hnb : n ≤ 4611686018427387904)
    (hpp : p = k + past blanks (bs.drop k)) (hpn : p < n) (he : tokEnd bs p = some e) :
    Calls Tryd.prog 21 #[.pointer (some ⟨B, 0, none⟩)] W fun e' w' => RetNext W B b o n c p e bs e' w' := by
  have HE : Hid (tokEnd bs p = some e) := he
  have HN : Hid (bs.length = n) := hn
  obtain ⟨a1, c1, htrim⟩ := trim_ext blanks (by decide) (asc _ (by decide)) W b o n c k bs hn hl hb hk hc (by omega)
  have HP : Hid (p = k + past blanks (bs.drop k)) := hpp
  have hj : past blanks (bs.drop k) = p - k := by omega
  rw [hj, show n - k - (p - k) = n - p by omega] at htrim
  have e1 : IntKind.i64.wrap (((n - k : Nat) : Int) - ((n - p : Nat) : Int)) = ((p - k : Nat) : Int) := by rw [IntWalk.i64_in _ (by omega)]; omega
  have e2 : IntKind.i64.wrap ((k : Int) + ((p - k : Nat) : Int)) = (p : Int) := by rw [IntWalk.i64_in _ (by omega)]; omega
  have hkp : k ≤ p := by omega
  clear he hn hpp hj
  have g0 : ∀ g : Ext W, g.g.cell? ⟨B, 0, none⟩ = some (.slice (some ⟨b, o, none⟩) n c) := fun g => (hp.below g.h).cell0
  have g1 : ∀ g : Ext W, g.g.cell? ⟨B, 1, none⟩ = some (.int .i64 k) := fun g => (hp.below g.h).cell1
  have hkc : k < c := by omega
  have HPP : Hid (Pair W B (.slice (some ⟨b, o, none⟩) n c) (.int .i64 k)) := hp
  clear hp
  have hinst : Nonempty (Ext W) := ⟨⟨W, Below.refl _ _⟩⟩
  go_enter Tryd.func21, Tryd.ntmps21
  go_wp2_with fail
  refine region_quiet_tail (C := fun w' => ∃ g : Ext W, w' = g.g) 29 (by kernel_rfl) (by kernel_rfl) (ext_draw W) ?_
  simp only [List.take_succ_cons, List.take_zero, List.drop_succ_cons, List.drop_zero]
  repeat (go_big_quiet_step (exact htrim _))
  refine wpQuiet_nil ?_
  rintro _ ⟨g, rfl⟩
  have gp := HPP.out.below g.h
  have gf := gp.frozen 1
  have gk : Keep B W g.g := Keep.of_below g.h
  clear g0 g1 htrim
  generalize g.g = V at gp gf gk ⊢
  have v0 := gp.cell0
  have v1 := gp.cell1
  have vl := hl.keep gk hb hne p (by rw [HN.out]; exact hpn)
  have HGP : Hid (Pair V B (.slice (some ⟨b, o, none⟩) n c) (.int .i64 k)) := gp
  have HGK : Hid (Keep B W V) := gk
  have HL : Hid (Lies W b o bs) := hl
  clear gp gk hl
  generalize hx : (bs.getD p 0).toNat = x at vl
  have HX : Hid ((bs.getD p 0).toNat = x) := hx
  clear hx
  go_wp2_with fail
  · obtain rfl := tok_brack HE.out HX.out (by have := ‹((x : Int) == 123) = true›; simp at this; omega)
    go_quiet (fail)
    go_wp2
    go_ret2
    exact leaf HGP.out HGK.out HX.out _ _ _ _ (by omega) (by omega)
  · obtain rfl := tok_brack HE.out HX.out (by have := ‹((x : Int) == 125) = true›; simp at this; omega)
    go_quiet (fail)
    go_wp2
    go_ret2
    exact leaf HGP.out HGK.out HX.out _ _ _ _ (by omega) (by omega)
  · obtain rfl := tok_brack HE.out HX.out (by have := ‹((x : Int) == 91) = true›; simp at this; omega)
    go_quiet (fail)
    go_wp2
    go_ret2
    exact leaf HGP.out HGK.out HX.out _ _ _ _ (by omega) (by omega)
  · obtain rfl := tok_brack HE.out HX.out (by have := ‹((x : Int) == 93) = true›; simp at this; omega)
    go_quiet (fail)
    go_wp2
    go_ret2
    exact leaf HGP.out HGK.out HX.out _ _ _ _ (by omega) (by omega)
  · obtain ⟨r, hr, he⟩ := tok_quote HE.out HX.out (by have := ‹((x : Int) == 34) = true›; simp at this; omega)
    have HR : Hid (skipTo (bs.drop (p + 1)) = some r) := hr
    have HEE : Hid (e = p + r + 2) := he
    clear hr he
    go_loopw [] (fun w => QRel W B b o n c (p + 1 + r) bs w) (fun w => n - atOf B w)
    case atStart =>
      refine ⟨p + 1, r, ?_, (HGK.out.trans (Keep.set V 1 _)).trans (Keep.set _ 1 _), HR.out, rfl⟩
      have := (HGP.out.set1 (.int .i64 p)).set1 (.int .i64 ((p : Int) + 1))
      exact this
    case round =>
      obtain ⟨q, r', gp, gk, hs, hQ⟩ := hrel
      have hq := skip_in bs q r' hs
      have hqn : q < n := by rw [HN.out] at hq; exact hq
      have u0 := gp.cell0
      have u1 := gp.cell1
      have uf := gp.frozen 1
      have ul := HL.out.keep gk hb hne
      have uq := ul q hq
      have up := ul p (by rw [HN.out]; exact hpn)
      rw [HX.out] at up
      have HUP : Hid (Pair wr B (.slice (some ⟨b, o, none⟩) n c) (.int .i64 q)) := gp
      have HUK : Hid (Keep B W wr) := gk
      have HS : Hid (skipTo (bs.drop q) = some r') := hs
      have HQ : Hid (q + r' = p + 1 + r) := hQ
      clear gp gk hs hQ ul hq
      generalize hy : (bs.getD q 0).toNat = y at uq
      have HY : Hid ((bs.getD q 0).toNat = y) := hy
      clear hy
      by_cases y1 : ((y : Int) == 34) = true
      · have hc34 : bs.getD q 0 = 34 := by rw [byte_is, HY.out]; simp at y1; show y = 34; omega
        have hr0 : r' = 0 := by
          have h1 := skip_quote bs q (by rw [HN.out]; exact hqn) hc34
          rw [HS.out] at h1
          exact Option.some.inj h1
        have hqe : e = q + 1 := by have := HQ.out; have := HEE.out; omega
        subst hqe
        have hqp : p ≤ q := by have := HQ.out; omega
        go_wp2_with fail
        go_quiet (fail)
        go_wp2_with fail
        go_quiet (fail)
        go_wp2
        go_ret2
        exact leaf1 (V := wr.drewN _) HUP.out (HUK.out.drew _) HX.out _ _ _ (by omega) (by omega)
      · have y2 : ((y : Int) == 34) = false := by simpa using y1
        have hc34 : bs.getD q 0 ≠ 34 := by rw [Ne, byte_is, HY.out]; simp at y2; show ¬ y = 34; omega
        clear y1
        by_cases y3 : ((y : Int) == 92) = true
        · have hc92 : bs.getD q 0 = 92 := by rw [byte_is, HY.out]; simp at y3; show y = 92; omega
          obtain ⟨r2, hr2, hs2⟩ := skip_back bs q r' HS.out hc92
          have hq2 := skip_in bs (q + 2) r2 hs2
          rw [HN.out] at hq2
          have HS2 : Hid (skipTo (bs.drop (q + 2)) = some r2) := hs2
          have HR2 : Hid (r' = r2 + 2) := hr2
          clear hs2 hr2
          go_wp2_with fail
          go_quiet (fail)
          go_wp2_with fail
          go_quiet (fail)
          go_wp2
          go_roundw
          case rel =>
            refine ⟨q + 2, r2, two_pair HUP.out _ _ _ (by omega), ((HUK.out.drew _).trans (Keep.set _ 1 _)).trans (Keep.set _ 1 _), HS2.out, ?_⟩
            · have := HQ.out; have := HR2.out; omega
          case measure =>
            rw [pair_at (two_pair HUP.out _ _ _ (show ((q : Int) + 1 + 1) = ((q + 2 : Nat) : Int) by omega)), pair_at HUP.out]
            omega
        · have y4 : ((y : Int) == 92) = false := by simpa using y3
          have hc92 : bs.getD q 0 ≠ 92 := by rw [Ne, byte_is, HY.out]; simp at y4; show ¬ y = 92; omega
          clear y3
          obtain ⟨r2, hr2, hs2⟩ := skip_plain bs q r' HS.out hc92 hc34
          have hq2 := skip_in bs (q + 1) r2 hs2
          rw [HN.out] at hq2
          have HS2 : Hid (skipTo (bs.drop (q + 1)) = some r2) := hs2
          have HR2 : Hid (r' = r2 + 1) := hr2
          clear hs2 hr2
          go_wp2_with fail
          go_quiet (fail)
          go_wp2_with fail
          go_quiet (fail)
          go_wp2
          go_roundw
          case rel =>
            refine ⟨q + 1, r2, one_pair HUP.out _ _ (by omega), (HUK.out.drew _).trans (Keep.set _ 1 _), HS2.out, ?_⟩
            · have := HQ.out; have := HR2.out; omega
          case measure =>
            rw [pair_at (one_pair HUP.out _ _ (show ((q : Int) + 1) = ((q + 1 : Nat) : Int) by omega)), pair_at HUP.out]
            omega
  · obtain ⟨rfl, hlen⟩ := tok_four HE.out HX.out (by have := ‹((x : Int) == 116) = true›; simp at this; omega)
    rw [HN.out] at hlen
    go_quiet (fail)
    go_wp2
    go_ret2
    exact leaf HGP.out HGK.out HX.out _ _ _ _ (by omega) (by omega)
  · obtain ⟨rfl, hlen⟩ := tok_four HE.out HX.out (by have := ‹((x : Int) == 110) = true›; simp at this; omega)
    rw [HN.out] at hlen
    go_quiet (fail)
    go_wp2
    go_ret2
    exact leaf HGP.out HGK.out HX.out _ _ _ _ (by omega) (by omega)
  · obtain ⟨rfl, hlen⟩ := tok_five HE.out HX.out (by have := ‹((x : Int) == 102) = true›; simp at this; omega)
    rw [HN.out] at hlen
    go_quiet (fail)
    go_wp2
    go_ret2
    exact leaf HGP.out HGK.out HX.out _ _ _ _ (by omega) (by omega)
  · have he := tok_num HE.out HX.out (by have t1 := ‹((x : Int) == 123) = false›; have t2 := ‹((x : Int) == 125) = false›; have t3 := ‹((x : Int) == 91) = false›; have t4 := ‹((x : Int) == 93) = false›; simp at t1 t2 t3 t4; omega)
      (by have t1 := ‹((x : Int) == 34) = false›; simp at t1; omega) (by have t1 := ‹((x : Int) == 116) = false›; have t2 := ‹((x : Int) == 110) = false›; simp at t1 t2; omega) (by have t1 := ‹((x : Int) == 102) = false›; simp at t1; omega)
    have gp1 : Pair (V.setCell ⟨B, 1, none⟩ (.int .i64 p)) B (.slice (some ⟨b, o, none⟩) n c) (.int .i64 p) := HGP.out.set1 _
    have gk1 : Keep B W (V.setCell ⟨B, 1, none⟩ (.int .i64 p)) := HGK.out.trans (Keep.set V 1 _)
    clear v0 v1 vl gf HGP HGK hinst
    clear g
    generalize V.setCell ⟨B, 1, none⟩ (.int .i64 p) = U at gp1 gk1 ⊢
    have ul := HL.out.keep gk1 hb hne
    obtain ⟨a2, c2, htrim⟩ := trim_ext nums (by decide) (asc _ (by decide)) U b o n c p bs HN.out ul (Nat.lt_of_lt_of_le hb gk1.size) (by omega) hc (by omega)
    have hle : e ≤ n := by
      have := past_le nums (bs.drop p)
      rw [List.length_drop, HN.out] at this
      omega
    have hpe : p ≤ e := by omega
    have hj : past nums (bs.drop p) = e - p := by omega
    rw [hj, show n - p - (e - p) = n - e by omega] at htrim
    clear hj he
    have e3 : IntKind.i64.wrap (((n - p : Nat) : Int) - ((n - e : Nat) : Int)) = ((e - p : Nat) : Int) := by rw [IntWalk.i64_in _ (by omega)]; omega
    have e4 : IntKind.i64.wrap ((p : Int) + ((e - p : Nat) : Int)) = (e : Int) := by rw [IntWalk.i64_in _ (by omega)]; omega
    have hinst : Nonempty (Ext U) := ⟨⟨U, Below.refl _ _⟩⟩
    have g0 : ∀ g : Ext U, g.g.cell? ⟨B, 0, none⟩ = some (.slice (some ⟨b, o, none⟩) n c) := fun g => (gp1.below g.h).cell0
    have g1 : ∀ g : Ext U, g.g.cell? ⟨B, 1, none⟩ = some (.int .i64 p) := fun g => (gp1.below g.h).cell1
    have HUL : Hid (Lies U b o bs) := ul
    have HGP : Hid (Pair U B (.slice (some ⟨b, o, none⟩) n c) (.int .i64 p)) := gp1
    have HGK : Hid (Keep B W U) := gk1
    have hpc : p < c := by omega
    clear gp1 gk1 ul
    refine region_quiet_tail (C := fun w' => ∃ g : Ext U, w' = g.g) 29 (by kernel_rfl) (by kernel_rfl) (ext_draw U) ?_
    simp only [List.take_succ_cons, List.take_zero, List.drop_succ_cons, List.drop_zero]
    repeat (go_big_quiet_step (exact htrim _))
    refine wpQuiet_nil ?_
    rintro _ ⟨g, rfl⟩
    have gp := HGP.out.below g.h
    have gf := gp.frozen 1
    have v0 := gp.cell0
    have v1 := gp.cell1
    have gk := HGK.out.trans (Keep.of_below g.h)
    have vl := HL.out.keep gk hb hne p (by rw [HN.out]; exact hpn)
    rw [HX.out] at vl
    have HGP2 : Hid (Pair g.g B (.slice (some ⟨b, o, none⟩) n c) (.int .i64 p)) := gp
    have HGK2 : Hid (Keep B W g.g) := gk
    clear g0 g1 htrim gp gk HGK HGP
    generalize g.g = V2 at *
    go_wp2_with fail
    go_quiet (fail)
    go_wp2
    go_ret2
    exact leaf1 HGP2.out HGK2.out HX.out _ _ _ (by omega) (by omega)
end Go.Proofs.Qxb6601188aDoor
