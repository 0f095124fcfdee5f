/-
  Seat b6600830aD: strings.SplitSeq at one comma: its maker, and its iterator's word ('SeqCell').
-/
import Derived.Test.Qxb6600830aDoorSeq
import Derived.Lib.IndexBytes
namespace Go.Proofs.Qxb6600830aDoor
open Go.RowKit Go.Shelf

attribute [local go_sem] Oper.semAt_some

/-- The blocks from lo up to hi lie as they lay. -/
def KpR (lo hi : Nat) (W W' : World) : Prop := ∀ k, lo ≤ k → k < hi → W'.heap[k]? = W.heap[k]?
theorem KpR.trans {lo hi : Nat} {A B C : World} (h : KpR lo hi A B) (k : KpR lo hi B C) : KpR lo hi A C := fun j h1 h2 => (k j h1 h2).trans (h j h1 h2)
theorem KpR.put {lo hi : Nat} (W : World) (l : Nat) (o : Obj) (h : hi ≤ l) : KpR lo hi W (W.putObj l o) := fun _ _ h2 => World.putObj_heap_other (by omega)
theorem boxed_kp {lo hi B : Nat} {W W' : World} {t : TypeId} {v : Value} (h : Boxed W B t v) (k : KpR lo hi W W') (h1 : lo ≤ B) (h2 : B < hi) : Boxed W' B t v := (k B h1 h2).trans h
theorem boxed_setOther {W : World} {B B' : Nat} {t : TypeId} {v u : Value} (h : Boxed W B t v) (hne : B ≠ B') : Boxed (W.setCell ⟨B', 0, none⟩ u) B t v := (Below.heap_setCell W ⟨B', 0, none⟩ u B hne).trans h

def baOf (l : List UInt8) : ByteArray := ⟨l.toArray⟩
def splitB (s : ByteArray) : List ByteArray := (splitC s.data.toList).map baOf
theorem baOf_data (s : ByteArray) : baOf s.data.toList = s := by cases s; rfl
theorem baOf_toList (l : List UInt8) : (baOf l).data.toList = l := rfl
theorem baOf_size (l : List UInt8) : (baOf l).size = l.length := rfl

theorem splitB_last (s : ByteArray) (h : Lib.indexByte s.data.toList 44 < 0) : splitB s = [s] := by
  unfold splitB
  rw [splitC_last _ h]
  simp [baOf_data]
theorem splitB_next (s : ByteArray) (i : Nat) (h : Lib.indexByte s.data.toList 44 = (i : Int)) : i < s.size ∧ splitB s = s.extract 0 i :: splitB (s.extract (i + 1) s.size) := by
  obtain ⟨hi, _, _⟩ := indexByte_at _ _ _ h
  have hi' : i < s.size := by simpa using hi
  refine ⟨hi', ?_⟩
  unfold splitB
  rw [splitC_next _ i h, List.map_cons]
  congr 1
  · apply WideShapes.bytes_inj
    rw [Lib.extract_data, List.drop_zero, Nat.sub_zero]; rfl
  · rw [Lib.extract_data, List.take_of_length_le (by rw [List.length_drop, ← Lib.size_eq]; omega)]
theorem splitB_length (s : ByteArray) : (splitB s).length ≤ s.size + 1 := by
  unfold splitB
  rw [List.length_map]
  have := splitC_length s.data.toList
  rw [← Lib.size_eq] at this
  exact this
theorem splitB_pos (s : ByteArray) : 0 < (splitB s).length := by
  unfold splitB
  rw [List.length_map]
  exact List.length_pos_iff.2 (splitC_ne _)

/-- How long the string in the box B is: for the loop's measure. -/
def lenAt (B : Nat) (w : World) : Nat := match w.cell? ⟨B, 0, none⟩ with | some (.string s) => s.size | _ => 0
theorem lenAt_boxed {B : Nat} {w : World} {t : TypeId} {s : ByteArray} (h : Boxed w B t (.string s)) : lenAt B w = s.size := by unfold lenAt; rw [h.cell]

set_option maxRecDepth 100000 in
set_option maxHeartbeats 2000000 in
theorem split_cell (n : Nat) (hn : 1 ≤ n) (lo hi Bs Bp Bn : Nat) (s : ByteArray) (w : World) (hs : s.size ≤ 4611686018427387904)
    (hBs : Boxed w Bs 9 (.string s)) (hBp : Boxed w Bp 9 (.string ⟨#[44]⟩)) (hBn : Boxed w Bn 3 (.int .i64 0)) (l1 : lo ≤ Bs) (l2 : lo ≤ Bp) (l3 : lo ≤ Bn) (u1 : Bs < hi) (u2 : Bp < hi) (u3 : Bn < hi) (d1 : Bp ≠ Bs) (d2 : Bn ≠ Bs) :
    SeqCell Fence.wide n Tryd.prog 28 #[.pointer (some ⟨Bp, 0, none⟩), .pointer (some ⟨Bs, 0, none⟩), .pointer (some ⟨Bn, 0, none⟩)] Bs s.size (s.size + 1) (KpR lo hi) (splitB s) w := fun l J W hW hJ hY h0 => by
  have bS : Boxed W Bs 9 (.string s) := (hW.block Bs hBs.lt).trans hBs
  have bP : Boxed W Bp 9 (.string ⟨#[44]⟩) := (hW.block Bp hBp.lt).trans hBp
  have bN : Boxed W Bn 3 (.int .i64 0) := (hW.block Bn hBn.lt).trans hBn
  have c0 := bP.cell
  refine callsIn_of_wp Tryd.func28 rfl trivial ?_ rfl
  simp only [Tryd.ntmps28, List.size_toArray, List.length_cons, List.length_nil, Nat.reduceAdd, Nat.reduceSub, Array.replicate_succ, Array.replicate_zero, List.push_toArray, List.append_toArray, List.nil_append, List.cons_append]
  gi_wp2
  clear c0
  gi_loopw [7] (fun _ wr => ∃ (pre : List ByteArray) (cur : ByteArray), Boxed wr Bs 9 (.string cur) ∧ Boxed wr Bp 9 (.string ⟨#[44]⟩) ∧ Boxed wr Bn 3 (.int .i64 0) ∧ pre ++ splitB cur = splitB s ∧ cur.size ≤ s.size ∧ J pre wr)
    (fun _ wr => lenAt Bs wr)
  case atStart => exact ⟨[], s, bS, bP, bN, rfl, Nat.le_refl _, h0⟩
  case round =>
    clear bS bP bN
    obtain ⟨pre, cur, bS, bP, bN, hsp, hcs, hJs⟩ := hrel
    have cS := bS.cell
    have cP := bP.cell
    have cN := bN.cell
    have hlen : pre.length < s.size + 1 := by
      have h1 := congrArg List.length hsp
      rw [List.length_append] at h1
      have h2 := splitB_length s
      have h3 := splitB_pos cur
      omega
    by_cases hneg : Lib.indexByte cur.data.toList 44 < 0
    · have Hnx : Hid (splitB cur = [cur]) := splitB_last cur hneg
      have Hsp : Hid (pre ++ splitB cur = splitB s) := hsp
      have cI := Tryd.strings_Index_one cur 44
      generalize Lib.indexByte cur.data.toList 44 = ix at cI hneg
      clear hsp
      obtain ⟨fn, tmps, assign, body, hy, hR⟩ := hY pre cur wr hJs hlen hcs
      gi_wp2_with (refine ⟨trivial, ?_⟩; gi_at_call 29; refine (callsIn_wide.2 (cI _)).mono ?_; rintro e w' ⟨rfl, rfl⟩)
      clear cS cP cN cI
      refine hR.mono ?_
      clear hR
      rintro e W3 ⟨rfl, hJ3, hk3⟩
      clear hy
      gi_wp2
      go_end0
      refine ⟨⟨_, rfl⟩, ?_⟩
      rw [← Hsp.out, Hnx.out]
      exact hJ3
    · obtain ⟨i, hidx⟩ : ∃ i : Nat, Lib.indexByte cur.data.toList 44 = (i : Int) := ⟨(Lib.indexByte cur.data.toList 44).toNat, by omega⟩
      obtain ⟨hi', hnx⟩ := splitB_next cur i hidx
      have Hnx : Hid (splitB cur = cur.extract 0 i :: splitB (cur.extract (i + 1) cur.size)) := hnx
      have Hsp : Hid (pre ++ splitB cur = splitB s) := hsp
      have cI := Tryd.strings_Index_one cur 44
      rw [hidx] at cI
      clear hnx hsp hneg hidx
      have hx1 : (cur.extract 0 i).size ≤ s.size := by rw [Lib.size_eq, Lib.extract_data, List.length_take, List.length_drop, ← Lib.size_eq]; omega
      obtain ⟨fn, tmps, assign, body, hy, hR⟩ := hY pre (cur.extract 0 i) wr hJs hlen hx1
      gi_wp2_with (refine ⟨trivial, ?_⟩; gi_at_call 29; refine (callsIn_wide.2 (cI _)).mono ?_; rintro e w' ⟨rfl, rfl⟩)
      clear cS cP cN cI
      refine hR.mono ?_
      clear hR
      rintro e W3 ⟨rfl, hJ3, hk3⟩
      have bS3 := boxed_kp bS hk3 l1 u1
      have bP3 := boxed_kp bP hk3 l2 u2
      have bN3 := boxed_kp bN hk3 l3 u3
      have cS3 := bS3.cell
      have cP3 := bP3.cell
      have fS3 := bS3.frozen
      clear hy
      gi_wp2
      go_roundw
      case rel =>
        refine ⟨pre ++ [cur.extract 0 i], cur.extract (i + 1) cur.size, bS3.set _, boxed_setOther bP3 d1, boxed_setOther bN3 d2, ?_, ?_, hJ _ _ _ hJ3⟩
        · rw [← Hsp.out, Hnx.out]; simp
        · rw [Lib.size_eq, Lib.extract_data, List.length_take, List.length_drop, ← Lib.size_eq]; omega
      case measure =>
        rw [lenAt_boxed (bS3.set _), lenAt_boxed bS, Lib.size_eq, Lib.extract_data, List.length_take, List.length_drop, ← Lib.size_eq]; omega
end Go.Proofs.Qxb6600830aDoor
