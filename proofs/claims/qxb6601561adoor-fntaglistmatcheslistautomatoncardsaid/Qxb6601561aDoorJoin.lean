/-
  Seat b6601561aD: the walk of joinComma.
-/
import Derived.Test.Qxb6601561aDoorTag
namespace Go.Proofs.Qxb6601561aDoor
open Go.RowKit

theorem info5 : (Tryd.prog.info? 5).map (fun i => (i.zero, i.size, i.bytes)) = some (some (.int .u8 0), 1, 1) := by kernel_rfl
def bv (l : List UInt8) : List Value := l.map fun b => Value.int .u8 b.toNat
theorem below_app2 {B : Nat} {w wr w1 : World} {v : Value} {n : Nat} {L : List Value} {e : TypeId} {o : Obj} (hbl : Below B w wr) (hB : B ≤ wr.heap.size) (hown : wr.ownsRow B e 1 v n L) (hg : (wr.alloc o).grownBy w1 v.ownBlock) : Below B w w1 :=
  (hbl.alloc hB o).grown hg (by simp; omega) (fun k hk => (hown.lt k hk).1)
theorem own_one {wr : World} {B k : Nat} {v : Value} {cur nx : List UInt8} {c : UInt8} {x : Int} (h : wr.ownsRow B 5 1 v k (bv cur ++ [.int .u8 x])) (hx : (c.toNat : Int) = x) (e : nx = cur ++ [c]) (hk : k = cur.length + 1) : wr.ownsRow B 5 1 v nx.length (bv nx) := by
  subst hx e hk
  have e2 : bv (cur ++ [c]) = bv cur ++ [.int .u8 c.toNat] := by simp [bv]
  have e1 : (cur ++ [c]).length = cur.length + 1 := by simp
  rw [e2, e1]; exact h

/-- What stands when the first k lines are laid. -/
def J (xs : List ByteArray) (k : Nat) : List UInt8 := Lib.join ((xs.take k).map (·.data.toList)) [44]
theorem join_snoc (zs : List (List UInt8)) (z : List UInt8) (h : zs ≠ []) : Lib.join (zs ++ [z]) [44] = Lib.join zs [44] ++ 44 :: z := by
  unfold Lib.join
  induction zs with
  | nil => exact absurd rfl h
  | cons x t ih =>
    cases t with
    | nil => simp [List.intercalate]
    | cons y t =>
      have := ih (by simp)
      simp only [List.cons_append, List.intercalate, List.intersperse_cons_cons, List.flatten_cons] at *
      rw [this]; simp
theorem J_succ (xs : List ByteArray) (k : Nat) (h : k < xs.length) : J xs (k + 1) = J xs k ++ ((if k = 0 then [] else [44]) ++ (xs[k]?.getD ByteArray.empty).data.toList) := by
  unfold J
  have e : (xs.take (k + 1)).map (·.data.toList) = (xs.take k).map (·.data.toList) ++ [(xs[k]?.getD ByteArray.empty).data.toList] := by
    rw [List.take_succ_eq_append_getElem h, List.map_append]; simp [h]
  rw [e]
  by_cases hk : k = 0
  · subst hk
    simp [Lib.join, List.intercalate]
  · rw [join_snoc _ _ (by
      intro h0
      have := congrArg List.length h0
      rw [List.length_map, List.length_take, List.length_nil] at this
      omega), if_neg hk]
    simp
theorem J_len (xs : List ByteArray) (k : Nat) (hk : k ≤ xs.length) : (J xs k).length ≤ sumL (xs.take k) + k := by
  induction k with
  | zero => simp [J, Lib.join, List.intercalate]
  | succ k ih =>
    have := ih (by omega)
    rw [J_succ xs k (by omega), sumL_succ xs k (by omega), List.length_append, List.length_append]
    have h1 : (if k = 0 then ([] : List UInt8) else [44]).length ≤ 1 := by split <;> simp
    have h2 : ((xs[k]?.getD ByteArray.empty).data.toList).length = (xs[k]?.getD ByteArray.empty).size := by simp
    omega
theorem sumL_le (xs : List ByteArray) (k : Nat) : sumL (xs.take k) ≤ sumL xs := by
  conv => rhs; rw [← List.take_append_drop k xs]
  unfold sumL; rw [List.map_append, List.sum_append]; omega

def RetJoin (l : List UInt8) (w : World) (e : Ending) (w' : World) : Prop := ∃ g cap, e = .returned (.slice (some ⟨g, 0, none⟩) l.length cap) ∧ l.length ≤ cap ∧ cap ≤ 9223372036854775807 ∧ w.heap.size ≤ g ∧ g < w'.heap.size ∧ (∀ i, i < l.length → w'.cell? ⟨g, i, none⟩ = some (.int .u8 (l.getD i 0).toNat)) ∧ Below w.heap.size w w'
/-- A slice of the call's own, never nil. -/
def Own (B : Nat) (wr : World) (v : Value) (l : List UInt8) : Prop := wr.ownsRow B 5 1 v l.length (bv l) ∧ v ≠ .slice none 0 0
theorem own_ret {B : Nat} {wr : World} {v : Value} {l : List UInt8} (h : Own B wr v l) : ∃ g cap, v = .slice (some ⟨g, 0, none⟩) l.length cap ∧ l.length ≤ cap ∧ cap ≤ 9223372036854775807 ∧ B ≤ g ∧ g < wr.heap.size ∧ (∀ i, i < l.length → wr.cell? ⟨g, i, none⟩ = some (.int .u8 (l.getD i 0).toNat)) := by
  have hlt := fun g hg => h.1.lt g hg
  have h1 := h.1
  rcases h.1.2 with ⟨hv, h0⟩ | ⟨g, cap, cur, rfl, hbg, hgb, hnc, hcm, hcs, htk⟩
  · exact absurd hv h.2
  · refine ⟨g, cap, rfl, hnc, hcm, hbg, (hlt g rfl).2, fun i hi => ?_⟩
    rw [h1.cellAt i (by omega)]
    simp [bv, List.getD, hi]

def IRel (xs : List ByteArray) (w : World) (v5 i6 : Value) (wr : World) : Prop := ∃ k : Nat, k ≤ xs.length ∧ i6 = .int .i64 k ∧ Own w.heap.size wr v5 (J xs k) ∧ Below w.heap.size w wr
def KRel (cur : List UInt8) (s : ByteArray) (w : World) (v5 j7 : Value) (wr : World) : Prop := ∃ m : Nat, m ≤ s.size ∧ j7 = .int .i64 m ∧ Own w.heap.size wr v5 (cur ++ s.data.toList.take m) ∧ Below w.heap.size w wr
theorem krel {cur : List UInt8} {s : ByteArray} {w wr : World} {v j j' : Value} (h : KRel cur s w v j wr) (e : j' = j) : KRel cur s w v j' wr := by subst e; exact h
theorem irel {xs : List ByteArray} {w wr : World} {v j j' : Value} (h : IRel xs w v j wr) (e : j' = j) : IRel xs w v j' wr := by subst e; exact h

theorem take_at (s : ByteArray) (i : Nat) (hi : i < s.size) : s.data.toList.take (i + 1) = s.data.toList.take i ++ [s[i]'hi] := by
  have h : i < s.data.toList.length := by simpa using hi
  rw [List.take_succ_eq_append_getElem h]
  simp [ByteArray.getElem_eq_getElem_data]
theorem take_all (s : ByteArray) : s.data.toList.take s.size = s.data.toList := List.take_of_length_le (by simp)

set_option maxHeartbeats 4000000 in
theorem joinComma_any (a : Option Addr) (xs : List ByteArray) (c : Nat) (w : World) (hx : StrAt w.heap.size w a xs) (hs : xs.length + sumL xs ≤ 1048576) :
    Calls Tryd.prog 16 #[.slice a xs.length c] w fun e w' => RetJoin (J xs xs.length) w e w' := by
  obtain ⟨i0, hi, hz0, hz1, hz2⟩ := info_parts info5
  have hJ : ∀ k, k ≤ xs.length → (J xs k).length ≤ 1048576 := fun k hk => by have := J_len xs k hk; have := sumL_le xs k; omega
  have hsk : ∀ k, sumL (xs.take k) ≤ sumL xs := sumL_le xs
  have HX : Hid (StrAt w.heap.size w a xs) := hx
  clear hx
  go_enter Tryd.func16, Tryd.ntmps16
  go_wp2_with fail
  go_loop [3, 4] (fun t i => ∃ k m : Nat, k ≤ xs.length ∧ i = .int .i64 k ∧ t = .int .i64 m ∧ m = sumL (xs.take k) + k) (fun _ i => xs.length - (intOf i).toNat)
  case atStart => exact ⟨0, 0, Nat.zero_le _, rfl, rfl, by simp [sumL]⟩
  case round =>
    obtain ⟨k, m, hk, rfl, rfl, hm⟩ := hrel
    by_cases hlt : k < xs.length
    · obtain ⟨b, off, e, hb, hcell⟩ := HX.out k hlt
      cases e
      have HS : Hid (sumL (xs.take (k + 1)) = sumL (xs.take k) + (xs[k]?.getD ByteArray.empty).size) := sumL_succ xs k hlt
      have h1 := hsk (k + 1)
      rw [HS.out] at h1
      have HM : Hid (m = sumL (xs.take k) + k) := hm
      generalize xs[k]?.getD ByteArray.empty = s at hcell HS h1
      have hmb : m + s.size ≤ 2097152 := by omega
      clear hm h1 hJ hsk
      go_wp2
      go_round
      case rel => exact ⟨k + 1, m + (s.size + 1), by omega, by go_num, by go_num, by have := HS.out; have := HM.out; omega⟩
      case measure => simp [intOf]; omega
    · have e : k = xs.length := by omega
      have hmb : m ≤ 2097152 := by have := hsk k; omega
      clear hm hsk
      go_wp2_with (at_make; refine wpList_make_own _ rfl _ _ 27 rfl w.heap.size 5 i0 (.int .u8 0) 1 Tryd.underlying27 hi hz0 hz1 _ _ _ m rfl rfl rfl (by rw [hz2]; omega) (by unfold maxLen; omega) (Nat.le_refl _) ?_; intro w3 hown3 hgrow3)
      have hb3 : Below w.heap.size w w3 := (Below.refl _ w).grown hgrow3 (Nat.le_refl _) (fun k e => by cases e)
      go_loopw [5, 6, 7] (fun v5 i6 _ wr => IRel xs w v5 i6 wr) (fun _ i6 _ _ => xs.length - (intOf i6).toNat)
      case atStart => exact ⟨0, Nat.zero_le _, rfl, ⟨hown3, by simp⟩, hb3⟩
      case round =>
        clear hb3 hown3 hgrow3 hlt hk e
        obtain ⟨k, hk, rfl, ⟨hown, hnn⟩, hbl⟩ := hrel
        have hB := hbl.size
        by_cases hlt : k < xs.length
        · obtain ⟨b, off, e, hb, hcell0⟩ := HX.out k hlt
          cases e
          have hcell : wr.cell? ⟨b, off + k, none⟩ = some (.string (xs[k]?.getD ByteArray.empty)) := (hbl.cell (p := ⟨b, off + k, none⟩) hb).trans hcell0
          have HJ : Hid (J xs (k + 1) = J xs k ++ ((if k = 0 then [] else [44]) ++ (xs[k]?.getD ByteArray.empty).data.toList)) := J_succ xs k hlt
          have hj1 := hJ (k + 1) (by omega)
          rw [HJ.out] at hj1
          have hj0 := hJ k hk
          generalize xs[k]?.getD ByteArray.empty = s at hcell hcell0 HJ hj1
          generalize J xs k = cur at *
          have hls : s.data.toList.length = s.size := by simp
          rw [List.length_append, List.length_append, hls] at hj1
          by_cases hk0 : k = 0
          · subst hk0
            rw [Nat.add_zero] at hcell hcell0
            have hj2 : cur.length + s.size ≤ 1048576 := by omega
            clear hj1
            go_wp2_with fail
            go_loopw [5, 7] (fun v5 j7 wr => KRel (cur) s w v5 j7 wr) (fun _ j7 _ => s.size - (intOf j7).toNat)
            case atStart => exact ⟨0, Nat.zero_le _, rfl, ⟨by simpa using hown, hnn⟩, hbl⟩
            case round =>
              clear hown hbl hnn hcell
              rename_i wr0 _ _ _ _ _
              obtain ⟨m2, hm2, rfl, ⟨hownK, hnnK⟩, hblK⟩ := hrel
              have hBK := hblK.size
              have hcellK : wr.cell? ⟨b, off, none⟩ = some (.string s) := (hblK.cell (p := ⟨b, off, none⟩) hb).trans hcell0
              by_cases hlt3 : m2 < s.size
              · have hsn : s.data.toList.take (m2 + 1) = s.data.toList.take m2 ++ [s[m2]'hlt3] := take_at s m2 hlt3
                have HSN : Hid (s.data.toList.take (m2 + 1) = s.data.toList.take m2 ++ [s[m2]'hlt3]) := hsn
                have htk : (s.data.toList.take m2).length ≤ s.size := by rw [List.length_take]; simp; omega
                clear hsn
                have hlc : (cur ++ s.data.toList.take m2).length ≤ 4194304 := by rw [List.length_append]; omega
                generalize hGG : cur ++ s.data.toList.take m2 = pre at *
                have HGG : Hid (cur ++ s.data.toList.take m2 = pre) := hGG
                clear hGG htk
                go_wp2_with (at_builtin; refine wpList_append_own _ rfl (.tmp 44) (.tmp 51) 27 rfl w.heap.size 5 i0 (.int .u8 0) 1 1 Tryd.underlying27 hi hz0 hz1 hz2 rfl (by decide) _ _ _ rfl (hownK.alloc _) ⟨wr.heap.size, 0, none⟩ 1 1 [.int .u8 ((s[m2]'hlt3).toNat : Int)] rfl rfl (cell_one_new _ _ _) (by simp [Value.oneCell']) (by unfold maxLen; omega) (by omega) (by simp; omega) ?_; intro v8 w8 hown8 hgrow8 hnn8; have hb8 := below_app2 hblK hBK hownK hgrow8)
                go_roundw
                case rel => exact krel (show KRel (cur) s w v8 (.int .i64 ((m2 + 1 : Nat) : Int)) w8 from ⟨m2 + 1, by omega, rfl, ⟨own_one hown8 rfl (by rw [HSN.out, ← HGG.out]; simp) rfl, fun h => by have := hnn8.1 h; omega⟩, hb8⟩) (by go_num)
                case measure => simp [intOf]; omega
              · have e2 : m2 = s.size := by omega
                subst e2
                rw [take_all s] at hownK
                go_wp2
                go_roundw
                case rel => exact irel (show IRel xs w _ (.int .i64 ((0 + 1 : Nat) : Int)) wr from ⟨0 + 1, by omega, rfl, by rw [HJ.out]; exact ⟨by simpa using hownK, hnnK⟩, hblK⟩) (by go_num)
                case measure => simp [intOf]; omega
          · have hk0i : (0 : Int) < (k : Int) := by omega
            have hj2 : (cur ++ [44]).length + s.size ≤ 1048576 := by rw [if_neg hk0] at hj1; simp at hj1 ⊢; omega
            clear hj1
            go_wp2_with (at_builtin; refine wpList_append_own _ rfl (.tmp 32) (.tmp 33) 27 rfl w.heap.size 5 i0 (.int .u8 0) 1 1 Tryd.underlying27 hi hz0 hz1 hz2 rfl (by decide) _ _ _ rfl (hown.alloc _) ⟨wr.heap.size, 0, none⟩ 1 1 [.int .u8 44] rfl rfl (cell_one_new _ _ _) (by simp [Value.oneCell']) (by unfold maxLen; omega) (by omega) (by simp; omega) ?_; intro v5 w5 hown5 hgrow5 hnn5'; have hb5 := below_app2 hbl hB hown hgrow5)
            have hnn5 : v5 ≠ .slice none 0 0 := fun h => by have := hnn5'.1 h; omega
            have hown5b : w5.ownsRow w.heap.size 5 1 v5 (cur ++ [44]).length (bv (cur ++ [44])) := own_one (c := 44) hown5 rfl rfl rfl
            clear hnn5'
            go_loopw [5, 7] (fun v5 j7 wr => KRel (cur ++ [44]) s w v5 j7 wr) (fun _ j7 _ => s.size - (intOf j7).toNat)
            case atStart => exact ⟨0, Nat.zero_le _, rfl, ⟨by simpa using hown5b, hnn5⟩, hb5⟩
            case round =>
              clear hown5 hown5b hb5 hnn5 hcell hown hbl hnn
              rename_i wr0 _ _ _ _ _
              obtain ⟨m2, hm2, rfl, ⟨hownK, hnnK⟩, hblK⟩ := hrel
              have hBK := hblK.size
              have hcellK : wr.cell? ⟨b, off + k, none⟩ = some (.string s) := (hblK.cell (p := ⟨b, off + k, none⟩) hb).trans hcell0
              by_cases hlt3 : m2 < s.size
              · have hsn : s.data.toList.take (m2 + 1) = s.data.toList.take m2 ++ [s[m2]'hlt3] := take_at s m2 hlt3
                have HSN : Hid (s.data.toList.take (m2 + 1) = s.data.toList.take m2 ++ [s[m2]'hlt3]) := hsn
                have htk : (s.data.toList.take m2).length ≤ s.size := by rw [List.length_take]; simp; omega
                clear hsn
                have hlc : (cur ++ [44] ++ s.data.toList.take m2).length ≤ 4194304 := by rw [List.length_append]; omega
                generalize hGG : cur ++ [44] ++ s.data.toList.take m2 = pre at *
                have HGG : Hid (cur ++ [44] ++ s.data.toList.take m2 = pre) := hGG
                clear hGG htk
                go_wp2_with (at_builtin; refine wpList_append_own _ rfl (.tmp 44) (.tmp 51) 27 rfl w.heap.size 5 i0 (.int .u8 0) 1 1 Tryd.underlying27 hi hz0 hz1 hz2 rfl (by decide) _ _ _ rfl (hownK.alloc _) ⟨wr.heap.size, 0, none⟩ 1 1 [.int .u8 ((s[m2]'hlt3).toNat : Int)] rfl rfl (cell_one_new _ _ _) (by simp [Value.oneCell']) (by unfold maxLen; omega) (by omega) (by simp; omega) ?_; intro v8 w8 hown8 hgrow8 hnn8; have hb8 := below_app2 hblK hBK hownK hgrow8)
                go_roundw
                case rel => exact krel (show KRel (cur ++ [44]) s w v8 (.int .i64 ((m2 + 1 : Nat) : Int)) w8 from ⟨m2 + 1, by omega, rfl, ⟨own_one hown8 rfl (by rw [HSN.out, ← HGG.out]; simp) rfl, fun h => by have := hnn8.1 h; omega⟩, hb8⟩) (by go_num)
                case measure => simp [intOf]; omega
              · have e2 : m2 = s.size := by omega
                subst e2
                rw [take_all s] at hownK
                go_wp2
                go_roundw
                case rel => exact irel (show IRel xs w _ (.int .i64 ((k + 1 : Nat) : Int)) wr from ⟨k + 1, by omega, rfl, by rw [HJ.out]; exact ⟨by simpa [hk0] using hownK, hnnK⟩, hblK⟩) (by go_num)
                case measure => simp [intOf]; omega
        · have e : k = xs.length := by omega
          subst e
          have hret := own_ret ⟨hown, hnn⟩
          obtain ⟨g, cap, rfl, h1, h2, h3, h4, h5⟩ := hret
          go_wp2
          go_ret
          exact ⟨g, cap, rfl, h1, h2, h3, h4, h5, hbl⟩
end Go.Proofs.Qxb6601561aDoor
