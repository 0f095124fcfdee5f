/-
  Seat b6601188aD: the walk of FnNextReadsAnEscapedStringWhole.
-/
import Derived.Test.Qxb6601188aDoorBytes
import Derived.Test.Qxb6601188aDoorEsc
import Derived.Maps.AppendAt
import Derived.RangeFuncBox
namespace Go.Proofs.Qxb6601188aDoor
open Go.RowKit

theorem below_app1 {B : Nat} {w wr w1 : World} {v : Value} {n : Nat} {L : List Value} {e : TypeId} {o : Obj} (hbl : Below B w wr) (hB : B ≤ wr.heap.size) (hown : wr.ownsRow B e 1 v n L) (hg : (wr.alloc o).grownBy w1 v.ownBlock) : Below B w w1 :=
  (hbl.alloc hB o).grown hg (by simp; omega) (fun k hk => (hown.lt k hk).1)
theorem own_one {wr : World} {B k : Nat} {v : Value} {cur nx : List UInt8} {c : UInt8} {x : Int} (h : wr.ownsRow B 5 1 v k (bv cur ++ [.int .u8 x])) (hx : (c.toNat : Int) = x) (e : nx = cur ++ [c]) : wr.ownsRow B 5 1 v k (bv nx) := by
  subst hx e
  have e2 : bv (cur ++ [c]) = bv cur ++ [.int .u8 c.toNat] := by simp [bv]
  rw [e2]; exact h
theorem own_two {wr : World} {B k : Nat} {v : Value} {cur nx : List UInt8} {c : UInt8} {x : Int} (h : wr.ownsRow B 5 1 v k (bv cur ++ [.int .u8 92] ++ [.int .u8 x])) (hx : (c.toNat : Int) = x) (e : nx = cur ++ [92, c]) : wr.ownsRow B 5 1 v k (bv nx) := by
  subst hx e
  have e2 : bv (cur ++ [92, c]) = bv cur ++ [.int .u8 92] ++ [.int .u8 c.toNat] := by simp [bv]
  rw [e2]; exact h
theorem own_len {wr : World} {B k k' : Nat} {v : Value} {L : List Value} (h : wr.ownsRow B 5 1 v k L) (e : k' = k) : wr.ownsRow B 5 1 v k' L := e ▸ h
theorem own_add {wr : World} {B : Nat} {v : Value} {cur nx add : List UInt8} {k : Nat} {L : List Value} (h : wr.ownsRow B 5 1 v (cur.length + k) (bv cur ++ L)) (hL : L = bv add) (hk : k = add.length) (e : nx = cur ++ add) : wr.ownsRow B 5 1 v nx.length (bv nx) := by
  subst hL hk e
  have e2 : bv (cur ++ add) = bv cur ++ bv add := by simp [bv]
  rw [e2, List.length_append]; exact h
theorem own_lies {wr : World} {B : Nat} {v : Value} {l : List UInt8} (h : wr.ownsRow B 5 1 v l.length (bv l)) (hl : 0 < l.length) : ∃ g cap, v = .slice (some ⟨g, 0, none⟩) l.length cap ∧ l.length ≤ cap ∧ cap ≤ 9223372036854775807 ∧ g < wr.heap.size ∧ B ≤ g ∧ Lies wr g 0 l := by
  have hlt := fun g hg => h.lt g hg
  rcases h.2 with ⟨_, h0⟩ | ⟨g, cap, cur, rfl, hbg, hgb, hnc, hcm, hcs, htk⟩
  · omega
  · refine ⟨g, cap, rfl, hnc, hcm, (hlt g rfl).2, hbg, fun i hi => ?_⟩
    rw [Nat.zero_add, h.cellAt i (by omega)]
    simp [bv, List.getD, hi]
theorem cells_four (w : World) (x y z u : Value) (t : TypeId) : ∀ j v, [x, y, z, u][j]? = some v → (w.alloc (.cells #[x, y, z, u] t)).cell? ((⟨w.heap.size, 0, none⟩ : Addr).add j) = some v := by
  intro j v hj
  match j, hj with
  | 0, hj => simp at hj; subst hj; simp [Addr.add]
  | 1, hj => simp at hj; subst hj; simp [Addr.add]
  | 2, hj => simp at hj; subst hj; simp [Addr.add]
  | 3, hj => simp at hj; subst hj; simp [Addr.add]

def pre4 : List UInt8 := [32, 58, 44, 34]
def LRel (k : Nat) (xs : List UInt8) (kk ii : Value) : Prop := ∃ q i : Nat, q ≤ k ∧ kk = .int .i64 q ∧ ii = .int .i64 i ∧ i = 1 + (esc (xs.take q)).length
def Done (w : World) (e : Ending) (w' : World) : Prop := e = .returned (.bool true) ∧ Below w.heap.size w w'

set_option maxHeartbeats 4000000 in
set_option maxRecDepth 100000 in
theorem lawE_any (a a2 : Option Addr) (xs ys : List UInt8) (c c2 : Nat) (w : World) (hx : ByAt w.heap.size w a xs) (hy : ByAt w.heap.size w a2 ys) (hxl : xs.length ≤ 9223372036854775807) (hyl : ys.length ≤ 9223372036854775807) (hnil : a = none → xs.length = 0) (hnil2 : a2 = none → ys.length = 0) :
    Calls Tryd.prog 4 #[.slice a xs.length c, .slice a2 ys.length c2] w fun e w' => Done w e w' := by
  obtain ⟨i0, hi, hz0, hz1, hz2⟩ := info_parts info5
  have hbys := bytes2_any a a2 xs.length ys.length c c2 w hxl hyl
  have hcl := clone_any w.heap.size a xs c w hx (Nat.le_refl _)
  have hcl2 := fun (w1 : World) (hb : Below w.heap.size w w1) => clone_any w.heap.size a2 ys c2 w1 (hy.below hb) hb.size
  have hel := esc_len xs
  have HX : Hid (ByAt w.heap.size w a xs) := hx
  clear hx hy
  generalize hG : xs.length = n at *
  have HG : Hid (xs.length = n) := hG
  clear hG
  generalize hG : ys.length = m at *
  have HM : Hid (ys.length = m) := hG
  clear hG
  go_enter Tryd.func4, Tryd.ntmps4
  go_wp2_with fail
  refine hbys.mono ?_
  rintro e w' ⟨b, rfl, hb, hw'⟩
  have hw'' := hw'.symm
  subst hw''
  cases b with
  | false =>
    go_wp2
    go_ret
    exact ⟨rfl, Below.refl _ _⟩
  | true =>
    have hnm := hb rfl
    clear hb hbys
    go_wp2_with fail
    refine (hcl (by omega) hnil).mono ?_
    rintro e w1 ⟨s1, rfl, hs1, hb1⟩
    rw [HG.out]
    clear hcl
    go_wp2_with fail
    refine (hcl2 w1 hb1 (by omega) hnil2).mono ?_
    rintro e w2 ⟨t1, rfl, ht1, hb2⟩
    rw [HM.out]
    clear hcl2
    have hs2 := (hs1.below hb2).mono hb2.size
    have hw2 : Below w.heap.size w w2 := hb1.trans (hb2.mono hb1.size)
    clear hs1 hb1 hb2
    go_wp2_with (first
      | (at_make; refine wpList_make_own _ rfl _ _ 22 rfl w2.heap.size 5 i0 (.int .u8 0) 1 Tryd.underlying22 hi hz0 hz1 _ _ _ (5 + 2 * n + m) rfl rfl ?_ (by rw [hz2]; omega) (by unfold maxLen; omega) (Nat.le_refl _) ?_; rotate_left; (intro w3 hown3 hgrow3))
      | (at_builtin; refine wpList_append_own _ rfl (.tmp 47) (.tmp 48) 22 rfl w2.heap.size 5 i0 (.int .u8 0) 1 1 Tryd.underlying22 hi hz0 hz1 hz2 rfl (by decide) _ _ _ rfl (hown3.alloc _) ⟨w3.heap.size, 0, none⟩ 4 4 [.int .u8 32, .int .u8 58, .int .u8 44, .int .u8 34] rfl rfl (cells_four _ _ _ _ _ _) (by simp [Value.oneCell']) (by unfold maxLen; omega) (by omega) (by have := hgrow3.size; simp; omega) ?_; intro v4 w4 hown4 hgrow4 _))
    rotate_left
    · omega
    have hb3 : Below w2.heap.size w2 w3 := (Below.refl _ w2).grown hgrow3 (Nat.le_refl _) (fun k e => by cases e)
    have hb4 := below_app1 hb3 hb3.size hown3 hgrow4
    have hown : w4.ownsRow w2.heap.size 5 1 v4 (4 + (esc (xs.take 0)).length) (bv (pre4 ++ esc (xs.take 0))) := hown4
    clear hown3 hgrow3 hown4 hgrow4 hb3
    go_loopw [5, 6] (fun v i wr => ∃ k : Nat, k ≤ n ∧ i = .int .i64 k ∧ wr.ownsRow w2.heap.size 5 1 v (4 + (esc (xs.take k)).length) (bv (pre4 ++ esc (xs.take k))) ∧ Below w2.heap.size w2 wr) (fun _ i _ => n - (intOf i).toNat)
    case atStart => exact ⟨0, Nat.zero_le _, rfl, hown, hb4⟩
    case round =>
      clear hown hb4
      obtain ⟨k, hk, rfl, hown, hbl⟩ := hrel
      have hB := hbl.size
      by_cases hlt : k < n
      · obtain ⟨b, off, e, hb, hcell0⟩ := hs2 k (by rw [HG.out]; exact hlt)
        cases e
        have hcell : wr.cell? ⟨b, off + k, none⟩ = some (.int .u8 (xs.getD k 0).toNat) := (hbl.cell (p := ⟨b, off + k, none⟩) hb).trans hcell0
        have hlx := esc_len (xs.take k)
        rw [List.length_take] at hlx
        have HJ : Hid (esc (xs.take (k + 1)) = esc (xs.take k) ++ e1 (xs.getD k 0)) := esc_succ xs k (by rw [HG.out]; exact hlt)
        generalize esc (xs.take k) = cur at hown HJ hlx
        generalize hC : xs.getD k 0 = ch at hcell hcell0 HJ
        clear hC
        generalize hx : ch.toNat = x at hcell hcell0
        have HX1 : Hid (ch.toNat = x) := hx
        clear hx
        by_cases t1 : ((x : Int) == 34) = true
        · have hE : e1 ch = [92, ch] := e1_special ch (.inl (by rw [byte_is, HX1.out]; simp at t1; show x = 34; omega))
          have HE : Hid (e1 ch = [92, ch]) := hE
          clear hE
          go_wp2_with (first
            | (at_builtin; refine wpList_append_own _ rfl (.tmp 68) (.tmp 69) 22 rfl w2.heap.size 5 i0 (.int .u8 0) 1 1 Tryd.underlying22 hi hz0 hz1 hz2 rfl (by decide) _ _ _ rfl (hown.alloc _) ⟨wr.heap.size, 0, none⟩ 1 1 [.int .u8 92] rfl rfl (cell_one_new _ _ _) (by simp [Value.oneCell']) (by unfold maxLen; omega) (by omega) (by simp; omega) ?_; intro v5 w5 hown5 hgrow5 _; have hb5 := below_app1 hbl hB hown hgrow5; have hcell1 : w5.cell? ⟨b, off + k, none⟩ = some (.int .u8 x) := (hb5.cell (p := ⟨b, off + k, none⟩) hb).trans hcell0)
            | (at_builtin; refine wpList_append_own _ rfl (.tmp 71) (.tmp 76) 22 rfl w2.heap.size 5 i0 (.int .u8 0) 1 1 Tryd.underlying22 hi hz0 hz1 hz2 rfl (by decide) _ _ _ rfl (hown5.alloc _) ⟨w5.heap.size, 0, none⟩ 1 1 [.int .u8 x] rfl rfl (cell_one_new _ _ _) (by simp [Value.oneCell']) (by unfold maxLen; omega) (by omega) (by have := hb5.size; simp; omega) ?_; intro v6 w6 hown6 hgrow6 _; have hb6 := below_app1 hb5 hb5.size hown5 hgrow6))
          go_roundw
          case rel => exact ⟨k + 1, by omega, by go_num, by rw [HJ.out]; exact own_len (own_two hown6 (by rw [HX1.out]) (by rw [HE.out]; simp)) (by rw [HE.out, List.length_append]; simp; omega), hb6⟩
          case measure => simp [intOf]; omega
        · have t2 : ((x : Int) == 34) = false := by simpa using t1
          clear t1
          by_cases t3 : ((x : Int) == 92) = true
          · have hE : e1 ch = [92, ch] := e1_special ch (.inr (by rw [byte_is, HX1.out]; simp at t3; show x = 92; omega))
            have HE : Hid (e1 ch = [92, ch]) := hE
            clear hE
            go_wp2_with (first
              | (at_builtin; refine wpList_append_own _ rfl (.tmp 68) (.tmp 69) 22 rfl w2.heap.size 5 i0 (.int .u8 0) 1 1 Tryd.underlying22 hi hz0 hz1 hz2 rfl (by decide) _ _ _ rfl (hown.alloc _) ⟨wr.heap.size, 0, none⟩ 1 1 [.int .u8 92] rfl rfl (cell_one_new _ _ _) (by simp [Value.oneCell']) (by unfold maxLen; omega) (by omega) (by simp; omega) ?_; intro v5 w5 hown5 hgrow5 _; have hb5 := below_app1 hbl hB hown hgrow5; have hcell1 : w5.cell? ⟨b, off + k, none⟩ = some (.int .u8 x) := (hb5.cell (p := ⟨b, off + k, none⟩) hb).trans hcell0)
              | (at_builtin; refine wpList_append_own _ rfl (.tmp 71) (.tmp 76) 22 rfl w2.heap.size 5 i0 (.int .u8 0) 1 1 Tryd.underlying22 hi hz0 hz1 hz2 rfl (by decide) _ _ _ rfl (hown5.alloc _) ⟨w5.heap.size, 0, none⟩ 1 1 [.int .u8 x] rfl rfl (cell_one_new _ _ _) (by simp [Value.oneCell']) (by unfold maxLen; omega) (by omega) (by have := hb5.size; simp; omega) ?_; intro v6 w6 hown6 hgrow6 _; have hb6 := below_app1 hb5 hb5.size hown5 hgrow6))
            go_roundw
            case rel => exact ⟨k + 1, by omega, by go_num, by rw [HJ.out]; exact own_len (own_two hown6 (by rw [HX1.out]) (by rw [HE.out]; simp)) (by rw [HE.out, List.length_append]; simp; omega), hb6⟩
            case measure => simp [intOf]; omega
          · have t4 : ((x : Int) == 92) = false := by simpa using t3
            clear t3
            have hE : e1 ch = [ch] := e1_plain ch (by rw [Ne, byte_is, HX1.out]; simp at t2; show ¬ x = 34; omega) (by rw [Ne, byte_is, HX1.out]; simp at t4; show ¬ x = 92; omega)
            have HE : Hid (e1 ch = [ch]) := hE
            clear hE
            go_wp2_with (at_builtin; refine wpList_append_own _ rfl (.tmp 71) (.tmp 76) 22 rfl w2.heap.size 5 i0 (.int .u8 0) 1 1 Tryd.underlying22 hi hz0 hz1 hz2 rfl (by decide) _ _ _ rfl (hown.alloc _) ⟨wr.heap.size, 0, none⟩ 1 1 [.int .u8 x] rfl rfl (cell_one_new _ _ _) (by simp [Value.oneCell']) (by unfold maxLen; omega) (by omega) (by simp; omega) ?_; intro v6 w6 hown6 hgrow6 _; have hb6 := below_app1 hbl hB hown hgrow6)
            go_roundw
            case rel => exact ⟨k + 1, by omega, by go_num, by rw [HJ.out]; exact own_len (own_one hown6 (by rw [HX1.out]) (by rw [HE.out]; simp)) (by rw [HE.out, List.length_append]; simp; omega), hb6⟩
            case measure => simp [intOf]; omega
      · have e : k = n := by omega
        subst e
        have hT : xs.take k = xs := by rw [← HG.out, List.take_length]
        rw [hT] at hown
        clear hT
        have HS2 : Hid (ByAt w2.heap.size w2 s1 xs) := hs2
        have HT1 : Hid (ByAt w2.heap.size w2 t1 ys) := ht1
        clear hs2 ht1
        generalize hE : (esc xs).length = E at hown hel
        have HEE : Hid ((esc xs).length = E) := hE
        clear hE
        go_wp2_with (at_builtin; refine wpList_append_own _ rfl (.tmp 78) (.tmp 79) 22 rfl w2.heap.size 5 i0 (.int .u8 0) 1 1 Tryd.underlying22 hi hz0 hz1 hz2 rfl (by decide) _ _ _ rfl (hown.alloc _) ⟨wr.heap.size, 0, none⟩ 1 1 [.int .u8 34] rfl rfl (cell_one_new _ _ _) (by simp [Value.oneCell']) (by unfold maxLen; omega) (by omega) (by simp; omega) ?_; intro v6 w6 hown6 hgrow6 _; have hb6 := below_app1 hbl hB hown hgrow6; obtain ⟨g6, cap6, rfl⟩ := ownsRow_succ hown6)
        have hown7 : w6.ownsRow w2.heap.size 5 1 (.slice (some ⟨g6, 0, none⟩) (4 + E + 1) cap6) (4 + E + 1 + 0) (bv (pre4 ++ esc xs ++ [34] ++ ys.take 0)) := own_one (c := 34) hown6 rfl (by simp)
        clear hown6 hgrow6 hown hbl hB
        go_loopw [5, 8] (fun v i wr => ∃ j : Nat, j ≤ m ∧ i = .int .i64 j ∧ wr.ownsRow w2.heap.size 5 1 v (4 + E + 1 + j) (bv (pre4 ++ esc xs ++ [34] ++ ys.take j)) ∧ Below w2.heap.size w2 wr) (fun _ i _ => m - (intOf i).toNat)
        case atStart => exact ⟨0, Nat.zero_le _, rfl, hown7, hb6⟩
        case round =>
          clear hown7 hb6
          obtain ⟨j, hj, rfl, hown, hbl⟩ := hrel
          have hB := hbl.size
          by_cases hlt2 : j < m
          · obtain ⟨b, off, e, hb, hcell0⟩ := HT1.out j (by rw [HM.out]; exact hlt2)
            cases e
            have hcell : wr.cell? ⟨b, off + j, none⟩ = some (.int .u8 (ys.getD j 0).toNat) := (hbl.cell (p := ⟨b, off + j, none⟩) hb).trans hcell0
            have HJ : Hid (ys.take (j + 1) = ys.take j ++ [ys.getD j 0]) := take_snoc ys j (by rw [HM.out]; exact hlt2)
            generalize ys.getD j 0 = ch at hcell hcell0 HJ
            generalize hx : ch.toNat = x at hcell hcell0
            have HX1 : Hid (ch.toNat = x) := hx
            clear hx
            go_wp2_with (at_builtin; refine wpList_append_own _ rfl (.tmp 89) (.tmp 94) 22 rfl w2.heap.size 5 i0 (.int .u8 0) 1 1 Tryd.underlying22 hi hz0 hz1 hz2 rfl (by decide) _ _ _ rfl (hown.alloc _) ⟨wr.heap.size, 0, none⟩ 1 1 [.int .u8 x] rfl rfl (cell_one_new _ _ _) (by simp [Value.oneCell']) (by unfold maxLen; omega) (by omega) (by simp; omega) ?_; intro v8 w8 hown8 hgrow8 _; have hb8 := below_app1 hbl hB hown hgrow8)
            go_roundw
            case rel => exact ⟨j + 1, by omega, by go_num, own_one hown8 (by rw [HX1.out]) (by rw [HJ.out]; simp), hb8⟩
            case measure => simp [intOf]; omega
          · have e : j = m := by omega
            subst e
            have hT : ys.take j = ys := by rw [← HM.out, List.take_length]
            have hbuf : pre4 ++ esc xs ++ [34] ++ ys.take j = bufOf xs ys := by rw [hT]; simp [bufOf, pre4]
            rw [hbuf] at hown
            clear hT hbuf
            have hlen : (bufOf xs ys).length = 4 + E + 1 + j := by rw [buf_len, HEE.out, HM.out]; omega
            rw [← hlen] at hown
            obtain ⟨g, cap, rfl, hnc, hcm, hgs, hgb, hlies⟩ := own_lies hown (by omega)
            rw [hlen] at hnc hown ⊢
            have hz := zznext_any wr g 0 (4 + E + 1 + j) cap 0 3 (E + 5) (bufOf xs ys) hlen hlies hgs (Nat.zero_le _) hnc hcm (by omega) (by rw [buf_past]) (by omega) (by rw [buf_tok, HEE.out])
            go_wp2_with fail
            refine hz.mono ?_
            rintro e w9 ⟨rfl, hb9⟩
            rw [buf_three]
            clear hz
            have hl9 : Lies w9 g 0 (bufOf xs ys) := hlies.keep (B := wr.heap.size) (Keep.of_below hb9) hgs (by omega)
            have hlow : Below w2.heap.size w2 w9 := hbl.trans (hb9.mono hB)
            have hfin : Below w.heap.size w w9 := hw2.trans (hlow.mono hw2.size)
            have z0 : w9.cell? ⟨g, 3, none⟩ = some (.int .u8 34) := by
              have := hl9 3 (by omega)
              rw [buf_three] at this
              exact this
            have z1 : w9.cell? ⟨g, 3 + (E + 1), none⟩ = some (.int .u8 34) := by
              have := hl9 (4 + E) (by omega)
              rw [← HEE.out, buf_last, HEE.out, show 0 + (4 + E) = 3 + (E + 1) by omega] at this
              exact this
            have hs9 := HS2.out.below hlow
            have HL9 : Hid (Lies w9 g 0 (bufOf xs ys)) := hl9
            have HFIN : Hid (Below w.heap.size w w9) := hfin
            clear hl9 hfin hlow hlies hbl hown hb9
            rw [show ((UInt8.toNat 34 : Nat) : Int) = 34 from rfl, show E + 5 - 3 = E + 2 from rfl]
            go_wp2_with fail
            go_loop [12, 13, 14] (fun kk ii _ => LRel k xs kk ii) (fun kk _ _ => k - (intOf kk).toNat)
            case atStart => exact ⟨0, 1, Nat.zero_le _, rfl, rfl, rfl⟩
            case round =>
              obtain ⟨q, i, hq, rfl, rfl, hi⟩ := hrel
              by_cases hlt3 : q < k
              · have hlq : q < xs.length := by rw [HG.out]; exact hlt3
                obtain ⟨b, off, e, hb, hcell⟩ := hs9 q hlq
                cases e
                have h1 := esc_lt xs q hlq
                have h2 := esc_succ xs q hlq
                have h3 : ∀ j', j' < (e1 (xs.getD q 0)).length → w9.cell? ⟨g, 3 + (i + j'), none⟩ = some (.int .u8 ((e1 (xs.getD q 0)).getD j' 0).toNat) := fun j' hj' => by
                  have := HL9.out (4 + (esc (xs.take q)).length + j') (by rw [hlen, ← HEE.out]; omega)
                  rw [buf_get xs ys q j' hlq hj', show 0 + (4 + (esc (xs.take q)).length + j') = 3 + (i + j') by omega] at this
                  exact this
                rw [HEE.out] at h1
                have hL : (esc (xs.take (q + 1))).length = (esc (xs.take q)).length + (e1 (xs.getD q 0)).length := by rw [h2, List.length_append]
                have HLL : Hid ((esc (xs.take (q + 1))).length = (esc (xs.take q)).length + (e1 (xs.getD q 0)).length) := hL
                have HI : Hid (i = 1 + (esc (xs.take q)).length) := hi
                have hiE : i + (e1 (xs.getD q 0)).length ≤ E + 1 := by omega
                clear h1 h2 hL hi hlq
                generalize xs.getD q 0 = ch at *
                by_cases hsp : ch = 34 ∨ ch = 92
                · have hE := e1_special ch hsp
                  rw [hE] at h3 HLL hiE
                  have c0 : w9.cell? ⟨g, 3 + i, none⟩ = some (.int .u8 92) := h3 0 (by simp)
                  have c1 : w9.cell? ⟨g, 3 + (i + 1), none⟩ = some (.int .u8 ch.toNat) := h3 1 (by simp)
                  simp only [List.length_cons, List.length_nil] at HLL hiE
                  clear h3 hE hsp
                  generalize ch.toNat = x at *
                  go_wp2
                  go_round
                  case rel =>
                    have hr : LRel k xs (.int .i64 ((q + 1 : Nat) : Int)) (.int .i64 ((i + 2 : Nat) : Int)) := ⟨q + 1, i + 2, by omega, rfl, rfl, by rw [HLL.out]; have := HI.out; omega⟩
                    refine ⟨_, _, _, hr, rfl, ?_, ?_⟩ <;> go_num
                  case measure => simp [intOf]; omega
                · have hE := e1_plain ch (fun h => hsp (.inl h)) (fun h => hsp (.inr h))
                  rw [hE] at h3 HLL hiE
                  have c0 : w9.cell? ⟨g, 3 + i, none⟩ = some (.int .u8 ch.toNat) := h3 0 (by simp)
                  have hx92 : ((ch.toNat : Int) == 92) = false := by
                    have : ¬ ch.toNat = 92 := fun h => hsp (.inr ((byte_is ch 92).2 h))
                    simp; omega
                  simp only [List.length_cons, List.length_nil] at HLL hiE
                  clear h3 hE hsp
                  generalize ch.toNat = x at *
                  go_wp2
                  go_round
                  case rel =>
                    have hr : LRel k xs (.int .i64 ((q + 1 : Nat) : Int)) (.int .i64 ((i + 1 : Nat) : Int)) := ⟨q + 1, i + 1, by omega, rfl, rfl, by rw [HLL.out]; have := HI.out; omega⟩
                    refine ⟨_, _, _, hr, rfl, ?_, ?_⟩ <;> go_num
                  case measure => simp [intOf]; omega
              · have e : q = k := by omega
                subst e
                have hT : xs.take q = xs := by rw [← HG.out, List.take_length]
                rw [hT, HEE.out] at hi
                subst hi
                go_wp2
                go_ret
                exact ⟨rfl, HFIN.out⟩
end Go.Proofs.Qxb6601188aDoor
