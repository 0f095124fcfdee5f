/-
  Seat b6600830aD: the walk of zzFormatFields.
-/
import Derived.Test.Qxb6600830aDoorPlain
import Derived.Test.Qxb6600830aDoorStrs
import Derived.Maps.AppendAt
import Derived.Lib.AppendStr
import Derived.Laws.IdiomStrings
namespace Go.Proofs.Qxb6600830aDoor
open Go.RowKit

/-! ### plain -/
def bytesOf (s : ByteArray) : List UInt8 := s.data.toList
def bv (l : List UInt8) : List Value := l.map fun b => Value.int .u8 b.toNat
theorem bv_length (l : List UInt8) : (bv l).length = l.length := by simp [bv]
theorem bv_append (l m : List UInt8) : bv (l ++ m) = bv l ++ bv m := by simp [bv]
theorem strCells_bv (s : ByteArray) : Lib.strCells s = bv s.data.toList := rfl

theorem joinC_snoc : ∀ (zs : List (List UInt8)) (z : List UInt8), zs ≠ [] → joinC (zs ++ [z]) = joinC zs ++ 44 :: z
  | [], _, h => absurd rfl h
  | [x], z, _ => rfl
  | x :: y :: xs, z, _ => by
    have ih := joinC_snoc (y :: xs) z (by simp)
    show x ++ 44 :: joinC (y :: xs ++ [z]) = (x ++ 44 :: joinC (y :: xs)) ++ 44 :: z
    rw [ih]; simp
theorem joinC_length : ∀ zs : List (List UInt8), (joinC zs).length ≤ (zs.map List.length).sum + zs.length
  | [] => by simp [joinC]
  | [x] => by simp [joinC]
  | x :: y :: xs => by
    have ih := joinC_length (y :: xs)
    rw [joinC]
    simp only [List.length_append, List.length_cons, List.map_cons, List.sum_cons] at ih ⊢
    omega

/-- The first k of the first list, joined. -/
def J1 (xs : List ByteArray) (k : Nat) : List UInt8 := joinC ((xs.take k).map (·.data.toList))
/-- All of the first, and the first k of the second. -/
def J2 (xs ys : List ByteArray) (k : Nat) : List UInt8 := joinC (xs.map (·.data.toList) ++ (ys.take k).map (fun y => 45 :: y.data.toList))

theorem sum_take_le (l : List Nat) (k : Nat) : (l.take k).sum ≤ l.sum := by
  conv => rhs; rw [← List.take_append_drop k l, List.sum_append]
  omega
theorem lens_eq (xs : List ByteArray) : (xs.map fun x => x.data.toList.length).sum = sumL xs := by
  unfold sumL
  congr 1

theorem J1_le (xs : List ByteArray) (k : Nat) : (J1 xs k).length ≤ sumL xs + xs.length := by
  have h := joinC_length ((xs.take k).map (·.data.toList))
  have h2 : (((xs.take k).map (·.data.toList)).map List.length).sum ≤ sumL xs := by
    rw [List.map_map, ← lens_eq]
    have := sum_take_le (xs.map fun x => x.data.toList.length) k
    rw [← List.map_take] at this
    exact this
  have h3 : ((xs.take k).map (·.data.toList)).length ≤ xs.length := by simp; omega
  unfold J1; omega
theorem J2_le (xs ys : List ByteArray) (k : Nat) : (J2 xs ys k).length ≤ sumL xs + xs.length + sumL ys + 2 * ys.length := by
  have h := joinC_length (xs.map (·.data.toList) ++ (ys.take k).map (fun y => 45 :: y.data.toList))
  rw [List.map_append, List.sum_append, List.length_append] at h
  have h1 : ((xs.map (·.data.toList)).map List.length).sum = sumL xs := by rw [List.map_map, ← lens_eq]; rfl
  have h4 : (((ys.take k).map (fun y => (45 : UInt8) :: y.data.toList)).map List.length).sum ≤ sumL ys + ys.length := by
    rw [List.map_map]
    have e : ∀ l : List ByteArray, (l.map (List.length ∘ fun y => (45 : UInt8) :: y.data.toList)).sum = (l.map fun x => x.data.toList.length).sum + l.length := by
      intro l
      induction l with
      | nil => rfl
      | cons a l ih => simp only [List.map_cons, List.sum_cons, ih, Function.comp_apply, List.length_cons]; omega
    rw [e]
    have h5 := sum_take_le (ys.map fun x => x.data.toList.length) k
    rw [← List.map_take, lens_eq, lens_eq] at h5
    rw [lens_eq]
    have h3 : (ys.take k).length ≤ ys.length := by simp; omega
    omega
  have h2 : (xs.map (·.data.toList)).length = xs.length := by simp
  have h3 : ((ys.take k).map (fun y => (45 : UInt8) :: y.data.toList)).length ≤ ys.length := by simp; omega
  unfold J2; omega

theorem J1_zero (xs : List ByteArray) : J1 xs 0 = [] := by simp [J1, joinC]
theorem J1_first (xs : List ByteArray) (h : 0 < xs.length) : J1 xs 1 = (xs[0]?.getD ByteArray.empty).data.toList := by
  unfold J1
  rw [List.take_succ_eq_append_getElem h]
  simp [joinC, h]
theorem J1_succ (xs : List ByteArray) (k : Nat) (h0 : 0 < k) (h : k < xs.length) : J1 xs (k + 1) = J1 xs k ++ 44 :: (xs[k]?.getD ByteArray.empty).data.toList := by
  unfold J1
  rw [List.take_succ_eq_append_getElem h, List.map_append, List.map_cons, List.map_nil, joinC_snoc _ _ (by
    intro e
    have h1 := congrArg List.length e
    rw [List.length_map, List.length_take, List.length_nil] at h1; omega)]
  simp [h]
theorem J1_all (xs ys : List ByteArray) : J2 xs ys 0 = J1 xs xs.length := by simp [J1, J2]
theorem J2_first (xs ys : List ByteArray) (j : Nat) (h0 : xs.length + j = 0) (h : j < ys.length) : J2 xs ys j = [] ∧ J2 xs ys (j + 1) = 45 :: (ys[j]?.getD ByteArray.empty).data.toList := by
  have hx : xs = [] := List.eq_nil_of_length_eq_zero (by omega)
  have hj : j = 0 := by omega
  subst hx; subst hj
  unfold J2
  rw [List.take_succ_eq_append_getElem h]
  simp [joinC, h]
theorem J2_succ (xs ys : List ByteArray) (k : Nat) (h0 : 0 < xs.length + k) (h : k < ys.length) : J2 xs ys (k + 1) = J2 xs ys k ++ 44 :: 45 :: (ys[k]?.getD ByteArray.empty).data.toList := by
  unfold J2
  rw [List.take_succ_eq_append_getElem h, List.map_append, List.map_cons, List.map_nil, ← List.append_assoc, joinC_snoc _ _ (by
    intro e
    have h1 := congrArg List.length e
    rw [List.length_append, List.length_map, List.length_map, List.length_take, List.length_nil] at h1; omega)]
  simp [h]
theorem J2_all (xs ys : List ByteArray) : J2 xs ys ys.length = fmtAll (xs.map (·.data.toList)) (ys.map (·.data.toList)) := by
  simp [J2, fmtAll, Function.comp_def]

/-! ### what one append does to 'Below' -/
theorem below_app {B : Nat} {w wr w1 : World} {v : Value} {n : Nat} {L : List Value} {e : TypeId} (hbl : Below B w wr) (hB : B ≤ wr.heap.size) (hown : wr.ownsRow B e 1 v n L) (hg : wr.grownBy w1 v.ownBlock) : Below B w w1 :=
  hbl.grown hg hB (fun k hk => (hown.lt k hk).1)
theorem below_app1 {B : Nat} {w wr w1 : World} {v : Value} {n : Nat} {L : List Value} {e : TypeId} {o : Obj} (hbl : Below B w wr) (hB : B ≤ wr.heap.size) (hown : wr.ownsRow B e 1 v n L) (hg : (wr.alloc o).grownBy w1 v.ownBlock) : Below B w w1 :=
  (hbl.alloc hB o).grown hg (by simp; omega) (fun k hk => (hown.lt k hk).1)

theorem info5 : (Tryd.prog.info? 5).map (fun i => (i.zero, i.size, i.bytes)) = some (some (.int .u8 0), 1, 1) := by kernel_rfl

theorem own_next {wr : World} {B : Nat} {v : Value} {cur nx : List UInt8} {s : ByteArray} (h : wr.ownsRow B 5 1 v (cur.length + 1 + s.size) (bv cur ++ [.int .u8 44] ++ Lib.strCells s)) (e : nx = cur ++ 44 :: s.data.toList) : wr.ownsRow B 5 1 v nx.length (bv nx) := by
  have e1 : nx.length = cur.length + 1 + s.size := by rw [e, Lib.size_eq]; simp; omega
  have e2 : bv nx = bv cur ++ [.int .u8 44] ++ Lib.strCells s := by rw [e, strCells_bv, bv_append, List.append_assoc]; rfl
  rw [e1, e2]; exact h
theorem own_first {wr : World} {B : Nat} {v : Value} {nx : List UInt8} {s : ByteArray} (h : wr.ownsRow B 5 1 v (0 + s.size) ([] ++ Lib.strCells s)) (e : nx = s.data.toList) : wr.ownsRow B 5 1 v nx.length (bv nx) := by
  have e1 : nx.length = 0 + s.size := by rw [e, Lib.size_eq]; simp
  have e2 : bv nx = [] ++ Lib.strCells s := by rw [e, strCells_bv]; rfl
  rw [e1, e2]; exact h
theorem own_next2 {wr : World} {B : Nat} {v : Value} {cur nx : List UInt8} {s : ByteArray} (h : wr.ownsRow B 5 1 v (cur.length + 1 + 1 + s.size) (bv cur ++ [.int .u8 44] ++ [.int .u8 45] ++ Lib.strCells s)) (e : nx = cur ++ 44 :: 45 :: s.data.toList) : wr.ownsRow B 5 1 v nx.length (bv nx) := by
  have e1 : nx.length = cur.length + 1 + 1 + s.size := by rw [e, Lib.size_eq]; simp; omega
  have e2 : bv nx = bv cur ++ [.int .u8 44] ++ [.int .u8 45] ++ Lib.strCells s := by rw [e, strCells_bv, bv_append, List.append_assoc, List.append_assoc]; rfl
  rw [e1, e2]; exact h
theorem own_first2 {wr : World} {B : Nat} {v : Value} {nx : List UInt8} {s : ByteArray} (h : wr.ownsRow B 5 1 v (0 + 1 + s.size) ([] ++ [.int .u8 45] ++ Lib.strCells s)) (e : nx = 45 :: s.data.toList) : wr.ownsRow B 5 1 v nx.length (bv nx) := by
  have e1 : nx.length = 0 + 1 + s.size := by rw [e, Lib.size_eq]; simp; omega
  have e2 : bv nx = [] ++ [.int .u8 45] ++ Lib.strCells s := by rw [e, strCells_bv]; rfl
  rw [e1, e2]; exact h

theorem conv_own {wr : World} {B : Nat} {v : Value} {l : List UInt8} (h : wr.ownsRow B 5 1 v l.length (bv l)) : (convert 32 9 v).run Tryd.prog wr = .ok (.string ⟨l.toArray⟩) wr := by
  rcases h.2 with ⟨rfl, h0⟩ | ⟨g, cap, cur, rfl, _, _⟩
  · rw [run_convert_bytes_string wr 32 9 5 none 0 0 Tryd.underlying32 Tryd.underlying5 Tryd.underlying9]
    have : l = [] := List.eq_nil_of_length_eq_zero h0
    subst this
    simp [Conv.bytesToString]
    rfl
  · refine run_convert_bytes_back wr 32 9 5 ⟨g, 0, none⟩ cap l Tryd.underlying32 Tryd.underlying5 Tryd.underlying9 (fun j hj => ?_)
    exact h.cells rfl j _ (by simp [bv, hj])

def RetFmt (l : List UInt8) (w : World) (e : Ending) (w' : World) : Prop := e = .returned (.string ⟨l.toArray⟩) ∧ Below w.heap.size w w'

set_option maxHeartbeats 2000000 in
theorem format_any (n₀ : Nat) (a a2 : Option Addr) (xs ys : List ByteArray) (c c2 : Nat) (w : World) (hx : StrAt n₀ w a xs) (hy : StrAt n₀ w a2 ys) (hn₀ : n₀ ≤ w.heap.size) (hsz : xs.length + sumL xs + ys.length + sumL ys ≤ 1048576) :
    Calls Tryd.prog 8 #[.slice a xs.length c, .slice a2 ys.length c2] w fun e w' => RetFmt (fmtAll (xs.map (·.data.toList)) (ys.map (·.data.toList))) w e w' := by
  obtain ⟨i0, hi, hz0, hz1, hz2⟩ := info_parts info5
  have hj1 := J1_le xs
  have hj2 := J2_le xs ys
  generalize hG : xs.length = n at *
  have HG : Hid (xs.length = n) := hG
  clear hG
  generalize hG : ys.length = m at *
  have HM : Hid (ys.length = m) := hG
  clear hG
  go_enter Tryd.func8, Tryd.ntmps8
  go_wp2
  go_loopw [5, 6, 7] (fun v ct i wr => ∃ k : Nat, k ≤ n ∧ i = .int .i64 k ∧ ct = .int .i64 k ∧ wr.ownsRow w.heap.size 5 1 v (J1 xs k).length (bv (J1 xs k)) ∧ Below w.heap.size w wr) (fun _ _ i _ => n - (intOf i).toNat)
  case atStart => exact ⟨0, Nat.zero_le _, rfl, rfl, by rw [J1_zero]; exact World.ownsRow_nil _ _ _ _, Below.refl _ _⟩
  case round =>
    obtain ⟨k, hk, rfl, rfl, hown, hbl⟩ := hrel
    have hB := hbl.size
    have hjk := hj1 k
    by_cases hlt : k < n
    · obtain ⟨b, off, rfl, hb, hcell0⟩ := hx k (by rw [HG.out]; exact hlt)
      have hcell : wr.cell? ⟨b, off + k, none⟩ = some (.string (xs[k]?.getD ByteArray.empty)) := (hbl.cell (p := ⟨b, off + k, none⟩) (by show b < _; omega)).trans hcell0
      have hbw : b < w.heap.size := by omega
      by_cases hk0 : k = 0
      · subst hk0
        have HJ : Hid (J1 xs 1 = (xs[0]?.getD ByteArray.empty).data.toList) := J1_first xs (by rw [HG.out]; exact hlt)
        have hjk1 := hj1 1
        rw [HJ.out] at hjk1
        rw [J1_zero] at hown
        rw [Nat.add_zero] at hcell hcell0
        generalize xs[0]?.getD ByteArray.empty = s at hcell hcell0 HJ hjk1
        have hss : s.data.toList.length = s.size := by simp
        rw [hss] at hjk1
        clear hss
        simp only [List.length_nil] at hown
        have hbv : bv [] = [] := rfl
        rw [hbv] at hown
        clear hbv
        go_wp2_with (at_builtin; refine Lib.wpList_append_own_string _ rfl (.tmp 20) (.tmp 24) 32 9 rfl w.heap.size 5 i0 Tryd.underlying32 Tryd.underlying9 hi hz0 hz1 hz2 _ _ _ rfl hown s rfl (by unfold maxLen; omega) (by omega) hB ?_; intro v2 w2 hown2 hgrow2 _)
        go_roundw
        case rel => exact ⟨1, by omega, by go_num, by go_num, own_first hown2 HJ.out, below_app hbl hB hown hgrow2⟩
        case measure => simp [intOf]; omega
      · have HJ : Hid (J1 xs (k + 1) = J1 xs k ++ 44 :: (xs[k]?.getD ByteArray.empty).data.toList) := J1_succ xs k (by omega) (by rw [HG.out]; exact hlt)
        have hjk1 := hj1 (k + 1)
        rw [HJ.out, List.length_append, List.length_cons] at hjk1
        generalize xs[k]?.getD ByteArray.empty = s at hcell hcell0 HJ hjk1
        generalize J1 xs k = cur at hown HJ hjk hjk1
        have hss : s.data.toList.length = s.size := by simp
        rw [hss] at hjk1
        clear hss
        go_wp2_with (first
          | (at_builtin; refine wpList_append_own _ rfl (.tmp 17) (.tmp 18) 32 rfl w.heap.size 5 i0 (.int .u8 0) 1 1 Tryd.underlying32 hi hz0 hz1 hz2 rfl (by decide) _ _ _ rfl (hown.alloc _) ⟨wr.heap.size, 0, none⟩ 1 1 [.int .u8 44] rfl rfl (cell_one_new _ _ _) (by simp [Value.oneCell']) (by unfold maxLen; omega) (by omega) (by simp; omega) ?_; intro v1 w1 hown1 hgrow1 _; have hb1 := below_app1 hbl hB hown hgrow1; have hcell1 : w1.cell? ⟨b, off + k, none⟩ = some (.string s) := (hb1.cell (p := ⟨b, off + k, none⟩) hbw).trans hcell0)
          | (at_builtin; refine Lib.wpList_append_own_string _ rfl (.tmp 20) (.tmp 24) 32 9 rfl w.heap.size 5 i0 Tryd.underlying32 Tryd.underlying9 hi hz0 hz1 hz2 _ _ _ rfl hown1 s rfl (by unfold maxLen; omega) (by omega) hb1.size ?_; intro v2 w2 hown2 hgrow2 _))
        go_roundw
        case rel => exact ⟨k + 1, by omega, by go_num, by go_num, own_next hown2 HJ.out, below_app hb1 hb1.size hown1 hgrow2⟩
        case measure => simp [intOf]; omega
    · have e : k = n := by omega
      subst e
      have hJ0 : J1 xs k = J2 xs ys 0 := by rw [J1_all, HG.out]
      rw [hJ0] at hown hjk
      clear hJ0 hj1
      go_wp2_with fail
      go_loopw [5, 6, 8] (fun v ct i wr => ∃ j : Nat, j ≤ m ∧ i = .int .i64 j ∧ ct = .int .i64 (k + j : Nat) ∧ wr.ownsRow w.heap.size 5 1 v (J2 xs ys j).length (bv (J2 xs ys j)) ∧ Below w.heap.size w wr) (fun _ _ i _ => m - (intOf i).toNat)
      case atStart => exact ⟨0, Nat.zero_le _, rfl, by simp, hown, hbl⟩
      case round =>
        clear hown hbl hB hjk
        obtain ⟨j, hj, rfl, rfl, hown, hbl⟩ := hrel
        have hB := hbl.size
        have hjk := hj2 j
        by_cases hlt2 : j < m
        · obtain ⟨b, off, rfl, hb, hcell0⟩ := hy j (by rw [HM.out]; exact hlt2)
          have hcell : wr.cell? ⟨b, off + j, none⟩ = some (.string (ys[j]?.getD ByteArray.empty)) := (hbl.cell (p := ⟨b, off + j, none⟩) (by show b < _; omega)).trans hcell0
          have hbw : b < w.heap.size := by omega
          by_cases hk0 : k + j = 0
          · have hle : (k : Int) + (j : Int) ≤ 0 := by omega
            obtain ⟨hJz, hJ1⟩ := J2_first xs ys j (by rw [HG.out]; exact hk0) (by rw [HM.out]; exact hlt2)
            clear hk0
            have HJ : Hid (J2 xs ys (j + 1) = 45 :: (ys[j]?.getD ByteArray.empty).data.toList) := hJ1
            have hjk1 := hj2 (j + 1)
            rw [hJ1, List.length_cons] at hjk1
            rw [hJz] at hown
            clear hJ1 hJz hjk
            generalize ys[j]?.getD ByteArray.empty = s at hcell hcell0 HJ hjk1
            have hss : s.data.toList.length = s.size := by simp
            rw [hss] at hjk1
            clear hss
            simp only [List.length_nil] at hown
            have hbv : bv [] = [] := rfl
            rw [hbv] at hown
            clear hbv
            go_wp2_with (first
              | (at_builtin; refine wpList_append_own _ rfl (.tmp 39) (.tmp 40) 32 rfl w.heap.size 5 i0 (.int .u8 0) 1 1 Tryd.underlying32 hi hz0 hz1 hz2 rfl (by decide) _ _ _ rfl (hown.alloc _) ⟨wr.heap.size, 0, none⟩ 1 1 [.int .u8 45] rfl rfl (cell_one_new _ _ _) (by simp [Value.oneCell']) (by unfold maxLen; omega) (by omega) (by simp; omega) ?_; intro v2 w2 hown2 hgrow2 _; have hb2 := below_app1 hbl hB hown hgrow2; have hcell1 : w2.cell? ⟨b, off + j, none⟩ = some (.string s) := (hb2.cell (p := ⟨b, off + j, none⟩) hbw).trans hcell0)
              | (at_builtin; refine Lib.wpList_append_own_string _ rfl (.tmp 42) (.tmp 46) 32 9 rfl w.heap.size 5 i0 Tryd.underlying32 Tryd.underlying9 hi hz0 hz1 hz2 _ _ _ rfl hown2 s rfl (by unfold maxLen; omega) (by omega) hb2.size ?_; intro v3 w3 hown3 hgrow3 _))
            go_roundw
            case rel => exact ⟨j + 1, by omega, by go_num, by go_num, own_first2 hown3 HJ.out, below_app hb2 hb2.size hown2 hgrow3⟩
            case measure => simp [intOf]; omega
          · have HJ : Hid (J2 xs ys (j + 1) = J2 xs ys j ++ 44 :: 45 :: (ys[j]?.getD ByteArray.empty).data.toList) := J2_succ xs ys j (by rw [HG.out]; omega) (by rw [HM.out]; exact hlt2)
            have hjk1 := hj2 (j + 1)
            rw [HJ.out, List.length_append, List.length_cons, List.length_cons] at hjk1
            generalize ys[j]?.getD ByteArray.empty = s at hcell hcell0 HJ hjk1
            generalize J2 xs ys j = cur at hown HJ hjk hjk1
            have hss : s.data.toList.length = s.size := by simp
            rw [hss] at hjk1
            clear hss
            go_wp2_with (first
              | (at_builtin; refine wpList_append_own _ rfl (.tmp 36) (.tmp 37) 32 rfl w.heap.size 5 i0 (.int .u8 0) 1 1 Tryd.underlying32 hi hz0 hz1 hz2 rfl (by decide) _ _ _ rfl (hown.alloc _) ⟨wr.heap.size, 0, none⟩ 1 1 [.int .u8 44] rfl rfl (cell_one_new _ _ _) (by simp [Value.oneCell']) (by unfold maxLen; omega) (by omega) (by simp; omega) ?_; intro v1 w1 hown1 hgrow1 _; have hb1 := below_app1 hbl hB hown hgrow1)
              | (at_builtin; refine wpList_append_own _ rfl (.tmp 39) (.tmp 40) 32 rfl w.heap.size 5 i0 (.int .u8 0) 1 1 Tryd.underlying32 hi hz0 hz1 hz2 rfl (by decide) _ _ _ rfl (hown1.alloc _) ⟨w1.heap.size, 0, none⟩ 1 1 [.int .u8 45] rfl rfl (cell_one_new _ _ _) (by simp [Value.oneCell']) (by unfold maxLen; omega) (by omega) (by have := hb1.size; simp; omega) ?_; intro v2 w2 hown2 hgrow2 _; have hb2 := below_app1 hb1 hb1.size hown1 hgrow2; have hcell1 : w2.cell? ⟨b, off + j, none⟩ = some (.string s) := (hb2.cell (p := ⟨b, off + j, none⟩) hbw).trans hcell0)
              | (at_builtin; refine Lib.wpList_append_own_string _ rfl (.tmp 42) (.tmp 46) 32 9 rfl w.heap.size 5 i0 Tryd.underlying32 Tryd.underlying9 hi hz0 hz1 hz2 _ _ _ rfl hown2 s rfl (by unfold maxLen; omega) (by omega) hb2.size ?_; intro v3 w3 hown3 hgrow3 _))
            go_roundw
            case rel => exact ⟨j + 1, by omega, by go_num, by go_num, own_next2 hown3 HJ.out, below_app hb2 hb2.size hown2 hgrow3⟩
            case measure => simp [intOf]; omega
        · have e : j = m := by omega
          subst e
          have HA : Hid (J2 xs ys j = fmtAll (xs.map (·.data.toList)) (ys.map (·.data.toList))) := by
            show _ = _
            rw [← J2_all, HM.out]
          have hcv := conv_own hown
          rw [HA.out] at hcv
          generalize hO : fmtAll (xs.map (·.data.toList)) (ys.map (·.data.toList)) = out at hcv
          have HO : Hid (fmtAll (xs.map (·.data.toList)) (ys.map (·.data.toList)) = out) := hO
          clear hO
          clear hown HA hjk hj2
          go_wp2_with fail
          go_ret
          exact ⟨by rw [HO.out]; rfl, hbl⟩
end Go.Proofs.Qxb6600830aDoor
