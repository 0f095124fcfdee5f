/-
  Seat b6601722aD: the walks that lay a slice of renames: zzSchB1MakeRenames, (Renames).Reversed.
-/
import Derived.Test.Qxb6601722aDoorStrs
import Derived.RangeFuncBox
namespace Go.Proofs.Qxb6601722aDoor
open Go.RowKit

/-- THE SLICE AT a HOLDS n PAIRS OF STRINGS, in a block below n₀. -/
def RenAt (n₀ : Nat) (W : World) (a : Option Addr) (n : Nat) (F T : Nat → ByteArray) : Prop :=
  ∀ j, j < n → ∃ b off, a = some ⟨b, off, none⟩ ∧ b < n₀ ∧ W.cell? ⟨b, off + j * 2, none⟩ = some (.string (F j)) ∧ W.cell? ⟨b, off + j * 2 + 1, none⟩ = some (.string (T j))
theorem RenAt.below {n₀ n : Nat} {A B : World} {a : Option Addr} {F T : Nat → ByteArray} (h : RenAt n₀ A a n F T) (hb : Below n₀ A B) : RenAt n₀ B a n F T := fun j hj => by
  obtain ⟨b, off, e, hlt, h1, h2⟩ := h j hj
  exact ⟨b, off, e, hlt, (hb.cell (p := ⟨b, off + j * 2, none⟩) hlt).trans h1, (hb.cell (p := ⟨b, off + j * 2 + 1, none⟩) hlt).trans h2⟩
theorem RenAt.mono {n₀ n₁ n : Nat} {A : World} {a : Option Addr} {F T : Nat → ByteArray} (h : RenAt n₀ A a n F T) (hn : n₀ ≤ n₁) : RenAt n₁ A a n F T := fun j hj => by
  obtain ⟨b, off, e, hlt, h1, h2⟩ := h j hj
  exact ⟨b, off, e, by omega, h1, h2⟩

theorem below_drew {B : Nat} {a b : World} (h : Below B a b) : Below B a b.drew := ⟨h.os, h.tape, h.output, h.size, h.block⟩
theorem info65 : (Tryd.prog.info? 65).map (fun i => (i.zero, i.size, i.bytes)) = some (some (.agg #[.string ByteArray.empty, .string ByteArray.empty]), 2, 32) := by kernel_rfl

/-- the first k pairs stand in the row -/
def Pairs (L : List Value) (F T : Nat → ByteArray) (k : Nat) : Prop := ∀ j, j < k → L[j * 2]? = some (.string (F j)) ∧ L[j * 2 + 1]? = some (.string (T j))
theorem Pairs.zero (L : List Value) (F T : Nat → ByteArray) : Pairs L F T 0 := fun j hj => absurd hj (Nat.not_lt_zero j)
theorem Pairs.succ {L : List Value} {F T : Nat → ByteArray} {k : Nat} (h : Pairs L F T k) (hl : k * 2 + 1 < L.length) : Pairs ((L.set (k * 2) (.string (F k))).set (k * 2 + 1) (.string (T k))) F T (k + 1) := fun j hj => by
  by_cases e : j = k
  · subst e
    refine ⟨?_, ?_⟩
    · rw [List.getElem?_set_ne (by omega), List.getElem?_set_self (by omega)]
    · rw [List.getElem?_set_self (by rw [List.length_set]; omega)]
  · obtain ⟨h1, h2⟩ := h j (by omega)
    refine ⟨?_, ?_⟩
    · rw [List.getElem?_set_ne (by omega), List.getElem?_set_ne (by omega)]; exact h1
    · rw [List.getElem?_set_ne (by omega), List.getElem?_set_ne (by omega)]; exact h2

/-- A new slice of n pairs. -/
def RetRen (n : Nat) (F T : Nat → ByteArray) (w : World) (e : Ending) (w' : World) : Prop :=
  ∃ a' c', e = .returned (.slice a' n c') ∧ RenAt w'.heap.size w' a' n F T ∧ Below w.heap.size w w'

theorem ren_done {B n : Nat} {wr : World} {F T : Nat → ByteArray} {L : List Value} (hown : wr.ownsRow B 65 2 (.slice (some ⟨B, 0, none⟩) n n) n L) (hL : Pairs L F T n) :
    RenAt wr.heap.size wr (some ⟨B, 0, none⟩) n F T := fun j hj => by
  have hlt := (hown.lt B rfl).2
  refine ⟨B, 0, rfl, hlt, ?_, ?_⟩
  · rw [Nat.zero_add, hown.cellAt _ (by omega), (hL j hj).1]
  · rw [Nat.zero_add, hown.cellAt _ (by omega), (hL j hj).2]

set_option maxHeartbeats 2000000 in
theorem make_any (n₀ : Nat) (a b : Option Addr) (xs ys : List ByteArray) (c d : Nat) (w : World) (hx : StrAt n₀ w a xs) (hy : StrAt n₀ w b ys) (hn₀ : n₀ ≤ w.heap.size) (hxl : xs.length ≤ 4096) (hyl : ys.length = xs.length) (hnil : a = none → xs.length = 0) :
    Calls Tryd.prog 16 #[.slice a xs.length c, .slice b ys.length d] w fun e w' => RetRen xs.length (txt xs) (txt ys) w e w' := by
  have q22 : ∀ (w : World) (a : Option Addr) (n c n' c' : Nat), (binOp .eql 22 (.slice a n c) (.slice none n' c')).run Tryd.prog w = .ok (.bool a.isNone) w := fun w a n c n' c' => Lib.run_eql_slice_nil w _ _ a n c n' c' Tryd.underlying22
  obtain ⟨i0, hi, hz0, hz1, hz2⟩ := info_parts info65
  rw [hyl]
  have HX : Hid (StrAt n₀ w a xs) := hx
  have HY : Hid (StrAt n₀ w b ys) := hy
  have HYL : Hid (ys.length = xs.length) := hyl
  clear hx hy hyl
  cases a with
  | none =>
    have h0 := hnil rfl
    rw [h0]
    go_enter Tryd.func16, Tryd.ntmps16
    go_wp2
    go_ret
    exact ⟨none, 0, rfl, fun j hj => by omega, Below.refl _ _⟩
  | some ad =>
    generalize hG : xs.length = n at *
    have HG : Hid (xs.length = n) := hG
    clear hG
    go_enter Tryd.func16, Tryd.ntmps16
    go_wp2_with (at_make; refine wpList_make_full _ rfl _ _ 41 rfl w.heap.size 65 i0 _ 2 Tryd.underlying41 hi hz0 hz1 _ _ _ _ n rfl rfl rfl rfl (by rw [hz2]; omega) (by unfold maxLen; omega) (Nat.le_refl _) ?_; intro w1 hown1 hgrow1)
    have hb1 : Below w.heap.size w w1 := (Below.refl _ w).grown hgrow1 (Nat.le_refl _) (fun k e => by cases e)
    clear hgrow1
    go_loopw [6] (fun i wr => ∃ (k : Nat) (L : List Value), k ≤ n ∧ i = .int .i64 k ∧ wr.ownsRow w.heap.size 65 2 (.slice (some ⟨w.heap.size, 0, none⟩) n n) n L ∧ Pairs L (txt xs) (txt ys) k ∧ Below w.heap.size w wr) (fun i _ => n - (intOf i).toNat)
    case atStart => exact ⟨0, _, Nat.zero_le _, rfl, hown1, Pairs.zero _ _ _, hb1⟩
    case round =>
      obtain ⟨k, L, hk, rfl, hown, hL, hbl⟩ := hrel
      have HL : Hid (Pairs L (txt xs) (txt ys) k) := hL
      clear hL
      by_cases hlt : k < n
      · obtain ⟨bb, off, e, hb, hcell0⟩ := HX.out k (by rw [HG.out]; exact hlt)
        cases e
        obtain ⟨bb2, off2, rfl, hb2, hcell20⟩ := HY.out k (by rw [HYL.out]; exact hlt)
        have hcell : wr.cell? ⟨bb, off + k, none⟩ = some (.string (txt xs k)) := (hbl.cell (p := ⟨bb, off + k, none⟩) (by show bb < _; omega)).trans hcell0
        have hcell2 : wr.cell? ⟨bb2, off2 + k, none⟩ = some (.string (txt ys k)) := (hbl.cell (p := ⟨bb2, off2 + k, none⟩) (by show bb2 < _; omega)).trans hcell20
        clear hcell0 hcell20
        have hLl : L.length = n * 2 := by simpa using hown.1
        obtain ⟨old, hold⟩ : ∃ old, wr.cell? ⟨w.heap.size, k * 2, none⟩ = some old := ⟨_, (hown.cellAt (k * 2) (by omega)).trans (List.getElem?_eq_getElem (by omega))⟩
        obtain ⟨old2, hold2⟩ : ∃ old2, wr.cell? ⟨w.heap.size, k * 2 + 1, none⟩ = some old2 := ⟨_, (hown.cellAt (k * 2 + 1) (by omega)).trans (List.getElem?_eq_getElem (by omega))⟩
        have hfz := hown.frozenAt (k * 2)
        have hfz2 := hown.frozenAt (k * 2 + 1)
        have HO : Hid (wr.ownsRow w.heap.size 65 2 (.slice (some ⟨w.heap.size, 0, none⟩) n n) n L) := hown
        clear hown
        have HP := HL.out.succ (T := txt ys) (by omega : k * 2 + 1 < L.length)
        have HP : Hid (Pairs ((L.set (k * 2) (.string (txt xs k))).set (k * 2 + 1) (.string (txt ys k))) (txt xs) (txt ys) (k + 1)) := HP
        generalize txt xs k = s at hcell HP
        generalize txt ys k = t at hcell2 HP
        have hi1 : (k : Int) < (n : Int) := by omega
        have hi0 : (0 : Int) ≤ (k : Int) := by omega
        go_wp2
        go_region
        all_goals go_wp2
        all_goals go_roundw
        case rel => exact ⟨k + 1, (L.set (k * 2) (.string s)).set (k * 2 + 1) (.string t), by omega, by go_num, (((HO.out.stored (k * 2) (.string s)).1).stored (k * 2 + 1) (.string t)).1, HP.out, below_drew ((hbl.setCell (p := ⟨w.heap.size, k * 2, none⟩) (Nat.le_refl _) _).setCell (p := ⟨w.heap.size, k * 2 + 1, none⟩) (Nat.le_refl _) _)⟩
        case measure => simp [intOf]; omega
      · obtain rfl : k = n := by omega
        have HO : Hid (wr.ownsRow w.heap.size 65 2 (.slice (some ⟨w.heap.size, 0, none⟩) k k) k L) := hown
        clear hown
        go_wp2
        go_ret
        exact ⟨some ⟨w.heap.size, 0, none⟩, k, rfl, ren_done HO.out HL.out, hbl⟩

set_option maxHeartbeats 2000000 in
theorem rev_any (n₀ : Nat) (a : Option Addr) (n : Nat) (F T : Nat → ByteArray) (c : Nat) (w : World) (hx : RenAt n₀ w a n F T) (hn₀ : n₀ ≤ w.heap.size) (hxl : n ≤ 4096) :
    Calls Tryd.prog 19 #[.slice a n c] w fun e w' => RetRen n T F w e w' := by
  obtain ⟨i0, hi, hz0, hz1, hz2⟩ := info_parts info65
  have HX : Hid (RenAt n₀ w a n F T) := hx
  clear hx
  go_enter Tryd.func19, Tryd.ntmps19
  go_wp2_with (at_make; refine wpList_make_full _ rfl _ _ 41 rfl w.heap.size 65 i0 _ 2 Tryd.underlying41 hi hz0 hz1 _ _ _ _ n rfl rfl rfl rfl (by rw [hz2]; omega) (by unfold maxLen; omega) (Nat.le_refl _) ?_; intro w1 hown1 hgrow1)
  have hb1 : Below w.heap.size w w1 := (Below.refl _ w).grown hgrow1 (Nat.le_refl _) (fun k e => by cases e)
  clear hgrow1
  go_loopw [11] (fun i wr => ∃ (k : Nat) (L : List Value), k ≤ n ∧ i = .int .i64 k ∧ wr.ownsRow w.heap.size 65 2 (.slice (some ⟨w.heap.size, 0, none⟩) n n) n L ∧ Pairs L T F k ∧ Below w.heap.size w wr) (fun i _ => n - (intOf i).toNat)
  case atStart => exact ⟨0, _, Nat.zero_le _, rfl, hown1, Pairs.zero _ _ _, hb1⟩
  case round =>
    obtain ⟨k, L, hk, rfl, hown, hL, hbl⟩ := hrel
    have HL : Hid (Pairs L T F k) := hL
    clear hL
    by_cases hlt : k < n
    · obtain ⟨bb, off, rfl, hb, hcell0, hcell20⟩ := HX.out k hlt
      have hcell : wr.cell? ⟨bb, off + k * 2, none⟩ = some (.string (F k)) := (hbl.cell (p := ⟨bb, off + k * 2, none⟩) (by show bb < _; omega)).trans hcell0
      have hcell2 : wr.cell? ⟨bb, off + k * 2 + 1, none⟩ = some (.string (T k)) := (hbl.cell (p := ⟨bb, off + k * 2 + 1, none⟩) (by show bb < _; omega)).trans hcell20
      clear hcell0 hcell20
      have hLl : L.length = n * 2 := by simpa using hown.1
      have hBl : w.heap.size < wr.heap.size := (hown.lt _ rfl).2
      obtain ⟨old, hold⟩ : ∃ old, wr.cell? ⟨w.heap.size, k * 2, none⟩ = some old := ⟨_, (hown.cellAt (k * 2) (by omega)).trans (List.getElem?_eq_getElem (by omega))⟩
      obtain ⟨old2, hold2⟩ : ∃ old2, wr.cell? ⟨w.heap.size, k * 2 + 1, none⟩ = some old2 := ⟨_, (hown.cellAt (k * 2 + 1) (by omega)).trans (List.getElem?_eq_getElem (by omega))⟩
      have hfz := hown.frozenAt (k * 2)
      have hfz2 := hown.frozenAt (k * 2 + 1)
      have HO : Hid (wr.ownsRow w.heap.size 65 2 (.slice (some ⟨w.heap.size, 0, none⟩) n n) n L) := hown
      clear hown
      have HP := HL.out.succ (T := F) (by omega : k * 2 + 1 < L.length)
      have HP : Hid (Pairs ((L.set (k * 2) (.string (T k))).set (k * 2 + 1) (.string (F k))) T F (k + 1)) := HP
      generalize F k = s at hcell HP
      generalize T k = t at hcell2 HP
      have hi1 : (k : Int) < (n : Int) := by omega
      have hi0 : (0 : Int) ≤ (k : Int) := by omega
      go_wp2
      go_roundw
      case rel => exact ⟨k + 1, (L.set (k * 2) (.string t)).set (k * 2 + 1) (.string s), by omega, by go_num, ((((HO.out.stored (k * 2) (.string t)).1).stored (k * 2 + 1) (.string s)).1).alloc _, HP.out, ((hbl.setCell (p := ⟨w.heap.size, k * 2, none⟩) (Nat.le_refl _) _).setCell (p := ⟨w.heap.size, k * 2 + 1, none⟩) (Nat.le_refl _) _).alloc (by simp; omega) _⟩
      case measure => simp [intOf]; omega
    · obtain rfl : k = n := by omega
      have HO : Hid (wr.ownsRow w.heap.size 65 2 (.slice (some ⟨w.heap.size, 0, none⟩) k k) k L) := hown
      clear hown
      go_wp2
      go_ret
      exact ⟨some ⟨w.heap.size, 0, none⟩, k, rfl, ren_done HO.out HL.out, hbl⟩
end Go.Proofs.Qxb6601722aDoor
