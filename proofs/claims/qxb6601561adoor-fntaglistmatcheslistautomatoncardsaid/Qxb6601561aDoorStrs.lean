/-
  Seat b6601561aD: the walks over slices of strings: zzBytes, listBytesFit, copyLines, sameStrings.
-/
import Derived.Test.Qxb6601561aDoorProg
import Derived.WalkKit
import Derived.WalkSpells
import Derived.WalkLawsBesides
import Derived.Deep.QuietTactic
import Derived.BigQuiet
import Derived.Lib.SliceRun
namespace Go.Proofs.Qxb6601561aDoor
open Go.RowKit

/-- THE SLICE AT a HOLDS THE STRINGS xs, in a block below n₀ (nothing is said of a where xs is empty). -/
def StrAt (n₀ : Nat) (W : World) (a : Option Addr) (xs : List ByteArray) : Prop :=
  ∀ j, j < xs.length → ∃ b off, a = some ⟨b, off, none⟩ ∧ b < n₀ ∧ W.cell? ⟨b, off + j, none⟩ = some (.string (xs[j]?.getD ByteArray.empty))

theorem StrAt.below {n₀ : Nat} {A B : World} {a : Option Addr} {xs : List ByteArray} (h : StrAt n₀ A a xs) (hb : Below n₀ A B) : StrAt n₀ B a xs := fun j hj => by
  obtain ⟨b, off, e, hlt, hc⟩ := h j hj
  exact ⟨b, off, e, hlt, (hb.cell (p := ⟨b, off + j, none⟩) hlt).trans hc⟩
theorem StrAt.mono {n₀ n₁ : Nat} {A : World} {a : Option Addr} {xs : List ByteArray} (h : StrAt n₀ A a xs) (hn : n₀ ≤ n₁) : StrAt n₁ A a xs := fun j hj => by
  obtain ⟨b, off, e, hlt, hc⟩ := h j hj
  exact ⟨b, off, e, by omega, hc⟩
theorem StrAt.drewN {n₀ : Nat} {A : World} {a : Option Addr} {xs : List ByteArray} (h : StrAt n₀ A a xs) (q : Nat) : StrAt n₀ (A.drewN q) a xs := h

def sumL (xs : List ByteArray) : Nat := (xs.map (·.size)).sum
theorem sumL_succ (xs : List ByteArray) (k : Nat) (h : k < xs.length) : sumL (xs.take (k + 1)) = sumL (xs.take k) + (xs[k]?.getD ByteArray.empty).size := by
  rw [List.take_succ_eq_append_getElem h]
  unfold sumL
  rw [List.map_append, List.sum_append]
  simp [h]
theorem sumL_all (xs : List ByteArray) : sumL (xs.take xs.length) = sumL xs := by rw [List.take_length]

def RetBytes (xs : List ByteArray) (w : World) (e : Ending) (w' : World) : Prop :=
  ∃ b : Bool, e = .returned (.bool b) ∧ (b = true → xs.length + sumL xs ≤ 1048576) ∧ w' = w

set_option maxHeartbeats 1000000 in
theorem bytes_any (n₀ : Nat) (a : Option Addr) (xs : List ByteArray) (c : Nat) (w : World) (hx : StrAt n₀ w a xs) (hxl : xs.length ≤ 9223372036854775807) :
    Calls Tryd.prog 6 #[.slice a xs.length c] w fun e w' => RetBytes xs w e w' := by
  by_cases hl : xs.length ≤ 1048576
  · go_enter Tryd.func6, Tryd.ntmps6
    go_wp2
    go_loop [3, 4] (fun t i => ∃ k : Nat, k ≤ xs.length ∧ i = .int .i64 k ∧ t = .int .i64 (xs.length + sumL (xs.take k) : Nat) ∧ xs.length + sumL (xs.take k) ≤ 1048576) (fun _ i => xs.length - (intOf i).toNat)
    case atStart => exact ⟨0, Nat.zero_le _, rfl, by simp [sumL], by simp [sumL]; omega⟩
    case round =>
      obtain ⟨k, hk, rfl, rfl, hsum⟩ := hrel
      by_cases hlt : k < xs.length
      · obtain ⟨b, off, rfl, hb, hcell⟩ := hx k hlt
        have HS : Hid (sumL (xs.take (k + 1)) = sumL (xs.take k) + (xs[k]?.getD ByteArray.empty).size) := sumL_succ xs k hlt
        generalize xs[k]?.getD ByteArray.empty = s at hcell HS
        generalize hG : sumL (xs.take k) = g at hsum HS
        have HG : Hid (sumL (xs.take k) = g) := hG
        clear hG
        go_wp2
        · go_ret
          exact ⟨false, rfl, by simp, rfl⟩
        · go_ret
          exact ⟨false, rfl, by simp, rfl⟩
        · go_round
          case rel => exact ⟨k + 1, by omega, by go_num, by rw [HS.out]; go_num, by rw [HS.out]; omega⟩
          case measure => simp [intOf]; omega
      · have e : k = xs.length := by omega
        subst e
        rw [sumL_all] at *
        go_wp2
        go_ret
        exact ⟨true, rfl, fun _ => hsum, rfl⟩
  · go_enter Tryd.func6, Tryd.ntmps6
    go_wp2
    go_ret
    exact ⟨false, rfl, by simp, rfl⟩

def RetSome (w : World) (e : Ending) (w' : World) : Prop := ∃ b : Bool, e = .returned (.bool b) ∧ w' = w

set_option maxHeartbeats 1000000 in
theorem fit_any (n₀ : Nat) (a : Option Addr) (xs : List ByteArray) (c : Nat) (w : World) (hx : StrAt n₀ w a xs) (hxl : xs.length ≤ 1048576) :
    Calls Tryd.prog 7 #[.slice a xs.length c] w fun e w' => RetSome w e w' := by
  by_cases hl : xs.length ≤ 65536
  · go_enter Tryd.func7, Tryd.ntmps7
    go_wp2
    go_loop [3, 4] (fun t i => ∃ k m : Nat, k ≤ xs.length ∧ i = .int .i64 k ∧ t = .int .i64 m ∧ m ≤ 1048576) (fun _ i => xs.length - (intOf i).toNat)
    case atStart => exact ⟨0, 8 * xs.length, Nat.zero_le _, rfl, by go_num, by omega⟩
    case round =>
      obtain ⟨k, m, hk, rfl, rfl, hm⟩ := hrel
      by_cases hlt : k < xs.length
      · obtain ⟨b, off, rfl, hb, hcell⟩ := hx k hlt
        generalize xs[k]?.getD ByteArray.empty = s at hcell
        go_wp2
        · go_ret
          exact ⟨false, rfl, rfl⟩
        · go_ret
          exact ⟨false, rfl, rfl⟩
        · go_round
          case rel => exact ⟨k + 1, m + s.size, by omega, by go_num, by go_num, by omega⟩
          case measure => simp [intOf]; omega
      · go_wp2
        go_ret
        exact ⟨true, rfl, rfl⟩
  · go_enter Tryd.func7, Tryd.ntmps7
    go_wp2
    go_ret
    exact ⟨false, rfl, rfl⟩

theorem info9 : (Tryd.prog.info? 9).map (fun i => (i.zero, i.size, i.bytes)) = some (some (.string ByteArray.empty), 1, 16) := by kernel_rfl

/-- A copy: a slice of the same strings, in new memory (or nil). -/
def RetClone (xs : List ByteArray) (w : World) (e : Ending) (w' : World) : Prop :=
  ∃ a' c', e = .returned (.slice a' xs.length c') ∧ xs.length ≤ c' ∧ StrAt w'.heap.size w' a' xs ∧ Below w.heap.size w w'

theorem clone_done {B n : Nat} {wr : World} {xs : List ByteArray} {L : List Value} (hn : n = xs.length) (hown : wr.ownsRow B 9 1 (.slice (some ⟨B, 0, none⟩) n n) n L) (hL : ∀ j, j < n → L[j]? = some (.string (xs[j]?.getD ByteArray.empty))) :
    StrAt wr.heap.size wr (some ⟨B, 0, none⟩) xs := fun j hj => by
  have hlt := (hown.lt B rfl).2
  refine ⟨B, 0, rfl, hlt, ?_⟩
  rw [Nat.zero_add, hown.cellAt j (by omega), hL j (by omega)]

set_option maxHeartbeats 1000000 in
theorem clone_any (n₀ : Nat) (a : Option Addr) (xs : List ByteArray) (c : Nat) (w : World) (hx : StrAt n₀ w a xs) (hn₀ : n₀ ≤ w.heap.size) (hxl : xs.length ≤ 1048576) (hnil : a = none → xs.length = 0) :
    Calls Tryd.prog 8 #[.slice a xs.length c] w fun e w' => RetClone xs w e w' := by
  have q22 : ∀ (w : World) (a : Option Addr) (n c n' c' : Nat), (binOp .eql 22 (.slice a n c) (.slice none n' c')).run Tryd.prog w = .ok (.bool a.isNone) w := fun w a n c n' c' => Lib.run_eql_slice_nil w _ _ a n c n' c' Tryd.underlying22
  obtain ⟨i0, hi, hz0, hz1, hz2⟩ := info_parts info9
  cases a with
  | none =>
    have h0 := hnil rfl
    go_enter Tryd.func8, Tryd.ntmps8
    go_wp2
    go_ret
    exact ⟨none, 0, by rw [h0]; rfl, by omega, fun j hj => by omega, Below.refl _ _⟩
  | some ad =>
    generalize hG : xs.length = n at *
    have HG : Hid (xs.length = n) := hG
    clear hG
    go_enter Tryd.func8, Tryd.ntmps8
    go_wp2_with (at_make; refine wpList_make_full _ rfl _ _ 22 rfl w.heap.size 9 i0 (.string ByteArray.empty) 1 Tryd.underlying22 hi hz0 hz1 _ _ _ _ n rfl rfl rfl rfl (by rw [hz2]; omega) (by unfold maxLen; omega) (Nat.le_refl _) ?_; intro w1 hown1 hgrow1)
    have hb1 : Below w.heap.size w w1 := (Below.refl _ w).grown hgrow1 (Nat.le_refl _) (fun k e => by cases e)
    clear hgrow1
    go_loopw [4] (fun i wr => ∃ (k : Nat) (L : List Value), k ≤ n ∧ i = .int .i64 k ∧ wr.ownsRow w.heap.size 9 1 (.slice (some ⟨w.heap.size, 0, none⟩) n n) n L ∧ (∀ j, j < k → L[j]? = some (.string (xs[j]?.getD ByteArray.empty))) ∧ Below w.heap.size w wr) (fun i _ => n - (intOf i).toNat)
    case atStart => exact ⟨0, _, Nat.zero_le _, rfl, hown1, fun j hj => absurd hj (Nat.not_lt_zero _), hb1⟩
    case round =>
      obtain ⟨k, L, hk, rfl, hown, hL, hbl⟩ := hrel
      have HL : Hid (∀ j, j < k → L[j]? = some (.string (xs[j]?.getD ByteArray.empty))) := hL
      clear hL
      by_cases hlt : k < n
      · obtain ⟨b, off, e, hb, hcell0⟩ := hx k (by rw [HG.out]; exact hlt)
        cases e
        have hcell : wr.cell? ⟨b, off + k, none⟩ = some (.string (xs[k]?.getD ByteArray.empty)) := (hbl.cell (p := ⟨b, off + k, none⟩) (by show b < _; omega)).trans hcell0
        clear hcell0
        have hLl : L.length = n := by simpa using hown.1
        obtain ⟨old, hold⟩ : ∃ old, wr.cell? ⟨w.heap.size, k, none⟩ = some old := ⟨_, (hown.cellAt k (by omega)).trans (List.getElem?_eq_getElem (by omega))⟩
        have hfz := hown.frozenAt k
        have HO : Hid (wr.ownsRow w.heap.size 9 1 (.slice (some ⟨w.heap.size, 0, none⟩) n n) n L) := hown
        clear hown
        generalize hS : xs[k]?.getD ByteArray.empty = s at hcell
        have HS : Hid (xs[k]?.getD ByteArray.empty = s) := hS
        clear hS
        go_wp2
        go_roundw
        case rel =>
          refine ⟨k + 1, L.set k (.string s), by omega, by go_num, (HO.out.stored k (.string s)).1, fun j hj => ?_, hbl.setCell (p := ⟨w.heap.size, k, none⟩) (Nat.le_refl _) _⟩
          by_cases e : j = k
          · subst e
            rw [List.getElem?_set_self (by omega), HS.out]
          · rw [List.getElem?_set_ne (by omega)]
            exact HL.out j (by omega)
        case measure => simp [intOf]; omega
      · have e : k = n := by omega
        subst e
        have HO : Hid (wr.ownsRow w.heap.size 9 1 (.slice (some ⟨w.heap.size, 0, none⟩) k k) k L) := hown
        clear hown
        go_wp2
        go_ret
        exact ⟨some ⟨w.heap.size, 0, none⟩, k, by rw [HG.out]; rfl, by rw [HG.out]; exact Nat.le_refl _, clone_done HG.out.symm HO.out HL.out, hbl⟩

set_option maxHeartbeats 1000000 in
/-- sameStrings at two slices of the same strings: true. -/
theorem equal_any (n₀ : Nat) (a a2 : Option Addr) (xs : List ByteArray) (c c2 : Nat) (w : World) (hx : StrAt n₀ w a xs) (hy : StrAt n₀ w a2 xs) (hxl : xs.length ≤ 1048576) :
    Calls Tryd.prog 11 #[.slice a xs.length c, .slice a2 xs.length c2] w fun e w' => e = .returned (.bool true) ∧ ∃ q, w' = w.drewN q := by
  generalize hG : xs.length = n at *
  have HG : Hid (xs.length = n) := hG
  clear hG
  go_enter Tryd.func11, Tryd.ntmps11
  go_wp2
  go_loopw [5] (fun i wr => ∃ k : Nat, k ≤ n ∧ i = .int .i64 k ∧ ∃ q, wr = w.drewN q) (fun i _ => n - (intOf i).toNat)
  case atStart => exact ⟨0, Nat.zero_le _, rfl, 0, rfl⟩
  case round =>
    obtain ⟨k, hk, rfl, q, rfl⟩ := hrel
    by_cases hlt : k < n
    · obtain ⟨b, off, rfl, hb, hcell⟩ := hx k (by rw [HG.out]; exact hlt)
      obtain ⟨b2, off2, rfl, hb2, hcell2⟩ := hy k (by rw [HG.out]; exact hlt)
      generalize xs[k]?.getD ByteArray.empty = s at hcell hcell2
      have hi1 : (k : Int) < (n : Int) := by omega
      have hi0 : (0 : Int) ≤ (k : Int) := by omega
      go_wp2
      go_quiet (fail)
      go_wp2
      go_roundw
      case rel => exact ⟨k + 1, by omega, by go_num, _, rfl⟩
      case measure => simp [intOf]; omega
    · go_wp2
      go_ret
      exact ⟨rfl, q, rfl⟩
end Go.Proofs.Qxb6601561aDoor
