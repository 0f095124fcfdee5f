/-
  Seat b6601722aD: the walks over slices of strings that read no table: zzBytes, Cap, SizeStrings.
-/
import Derived.Test.Qxb6601722aDoorProg
import Derived.WalkKit
import Derived.WalkSpells
import Derived.WalkLawsBesides
import Derived.Deep.QuietTactic
import Derived.BigQuiet
import Derived.Lib.SliceRun
namespace Go.Proofs.Qxb6601722aDoor
open Go.RowKit

/-- the string at a place -/
def txt (xs : List ByteArray) (j : Nat) : ByteArray := xs[j]?.getD ByteArray.empty
/-- THE SLICE AT a HOLDS THE STRINGS xs, in a block below n₀ (nothing is said of a where xs is empty). -/
def StrAt (n₀ : Nat) (W : World) (a : Option Addr) (xs : List ByteArray) : Prop :=
  ∀ j, j < xs.length → ∃ b off, a = some ⟨b, off, none⟩ ∧ b < n₀ ∧ W.cell? ⟨b, off + j, none⟩ = some (.string (txt xs j))

theorem StrAt.below {n₀ : Nat} {A B : World} {a : Option Addr} {xs : List ByteArray} (h : StrAt n₀ A a xs) (hb : Below n₀ A B) : StrAt n₀ B a xs := fun j hj => by
  obtain ⟨b, off, e, hlt, hc⟩ := h j hj
  exact ⟨b, off, e, hlt, (hb.cell (p := ⟨b, off + j, none⟩) hlt).trans hc⟩
theorem StrAt.mono {n₀ n₁ : Nat} {A : World} {a : Option Addr} {xs : List ByteArray} (h : StrAt n₀ A a xs) (hn : n₀ ≤ n₁) : StrAt n₁ A a xs := fun j hj => by
  obtain ⟨b, off, e, hlt, hc⟩ := h j hj
  exact ⟨b, off, e, by omega, hc⟩

/-- the first k strings are short -/
def Fit (xs : List ByteArray) (k : Nat) : Prop := ∀ j, j < k → (txt xs j).size ≤ 1048576
theorem Fit.zero (xs : List ByteArray) : Fit xs 0 := fun j hj => absurd hj (Nat.not_lt_zero j)
theorem Fit.succ {xs : List ByteArray} {k : Nat} (h : Fit xs k) (hk : (txt xs k).size ≤ 1048576) : Fit xs (k + 1) := fun j hj => by
  rcases Nat.lt_succ_iff_lt_or_eq.1 hj with h1 | rfl
  · exact h j h1
  · exact hk

def RetBytes (xs ys : List ByteArray) (nm : ByteArray) (w : World) (e : Ending) (w' : World) : Prop :=
  ∃ b : Bool, e = .returned (.bool b) ∧ (b = true → xs.length ≤ 1048576 ∧ ys.length ≤ 1048576 ∧ Fit xs xs.length ∧ Fit ys ys.length ∧ nm.size ≤ 1048576) ∧ w' = w

def Rel1 (xs : List ByteArray) (n : Nat) (t i : Value) : Prop := ∃ k m : Nat, k ≤ n ∧ i = .int .i64 k ∧ t = .int .i64 m ∧ m ≤ 1048576 ∧ Fit xs k

set_option maxHeartbeats 2000000 in
theorem bytes_any (n₀ : Nat) (a b : Option Addr) (xs ys : List ByteArray) (c d : Nat) (nm : ByteArray) (w : World) (hx : StrAt n₀ w a xs) (hy : StrAt n₀ w b ys) (hxl : xs.length ≤ 9223372036854775807) (hyl : ys.length ≤ 9223372036854775807) (hnl : nm.size ≤ 9223372036854775807) :
    Calls Tryd.prog 12 #[.slice a xs.length c, .slice b ys.length d, .string nm] w fun e w' => RetBytes xs ys nm w e w' := by
  have HX : Hid (StrAt n₀ w a xs) := hx
  have HY : Hid (StrAt n₀ w b ys) := hy
  clear hx hy
  generalize hG : xs.length = n at *
  have HG : Hid (xs.length = n) := hG
  generalize hG2 : ys.length = n2 at *
  have HG2 : Hid (ys.length = n2) := hG2
  clear hG hG2
  by_cases hl : n ≤ 1048576
  · go_enter Tryd.func12, Tryd.ntmps12
    go_wp2
    go_loop [7, 8] (fun t i => Rel1 xs n t i) (fun _ i => n - (intOf i).toNat)
    case atStart => exact ⟨0, n, Nat.zero_le _, rfl, by go_num, by omega, Fit.zero _⟩
    case round =>
      obtain ⟨k, m, hk, rfl, rfl, hm, hfit⟩ := hrel
      have HF : Hid (Fit xs k) := hfit
      clear hfit
      by_cases hlt : k < n
      · obtain ⟨ab, off, rfl, hb, hcell⟩ := HX.out k (by rw [HG.out]; exact hlt)
        obtain ⟨s, hs⟩ : ∃ s, txt xs k = s := ⟨_, rfl⟩
        rw [hs] at hcell
        have HS : Hid (txt xs k = s) := hs
        clear hs
        go_wp2
        · go_ret
          exact ⟨false, rfl, by simp, rfl⟩
        · go_ret
          exact ⟨false, rfl, by simp, rfl⟩
        · go_round
          case rel => exact ⟨k + 1, m + s.size, by omega, by go_num, by go_num, by omega, HF.out.succ (by rw [HS.out]; omega)⟩
          case measure => simp [intOf]; omega
      · obtain rfl : k = n := by omega
        by_cases hl2 : n2 ≤ 1048576
        · by_cases hl3 : m + n2 ≤ 1048576
          · go_wp2
            go_loop [7, 9] (fun t i => Rel1 ys n2 t i) (fun _ i => n2 - (intOf i).toNat)
            case atStart => exact ⟨0, m + n2, Nat.zero_le _, rfl, by go_num, by omega, Fit.zero _⟩
            case round =>
              obtain ⟨k2, m2, hk2, rfl, rfl, hm2, hfit⟩ := hrel
              have HF2 : Hid (Fit ys k2) := hfit
              clear hfit
              by_cases hlt2 : k2 < n2
              · obtain ⟨ab, off, rfl, hb, hcell⟩ := HY.out k2 (by rw [HG2.out]; exact hlt2)
                obtain ⟨s, hs⟩ : ∃ s, txt ys k2 = s := ⟨_, rfl⟩
                rw [hs] at hcell
                have HS : Hid (txt ys k2 = s) := hs
                clear hs
                go_wp2
                · go_ret
                  exact ⟨false, rfl, by simp, rfl⟩
                · go_ret
                  exact ⟨false, rfl, by simp, rfl⟩
                · go_round
                  case rel => exact ⟨k2 + 1, m2 + s.size, by omega, by go_num, by go_num, by omega, HF2.out.succ (by rw [HS.out]; omega)⟩
                  case measure => simp [intOf]; omega
              · obtain rfl : k2 = n2 := by omega
                go_wp2
                · go_ret
                  exact ⟨false, rfl, by simp, rfl⟩
                · go_ret
                  exact ⟨false, rfl, by simp, rfl⟩
                · go_ret
                  exact ⟨true, rfl, fun _ => ⟨by rw [HG.out]; omega, by rw [HG2.out]; omega, by rw [HG.out]; exact HF.out, by rw [HG2.out]; exact HF2.out, by omega⟩, rfl⟩
          · go_wp2
            go_ret
            exact ⟨false, rfl, by simp, rfl⟩
        · go_wp2
          go_ret
          exact ⟨false, rfl, by simp, rfl⟩
  · go_enter Tryd.func12, Tryd.ntmps12
    go_wp2
    go_ret
    exact ⟨false, rfl, by simp, rfl⟩

def RetCap (w : World) (e : Ending) (w' : World) : Prop := ∃ m : Nat, e = .returned (.int .i64 m) ∧ m ≤ 1048577 ∧ w' = w
theorem cap_any (n : Nat) (w : World) (h : n ≤ 9223372036854775807) : Calls Tryd.prog 14 #[.int .i64 n] w fun e w' => RetCap w e w' := by
  go_enter Tryd.func14, Tryd.ntmps14
  go_wp2
  · go_ret
    exact ⟨1048577, rfl, by omega, rfl⟩
  · go_ret
    exact ⟨n, rfl, by omega, rfl⟩

def Rel2 (n : Nat) (t i : Value) : Prop := ∃ k m : Nat, k ≤ n ∧ i = .int .i64 k ∧ t = .int .i64 m ∧ m ≤ 16777216
set_option maxHeartbeats 2000000 in
theorem size_any (n₀ : Nat) (a : Option Addr) (xs : List ByteArray) (c : Nat) (w : World) (hx : StrAt n₀ w a xs) (hxl : xs.length ≤ 1048576) (hf : Fit xs xs.length) :
    Calls Tryd.prog 13 #[.slice a xs.length c] w fun e w' => RetCap w e w' := by
  have HX : Hid (StrAt n₀ w a xs) := hx
  have HF : Hid (Fit xs xs.length) := hf
  clear hx hf
  generalize hG : xs.length = n at *
  have HG : Hid (xs.length = n) := hG
  clear hG
  go_enter Tryd.func13, Tryd.ntmps13
  go_wp2
  go_loop [3, 4] (fun t i => Rel2 n t i) (fun _ i => n - (intOf i).toNat)
  case atStart => exact ⟨0, 16 * n, Nat.zero_le _, rfl, by go_num, by omega⟩
  case round =>
    obtain ⟨k, m, hk, rfl, rfl, hm⟩ := hrel
    by_cases hlt : k < n
    · obtain ⟨ab, off, rfl, hb, hcell⟩ := HX.out k (by rw [HG.out]; exact hlt)
      have hsz := HF.out k hlt
      obtain ⟨s, hs⟩ : ∃ s, txt xs k = s := ⟨_, rfl⟩
      rw [hs] at hcell hsz
      clear hs
      go_wp2_with (go_at_call 14; refine (cap_any s.size w (by omega)).mono ?_; rintro e w' ⟨q, rfl, hq, rfl⟩)
      · go_ret
        exact ⟨1048577, rfl, by omega, rfl⟩
      · go_round
        case rel => exact ⟨k + 1, m + q, by omega, by go_num, by go_num, by omega⟩
        case measure => simp [intOf]; omega
    · go_wp2_with (go_at_call 14; refine (cap_any m w (by omega)).mono ?_; rintro e w' ⟨q, rfl, hq, rfl⟩)
      go_ret
      exact ⟨q, rfl, hq, rfl⟩
end Go.Proofs.Qxb6601722aDoor
