/-
  Seat b6601722aD: strings.EqualFold as a plain function of two texts; it is reflexive. No Go in sight.
-/
import Derived.Test.Qxb6601722aDoorPlain
import Derived.Lib.SpaceU
import Derived.Lib.TrimU
import Derived.Lib.MapLaws
namespace Go.Proofs.Qxb6601722aDoor
open Go.Lib

theorem cyc_of_fix {r : Int} (h : sfold r = r) : cyc r = true := by unfold cyc; simp [h]
theorem cyc_all (r : Int) : cyc r = true := by
  by_cases h1 : r < 0 ∨ 1114111 < r
  · exact cyc_of_fix (by unfold sfold; rw [if_pos h1])
  by_cases h2 : r < 128
  · have h := List.all_eq_true.1 cyc_ascii r.toNat (List.mem_range.2 (by omega))
    rwa [show ((r.toNat : Nat) : Int) = r by omega] at h
  by_cases h3 : orbAt r (coN + 1) 0 coN < coN ∧ ((co.getD (orbAt r (coN + 1) 0 coN) (0, 0)).1 : Int) = r
  · obtain ⟨h4, h5⟩ := h3
    have hm : co.getD (orbAt r (coN + 1) 0 coN) (0, 0) ∈ co := by
      have hl : orbAt r (coN + 1) 0 coN < co.length := by rw [co_len]; exact h4
      simp [List.getD, hl]
    have h := List.all_eq_true.1 cyc_orbit _ hm
    rwa [h5] at h
  cases hi : lookupIdx caseA r (caseA.size + 1) 0 caseA.size with
  | none => exact cyc_of_fix (by unfold sfold; rw [if_neg h1, if_neg h2, if_neg h3, hi])
  | some i =>
    obtain ⟨hil, hlo, hhi⟩ := lookupIdx_some caseA r _ _ _ i hi
    have hm : caseA.getD i (0, 0, 0, 0, 0) ∈ caseT := by
      unfold caseA at hil ⊢
      simp only [List.size_toArray] at hil
      simp [Array.getD, hil]
    have h := List.all_eq_true.1 cyc_rows _ hm
    unfold rowCyc at h
    generalize caseA.getD i (0, 0, 0, 0, 0) = x at *
    have h2 := List.all_eq_true.1 h (r.toNat - x.1) (List.mem_range.2 (by omega))
    rwa [show (((x.1 + (r.toNat - x.1) : Nat)) : Int) = r by omega] at h2

/-- so many steps of sfold -/
def iter : Nat → Int → Int
  | 0, r => r
  | n + 1, r => iter n (sfold r)
/-- Within f steps r comes to sr. -/
def Comes (f : Nat) (sr r : Int) : Prop := ∃ m, m ≤ f ∧ iter m r = sr
theorem comes_start (sr : Int) : Comes 3 sr (sfold sr) := by
  have h := cyc_all sr
  unfold cyc at h
  simp only [Bool.or_eq_true, beq_iff_eq] at h
  rcases h with ((h | h) | h) | h
  · exact ⟨0, by omega, h⟩
  · exact ⟨1, by omega, h⟩
  · exact ⟨2, by omega, h⟩
  · exact ⟨3, by omega, h⟩
theorem comes_step {f : Nat} {sr r : Int} (h : Comes f sr r) (hne : r ≠ sr) : ∃ g, f = g + 1 ∧ Comes g sr (sfold r) := by
  obtain ⟨m, hm, he⟩ := h
  match m, he with
  | 0, he => exact absurd he hne
  | m + 1, he => exact ⟨f - 1, by omega, m, by omega, he⟩

/-- 'for r != sr && r < tr { r = SimpleFold(r) }' -/
def orb (sr tr : Int) : Nat → Int → Int
  | 0, r => r
  | f + 1, r => if r ≠ sr ∧ r < tr then orb sr tr f (sfold r) else r
theorem orb_stop (sr tr : Int) (f : Nat) (r : Int) (h : ¬ (r ≠ sr ∧ r < tr)) : orb sr tr f r = r := by
  cases f with
  | zero => rfl
  | succ f => unfold orb; rw [if_neg h]
theorem orb_step (sr tr : Int) (f : Nat) (r : Int) (h : r ≠ sr ∧ r < tr) : orb sr tr (f + 1) r = orb sr tr f (sfold r) := by
  conv => lhs; unfold orb
  rw [if_pos h]

/-- two runes that are not the same, the lesser first -/
def pairEq (a b : Int) : Bool := if b < 128 then decide (65 ≤ a ∧ a ≤ 90 ∧ b = a + 32) else decide (orb a b 3 (sfold a) = b)
def runeEq (sr tr : Int) : Bool := if tr = sr then true else if tr < sr then pairEq tr sr else pairEq sr tr

/-- behind the first byte beyond ASCII -/
def ef2 : Nat → List UInt8 → List UInt8 → Bool
  | 0, _, _ => false
  | f + 1, s, t => if s = [] then decide (t = []) else if t = [] then false
    else if runeEq ((decodeL s).1 : Nat) ((decodeL t).1 : Nat) = true then ef2 f (s.drop (decodeL s).2) (t.drop (decodeL t).2) else false

def asciiEq (a b : UInt8) : Bool := a == b || (decide (a.toNat < b.toNat) && (decide (65 ≤ a.toNat) && decide (a.toNat ≤ 90) && decide (b.toNat = a.toNat + 32))) || (decide (b.toNat < a.toNat) && (decide (65 ≤ b.toNat) && decide (b.toNat ≤ 90) && decide (a.toNat = b.toNat + 32)))
def ef : List UInt8 → List UInt8 → Bool
  | [], [] => true
  | [], _ :: _ => false
  | _ :: _, [] => false
  | a :: s, b :: t => if 128 ≤ a.toNat ∨ 128 ≤ b.toNat then ef2 (s.length + 2) (a :: s) (b :: t) else if asciiEq a b = true then ef s t else false

theorem ef2_refl : ∀ (f : Nat) (s : List UInt8), s.length < f → ef2 f s s = true
  | 0, s, h => absurd h (by omega)
  | f + 1, s, h => by
    unfold ef2
    by_cases hs : s = []
    · simp [hs]
    · rw [if_neg hs, if_neg hs, if_pos (by unfold runeEq; rw [if_pos rfl])]
      refine ef2_refl f _ ?_
      have h1 : 1 ≤ (decodeL s).2 := width_pos _ 0
      have h2 : 0 < s.length := List.length_pos_iff.2 hs
      rw [List.length_drop]; omega
theorem ef_refl : ∀ s : List UInt8, ef s s = true
  | [] => rfl
  | a :: s => by
    unfold ef
    by_cases h : 128 ≤ a.toNat ∨ 128 ≤ a.toNat
    · rw [if_pos h]; exact ef2_refl _ _ (by simp)
    · rw [if_neg h, if_pos (by simp [asciiEq])]; exact ef_refl s
end Go.Proofs.Qxb6601722aDoor
