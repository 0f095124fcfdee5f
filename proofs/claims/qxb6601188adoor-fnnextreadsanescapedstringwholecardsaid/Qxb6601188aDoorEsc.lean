/-
  Seat b6601188aD: the plain law of escaping, no Go in sight.
-/
import Derived.Test.Qxb6601188aDoorPlain
namespace Go.Proofs.Qxb6601188aDoor

def e1 (c : UInt8) : List UInt8 := if c = 34 ∨ c = 92 then [92, c] else [c]
def esc (l : List UInt8) : List UInt8 := l.flatMap e1
def bufOf (s t : List UInt8) : List UInt8 := [32, 58, 44, 34] ++ esc s ++ 34 :: t

theorem take_snoc (l : List UInt8) (k : Nat) (h : k < l.length) : l.take (k + 1) = l.take k ++ [l.getD k 0] := by
  rw [List.take_succ_eq_append_getElem h]; simp [List.getD, h]
theorem esc_succ (l : List UInt8) (k : Nat) (h : k < l.length) : esc (l.take (k + 1)) = esc (l.take k) ++ e1 (l.getD k 0) := by
  rw [take_snoc l k h]; unfold esc; rw [List.flatMap_append]; simp
theorem esc_split (l : List UInt8) (k : Nat) (h : k < l.length) : esc l = esc (l.take k) ++ (e1 (l.getD k 0) ++ esc (l.drop (k + 1))) := by
  conv => lhs; rw [← List.take_append_drop k l, drop_getD l k h]
  unfold esc; rw [List.flatMap_append, List.flatMap_cons]
theorem e1_len (c : UInt8) : 1 ≤ (e1 c).length ∧ (e1 c).length ≤ 2 := by unfold e1; split <;> simp
theorem esc_len (l : List UInt8) : (esc l).length ≤ 2 * l.length := by
  induction l with
  | nil => simp [esc]
  | cons c l ih =>
    have := (e1_len c).2
    unfold esc at *
    rw [List.flatMap_cons, List.length_append, List.length_cons]; omega
theorem esc_nil : esc [] = [] := rfl
theorem skip_esc (l t : List UInt8) : skipTo (esc l ++ 34 :: t) = some (esc l).length := by
  unfold skipTo
  induction l with
  | nil => simp [esc, skipE]
  | cons c l ih =>
    have he : esc (c :: l) = e1 c ++ esc l := by unfold esc; rw [List.flatMap_cons]
    rw [he]
    unfold e1
    split
    · simp only [List.cons_append, List.nil_append]
      rw [skipE, if_neg (by decide), if_pos rfl, skipE, ih]
      simp
    · rename_i h
      have h1 : c ≠ 34 := fun e => h (.inl e)
      have h2 : c ≠ 92 := fun e => h (.inr e)
      simp only [List.cons_append, List.nil_append]
      rw [skipE, if_neg h1, if_neg h2, ih]
      simp
theorem buf_len (s t : List UInt8) : (bufOf s t).length = 5 + (esc s).length + t.length := by
  unfold bufOf; simp; omega
theorem buf_past (s t : List UInt8) : past blanks ((bufOf s t).drop 0) = 3 := by
  rw [List.drop_zero]
  unfold bufOf
  simp only [List.cons_append, List.nil_append]
  rw [past_cons, past_cons, past_cons, past_cons]
  simp [blanks]
theorem buf_three (s t : List UInt8) : (bufOf s t).getD 3 0 = 34 := rfl
theorem buf_tok (s t : List UInt8) : tokEnd (bufOf s t) 3 = some ((esc s).length + 5) := by
  unfold tokEnd
  rw [buf_three, if_neg (by decide), if_pos rfl]
  have : (bufOf s t).drop (3 + 1) = esc s ++ 34 :: t := rfl
  rw [this, skip_esc]
  simp; omega
theorem getD_app_right (a b : List UInt8) (i : Nat) : (a ++ b).getD (a.length + i) 0 = b.getD i 0 := by
  simp [List.getD, List.getElem?_append_right]
theorem getD_app_left (a b : List UInt8) (i : Nat) (h : i < a.length) : (a ++ b).getD i 0 = a.getD i 0 := by
  simp [List.getD, List.getElem?_append_left h]
theorem buf_get (s t : List UInt8) (k j : Nat) (hk : k < s.length) (hj : j < (e1 (s.getD k 0)).length) : (bufOf s t).getD (4 + (esc (s.take k)).length + j) 0 = (e1 (s.getD k 0)).getD j 0 := by
  have : bufOf s t = ([32, 58, 44, 34] ++ esc (s.take k)) ++ (e1 (s.getD k 0) ++ (esc (s.drop (k + 1)) ++ 34 :: t)) := by
    unfold bufOf; rw [esc_split s k hk]; simp
  rw [this]
  have hl : ([32, 58, 44, 34] ++ esc (s.take k)).length = 4 + (esc (s.take k)).length := by simp; omega
  rw [← hl, getD_app_right, getD_app_left _ _ _ hj]
theorem buf_last (s t : List UInt8) : (bufOf s t).getD (4 + (esc s).length) 0 = 34 := by
  have : bufOf s t = ([32, 58, 44, 34] ++ esc s) ++ (34 :: t) := rfl
  rw [this]
  have hl : ([32, 58, 44, 34] ++ esc s).length = 4 + (esc s).length := by simp; omega
  have h := getD_app_right ([32, 58, 44, 34] ++ esc s) (34 :: t) 0
  rw [Nat.add_zero, hl] at h
  exact h
theorem esc_lt (s : List UInt8) (k : Nat) (hk : k < s.length) : (esc (s.take k)).length + (e1 (s.getD k 0)).length ≤ (esc s).length := by
  rw [esc_split s k hk, List.length_append, List.length_append]; omega
theorem e1_special (c : UInt8) (h : c = 34 ∨ c = 92) : e1 c = [92, c] := by unfold e1; rw [if_pos h]
theorem e1_plain (c : UInt8) (h1 : c ≠ 34) (h2 : c ≠ 92) : e1 c = [c] := by unfold e1; rw [if_neg (by rintro (h | h) <;> contradiction)]
end Go.Proofs.Qxb6601188aDoor
