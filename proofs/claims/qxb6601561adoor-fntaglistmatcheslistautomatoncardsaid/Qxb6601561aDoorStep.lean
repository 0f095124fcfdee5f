/-
  Seat b6601561aD: the automaton's steps by index, no Go in sight.
-/
import Derived.Test.Qxb6601561aDoorStar
namespace Go.Proofs.Qxb6601561aDoor

def curOf (L : List UInt8) (st start i : Nat) : List UInt8 := if st = 1 ∨ st = 2 ∨ st = 3 then (L.drop start).take (i - start) else []
theorem cur_snoc (L : List UInt8) (start i : Nat) (h : start ≤ i) (hi : i < L.length) : (L.drop start).take (i + 1 - start) = (L.drop start).take (i - start) ++ [L.getD i 0] := by
  have h1 : i - start < (L.drop start).length := by rw [List.length_drop]; omega
  have h2 := List.take_succ_eq_append_getElem h1
  rw [show i - start + 1 = i + 1 - start by omega] at h2
  rw [h2]
  congr 2
  simp [List.getD, hi, show start + (i - start) = i by omega]
theorem cur_in (L : List UInt8) (st start i : Nat) (h : st = 1 ∨ st = 2 ∨ st = 3) : curOf L st start i = (L.drop start).take (i - start) := if_pos h
theorem cur_first (L : List UInt8) (i : Nat) (hi : i < L.length) : (L.drop i).take (i + 1 - i) = [L.getD i 0] := by
  rw [drop_getD L i hi, show i + 1 - i = 1 by omega]; rfl

theorem st0_W (L : List UInt8) (start i : Nat) (tags : List (List UInt8)) (hi : i < L.length) (h : L.getD i 0 = 87) : auto (L.drop i) 0 (curOf L 0 start i) tags = auto (L.drop (i + 1)) 1 (curOf L 1 i (i + 1)) tags := by
  rw [cur_in L 1 i (i + 1) (by simp), cur_first L i hi]
  conv => lhs; rw [drop_getD L i hi]
  rw [auto0, if_pos h]
theorem st0_Q (L : List UInt8) (start i : Nat) (tags : List (List UInt8)) (hi : i < L.length) (h : L.getD i 0 = 34) : auto (L.drop i) 0 (curOf L 0 start i) tags = auto (L.drop (i + 1)) 3 (curOf L 3 i (i + 1)) tags := by
  rw [cur_in L 3 i (i + 1) (by simp), cur_first L i hi]
  conv => lhs; rw [drop_getD L i hi]
  rw [auto0, if_neg (by rw [h]; decide), if_pos h]
theorem st0_S (L : List UInt8) (start i : Nat) (tags : List (List UInt8)) (hi : i < L.length) (h : L.getD i 0 = 32 ∨ L.getD i 0 = 9 ∨ L.getD i 0 = 44) : auto (L.drop i) 0 (curOf L 0 start i) tags = auto (L.drop (i + 1)) 0 (curOf L 0 start (i + 1)) tags := by
  conv => lhs; rw [drop_getD L i hi]
  rw [auto0, if_neg (by rcases h with e | e | e <;> rw [e] <;> decide), if_neg (by rcases h with e | e | e <;> rw [e] <;> decide), if_pos h]
  rfl
theorem st0_N (L : List UInt8) (start i : Nat) (tags : List (List UInt8)) (hi : i < L.length) (h1 : L.getD i 0 ≠ 87) (h2 : L.getD i 0 ≠ 34) (h3 : ¬ (L.getD i 0 = 32 ∨ L.getD i 0 = 9 ∨ L.getD i 0 = 44)) : auto (L.drop i) 0 (curOf L 0 start i) tags = none := by
  rw [drop_getD L i hi, auto0, if_neg h1, if_neg h2, if_neg h3]
theorem st1_S (L : List UInt8) (start i : Nat) (tags : List (List UInt8)) (hi : i < L.length) (hs : start ≤ i) (h : L.getD i 0 = 47) : auto (L.drop i) 1 (curOf L 1 start i) tags = auto (L.drop (i + 1)) 2 (curOf L 2 start (i + 1)) tags := by
  rw [cur_in L 2 start (i + 1) (by simp), cur_in L 1 start i (by simp), cur_snoc L start i hs hi]
  conv => lhs; rw [drop_getD L i hi]
  rw [auto1, if_pos h]
theorem st1_N (L : List UInt8) (start i : Nat) (tags : List (List UInt8)) (hi : i < L.length) (h : L.getD i 0 ≠ 47) : auto (L.drop i) 1 (curOf L 1 start i) tags = none := by
  rw [drop_getD L i hi, auto1, if_neg h]
theorem st2_Q (L : List UInt8) (start i : Nat) (tags : List (List UInt8)) (hi : i < L.length) (hs : start ≤ i) (h : L.getD i 0 = 34) : auto (L.drop i) 2 (curOf L 2 start i) tags = auto (L.drop (i + 1)) 3 (curOf L 3 start (i + 1)) tags := by
  rw [cur_in L 3 start (i + 1) (by simp), cur_in L 2 start i (by simp), cur_snoc L start i hs hi]
  conv => lhs; rw [drop_getD L i hi]
  rw [auto2, if_pos h]
theorem st2_N (L : List UInt8) (start i : Nat) (tags : List (List UInt8)) (hi : i < L.length) (h : L.getD i 0 ≠ 34) : auto (L.drop i) 2 (curOf L 2 start i) tags = none := by
  rw [drop_getD L i hi, auto2, if_neg h]
theorem st3_Q (L : List UInt8) (start i : Nat) (tags : List (List UInt8)) (hi : i < L.length) (hs : start ≤ i) (h : L.getD i 0 = 34) : auto (L.drop i) 3 (curOf L 3 start i) tags = auto (L.drop (i + 1)) 4 (curOf L 4 start (i + 1)) (tags ++ [(L.drop start).take (i + 1 - start)]) := by
  rw [cur_in L 3 start i (by simp), cur_snoc L start i hs hi]
  conv => lhs; rw [drop_getD L i hi]
  rw [auto3, if_pos h]
  rfl
theorem st3_E (L : List UInt8) (start i : Nat) (tags : List (List UInt8)) (hi : i < L.length) (hs : start ≤ i) (h : L.getD i 0 ≠ 34) (he : etag (L.getD i 0) = true) : auto (L.drop i) 3 (curOf L 3 start i) tags = auto (L.drop (i + 1)) 3 (curOf L 3 start (i + 1)) tags := by
  rw [cur_in L 3 start i (by simp), cur_in L 3 start (i + 1) (by simp), cur_snoc L start i hs hi]
  conv => lhs; rw [drop_getD L i hi]
  rw [auto3, if_neg h, if_pos he]
theorem st3_N (L : List UInt8) (start i : Nat) (tags : List (List UInt8)) (hi : i < L.length) (h : L.getD i 0 ≠ 34) (he : etag (L.getD i 0) = false) : auto (L.drop i) 3 (curOf L 3 start i) tags = none := by
  rw [drop_getD L i hi, auto3, if_neg h, if_neg (by rw [he]; exact Bool.false_ne_true)]
theorem st4_C (L : List UInt8) (start i : Nat) (tags : List (List UInt8)) (hi : i < L.length) (h : L.getD i 0 = 44) : auto (L.drop i) 4 (curOf L 4 start i) tags = auto (L.drop (i + 1)) 0 (curOf L 0 start (i + 1)) tags := by
  conv => lhs; rw [drop_getD L i hi]
  rw [auto4, if_pos h]
  rfl
theorem st4_S (L : List UInt8) (start i : Nat) (tags : List (List UInt8)) (hi : i < L.length) (h : L.getD i 0 = 32 ∨ L.getD i 0 = 9) : auto (L.drop i) 4 (curOf L 4 start i) tags = auto (L.drop (i + 1)) 4 (curOf L 4 start (i + 1)) tags := by
  conv => lhs; rw [drop_getD L i hi]
  rw [auto4, if_neg (by rcases h with e | e <;> rw [e] <;> decide), if_pos h]
  rfl
theorem st4_N (L : List UInt8) (start i : Nat) (tags : List (List UInt8)) (hi : i < L.length) (h1 : L.getD i 0 ≠ 44) (h : ¬ (L.getD i 0 = 32 ∨ L.getD i 0 = 9)) : auto (L.drop i) 4 (curOf L 4 start i) tags = none := by
  rw [drop_getD L i hi, auto4, if_neg h1, if_neg h]
theorem st_end (L : List UInt8) (st start i : Nat) (tags : List (List UInt8)) (hi : L.length ≤ i) : auto (L.drop i) st (curOf L st start i) tags = if st = 1 ∨ st = 2 ∨ st = 3 then none else some tags := by
  rw [List.drop_eq_nil_of_le hi]; rfl
end Go.Proofs.Qxb6601561aDoor
