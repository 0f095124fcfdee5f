/-
  Seat b6601561aD: what the model's two ends find is the trimmed text.
-/
import Derived.Test.Qxb6601561aDoorPlain
namespace Go.Proofs.Qxb6601561aDoor

theorem drop_getD (l : List UInt8) (i : Nat) (h : i < l.length) : l.drop i = l.getD i 0 :: l.drop (i + 1) := by
  rw [List.drop_eq_getElem_cons h]; simp [List.getD, h]

theorem trim_both (L : List UInt8) (k m : Nat) (hk : k ≤ m) (hm : m ≤ L.length) (A1 : ∀ j, j < k → ows.contains (L.getD j 0) = true) (A2 : k < L.length → ows.contains (L.getD k 0) = false)
    (B1 : ∀ j, m ≤ j → j < L.length → ows.contains (L.getD j 0) = true) (B2 : k < m → ows.contains (L.getD (m - 1) 0) = false) : Lib.trimS L ows = (L.take m).drop k := by
  have hget : ∀ j b, L[j]? = some b → L.getD j 0 = b := fun j b h => by simp [List.getD, h]
  have hR : Lib.trimRightS L ows = L.take m ∨ (k = m ∧ m = L.length) := by
    by_cases hkm : k < m
    · left
      unfold Lib.trimRightS
      have hrev : L.reverse = (L.drop m).reverse ++ (L.take m).reverse := by rw [← List.reverse_append, List.take_append_drop]
      rw [hrev, List.dropWhile_append_of_pos (fun c hc => by
        rw [List.mem_reverse] at hc
        obtain ⟨j, hj⟩ := List.getElem?_of_mem hc
        rw [List.getElem?_drop] at hj
        have h2 := hget _ _ hj
        rw [← h2]
        exact B1 (m + j) (by omega) (List.getElem?_eq_some_iff.1 hj).1)]
      have hlast : L.take m = L.take (m - 1) ++ [L.getD (m - 1) 0] := by
        have h1 : m - 1 < L.length := by omega
        have h2 := List.take_succ_eq_append_getElem h1
        rw [show m - 1 + 1 = m by omega] at h2
        rw [h2]; simp [List.getD, h1]
      have hrt : (L.take m).reverse = L.getD (m - 1) 0 :: (L.take (m - 1)).reverse := by rw [hlast, List.reverse_append]; rfl
      rw [hrt, List.dropWhile_cons_of_neg (by rw [B2 hkm]; exact Bool.false_ne_true), ← hrt, List.reverse_reverse]
    · right
      refine ⟨by omega, ?_⟩
      by_cases h : m = L.length
      · exact h
      · have h1 := A2 (by omega)
        have h2 := B1 k (by omega) (by omega)
        rw [h1] at h2; cases h2
  unfold Lib.trimS
  rcases hR with hR | ⟨h1, h2⟩
  · rw [hR]
    refine Lib.trimLeftS_drop _ _ k (by rw [List.length_take]; omega) (fun j b hj hb => ?_) (fun b hb => ?_)
    · rw [List.getElem?_take, if_pos (by omega)] at hb
      rw [← hget _ _ hb]; exact A1 j hj
    · by_cases hkm : k < m
      · rw [List.getElem?_take, if_pos hkm] at hb
        rw [← hget _ _ hb]; exact A2 (by omega)
      · rw [List.getElem?_take, if_neg hkm] at hb; cases hb
  · subst h1 h2
    rw [List.take_length, List.drop_length]
    have hall : Lib.trimRightS L ows = [] := by
      have := Lib.trimRightS_take L ows 0 (Nat.zero_le _) (fun j b _ hj => by rw [← hget _ _ hj]; exact A1 j (List.getElem?_eq_some_iff.1 hj).1) (fun b h => absurd h (by omega))
      simpa using this
    rw [hall]; rfl

theorem star_iff (L : List UInt8) (k m : Nat) (hk : k ≤ m) (hm : m ≤ L.length) : (L.take m).drop k = [42] ↔ m - k = 1 ∧ L.getD k 0 = 42 := by
  constructor
  · intro h
    have hl := congrArg List.length h
    rw [List.length_drop, List.length_take] at hl
    simp at hl
    have hkm : m - k = 1 := by omega
    refine ⟨hkm, ?_⟩
    have h0 := congrArg (fun l => l[0]?) h
    simp only [List.getElem?_drop, List.getElem?_take] at h0
    rw [if_pos (by omega)] at h0
    simp at h0
    simp [List.getD, h0]
  · rintro ⟨h1, h2⟩
    have hkl : k < L.length := by omega
    have : L.take m = L.take k ++ [L.getD k 0] := by
      have h3 := List.take_succ_eq_append_getElem hkl
      rw [show k + 1 = m by omega] at h3
      rw [h3]; simp [List.getD, hkl]
    rw [this, h2, List.drop_append_of_le_length (by rw [List.length_take]; omega), List.drop_eq_nil_of_le (by rw [List.length_take]; omega)]
    rfl
end Go.Proofs.Qxb6601561aDoor
