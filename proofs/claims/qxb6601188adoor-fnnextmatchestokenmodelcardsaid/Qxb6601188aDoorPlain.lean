/-
  Seat b6601188aD: plain functions and laws, no Go in sight.
-/
import Derived.Lib.SlTrimSet
namespace Go.Proofs.Qxb6601188aDoor

def blanks : List UInt8 := [32, 9, 13, 10, 58, 44]
def nums : List UInt8 := [43, 45, 48, 49, 50, 51, 52, 53, 54, 55, 56, 57, 46, 101, 69]
/-- How many leading bytes of l lie in cs. -/
def past (cs l : List UInt8) : Nat := l.length - (Lib.trimLeftS l cs).length

/-- Where the closing quote lies, a backslash passing over the byte behind it. -/
def skipE : Bool → List UInt8 → Option Nat
  | _, [] => none
  | true, _ :: r => (skipE false r).map (· + 1)
  | false, c :: r => if c = 34 then some 0 else if c = 92 then (skipE true r).map (· + 1) else (skipE false r).map (· + 1)
def skipTo (l : List UInt8) : Option Nat := skipE false l

def tokEnd (bs : List UInt8) (p : Nat) : Option Nat :=
  if bs.getD p 0 = 123 ∨ bs.getD p 0 = 125 ∨ bs.getD p 0 = 91 ∨ bs.getD p 0 = 93 then some (p + 1)
  else if bs.getD p 0 = 34 then (skipTo (bs.drop (p + 1))).map (fun r => p + r + 2)
  else if bs.getD p 0 = 116 ∨ bs.getD p 0 = 110 then (if bs.length < p + 4 then none else some (p + 4))
  else if bs.getD p 0 = 102 then (if bs.length < p + 5 then none else some (p + 5))
  else some (p + past nums (bs.drop p))

theorem past_le (cs l : List UInt8) : past cs l ≤ l.length := Nat.sub_le _ _
theorem trim_le (cs l : List UInt8) : (Lib.trimLeftS l cs).length ≤ l.length := by
  unfold Lib.trimLeftS
  exact (List.dropWhile_sublist _).length_le

theorem past_cons (cs : List UInt8) (c : UInt8) (l : List UInt8) : past cs (c :: l) = if cs.contains c then past cs l + 1 else 0 := by
  unfold past
  by_cases h : cs.contains c = true
  · have : Lib.trimLeftS (c :: l) cs = Lib.trimLeftS l cs := by unfold Lib.trimLeftS; rw [List.dropWhile_cons_of_pos h]
    have h2 := trim_le cs l
    rw [this, if_pos h, List.length_cons]; omega
  · have : Lib.trimLeftS (c :: l) cs = c :: l := by unfold Lib.trimLeftS; rw [List.dropWhile_cons_of_neg h]
    rw [this, if_neg h]; omega
theorem past_nil (cs : List UInt8) : past cs [] = 0 := rfl

theorem drop_getD (l : List UInt8) (i : Nat) (h : i < l.length) : l.drop i = l.getD i 0 :: l.drop (i + 1) := by
  rw [List.drop_eq_getElem_cons h]; simp [List.getD, h]

theorem skip_quote (l : List UInt8) (q : Nat) (h : q < l.length) (hc : l.getD q 0 = 34) : skipTo (l.drop q) = some 0 := by
  rw [drop_getD l q h, hc]; simp [skipTo, skipE]
theorem skip_in (l : List UInt8) (q r : Nat) (h : skipTo (l.drop q) = some r) : q < l.length := by
  rcases Nat.lt_or_ge q l.length with h' | h'
  · exact h'
  · rw [List.drop_eq_nil_of_le h'] at h; cases h
theorem skip_back (l : List UInt8) (q r : Nat) (h : skipTo (l.drop q) = some r) (hc : l.getD q 0 = 92) : ∃ r', r = r' + 2 ∧ skipTo (l.drop (q + 2)) = some r' := by
  have hq := skip_in l q r h
  rw [drop_getD l q hq, hc] at h
  rcases Nat.lt_or_ge (q + 1) l.length with h2 | h2
  · rw [drop_getD l (q + 1) h2] at h
    simp [skipTo, skipE] at h
    obtain ⟨r', h3, h4⟩ := h
    exact ⟨r', h4.symm, h3⟩
  · rw [List.drop_eq_nil_of_le h2] at h; simp [skipTo, skipE] at h
theorem skip_plain (l : List UInt8) (q r : Nat) (h : skipTo (l.drop q) = some r) (h1 : l.getD q 0 ≠ 92) (h2 : l.getD q 0 ≠ 34) : ∃ r', r = r' + 1 ∧ skipTo (l.drop (q + 1)) = some r' := by
  have hq := skip_in l q r h
  rw [drop_getD l q hq] at h
  generalize l.getD q 0 = c at *
  simp [skipTo, skipE, h1, h2] at h
  obtain ⟨r', h3, h4⟩ := h
  exact ⟨r', h4.symm, h3⟩
theorem skip_end (l : List UInt8) (q : Nat) (h : skipTo (l.drop q) = some 0) : l.getD q 0 = 34 := by
  by_cases h2 : l.getD q 0 = 34
  · exact h2
  by_cases h1 : l.getD q 0 = 92
  · obtain ⟨r', h3, _⟩ := skip_back l q 0 h h1; omega
  · obtain ⟨r', h3, _⟩ := skip_plain l q 0 h h1 h2; omega

theorem byte_is (c m : UInt8) : c = m ↔ c.toNat = m.toNat := UInt8.toNat_inj.symm

theorem tok_brack {bs : List UInt8} {p e x : Nat} (he : tokEnd bs p = some e) (hx : (bs.getD p 0).toNat = x) (h : x = 123 ∨ x = 125 ∨ x = 91 ∨ x = 93) : e = p + 1 := by
  unfold tokEnd at he
  simp only [byte_is, hx] at he
  simp at he
  rw [if_pos h] at he
  simpa using he.symm
theorem tok_quote {bs : List UInt8} {p e x : Nat} (he : tokEnd bs p = some e) (hx : (bs.getD p 0).toNat = x) (h : x = 34) : ∃ r, skipTo (bs.drop (p + 1)) = some r ∧ e = p + r + 2 := by
  unfold tokEnd at he
  simp only [byte_is, hx] at he
  subst h
  simp at he
  obtain ⟨r, h1, h2⟩ := he
  exact ⟨r, h1, h2.symm⟩
theorem tok_four {bs : List UInt8} {p e x : Nat} (he : tokEnd bs p = some e) (hx : (bs.getD p 0).toNat = x) (h : x = 116 ∨ x = 110) : e = p + 4 ∧ p + 4 ≤ bs.length := by
  unfold tokEnd at he
  simp only [byte_is, hx] at he
  simp at he
  rw [if_neg (by omega), if_neg (by omega), if_pos h] at he
  split at he
  · cases he
  · simp at he; omega
theorem tok_five {bs : List UInt8} {p e x : Nat} (he : tokEnd bs p = some e) (hx : (bs.getD p 0).toNat = x) (h : x = 102) : e = p + 5 ∧ p + 5 ≤ bs.length := by
  unfold tokEnd at he
  simp only [byte_is, hx] at he
  simp at he
  rw [if_neg (by omega), if_neg (by omega), if_neg (by omega), if_pos h] at he
  split at he
  · cases he
  · simp at he; omega
theorem tok_num {bs : List UInt8} {p e x : Nat} (he : tokEnd bs p = some e) (hx : (bs.getD p 0).toNat = x) (h1 : ¬ (x = 123 ∨ x = 125 ∨ x = 91 ∨ x = 93)) (h2 : x ≠ 34) (h3 : ¬ (x = 116 ∨ x = 110)) (h4 : x ≠ 102) : e = p + past nums (bs.drop p) := by
  unfold tokEnd at he
  simp only [byte_is, hx] at he
  simp at he
  rw [if_neg h1, if_neg h2, if_neg h3, if_neg h4] at he
  simpa using he.symm
end Go.Proofs.Qxb6601188aDoor
