/-
  Seat b6601561aD: plain functions and laws, no Go in sight.
-/
import Derived.Lib.SlTrimSet
import Derived.Lib.Strings
namespace Go.Proofs.Qxb6601561aDoor

def ows : List UInt8 := [32, 9]
def sepc : List UInt8 := [32, 9, 44]
def etag (c : UInt8) : Bool := c == 33 || (decide (35 ≤ c.toNat) && decide (c.toNat ≤ 126)) || decide (128 ≤ c.toNat)

/-- The automaton: what is left, the state, the tag so far, the tags so far. -/
def auto : List UInt8 → Nat → List UInt8 → List (List UInt8) → Option (List (List UInt8))
  | [], st, _, out => if st = 1 ∨ st = 2 ∨ st = 3 then none else some out
  | c :: l, st, cur, out =>
    if st = 0 then
      (if c = 87 then auto l 1 [c] out else if c = 34 then auto l 3 [c] out else if c = 32 ∨ c = 9 ∨ c = 44 then auto l 0 [] out else none)
    else if st = 1 then (if c = 47 then auto l 2 (cur ++ [c]) out else none)
    else if st = 2 then (if c = 34 then auto l 3 (cur ++ [c]) out else none)
    else if st = 3 then (if c = 34 then auto l 4 [] (out ++ [cur ++ [c]]) else if etag c = true then auto l 3 (cur ++ [c]) out else none)
    else (if c = 44 then auto l 0 [] out else if c = 32 ∨ c = 9 then auto l 4 [] out else none)

theorem auto0 (c : UInt8) (l cur : List UInt8) (out : List (List UInt8)) : auto (c :: l) 0 cur out = if c = 87 then auto l 1 [c] out else if c = 34 then auto l 3 [c] out else if c = 32 ∨ c = 9 ∨ c = 44 then auto l 0 [] out else none := by rw [auto, if_pos rfl]
theorem auto1 (c : UInt8) (l cur : List UInt8) (out : List (List UInt8)) : auto (c :: l) 1 cur out = if c = 47 then auto l 2 (cur ++ [c]) out else none := by rw [auto, if_neg (by decide), if_pos rfl]
theorem auto2 (c : UInt8) (l cur : List UInt8) (out : List (List UInt8)) : auto (c :: l) 2 cur out = if c = 34 then auto l 3 (cur ++ [c]) out else none := by rw [auto, if_neg (by decide), if_neg (by decide), if_pos rfl]
theorem auto3 (c : UInt8) (l cur : List UInt8) (out : List (List UInt8)) : auto (c :: l) 3 cur out = if c = 34 then auto l 4 [] (out ++ [cur ++ [c]]) else if etag c = true then auto l 3 (cur ++ [c]) out else none := by rw [auto, if_neg (by decide), if_neg (by decide), if_neg (by decide), if_pos rfl]
theorem auto4 (c : UInt8) (l cur : List UInt8) (out : List (List UInt8)) : auto (c :: l) 4 cur out = if c = 44 then auto l 0 [] out else if c = 32 ∨ c = 9 then auto l 4 [] out else none := by rw [auto, if_neg (by decide), if_neg (by decide), if_neg (by decide), if_neg (by decide)]

/-- How many bytes up to and with the closing quote. -/
def quoteLen : List UInt8 → Option Nat
  | [] => none
  | c :: l => if c = 34 then some 1 else if c.toNat < 33 ∨ c = 127 then none else (quoteLen l).map (· + 1)
def startOf (s : List UInt8) : Nat := if Lib.hasPrefix s [87, 47] = true then 2 else 0
/-- Behind the mark of a weak tag. -/
def lenAt (st : Nat) (s : List UInt8) : Nat := match s.drop st with
  | [] => 0
  | c :: r => if c = 34 then (match quoteLen r with | some k => st + 1 + k | none => 0) else 0
def tagLen (s : List UInt8) : Nat := lenAt (startOf s) s

theorem etag_eq (c : UInt8) (h : c ≠ 34) : etag c = true ↔ ¬ (c.toNat < 33 ∨ c = 127) := by
  have hb := c.toNat_lt
  have e1 : c = 33 ↔ c.toNat = 33 := UInt8.toNat_inj.symm
  have e2 : c = 127 ↔ c.toNat = 127 := UInt8.toNat_inj.symm
  have e3 : ¬ c.toNat = 34 := fun e => h (UInt8.toNat_inj.1 e)
  unfold etag
  simp only [Bool.or_eq_true, beq_iff_eq, Bool.and_eq_true, decide_eq_true_eq, e1, e2]
  omega

theorem auto_in : ∀ (r cur : List UInt8) (out : List (List UInt8)), auto r 3 cur out = match quoteLen r with | some k => auto (r.drop k) 4 [] (out ++ [cur ++ r.take k]) | none => none
  | [], cur, out => by simp [auto, quoteLen]
  | c :: l, cur, out => by
    rw [auto3]
    by_cases h : c = 34
    · rw [if_pos h]
      simp [quoteLen, h]
    · rw [if_neg h]
      by_cases he : etag c = true
      · have hn := (etag_eq c h).1 he
        rw [if_pos he, auto_in l (cur ++ [c]) out]
        simp only [quoteLen, if_neg h, if_neg hn]
        cases quoteLen l with
        | none => rfl
        | some k => simp
      · have hn : c.toNat < 33 ∨ c = 127 := by
          by_cases hh : c.toNat < 33 ∨ c = 127
          · exact hh
          · exact absurd ((etag_eq c h).2 hh) he
        rw [if_neg he]
        simp only [quoteLen, if_neg h, if_pos hn]

theorem auto_quote (s r : List UInt8) (st : Nat) (out : List (List UInt8)) (h : s.drop st = 34 :: r) : auto r 3 (s.take (st + 1)) out = if lenAt st s = 0 then none else auto (s.drop (lenAt st s)) 4 [] (out ++ [s.take (lenAt st s)]) := by
  rw [auto_in]
  have hl : lenAt st s = match quoteLen r with | some k => st + 1 + k | none => 0 := by
    unfold lenAt; rw [h]; simp
  cases hq : quoteLen r with
  | none =>
    rw [hq] at hl
    dsimp only at hl
    rw [hl]; simp
  | some k =>
    rw [hq] at hl
    dsimp only at hl
    have hd : s.drop (st + 1) = r := by rw [← List.drop_drop, h]; rfl
    rw [hl, if_neg (show ¬ (st + 1 + k = 0) by omega)]
    have e1 : s.drop (st + 1 + k) = r.drop k := by rw [← List.drop_drop, hd]
    have e2 : s.take (st + 1 + k) = s.take (st + 1) ++ r.take k := by rw [List.take_add, hd]
    rw [e1, e2]

theorem auto_tag (c : UInt8) (l : List UInt8) (out : List (List UInt8)) (h : sepc.contains c = false) :
    auto (c :: l) 0 [] out = if tagLen (c :: l) = 0 then none else auto ((c :: l).drop (tagLen (c :: l))) 4 [] (out ++ [(c :: l).take (tagLen (c :: l))]) := by
  have hs : ¬ (c = 32 ∨ c = 9 ∨ c = 44) := by
    simp [sepc] at h
    rintro (e | e | e) <;> simp [e] at h
  rw [auto0]
  by_cases h34 : c = 34
  · subst h34
    rw [if_neg (by decide), if_pos rfl]
    have hst : startOf (34 :: l) = 0 := by simp [startOf, Lib.hasPrefix, List.isPrefixOf]
    unfold tagLen
    rw [hst]
    exact auto_quote (34 :: l) l 0 out rfl
  · by_cases h87 : c = 87
    · subst h87
      rw [if_pos rfl]
      match l with
      | [] => simp [auto, tagLen, startOf, Lib.hasPrefix, List.isPrefixOf, lenAt]
      | d :: l2 =>
        rw [auto1]
        by_cases h47 : d = 47
        · subst h47
          rw [if_pos rfl]
          have hst : startOf (87 :: 47 :: l2) = 2 := by simp [startOf, Lib.hasPrefix, List.isPrefixOf]
          unfold tagLen
          rw [hst]
          match l2 with
          | [] => simp [auto, lenAt]
          | e :: l3 =>
            rw [auto2]
            by_cases he : e = 34
            · subst he
              rw [if_pos rfl]
              exact auto_quote (87 :: 47 :: 34 :: l3) l3 2 out rfl
            · rw [if_neg he]
              simp [lenAt, he]
        · rw [if_neg h47]
          have hst : startOf (87 :: d :: l2) = 0 := by
            have : (47 == d) = false := by simp; exact fun e => h47 e.symm
            simp [startOf, Lib.hasPrefix, List.isPrefixOf, this]
          unfold tagLen
          rw [hst]
          simp [lenAt]
    · rw [if_neg h87, if_neg h34, if_neg hs]
      have hst : startOf (c :: l) = 0 := by
        have : (87 == c) = false := by simp; exact fun e => h87 e.symm
        simp [startOf, Lib.hasPrefix, List.isPrefixOf, this]
      unfold tagLen
      rw [hst]
      simp [lenAt, h34]

theorem auto_sep : ∀ (l : List UInt8) (out : List (List UInt8)), auto (Lib.trimLeftS l sepc) 0 [] out = auto l 0 [] out
  | [], _ => rfl
  | c :: l, out => by
    unfold Lib.trimLeftS
    by_cases h : sepc.contains c = true
    · rw [List.dropWhile_cons_of_pos h, auto0]
      have hc : c = 32 ∨ c = 9 ∨ c = 44 := by simpa [sepc] using h
      have h1 : c ≠ 87 := by rintro rfl; simp at hc
      have h2 : c ≠ 34 := by rintro rfl; simp at hc
      rw [if_neg h1, if_neg h2, if_pos hc]
      exact auto_sep l out
    · rw [List.dropWhile_cons_of_neg h]
theorem auto_lead : ∀ (l : List UInt8) (out : List (List UInt8)), auto (Lib.trimLeftS l ows) 0 [] out = auto l 0 [] out
  | [], _ => rfl
  | c :: l, out => by
    unfold Lib.trimLeftS
    by_cases h : ows.contains c = true
    · rw [List.dropWhile_cons_of_pos h, auto0]
      have hc : c = 32 ∨ c = 9 := by simpa [ows] using h
      have h1 : c ≠ 87 := by rintro rfl; simp at hc
      have h2 : c ≠ 34 := by rintro rfl; simp at hc
      rw [if_neg h1, if_neg h2, if_pos (by rcases hc with e | e <;> simp [e])]
      exact auto_lead l out
    · rw [List.dropWhile_cons_of_neg h]
theorem auto_after : ∀ (l : List UInt8) (out : List (List UInt8)), auto (Lib.trimLeftS l ows) 4 [] out = auto l 4 [] out
  | [], _ => rfl
  | c :: l, out => by
    unfold Lib.trimLeftS
    by_cases h : ows.contains c = true
    · rw [List.dropWhile_cons_of_pos h, auto4]
      have hc : c = 32 ∨ c = 9 := by simpa [ows] using h
      have h1 : c ≠ 44 := by rintro rfl; simp at hc
      rw [if_neg h1, if_pos hc]
      exact auto_after l out
    · rw [List.dropWhile_cons_of_neg h]
theorem trim_head (l cs : List UInt8) (c : UInt8) (r : List UInt8) (h : Lib.trimLeftS l cs = c :: r) : cs.contains c = false := by
  unfold Lib.trimLeftS at h
  have := List.head?_dropWhile_not (fun x => cs.contains x) l
  rw [h] at this
  simpa using this
/-- Behind a tag. -/
theorem auto_next (l : List UInt8) (out : List (List UInt8)) : auto l 4 [] out = match Lib.trimLeftS l ows with
    | [] => some out
    | c :: r => if c = 44 then auto (c :: r) 0 [] out else none := by
  rw [← auto_after l out]
  cases h : Lib.trimLeftS l ows with
  | nil => simp [auto]
  | cons c r =>
    have hh := trim_head l ows c r h
    have hc : ¬ (c = 32 ∨ c = 9) := by
      simp [ows] at hh
      rintro (e | e) <;> simp [e] at hh
    rw [auto4]
    dsimp only
    by_cases h44 : c = 44
    · subst h44
      rw [if_pos rfl, if_pos rfl, auto0, if_neg (by decide), if_neg (by decide), if_pos (by simp)]
    · rw [if_neg h44, if_neg h44, if_neg hc]

theorem auto_ws : ∀ (ws : List UInt8), (∀ c ∈ ws, c = 32 ∨ c = 9) → ∀ (st : Nat) (cur : List UInt8) (out : List (List UInt8)), st ≤ 4 → auto ws st cur out = auto [] st cur out
  | [], _, _, _, _, _ => rfl
  | c :: ws, h, st, cur, out, hst => by
    have hc := h c (by simp)
    have ih := auto_ws ws (fun d hd => h d (by simp [hd]))
    have n87 : c ≠ 87 := by rintro rfl; simp at hc
    have n34 : c ≠ 34 := by rintro rfl; simp at hc
    have n47 : c ≠ 47 := by rintro rfl; simp at hc
    have n44 : c ≠ 44 := by rintro rfl; simp at hc
    have net : ¬ etag c = true := by rcases hc with rfl | rfl <;> decide
    match st, hst with
    | 0, _ => rw [auto0, if_neg n87, if_neg n34, if_pos (by rcases hc with e | e <;> simp [e]), ih 0 [] out (by omega)]; simp [auto]
    | 1, _ => rw [auto1, if_neg n47]; simp [auto]
    | 2, _ => rw [auto2, if_neg n34]; simp [auto]
    | 3, _ => rw [auto3, if_neg n34, if_neg net]; simp [auto]
    | 4, _ => rw [auto4, if_neg n44, if_pos hc, ih 4 [] out (by omega)]; simp [auto]
theorem auto_trail : ∀ (l ws : List UInt8), (∀ c ∈ ws, c = 32 ∨ c = 9) → ∀ (st : Nat) (cur : List UInt8) (out : List (List UInt8)), st ≤ 4 → auto (l ++ ws) st cur out = auto l st cur out
  | [], ws, h, st, cur, out, hst => by rw [List.nil_append]; exact auto_ws ws h st cur out hst
  | c :: l, ws, h, st, cur, out, hst => by
    have ih := auto_trail l ws h
    rw [List.cons_append]
    match st, hst with
    | 0, _ => rw [auto0, auto0, ih 1 [c] out (by omega), ih 3 [c] out (by omega), ih 0 [] out (by omega)]
    | 1, _ => rw [auto1, auto1, ih 2 _ out (by omega)]
    | 2, _ => rw [auto2, auto2, ih 3 _ out (by omega)]
    | 3, _ => rw [auto3, auto3, ih 4 _ _ (by omega), ih 3 _ out (by omega)]
    | 4, _ => rw [auto4, auto4, ih 0 _ out (by omega), ih 4 _ out (by omega)]
theorem trimRight_split (l cs : List UInt8) : ∃ ws, l = Lib.trimRightS l cs ++ ws ∧ ∀ c ∈ ws, cs.contains c = true := by
  refine ⟨(l.reverse.takeWhile (cs.contains ·)).reverse, ?_, fun c hc => ?_⟩
  · unfold Lib.trimRightS
    rw [← List.reverse_append, List.takeWhile_append_dropWhile, List.reverse_reverse]
  · rw [List.mem_reverse] at hc
    exact List.all_eq_true.1 List.all_takeWhile c hc
theorem auto_trim (l : List UInt8) : auto (Lib.trimS l ows) 0 [] [] = auto l 0 [] [] := by
  unfold Lib.trimS
  rw [auto_lead]
  obtain ⟨ws, h1, h2⟩ := trimRight_split l ows
  conv => rhs; rw [h1]
  rw [auto_trail _ ws (fun c hc => by simpa [ows] using h2 c hc) 0 [] [] (by omega)]

def resOf (j : List UInt8) : Option (List (List UInt8)) := if Lib.trimS j ows = [42] then some [[42]] else auto j 0 [] []
def tagsOf (j : List UInt8) : List (List UInt8) := (resOf j).getD []
end Go.Proofs.Qxb6601561aDoor
