/-
  Seat b6600830aD: the plain mathematics under FnParseFieldsRoundTrip: white space by bytes, joining and splitting at commas. No program in sight.
-/
import Derived.Lib.SpaceUEq
import Derived.Lib.Bytealg
namespace Go.Proofs.Qxb6600830aDoor

/-- zzAsciiSpace. -/
def aspB (c : Int) : Bool := c == 32 || c == 9 || c == 10 || c == 11 || c == 12 || c == 13
/-- zzSpace3. -/
def sp3B (a b c : Int) : Bool :=
  (a == 225 && b == 154 && c == 128) || (a == 226 && b == 128 && ((decide (128 ≤ c) && decide (c ≤ 138)) || c == 168 || c == 169 || c == 175)) || (a == 226 && b == 129 && c == 159) || (a == 227 && b == 128 && c == 128)

theorem toNat_of_eq {a b : UInt8} (h : a = b) : (a.toNat : Int) = b.toNat := by rw [h]

set_option maxRecDepth 100000 in
theorem head0 (b0 : UInt8) (t : List UInt8) (hA : aspB b0.toNat = false)
    (h2 : ∀ b1 t', t = b1 :: t' → (b0.toNat : Int) = 194 → ¬ ((b1.toNat : Int) = 133 ∨ (b1.toNat : Int) = 160))
    (h3 : ∀ b1 b2 t', t = b1 :: b2 :: t' → sp3B b0.toNat b1.toNat b2.toNat = false) : Lib.headSpace (b0 :: t) = 0 := by
  have key : ∀ q ∈ Lib.spaceSeqs, ¬ q.isPrefixOf (b0 :: t) = true := by
    intro q hq hp
    have one : ∀ c : UInt8, aspB c.toNat = true → [c].isPrefixOf (b0 :: t) = true → False := by
      intro c hc h
      simp only [List.isPrefixOf, Bool.and_true, beq_iff_eq] at h
      rw [← h, hc] at hA; cases hA
    have two : ∀ c : UInt8, ((c.toNat : Int) = 133 ∨ (c.toNat : Int) = 160) → [194, c].isPrefixOf (b0 :: t) = true → False := by
      intro c hc h
      match t, h with
      | [], h => simp [List.isPrefixOf] at h
      | b1 :: t', h =>
        simp only [List.isPrefixOf, Bool.and_true, Bool.and_eq_true, beq_iff_eq] at h
        exact h2 b1 t' rfl (by rw [← h.1]; rfl) (by rw [← h.2]; exact hc)
    have three : ∀ a b c : UInt8, sp3B a.toNat b.toNat c.toNat = true → [a, b, c].isPrefixOf (b0 :: t) = true → False := by
      intro a b c hc h
      match t, h with
      | [], h => simp [List.isPrefixOf] at h
      | [_], h => simp [List.isPrefixOf] at h
      | b1 :: b2 :: t', h =>
        simp only [List.isPrefixOf, Bool.and_true, Bool.and_eq_true, beq_iff_eq] at h
        have := h3 b1 b2 t' rfl
        rw [← h.1, ← h.2.1, ← h.2.2, hc] at this; cases this
    simp only [Lib.spaceSeqs, List.mem_cons, List.not_mem_nil, or_false] at hq
    rcases hq with rfl | rfl | rfl | rfl | rfl | rfl | rfl | rfl | rfl | rfl | rfl | rfl | rfl | rfl | rfl | rfl | rfl | rfl | rfl | rfl | rfl | rfl | rfl | rfl | rfl
    all_goals first | exact one _ (by decide) hp | exact two _ (by decide) hp | exact three _ _ _ (by decide) hp
  unfold Lib.headSpace
  rw [List.find?_eq_none.2 key]
  rfl

set_option maxRecDepth 100000 in
/-- From the end: l reversed is 'c0 :: t'. -/
theorem tail0 (l : List UInt8) (c0 : UInt8) (t : List UInt8) (hl : l.reverse = c0 :: t) (hA : aspB c0.toNat = false)
    (h2 : ∀ c1 t', t = c1 :: t' → (c1.toNat : Int) = 194 → ¬ ((c0.toNat : Int) = 133 ∨ (c0.toNat : Int) = 160))
    (h3 : ∀ c1 c2 t', t = c1 :: c2 :: t' → sp3B c2.toNat c1.toNat c0.toNat = false) : Lib.tailSpace l = 0 := by
  have key : ∀ q ∈ Lib.spaceSeqs, ¬ q.isSuffixOf l = true := by
    intro q hq hp
    have one : ∀ c : UInt8, aspB c.toNat = true → [c].isSuffixOf l = true → False := by
      intro c hc h
      simp only [List.isSuffixOf, hl, List.reverse_cons, List.reverse_nil, List.nil_append, List.isPrefixOf, Bool.and_true, beq_iff_eq] at h
      rw [← h, hc] at hA; cases hA
    have two : ∀ c : UInt8, ((c.toNat : Int) = 133 ∨ (c.toNat : Int) = 160) → [194, c].isSuffixOf l = true → False := by
      intro c hc h
      simp only [List.isSuffixOf, hl, List.reverse_cons, List.reverse_nil, List.nil_append, List.cons_append] at h
      match t, h with
      | [], h => simp [List.isPrefixOf] at h
      | b1 :: t', h =>
        simp only [List.isPrefixOf, Bool.and_true, Bool.and_eq_true, beq_iff_eq] at h
        exact h2 b1 t' rfl (by rw [← h.2]; rfl) (by rw [← h.1]; exact hc)
    have three : ∀ a b c : UInt8, sp3B a.toNat b.toNat c.toNat = true → [a, b, c].isSuffixOf l = true → False := by
      intro a b c hc h
      simp only [List.isSuffixOf, hl, List.reverse_cons, List.reverse_nil, List.nil_append, List.cons_append] at h
      match t, h with
      | [], h => simp [List.isPrefixOf] at h
      | [_], h => simp [List.isPrefixOf] at h
      | b1 :: b2 :: t', h =>
        simp only [List.isPrefixOf, Bool.and_true, Bool.and_eq_true, beq_iff_eq] at h
        have := h3 b1 b2 t' rfl
        rw [← h.1, ← h.2.1, ← h.2.2, hc] at this; cases this
    simp only [Lib.spaceSeqs, List.mem_cons, List.not_mem_nil, or_false] at hq
    rcases hq with rfl | rfl | rfl | rfl | rfl | rfl | rfl | rfl | rfl | rfl | rfl | rfl | rfl | rfl | rfl | rfl | rfl | rfl | rfl | rfl | rfl | rfl | rfl | rfl | rfl
    all_goals first | exact one _ (by decide) hp | exact two _ (by decide) hp | exact three _ _ _ (by decide) hp
  unfold Lib.tailSpace
  rw [List.find?_eq_none.2 key]
  rfl

/-- A name at whose two ends no white space stands is its own trimming. -/
theorem trim_self (l : List UInt8) (h1 : Lib.headSpace l = 0) (h2 : Lib.tailSpace l = 0) : Lib.trimSpaceD l = l := by
  rw [← Lib.trimSpaceU_eq]
  unfold Lib.trimSpaceU
  have e1 : Lib.stripL l.length l = l := by
    cases h : l.length with
    | zero => rfl
    | succ n => rw [Lib.stripL, if_pos h1]
  rw [e1]
  cases h : l.length with
  | zero => rfl
  | succ n => rw [Lib.stripR, if_pos h2]

/-! ### clean names -/
/-- What zzCleanName asks. -/
structure Clean (l : List UInt8) : Prop where
  ne : l ≠ []
  comma : (44 : UInt8) ∉ l
  head : Lib.headSpace l = 0
  tail : Lib.tailSpace l = 0

theorem Clean.trim {l : List UInt8} (h : Clean l) : Lib.trimSpaceD l = l := trim_self l h.head h.tail

/-- Bytes ahead of a text at whose end no white space stands, whose last byte is ASCII and no part of one: the end stays clean. -/
theorem tail_app (p l : List UInt8) (c : UInt8) (hl : l ≠ []) (hc : c = 44 ∨ c = 45) (h : Lib.tailSpace l = 0) : Lib.tailSpace (p ++ c :: l) = 0 := by
  have key0 : ∀ q ∈ Lib.spaceSeqs, ¬ q.isSuffixOf l = true := by
    intro q hq hs
    unfold Lib.tailSpace at h
    cases hf : Lib.spaceSeqs.find? (·.isSuffixOf l) with
    | none => exact (List.find?_eq_none.1 hf) q hq hs
    | some r =>
      rw [hf] at h
      have hr := List.mem_of_find?_eq_some hf
      have hz : r.length = 0 := h
      have : ∀ x ∈ Lib.spaceSeqs, x.length ≠ 0 := by decide
      exact this r hr hz
  have key : ∀ q ∈ Lib.spaceSeqs, ¬ q.isSuffixOf (p ++ c :: l) = true := by
    intro q hq hs
    rw [List.isSuffixOf_iff_suffix] at hs
    have hs2 : l <:+ p ++ c :: l := ⟨p ++ [c], by simp⟩
    rcases Nat.lt_or_ge l.length q.length with hlen | hlen
    · -- q reaches over c: but no sequence holds a comma or a dash
      have hcl : c :: l <:+ q := by
        have h3 : c :: l <:+ p ++ c :: l := ⟨p, rfl⟩
        rcases List.suffix_or_suffix_of_suffix h3 hs with h4 | h4
        · exact h4
        · have := h4.length_le
          simp only [List.length_cons] at this
          have e : q.length = (c :: l).length := by simp; omega
          rw [h4.eq_of_length e]; exact List.suffix_refl _
      have hm : c ∈ q := hcl.subset (by simp)
      have hno : ∀ x ∈ Lib.spaceSeqs, (44 : UInt8) ∉ x ∧ (45 : UInt8) ∉ x := by decide
      rcases hc with rfl | rfl
      · exact (hno q hq).1 hm
      · exact (hno q hq).2 hm
    · rcases List.suffix_or_suffix_of_suffix hs2 hs with h4 | h4
      · have e : l.length = q.length := Nat.le_antisymm h4.length_le hlen
        have := h4.eq_of_length e
        subst this
        exact key0 _ hq (by rw [List.isSuffixOf_iff_suffix]; exact List.suffix_refl _)
      · exact key0 q hq (by rw [List.isSuffixOf_iff_suffix]; exact h4)
  have _ := hl
  unfold Lib.tailSpace
  rw [List.find?_eq_none.2 key]
  rfl

/-- No white space at the head of 'l', a comma behind it: none at the head of both. -/
theorem head_app (l t : List UInt8) (hl : l ≠ []) (h : Lib.headSpace l = 0) : Lib.headSpace (l ++ 44 :: t) = 0 := by
  have key0 : ∀ q ∈ Lib.spaceSeqs, ¬ q.isPrefixOf l = true := by
    intro q hq hs
    unfold Lib.headSpace at h
    cases hf : Lib.spaceSeqs.find? (·.isPrefixOf l) with
    | none => exact (List.find?_eq_none.1 hf) q hq hs
    | some r =>
      rw [hf] at h
      have hr := List.mem_of_find?_eq_some hf
      have hz : r.length = 0 := h
      have : ∀ x ∈ Lib.spaceSeqs, x.length ≠ 0 := by decide
      exact this r hr hz
  have key : ∀ q ∈ Lib.spaceSeqs, ¬ q.isPrefixOf (l ++ 44 :: t) = true := by
    intro q hq hs
    rw [List.isPrefixOf_iff_prefix] at hs
    have hs2 : l ++ [44] <+: l ++ 44 :: t := ⟨t, by simp⟩
    rcases List.prefix_or_prefix_of_prefix hs2 hs with h4 | h4
    · have hm : (44 : UInt8) ∈ q := h4.subset (by simp)
      have hno : ∀ x ∈ Lib.spaceSeqs, (44 : UInt8) ∉ x := by decide
      exact hno q hq hm
    · have hs3 : l <+: l ++ [44] := ⟨[44], rfl⟩
      rcases List.prefix_or_prefix_of_prefix hs3 h4 with h5 | h5
      · rcases Nat.lt_or_ge l.length q.length with hlen | hlen
        · have e : q.length = (l ++ [44]).length := Nat.le_antisymm h4.length_le (by simp; omega)
          have := h4.eq_of_length e
          have hm : (44 : UInt8) ∈ q := by rw [this]; simp
          have hno : ∀ x ∈ Lib.spaceSeqs, (44 : UInt8) ∉ x := by decide
          exact hno q hq hm
        · have e : l.length = q.length := Nat.le_antisymm h5.length_le hlen
          have := h5.eq_of_length e
          subst this
          exact key0 _ hq (by rw [List.isPrefixOf_iff_prefix]; exact List.prefix_refl _)
      · exact key0 q hq (by rw [List.isPrefixOf_iff_prefix]; exact h5)
  have _ := hl
  unfold Lib.headSpace
  rw [List.find?_eq_none.2 key]
  rfl

theorem head_dash (l : List UInt8) : Lib.headSpace (45 :: l) = 0 := by
  refine head0 45 l (by decide) (fun _ _ _ h => absurd h (by decide)) (fun b1 b2 _ _ => ?_)
  simp [sp3B]

/-- A dash ahead of a clean name: still clean. -/
theorem Clean.dash {l : List UInt8} (h : Clean l) : Clean (45 :: l) :=
  ⟨by simp, by simp only [List.mem_cons, not_or]; exact ⟨by decide, h.comma⟩, head_dash l, by simpa using tail_app [] l 45 h.ne (.inr rfl) h.tail⟩

/-! ### joining and splitting at commas -/
def joinC : List (List UInt8) → List UInt8
  | [] => []
  | [x] => x
  | x :: y :: xs => x ++ 44 :: joinC (y :: xs)

def splitC : List UInt8 → List (List UInt8)
  | [] => [[]]
  | c :: t => if c = 44 then [] :: splitC t else match splitC t with
    | p :: ps => (c :: p) :: ps
    | [] => [[c]]

theorem splitC_ne (l : List UInt8) : splitC l ≠ [] := by
  cases l with
  | nil => simp [splitC]
  | cons c t =>
    unfold splitC
    split
    · simp
    · split <;> simp

theorem splitC_none : ∀ l : List UInt8, (44 : UInt8) ∉ l → splitC l = [l]
  | [], _ => rfl
  | c :: t, h => by
    simp only [List.mem_cons, not_or] at h
    rw [splitC, if_neg (fun e => h.1 e.symm), splitC_none t h.2]

theorem splitC_app : ∀ (x t : List UInt8), (44 : UInt8) ∉ x → splitC (x ++ 44 :: t) = x :: splitC t
  | [], t, _ => by simp [splitC]
  | c :: x, t, h => by
    simp only [List.mem_cons, not_or] at h
    rw [List.cons_append, splitC, if_neg (fun e => h.1 e.symm), splitC_app x t h.2]

theorem splitC_join : ∀ xs : List (List UInt8), xs ≠ [] → (∀ x ∈ xs, (44 : UInt8) ∉ x) → splitC (joinC xs) = xs
  | [], h, _ => absurd rfl h
  | [x], _, h => splitC_none x (h x (by simp))
  | x :: y :: xs, _, h => by
    rw [joinC, splitC_app x _ (h x (by simp)), splitC_join (y :: xs) (by simp) (fun z hz => h z (by simp [hz]))]

theorem indexByte_mem : ∀ (l : List UInt8) (c : UInt8), Lib.indexByte l c = -1 → c ∉ l
  | [], _, _ => by simp
  | b :: l, c, h => by
    unfold Lib.indexByte at h
    have := Lib.indexByte_ge l c
    split at h
    · omega
    · split at h
      · rename_i h1 h2
        simp only [beq_iff_eq] at h1 h2
        simp only [List.mem_cons, not_or]
        exact ⟨fun e => h1 e.symm, indexByte_mem l c h2⟩
      · rename_i h1 h2
        simp only [beq_iff_eq] at h2
        omega

theorem indexByte_at : ∀ (l : List UInt8) (c : UInt8) (i : Nat), Lib.indexByte l c = (i : Int) → i < l.length ∧ l = l.take i ++ c :: l.drop (i + 1) ∧ c ∉ l.take i
  | [], _, i, h => by simp [Lib.indexByte] at h
  | b :: l, c, i, h => by
    unfold Lib.indexByte at h
    split at h
    · rename_i h1
      simp only [beq_iff_eq] at h1
      have : i = 0 := by omega
      subst this h1
      simp
    · rename_i h1
      split at h
      · omega
      · rename_i h2
        simp only [beq_iff_eq] at h1 h2
        have hge := Lib.indexByte_ge l c
        have e : Lib.indexByte l c = ((i - 1 : Nat) : Int) := by omega
        obtain ⟨a1, a2, a3⟩ := indexByte_at l c (i - 1) e
        obtain ⟨j, rfl⟩ : ∃ j, i = j + 1 := ⟨i - 1, by omega⟩
        simp only [Nat.add_sub_cancel] at a1 a2 a3
        refine ⟨by simp; omega, ?_, ?_⟩
        · simp only [List.take_succ_cons, List.cons_append, List.drop_succ_cons]
          rw [← a2]
        · simp only [List.take_succ_cons, List.mem_cons, not_or]
          exact ⟨fun e => h1 e.symm, a3⟩

theorem splitC_last (l : List UInt8) (h : Lib.indexByte l 44 < 0) : splitC l = [l] := by
  have := Lib.indexByte_ge l 44
  exact splitC_none l (indexByte_mem l 44 (by omega))
theorem splitC_next (l : List UInt8) (i : Nat) (h : Lib.indexByte l 44 = (i : Int)) : splitC l = l.take i :: splitC (l.drop (i + 1)) := by
  obtain ⟨_, h2, h3⟩ := indexByte_at l 44 i h
  conv => lhs; rw [h2]
  exact splitC_app _ _ h3

theorem splitC_length : ∀ l : List UInt8, (splitC l).length ≤ l.length + 1
  | [] => by simp [splitC]
  | c :: t => by
    have ih := splitC_length t
    unfold splitC
    split
    · simp; omega
    · split
      · rename_i p ps hp
        rw [hp] at ih
        simp at ih ⊢; omega
      · simp

/-! ### what ParseFields gathers -/
/-- Is the piece p a name to leave out? -/
def exB (p : List UInt8) : Bool := (Lib.trimSpaceD p).head? == some 45
def onlyOf (ps : List (List UInt8)) : List (List UInt8) := (ps.filter fun p => !exB p).map Lib.trimSpaceD
def exOf (ps : List (List UInt8)) : List (List UInt8) := (ps.filter exB).map fun p => Lib.trimSpaceD ((Lib.trimSpaceD p).drop 1)

theorem onlyOf_yes (ps : List (List UInt8)) {p : List UInt8} (h : exB p = false) : onlyOf (ps ++ [p]) = onlyOf ps ++ [Lib.trimSpaceD p] := by simp [onlyOf, h]
theorem onlyOf_no (ps : List (List UInt8)) {p : List UInt8} (h : exB p = true) : onlyOf (ps ++ [p]) = onlyOf ps := by simp [onlyOf, h]
theorem exOf_yes (ps : List (List UInt8)) {p : List UInt8} (h : exB p = true) : exOf (ps ++ [p]) = exOf ps ++ [Lib.trimSpaceD ((Lib.trimSpaceD p).drop 1)] := by simp [exOf, h]
theorem exOf_no (ps : List (List UInt8)) {p : List UInt8} (h : exB p = false) : exOf (ps ++ [p]) = exOf ps := by simp [exOf, h]
theorem onlyOf_length (ps : List (List UInt8)) : (onlyOf ps).length ≤ ps.length := by simp only [onlyOf, List.length_map]; exact List.length_filter_le _ _
theorem exOf_length (ps : List (List UInt8)) : (exOf ps).length ≤ ps.length := by simp only [exOf, List.length_map]; exact List.length_filter_le _ _

/-- The whole list as zzFormatFields writes it. -/
def fmtAll (xs ys : List (List UInt8)) : List UInt8 := joinC (xs ++ ys.map (45 :: ·))

theorem clean_all {xs ys : List (List UInt8)} (hx : ∀ x ∈ xs, Clean x) (hy : ∀ y ∈ ys, Clean y) : ∀ z ∈ xs ++ ys.map (45 :: ·), Clean z := by
  intro z hz
  rcases List.mem_append.1 hz with h | h
  · exact hx z h
  · obtain ⟨y, hy', rfl⟩ := List.mem_map.1 h
    exact (hy y hy').dash

/-- Joined clean names: clean at both ends, and not empty. -/
theorem join_ends : ∀ zs : List (List UInt8), zs ≠ [] → (∀ z ∈ zs, Clean z) → joinC zs ≠ [] ∧ Lib.headSpace (joinC zs) = 0 ∧ Lib.tailSpace (joinC zs) = 0
  | [], h, _ => absurd rfl h
  | [x], _, h => ⟨(h x (by simp)).ne, (h x (by simp)).head, (h x (by simp)).tail⟩
  | x :: y :: xs, _, h => by
    have ih := join_ends (y :: xs) (by simp) (fun z hz => h z (by simp [hz]))
    have hx := h x (by simp)
    rw [joinC]
    exact ⟨by simp, head_app x _ hx.ne hx.head, tail_app x _ 44 ih.1 (.inl rfl) ih.2.2⟩

theorem onlyOf_clean (xs ys : List (List UInt8)) (hx : ∀ x ∈ xs, Clean x) (hd : ∀ x ∈ xs, x.head? ≠ some 45) (hy : ∀ y ∈ ys, Clean y) : onlyOf (xs ++ ys.map (45 :: ·)) = xs := by
  unfold onlyOf
  rw [List.filter_append]
  have e1 : xs.filter (fun p => !exB p) = xs := by
    rw [List.filter_eq_self]
    intro x hx'
    simp only [exB, (hx x hx').trim, Bool.not_eq_true', beq_eq_false_iff_ne]
    exact hd x hx'
  have e2 : (ys.map (45 :: ·)).filter (fun p => !exB p) = [] := by
    rw [List.filter_eq_nil_iff]
    intro z hz
    obtain ⟨y, hy', rfl⟩ := List.mem_map.1 hz
    simp [exB, ((hy y hy').dash).trim]
  rw [e1, e2, List.append_nil]
  conv => rhs; rw [← List.map_id xs]
  exact List.map_congr_left (fun x hx' => (hx x hx').trim)

theorem exOf_clean (xs ys : List (List UInt8)) (hx : ∀ x ∈ xs, Clean x) (hd : ∀ x ∈ xs, x.head? ≠ some 45) (hy : ∀ y ∈ ys, Clean y) : exOf (xs ++ ys.map (45 :: ·)) = ys := by
  unfold exOf
  rw [List.filter_append]
  have e1 : xs.filter exB = [] := by
    rw [List.filter_eq_nil_iff]
    intro x hx'
    simp only [exB, (hx x hx').trim, beq_iff_eq]
    exact hd x hx'
  have e2 : (ys.map (45 :: ·)).filter exB = ys.map (45 :: ·) := by
    rw [List.filter_eq_self]
    intro z hz
    obtain ⟨y, hy', rfl⟩ := List.mem_map.1 hz
    simp [exB, ((hy y hy').dash).trim]
  rw [e1, e2, List.nil_append, List.map_map]
  conv => rhs; rw [← List.map_id ys]
  refine List.map_congr_left (fun y hy' => ?_)
  simp only [Function.comp_apply, ((hy y hy').dash).trim, List.drop_succ_cons, List.drop_zero, id_eq]
  exact (hy y hy').trim

/-- THE PLAIN LAW: what is parsed out of the formatted list is what was formatted. -/
theorem round_trip (xs ys : List (List UInt8)) (hx : ∀ x ∈ xs, Clean x) (hd : ∀ x ∈ xs, x.head? ≠ some 45) (hy : ∀ y ∈ ys, Clean y) (hne : xs ++ ys.map (45 :: ·) ≠ []) :
    Lib.trimSpaceD (fmtAll xs ys) = fmtAll xs ys ∧ fmtAll xs ys ≠ [] ∧ onlyOf (splitC (fmtAll xs ys)) = xs ∧ exOf (splitC (fmtAll xs ys)) = ys := by
  have hc := clean_all hx hy
  obtain ⟨h1, h2, h3⟩ := join_ends _ hne hc
  refine ⟨trim_self _ h2 h3, h1, ?_, ?_⟩
  · rw [fmtAll, splitC_join _ hne (fun z hz => (hc z hz).comma)]; exact onlyOf_clean xs ys hx hd hy
  · rw [fmtAll, splitC_join _ hne (fun z hz => (hc z hz).comma)]; exact exOf_clean xs ys hx hd hy

/-- The formatted list is '*' only where '*' is the one name. -/
theorem fmt_star (xs ys : List (List UInt8)) (hx : ∀ x ∈ xs, Clean x) (hy : ∀ y ∈ ys, Clean y) (h : fmtAll xs ys = [42]) : xs = [[42]] ∧ ys = [] := by
  have hc := clean_all hx hy
  have hs : splitC (fmtAll xs ys) = [[42]] := by rw [h]; decide
  by_cases hne : xs ++ ys.map (45 :: ·) = []
  · rw [fmtAll, hne] at h; cases h
  · rw [fmtAll, splitC_join _ hne (fun z hz => (hc z hz).comma)] at hs
    match xs, ys, hs with
    | [], [], hs => simp at hs
    | [], y :: ys, hs => simp at hs
    | [x], [], hs => exact ⟨by simpa using hs, rfl⟩
    | [x], y :: ys, hs => simp at hs
    | x :: x' :: xs, ys, hs => simp at hs

#print axioms round_trip
end Go.Proofs.Qxb6600830aDoor
