/-
  Seat b6601561aD: the walk of tagList.
-/
import Derived.Test.Qxb6601561aDoorTag
namespace Go.Proofs.Qxb6601561aDoor
open Go.RowKit

def baOf (l : List UInt8) : ByteArray := ⟨l.toArray⟩
def strV (l : List UInt8) : Value := .string (baOf l)
theorem ba_list (l : List UInt8) : (baOf l).data.toList = l := rfl
theorem ba_size (l : List UInt8) : (baOf l).size = l.length := by simp [baOf, ByteArray.size]
theorem ba_of (s : ByteArray) : baOf s.data.toList = s := rfl
theorem ba_take (l : List UInt8) (n : Nat) : (baOf l).extract 0 n = baOf (l.take n) := by
  apply ByteArray.ext
  apply Array.toList_inj.1
  simp [baOf]
theorem ba_drop (l : List UInt8) (n : Nat) : (baOf l).extract n (baOf l).size = baOf (l.drop n) := by
  rw [ba_size]
  apply ByteArray.ext
  apply Array.toList_inj.1
  simp [baOf]
  rw [List.take_of_length_le]
  simp
theorem ba_toList (l : List UInt8) : (baOf l).toList = l := by rw [Lib.toList_data]; rfl
theorem own_below {W W' : World} {base e n : Nat} {v : Value} {L : List Value} (h : W.ownsRow base e 1 v n L) (hb : Below W.heap.size W W') : W'.ownsRow base e 1 v n L :=
  h.kept (row := none) ⟨hb.os, hb.tape, hb.output, hb.size, fun k hk _ => hb.block k hk⟩ (by cases v.ownBlock <;> simp)
theorem below_app1 {B : Nat} {w wr w1 : World} {v : Value} {n : Nat} {L : List Value} {e : TypeId} {o : Obj} (hbl : Below B w wr) (hB : B ≤ wr.heap.size) (hown : wr.ownsRow B e 1 v n L) (hg : (wr.alloc o).grownBy w1 v.ownBlock) : Below B w w1 :=
  (hbl.alloc hB o).grown hg (by simp; omega) (fun k hk => (hown.lt k hk).1)
theorem ba_inj {l m : List UInt8} (h : baOf l = baOf m) : l = m := by
  have := congrArg (fun b : ByteArray => b.data.toList) h
  exact this

theorem quoteLen_le : ∀ (l : List UInt8) (k : Nat), quoteLen l = some k → k ≤ l.length
  | [], _, h => by cases h
  | c :: l, k, h => by
    unfold quoteLen at h
    split at h
    · simp at h; simp; omega
    · split at h
      · cases h
      · simp at h
        obtain ⟨k', h1, h2⟩ := h
        have := quoteLen_le l k' h1
        simp; omega
theorem lenAt_le (st : Nat) (s : List UInt8) : lenAt st s ≤ s.length := by
  unfold lenAt
  cases h : s.drop st with
  | nil => simp
  | cons c r =>
    have hl := congrArg List.length h
    rw [List.length_drop, List.length_cons] at hl
    dsimp only
    split
    · cases hq : quoteLen r with
      | none => simp
      | some k =>
        have := quoteLen_le r k hq
        dsimp only
        omega
    · simp
theorem tagLen_le (s : List UInt8) : tagLen s ≤ s.length := lenAt_le _ _
theorem trim_len (l cs : List UInt8) : (Lib.trimLeftS l cs).length ≤ l.length := (List.dropWhile_sublist _).length_le

/-- The value holds the tags. -/
def HoldsTags (w' : World) (v : Value) (ts : List (List UInt8)) : Prop :=
  ∃ a c, v = .slice a ts.length c ∧ (ts = [] ↔ a = none) ∧ StrAt w'.heap.size w' a (ts.map baOf)
def RetTags (ts : List (List UInt8)) (w : World) (e : Ending) (w' : World) : Prop := ∃ v, e = .returned v ∧ HoldsTags w' v ts ∧ Below w.heap.size w w'

theorem holds_nil (w' : World) : HoldsTags w' (.slice none 0 0) [] := ⟨none, 0, rfl, by simp, fun j hj => absurd hj (by simp)⟩
theorem holds_own {w' : World} {B : Nat} {v : Value} {ts : List (List UInt8)} (h : w'.ownsRow B 9 1 v ts.length (ts.map strV)) (h0 : ts = [] → v = .slice none 0 0) : HoldsTags w' v ts := by
  by_cases he : ts = []
  · subst he; rw [h0 rfl]; exact holds_nil w'
  · rcases h.2 with ⟨_, h1⟩ | ⟨g, cap, cur, rfl, hbg, hgb, hnc, hcm, hcs, htk⟩
    · exact absurd (List.eq_nil_of_length_eq_zero h1) he
    · refine ⟨some ⟨g, 0, none⟩, cap, rfl, by simp [he], fun j hj => ?_⟩
      rw [List.length_map] at hj
      refine ⟨g, 0, rfl, (h.lt g rfl).2, ?_⟩
      rw [Nat.zero_add, h.cellAt j (by omega)]
      simp [strV, hj]
theorem holds_one (w : World) (s : ByteArray) (l : List UInt8) (h : s = baOf l) : HoldsTags (w.alloc (.cells #[.string s] 9)) (.slice (some ⟨w.heap.size, 0, none⟩) 1 1) [l] := by
  subst h
  refine ⟨some ⟨w.heap.size, 0, none⟩, 1, rfl, by simp, fun j hj => ?_⟩
  simp at hj
  subst hj
  exact ⟨w.heap.size, 0, rfl, by simp, by simp⟩

def TRel (N : Nat) (R : Option (List (List UInt8))) (w : World) (s3 v4 : Value) (wr : World) : Prop :=
  ∃ l tags, s3 = .string (baOf l) ∧ wr.ownsRow w.heap.size 9 1 v4 tags.length (tags.map strV) ∧ (tags = [] → v4 = .slice none 0 0) ∧ auto l 0 [] tags = R ∧ l.length + tags.length ≤ N ∧ Below w.heap.size w wr
theorem TRel.next {N : Nat} {R : Option (List (List UInt8))} {w w5 w6 : World} {tags : List (List UInt8)} {T1 l : List UInt8} {v5 : Value} (hown : w5.ownsRow w.heap.size 9 1 v5 (tags.length + 1) (tags.map strV ++ [.string (baOf T1)])) (hb5 : Below w.heap.size w w5) (hb6 : Below w5.heap.size w5 w6) (hR : auto l 0 [] (tags ++ [T1]) = R) (hN : l.length + (tags.length + 1) ≤ N) :
    TRel N R w (.string (baOf l)) v5 w6 :=
  ⟨l, tags ++ [T1], rfl, by
    have e1 : (tags ++ [T1]).length = tags.length + 1 := by simp
    have e2 : (tags ++ [T1]).map strV = tags.map strV ++ [.string (baOf T1)] := by simp [strV]
    rw [e1, e2]; exact own_below hown hb6, by simp, hR, by simp; omega, hb5.trans (hb6.mono hb5.size)⟩
def strLen : Value → Nat
  | .string s => s.size
  | _ => 0

theorem asc (l : List UInt8) (h : l.all (fun b => decide (b.toNat < 128)) = true) : ∀ (j : Nat) b, l[j]? = some b → b.toNat < 128 := fun _ b hb => by
  have := List.all_eq_true.1 h b (List.mem_of_getElem? hb)
  simpa using this

theorem trimSep_any (l : List UInt8) (w : World) : Calls Tryd.prog 21 #[.string (baOf l), .string ⟨#[32, 9, 44]⟩] w fun e w' => e = .returned (.string (baOf (Lib.trimLeftS l sepc))) ∧ Below w.heap.size w w' :=
  Tryd.strings_TrimLeft (baOf l) ⟨#[32, 9, 44]⟩ w (by decide) (asc _ (by decide))
theorem trimOws_any (l : List UInt8) (w : World) : Calls Tryd.prog 21 #[.string (baOf l), .string ⟨#[32, 9]⟩] w fun e w' => e = .returned (.string (baOf (Lib.trimLeftS l ows))) ∧ Below w.heap.size w w' :=
  Tryd.strings_TrimLeft (baOf l) ⟨#[32, 9]⟩ w (by decide) (asc _ (by decide))
theorem trimBoth_any (l : List UInt8) (w : World) (h : l.length ≤ 9223372036854775807) : Calls Tryd.prog 19 #[.string (baOf l), .string ⟨#[32, 9]⟩] w fun e w' => e = .returned (.string (baOf (Lib.trimS l ows))) ∧ Below w.heap.size w w' :=
  Tryd.strings_Trim (baOf l) ⟨#[32, 9]⟩ w (by rw [ba_size]; exact h) (by decide) (asc _ (by decide))

def joinOf (xs : List ByteArray) : List UInt8 := Lib.join (xs.map (·.data.toList)) [44]
theorem join_any (a : Option Addr) (xs : List ByteArray) (c : Nat) (w : World) (hx : StrAt w.heap.size w a xs) (hc : xs.length ≤ c) (hl : xs.length ≤ 1048576) (hj : (joinOf xs).length ≤ 4194304) :
    Calls Tryd.prog 20 #[.slice a xs.length c, .string ⟨#[44]⟩] w fun e w' => e = .returned (.string (baOf (joinOf xs))) ∧ Below w.heap.size w w' := by
  by_cases h0 : xs.length = 0
  · have hxs : xs = [] := List.eq_nil_of_length_eq_zero h0
    subst hxs
    refine (Tryd.strings_Join_none a c ⟨#[44]⟩ w).mono ?_
    rintro e w' ⟨rfl, rfl⟩
    exact ⟨rfl, Below.refl _ _⟩
  · obtain ⟨b, off, rfl, hb, _⟩ := hx 0 (by omega)
    refine (Tryd.strings_Join b off c xs ⟨#[44]⟩ w (fun j x hj => ?_) hb (by omega) hc (by have : (Lib.join (xs.map (·.data.toList)) [44]).length ≤ 4194304 := hj; show (Lib.join (xs.map (·.data.toList)) [44]).length ≤ _; omega)).mono ?_
    · have hlt : j < xs.length := (List.getElem?_eq_some_iff.1 hj).1
      obtain ⟨b', off', e', _, hc'⟩ := hx j hlt
      cases e'
      rw [hj] at hc'
      exact hc'
    · rintro e w' ⟨rfl, hB⟩
      exact ⟨rfl, hB⟩

set_option maxHeartbeats 2000000 in
theorem tagList_any (a : Option Addr) (xs : List ByteArray) (c : Nat) (w : World) (hx : StrAt w.heap.size w a xs) (hc : xs.length ≤ c) (hl : xs.length ≤ 1048576) (hj : (joinOf xs).length ≤ 4194304) :
    Calls Tryd.prog 15 #[.slice a xs.length c] w fun e w' => RetTags (tagsOf (joinOf xs)) w e w' := by
  obtain ⟨i0, hi, hz0, hz1, hz2⟩ := info_parts info9
  have hjoin := join_any a xs c w hx hc hl hj
  clear hx
  generalize joinOf xs = J at *
  generalize xs.length = n at *
  have htrim := fun w1 => trimBoth_any J w1 (by omega)
  have hT : (Lib.trimS J ows).length ≤ J.length := by
    unfold Lib.trimS
    refine Nat.le_trans (trim_len _ _) ?_
    unfold Lib.trimRightS
    rw [List.length_reverse]
    exact Nat.le_trans (List.dropWhile_sublist _).length_le (by rw [List.length_reverse]; exact Nat.le_refl _)
  have hauto := auto_trim J
  have hres : resOf J = if Lib.trimS J ows = [42] then some [[42]] else auto J 0 [] [] := rfl
  rw [← hauto] at hres
  clear hauto
  unfold tagsOf
  generalize resOf J = R at *
  have HRES : Hid (R = if Lib.trimS J ows = [42] then some [[42]] else auto (Lib.trimS J ows) 0 [] []) := hres
  clear hres
  generalize Lib.trimS J ows = S at *
  have htl : ∀ l : List UInt8, (baOf l).toList = l := ba_toList
  have hsz : ∀ l : List UInt8, (baOf l).size = l.length := ba_size
  have hN : S.length ≤ 4194304 := by omega
  clear hT
  by_cases h42 : S = [42]
  · subst h42
    have hR : R = some [[42]] := HRES.out
    subst hR
    clear HRES
    go_enter Tryd.func15, Tryd.ntmps15
    go_wp2_with (first | (go_at_call 20; refine hjoin.mono ?_; rintro e w1 ⟨rfl, hb1⟩) | (go_at_call 19; refine (htrim w1).mono ?_; rintro e w2 ⟨rfl, hb2⟩))
    go_ret
    have hb := hb1.trans (hb2.mono hb1.size)
    exact ⟨_, rfl, holds_one w2 _ _ rfl, hb.alloc hb.size _⟩
  · have h42' : (S == [42]) = false := beq_eq_false_iff_ne.2 h42
    have hR : R = auto S 0 [] [] := HRES.out.trans (if_neg h42)
    have HR0 : Hid (auto S 0 [] [] = R) := hR.symm
    clear hR HRES h42
    go_enter Tryd.func15, Tryd.ntmps15
    go_wp2_with (first | (go_at_call 20; refine hjoin.mono ?_; rintro e w1 ⟨rfl, hb1⟩) | (go_at_call 19; refine (htrim w1).mono ?_; rintro e w2 ⟨rfl, hb2⟩))
    have hb := hb1.trans (hb2.mono hb1.size)
    clear hb1 hb2 hjoin htrim
    go_loopw [3, 4, 5] (fun s3 v4 _ wr => TRel 4194304 R w s3 v4 wr) (fun s3 _ _ _ => strLen s3)
    case atStart => exact ⟨S, [], rfl, World.ownsRow_nil _ _ _ _, fun _ => rfl, HR0.out, by simpa using hN, hb⟩
    case round =>
      clear hb h42' HR0 hN
      obtain ⟨l, tags, rfl, hown, hnil, hR, hlen, hbl⟩ := hrel
      have hB := hbl.size
      have hts := trimSep_any l wr
      have hlt := trim_len l sepc
      have hsep := auto_sep l tags
      have hhd := trim_head l sepc
      rw [hR] at hsep
      generalize Lib.trimLeftS l sepc = l1 at *
      cases l1 with
      | nil =>
        have hR1 : R = some tags := by rw [← hsep]; rfl
        subst hR1
        clear hsep hR hhd
        go_wp2_with (go_at_call_of 21 (baOf l); refine hts.mono ?_; rintro e w3 ⟨rfl, hb3⟩)
        go_ret
        exact ⟨_, rfl, holds_own (own_below hown hb3) hnil, hbl.trans (hb3.mono hB)⟩
      | cons ch r =>
        have htag := auto_tag ch r tags (hhd ch r rfl)
        rw [hsep] at htag
        have htl1 := fun w1 => tagLength_any (baOf (ch :: r)) w1 (by rw [ba_size]; omega)
        have hle := tagLen_le (ch :: r)
        have hdec : (ch :: r).length ≤ l.length := hlt
        have hpos : 0 < (ch :: r).length := by simp
        rw [show (baOf (ch :: r)).data.toList = ch :: r from rfl] at htl1
        have hx1 := ba_take (ch :: r) (tagLen (ch :: r))
        have hx2 := ba_drop (ch :: r) (tagLen (ch :: r))
        rw [ba_size] at hx2
        have hdl : ((ch :: r).drop (tagLen (ch :: r))).length = (ch :: r).length - tagLen (ch :: r) := List.length_drop
        have hnemp : ((ch :: r) == []) = false := rfl
        generalize tagLen (ch :: r) = k at *
        generalize (ch :: r).take k = T1 at *
        generalize (ch :: r).drop k = T2 at *
        clear hhd hsep hR
        generalize ch :: r = L1 at *
        by_cases hk0 : k = 0
        · subst hk0
          have hR1 : R = none := htag.trans (if_pos rfl)
          subst hR1
          clear htag
          go_wp2_with (first | (go_at_call_of 21 (baOf l); refine hts.mono ?_; rintro e w3 ⟨rfl, hb3⟩) | (go_at_call 18; refine (htl1 w3).mono ?_; rintro e w4 ⟨rfl, hw4⟩; have hw4' := hw4.symm; subst hw4'))
          go_ret
          exact ⟨_, rfl, holds_nil _, hbl.trans (hb3.mono hB)⟩
        · have hR1 : R = auto T2 4 [] (tags ++ [T1]) := htag.trans (if_neg hk0)
          rw [auto_next] at hR1
          have htr2 := fun w1 => trimOws_any T2 w1
          have hlt2 := trim_len T2 ows
          generalize Lib.trimLeftS T2 ows = l2 at *
          have hkz : ((k : Int) == 0) = false := beq_eq_false_iff_ne.2 (by omega)
          clear htag
          have hdl2 : l2.length + 1 ≤ l.length := by omega
          clear hlt2 hdl hlt hdec
          cases l2 with
          | nil =>
            have HR2 : Hid (auto [] 0 [] (tags ++ [T1]) = R) := hR1.symm
            clear hR1
            go_wp2_with (first
              | (go_at_call_of 21 (baOf l); refine hts.mono ?_; rintro e w3 ⟨rfl, hb3⟩; have hown3 := own_below hown hb3; have hbl3 := hbl.trans (hb3.mono hB))
              | (go_at_call 18; refine (htl1 w3).mono ?_; rintro e w4 ⟨rfl, hw4⟩; have hw4' := hw4.symm; subst hw4')
              | (at_builtin; refine wpList_append_own _ rfl (.tmp 22) (.tmp 26) 22 rfl w.heap.size 9 i0 (.string ByteArray.empty) 1 16 Tryd.underlying22 hi hz0 hz1 hz2 rfl (by decide) _ _ _ rfl (hown3.alloc _) ⟨w3.heap.size, 0, none⟩ 1 1 [.string (baOf T1)] rfl rfl (cell_one_new _ _ _) (by simp [Value.oneCell']) (by unfold maxLen; omega) (by omega) (by have := hbl3.size; simp; omega) ?_; intro v5 w5 hown5 hgrow5 _; have hb5 := below_app1 hbl3 hbl3.size hown3 hgrow5)
              | (go_at_call_of 21 (baOf T2); refine (htr2 w5).mono ?_; rintro e w6 ⟨rfl, hb6⟩))
            go_roundw
            case rel => exact TRel.next hown5 hb5 hb6 HR2.out (by simp; omega)
            case measure => simp [strLen, ba_size]; omega
          | cons c2 r2 =>
            have hidx : ∀ h, (baOf (c2 :: r2))[0]'h = c2 := fun _ => rfl
            have hnemp2 : ((c2 :: r2) == []) = false := rfl
            dsimp only at hR1
            have hl2 : 0 < (c2 :: r2).length := by simp
            by_cases h44 : c2 = 44
            · have HR2 : Hid (auto (c2 :: r2) 0 [] (tags ++ [T1]) = R) := (hR1.trans (if_pos h44)).symm
              have hc2 : (c2.toNat : Int) = 44 := by rw [h44]; rfl
              clear hR1 h44
              generalize hG : c2 :: r2 = L2 at *
              have HG : Hid (c2 :: r2 = L2) := hG
              clear hG
              go_wp2_with (first
                | (go_at_call_of 21 (baOf l); refine hts.mono ?_; rintro e w3 ⟨rfl, hb3⟩; have hown3 := own_below hown hb3; have hbl3 := hbl.trans (hb3.mono hB))
                | (go_at_call 18; refine (htl1 w3).mono ?_; rintro e w4 ⟨rfl, hw4⟩; have hw4' := hw4.symm; subst hw4')
                | (at_builtin; refine wpList_append_own _ rfl (.tmp 22) (.tmp 26) 22 rfl w.heap.size 9 i0 (.string ByteArray.empty) 1 16 Tryd.underlying22 hi hz0 hz1 hz2 rfl (by decide) _ _ _ rfl (hown3.alloc _) ⟨w3.heap.size, 0, none⟩ 1 1 [.string (baOf T1)] rfl rfl (cell_one_new _ _ _) (by simp [Value.oneCell']) (by unfold maxLen; omega) (by omega) (by have := hbl3.size; simp; omega) ?_; intro v5 w5 hown5 hgrow5 _; have hb5 := below_app1 hbl3 hbl3.size hown3 hgrow5)
                | (go_at_call_of 21 (baOf T2); refine (htr2 w5).mono ?_; rintro e w6 ⟨rfl, hb6⟩))
              go_roundw
              case rel => exact TRel.next hown5 hb5 hb6 HR2.out (by omega)
              case measure => simp [strLen, ba_size]; omega
            · have hR2 : R = none := hR1.trans (if_neg h44)
              subst hR2
              clear hR1
              have hc2 : ((c2.toNat : Int) == 44) = false := by
                have : ¬ c2.toNat = 44 := fun e => h44 ((byte_is _ 44).2 e)
                exact beq_eq_false_iff_ne.2 (by omega)
              have hc3 : ((c2.toNat : Int) != 44) = true := by rw [bne, hc2]; rfl
              clear h44
              generalize hG : c2 :: r2 = L2 at *
              have HG : Hid (c2 :: r2 = L2) := hG
              clear hG
              go_wp2_with (first
                | (go_at_call_of 21 (baOf l); refine hts.mono ?_; rintro e w3 ⟨rfl, hb3⟩; have hown3 := own_below hown hb3; have hbl3 := hbl.trans (hb3.mono hB))
                | (go_at_call 18; refine (htl1 w3).mono ?_; rintro e w4 ⟨rfl, hw4⟩; have hw4' := hw4.symm; subst hw4')
                | (at_builtin; refine wpList_append_own _ rfl (.tmp 22) (.tmp 26) 22 rfl w.heap.size 9 i0 (.string ByteArray.empty) 1 16 Tryd.underlying22 hi hz0 hz1 hz2 rfl (by decide) _ _ _ rfl (hown3.alloc _) ⟨w3.heap.size, 0, none⟩ 1 1 [.string (baOf T1)] rfl rfl (cell_one_new _ _ _) (by simp [Value.oneCell']) (by unfold maxLen; omega) (by omega) (by have := hbl3.size; simp; omega) ?_; intro v5 w5 hown5 hgrow5 _; have hb5 := below_app1 hbl3 hbl3.size hown3 hgrow5)
                | (go_at_call_of 21 (baOf T2); refine (htr2 w5).mono ?_; rintro e w6 ⟨rfl, hb6⟩))
              go_ret
              exact ⟨_, rfl, holds_nil _, hb5.trans (hb6.mono hb5.size)⟩

set_option maxHeartbeats 1000000 in
theorem zztagList_any (a : Option Addr) (xs : List ByteArray) (c : Nat) (w : World) (hx : StrAt w.heap.size w a xs) (hc : xs.length ≤ c) (hl : xs.length ≤ 1048576) (hj : (joinOf xs).length ≤ 4194304) :
    Calls Tryd.prog 9 #[.slice a xs.length c] w fun e w' => RetTags (tagsOf (joinOf xs)) w e w' := by
  have h := tagList_any a xs c w hx hc hl hj
  generalize tagsOf (joinOf xs) = ts at *
  go_enter Tryd.func9, Tryd.ntmps9
  go_wp2_with fail
  refine h.mono ?_
  rintro e w' ⟨v, rfl, ht, hb⟩
  go_wp2
  go_ret
  exact ⟨v, rfl, ht, hb⟩
end Go.Proofs.Qxb6601561aDoor
