/-
  Seat b6601722aD: the walk of strings.EqualFold.
-/
import Derived.Test.Qxb6601722aDoorSFold
import Derived.ScopeJumps
import Derived.WalkMore
import Derived.Laws.Strings3
import Derived.Lib.Walk
import Derived.Lib.OthersKept
import Derived.Laws.DeepStrings4
namespace Go.Proofs.Qxb6601722aDoor
open Go.RowKit Go.Shelf Go.Lib

theorem byte_is (c m : UInt8) : c = m ↔ c.toNat = m.toNat := UInt8.toNat_inj.symm
def AtJump (s t : ByteArray) (M : Nat) (w : World) (ANS : Bool) (a' : Act) (w' : World) : Prop :=
  w = w' ∧ ∃ (i : Nat) (u4 u7 u8 u19 u20 u21 u22 u23 u24 u25 u26 u27 u28 u29 u30 u31 u32 u33 u34 u35 u36 u37 u38 u39 u40 u41 u42 u43 u44 u45 u46 u47 u48 u49 u50 u51 u52 u53 u54 : Value), a' = { tmps := #[.string s, .string t, undef, undef, u4, .int .i64 (i : Nat), .int .i64 (M : Nat), u7, u8, undef, undef, undef, undef, undef, .string s, .int .i64 (s.size : Nat), .string t, .int .i64 (t.size : Nat), .int .i64 (M : Nat), u19, u20, u21, u22, u23, u24, u25, u26, u27, u28, u29, u30, u31, u32, u33, u34, u35, u36, u37, u38, u39, u40, u41, u42, u43, u44, u45, u46, u47, u48, u49, u50, u51, u52, u53, u54, undef, undef, undef, undef, undef, undef, undef, undef, undef, undef, undef, undef, undef, undef, undef, undef, undef, undef, undef, undef, undef, undef, undef, undef, undef, undef, undef, undef, undef, undef, undef, undef, undef, undef, undef, undef, undef, undef, undef, undef, undef, undef, undef, undef, undef, undef, undef, undef, undef, undef, undef, undef, undef, undef, undef, undef, undef, undef, undef, undef, undef, undef, undef, undef, undef, undef, undef, undef], defers := [] } ∧ i < s.size ∧ i < t.size ∧ ef2 (s.size - i + 1) (s.data.toList.drop i) (t.data.toList.drop i) = ANS

theorem drop_at5 (s : ByteArray) (i : Nat) (hi : i < s.size) : s.data.toList.drop i = s[i]'hi :: s.data.toList.drop (i + 1) := by
  have h : i < s.data.toList.length := by simpa using hi
  rw [List.drop_eq_getElem_cons h]
  simp [ByteArray.getElem_eq_getElem_data]
theorem asciiEq_iff (x y : UInt8) : asciiEq x y = true ↔ (x.toNat = y.toNat ∨ (x.toNat < y.toNat ∧ 65 ≤ x.toNat ∧ x.toNat ≤ 90 ∧ y.toNat = x.toNat + 32) ∨ (y.toNat < x.toNat ∧ 65 ≤ y.toNat ∧ y.toNat ≤ 90 ∧ x.toNat = y.toNat + 32)) := by
  unfold asciiEq
  simp only [Bool.or_eq_true, beq_iff_eq, Bool.and_eq_true, decide_eq_true_eq, byte_is x y]
  omega
theorem ext_drop (s : ByteArray) (i : Nat) (_h : i ≤ s.size) : (s.extract i s.size).data.toList = s.data.toList.drop i := by
  rw [extract_data, List.take_of_length_le (by rw [List.length_drop, ← size_eq]; omega)]
theorem nil_size (tl : ByteArray) : decide (tl.data.toList = []) = ((tl.size : Int) == 0) := by
  by_cases h : tl.data.toList = []
  · have : tl.size = 0 := by rw [size_eq, h]; rfl
    rw [decide_eq_true h, this]; rfl
  · have : tl.size ≠ 0 := fun e => h (List.eq_nil_of_length_eq_zero (by rw [← size_eq]; exact e))
    rw [decide_eq_false h]
    exact (beq_eq_false_iff_ne.2 (by omega)).symm
theorem cell_below {w w' : World} {p : Addr} {v : Value} (hb : Below w.heap.size w w') (h : w.cell? p = some v) : w'.cell? p = some v := (hb.cell (World.block_lt_of_cell? _ _ h)).trans h
theorem Tabs.below {w w' : World} (h : Tabs w) (hb : Below w.heap.size w w') : Tabs w' where
  af := fun i hi => cell_below hb (h.af i hi)
  co := by
    obtain ⟨R, oR, cap, h1, h2⟩ := h.co
    exact ⟨R, oR, cap, cell_below hb h1, fun i hi => ⟨cell_below hb (h2 i hi).1, cell_below hb (h2 i hi).2⟩⟩
  cr := by
    obtain ⟨R, oR, cap, h1, h2⟩ := h.cr
    exact ⟨R, oR, cap, cell_below hb h1, fun i hi => ⟨cell_below hb (h2 i hi).1, cell_below hb (h2 i hi).2.1, cell_below hb (h2 i hi).2.2.1, cell_below hb (h2 i hi).2.2.2.1, cell_below hb (h2 i hi).2.2.2.2⟩⟩
  u8 := Utf8Tabs_below h.u8 hb
theorem decodeL_self (tl : ByteArray) : decodeL tl.data.toList = Utf8.decode tl 0 := decodeL_drop tl 0
theorem wrap_i32 {x : Int} (h : wrap32 x = x) : -2147483648 ≤ x ∧ x ≤ 2147483647 := by
  unfold wrap32 at h; omega
theorem sfold_i32 (r : Int) (h1 : -2147483648 ≤ r) (h2 : r ≤ 2147483647) : -2147483648 ≤ sfold r ∧ sfold r ≤ 2147483647 := by
  unfold sfold
  split
  · exact ⟨h1, h2⟩
  split
  · have := af_bound r.toNat (by omega)
    omega
  split
  · rename_i h
    have := co_bound _ h.1
    omega
  · cases hi : lookupIdx caseA r (caseA.size + 1) 0 caseA.size with
    | none => exact ⟨h1, h2⟩
    | some i =>
      obtain ⟨hil, hlo, hhi⟩ := lookupIdx_some caseA r _ _ _ i hi
      have e1 := wrap_i32 (convert_fits _ (caseA_row i hil) 1 (by omega) r hlo hhi)
      have e0 := wrap_i32 (convert_fits _ (caseA_row i hil) 0 (by omega) r hlo hhi)
      dsimp only
      generalize convertR 1 r (caseA.getD i (0, 0, 0, 0, 0)) = v1 at *
      generalize convertR 0 r (caseA.getD i (0, 0, 0, 0, 0)) = v0 at *
      split
      · exact e1
      · exact e0
theorem below_drewN {B : Nat} {a b : World} (h : Below B a b) (q : Nat) : Below B a (b.drewN q) := ⟨h.os, h.tape, h.output, h.size, h.block⟩
theorem ef_jump (s t : ByteArray) (i : Nat) (h1 : i < s.size) (h2 : i < t.size) (h : 128 ≤ (s[i]'h1).toNat ∨ 128 ≤ (t[i]'h2).toNat) : ef (s.data.toList.drop i) (t.data.toList.drop i) = ef2 (s.size - i + 1) (s.data.toList.drop i) (t.data.toList.drop i) := by
  rw [drop_at5 s i h1, drop_at5 t i h2, ef, if_pos h]
  congr 1
  rw [List.length_drop]
  simp
  omega
theorem ef_step (s t : ByteArray) (i : Nat) (h1 : i < s.size) (h2 : i < t.size) (h : ¬ (128 ≤ (s[i]'h1).toNat ∨ 128 ≤ (t[i]'h2).toNat)) : ef (s.data.toList.drop i) (t.data.toList.drop i) = if asciiEq (s[i]'h1) (t[i]'h2) = true then ef (s.data.toList.drop (i + 1)) (t.data.toList.drop (i + 1)) else false := by
  rw [drop_at5 s i h1, drop_at5 t i h2, ef, if_neg h]
theorem ef_end (s t : ByteArray) (M : Nat) (h : M = min s.size t.size) : ef (s.data.toList.drop M) (t.data.toList.drop M) = decide (s.size = t.size) := by
  have h0 : ∀ (a b : List UInt8), a = [] ∨ b = [] → ef a b = decide (a.length = b.length) := by
    intro a b h
    cases a <;> cases b <;> simp [ef] at h ⊢
  rw [h0 _ _ (by
    by_cases hh : s.size ≤ t.size
    · exact .inl (List.drop_eq_nil_of_le (by simp; omega))
    · exact .inr (List.drop_eq_nil_of_le (by simp; omega)))]
  refine decide_eq_decide.2 ?_
  rw [List.length_drop, List.length_drop]
  simp
  omega

set_option maxHeartbeats 8000000 in
set_option maxRecDepth 100000 in
theorem ef_any (s t : ByteArray) (w : World) (hT : Tabs w) (hs : s.size ≤ 4194304) (ht : t.size ≤ 4194304) :
    Calls Tryd.prog 20 #[.string s, .string t] w fun e w' => e = .returned (.bool (ef s.data.toList t.data.toList)) ∧ Below w.heap.size w w' := by
  obtain ⟨M, hM⟩ : ∃ M : Nat, min (s.size : Int) (t.size : Int) = (M : Int) := ⟨min s.size t.size, by omega⟩
  have hMs : M ≤ s.size := by omega
  have hMt : M ≤ t.size := by omega
  have HMe : Hid (M = min s.size t.size) := by show _ = _; omega
  generalize hANS : ef s.data.toList t.data.toList = ANS
  have HT : Hid (Tabs w) := hT
  clear hT
  go_enter Tryd.func20, Tryd.ntmps20
  go_wp2
  refine wp_scope_jumps 0 (AtJump s t M w ANS) (fun _ _ => 0) rfl ?_ ?_
  · go_wp2
    go_loopg [5, 7, 8] M (fun g s5 _ _ wx => w = wx ∧ ∃ i : Nat, i + g = M ∧ s5 = .int .i64 i ∧ ef (s.data.toList.drop i) (t.data.toList.drop i) = ANS)
    case atStart => exact ⟨rfl, 0, by omega, rfl, hANS⟩
    case round =>
      obtain ⟨rfl, i, hig, rfl, hinv⟩ := hrel
      have HI : Hid (ef (s.data.toList.drop i) (t.data.toList.drop i) = ANS) := hinv
      clear hinv hM hANS
      cases gk with
      | zero =>
        have hiM : ¬ ((i : Int) < (M : Int)) := by omega
        obtain rfl : i = M := by omega
        have hE : ANS = decide (s.size = t.size) := by rw [← HI.out, ef_end s t i HMe.out]
        by_cases hst : s.size = t.size
        · have hb : ((s.size : Int) == (t.size : Int)) = true := beq_iff_eq.2 (by omega)
          have hA : ANS = true := by rw [hE]; simp [hst]
          subst hA
          clear hE
          go_wp2
          dsimp only [Exit.jump]
          go_ret
          exact ⟨rfl, Below.refl _ _⟩
        · have hb : ((s.size : Int) == (t.size : Int)) = false := beq_eq_false_iff_ne.2 (by omega)
          have hA : ANS = false := by rw [hE]; simp [hst]
          subst hA
          clear hE
          go_wp2
          dsimp only [Exit.jump]
          go_ret
          exact ⟨rfl, Below.refl _ _⟩
      | succ g =>
        have hiM : (i : Int) < (M : Int) := by omega
        have his : i < s.size := by omega
        have hit : i < t.size := by omega
        have hj := ef_jump s t i his hit
        have hst := ef_step s t i his hit
        obtain ⟨x, hx⟩ : ∃ x : UInt8, s[i]'his = x := ⟨_, rfl⟩
        obtain ⟨y, hy⟩ : ∃ y : UInt8, t[i]'hit = y := ⟨_, rfl⟩
        rw [hx, hy] at hj hst
        have hxb := x.toNat_lt
        have hyb := y.toNat_lt
        have hor : bits .or .u8 (x.toNat : Int) (y.toNat : Int) = ((x.toNat ||| y.toNat : Nat) : Int) := u8_or_nat _ _ (by omega) (by omega)
        by_cases hb : 128 ≤ x.toNat ∨ 128 ≤ y.toNat
        · have h128 : (128 : Int) ≤ ((x.toNat ||| y.toNat : Nat) : Int) := by
            have h1 := Nat.left_le_or (n := x.toNat) (m := y.toNat)
            have h2 := Nat.right_le_or (n := x.toNat) (m := y.toNat)
            omega
          have HE : Hid (ef2 (s.size - i + 1) (s.data.toList.drop i) (t.data.toList.drop i) = ANS) := (hj hb).symm.trans HI.out
          clear hj hst hb
          go_wp2
          go_step3
          exact ⟨rfl, rfl, i, _, _, _, _, _, _, _, _, _, _, _, _, _, _, _, _, _, _, _, _, _, _, _, _, _, _, _, _, _, _, _, _, _, _, _, _, _, _, _, rfl, his, hit, HE.out⟩
        · have h128 : ¬ ((128 : Int) ≤ ((x.toNat ||| y.toNat : Nat) : Int)) := by have := Nat.or_lt_two_pow (n := 7) (x := x.toNat) (y := y.toNat) (by omega) (by omega); omega
          have HE : Hid ((if asciiEq x y = true then ef (s.data.toList.drop (i + 1)) (t.data.toList.drop (i + 1)) else false) = ANS) := (hst hb).symm.trans HI.out
          clear hj hst
          go_wp2
          all_goals (try simp only [beq_iff_eq, beq_eq_false_iff_ne, ne_eq] at *)
          all_goals first
            | (go_roundg g
               case measure => omega
               case rel => exact ⟨rfl, i + 1, by omega, by first | rfl | simp, by rw [← HE.out, if_pos ((asciiEq_iff x y).2 (by omega))]⟩)
            | (have hA : ANS = false := by rw [← HE.out, if_neg (fun h => by have := (asciiEq_iff x y).1 h; omega)]
               subst hA
               dsimp only [Exit.jump]
               go_ret
               exact ⟨rfl, Below.refl _ _⟩)
  · intro a' w' hJ
    obtain ⟨rfl, i, u4, u7, u8, u19, u20, u21, u22, u23, u24, u25, u26, u27, u28, u29, u30, u31, u32, u33, u34, u35, u36, u37, u38, u39, u40, u41, u42, u43, u44, u45, u46, u47, u48, u49, u50, u51, u52, u53, u54, rfl, hi1, hi2, hE⟩ := hJ
    have HE : Hid (ef2 (s.size - i + 1) (s.data.toList.drop i) (t.data.toList.drop i) = ANS) := hE
    clear hE hM hANS
    have hxS := ext_drop s i (by omega)
    have hxT := ext_drop t i (by omega)
    have hSz : (s.extract i s.size).size = s.size - i := by rw [ByteArray.size_extract]; omega
    have hTz : (t.extract i t.size).size = t.size - i := by rw [ByteArray.size_extract]; omega
    rw [← hxS, ← hxT, ← hSz] at HE
    clear hxS hxT
    go_wp2
    generalize s.extract i s.size = S at *
    generalize t.extract i t.size = T at *
    go_loopg [1, 10, 11, 12, 13] (S.size + 1) (fun gk s1 _ _ _ _ wx => ∃ (pos : Nat) (tl : ByteArray) (f : Nat), s1 = .string tl ∧ wx.heap[w.heap.size]? = some (.stringIter S pos) ∧ Below w.heap.size w wx ∧ ef2 f (S.data.toList.drop pos) tl.data.toList = ANS ∧ S.size - pos < f ∧ S.size < pos + gk ∧ pos ≤ S.size ∧ tl.size ≤ 4194304)
    case atStart => exact ⟨0, T, S.size + 1, rfl, World.iter_heap w S 0, (Below.refl _ w).alloc (Nat.le_refl _) _, by simpa using HE.out, by omega, by omega, by omega, by omega⟩
    case round =>
      obtain ⟨pos, tl, f, rfl, hit, hbw, hef, hf, hgk, hps, htl⟩ := hrel
      by_cases hlt : pos < S.size
      · have hnx : ∀ ty, (Instr.next (.pointer (some ⟨w.heap.size, 0, none⟩)) true ty).run Tryd.prog wr = _ := fun ty => Lib.run_next_any_at wr w.heap.size S pos ty hit hlt
        have hlenS : S.data.toList.length = S.size := (size_eq S).symm
        have hne : S.data.toList.drop pos ≠ [] := by
          intro h0
          have := congrArg List.length h0
          rw [List.length_drop, hlenS, List.length_nil] at this
          omega
        have hwd := width_pos S pos
        have hwn : pos + (Utf8.decode S pos).2 ≤ S.size := by
          have := decodeL_le _ hne
          rw [decodeL_drop, List.length_drop, hlenS] at this
          omega
        have hrl := rune_le S pos
        obtain ⟨f', rfl⟩ : ∃ f', f = f' + 1 := ⟨f - 1, by omega⟩
        obtain ⟨g', rfl⟩ : ∃ g', gk = g' + 1 := ⟨gk - 1, by omega⟩
        rw [ef2, if_neg hne, decodeL_drop, decodeL_self, List.drop_drop] at hef
        obtain ⟨R, hR⟩ : ∃ R, (Utf8.decode S pos).1 = R := ⟨_, rfl⟩
        obtain ⟨K, hK⟩ : ∃ K, (Utf8.decode S pos).2 = K := ⟨_, rfl⟩
        rw [hR, hK] at hnx hef
        rw [hK] at hwd hwn
        rw [hR] at hrl
        have hit2 := Lib.iterAt_heap wr w.heap.size S pos (pos + K) hit
        have hbw2 := Lib.below_iterAt hbw (k := w.heap.size) (by omega) S (pos + K)
        obtain ⟨W, hWd⟩ : ∃ W, wr.iterAt w.heap.size S (pos + K) = W := ⟨_, rfl⟩
        rw [hWd] at hnx hit2 hbw2
        clear hit hbw hWd hne hR hK
        by_cases htz : tl.size = 0
        · obtain rfl : tl = ByteArray.empty := by rw [← ByteArray.size_eq_zero_iff]; exact htz
          have hA : ANS = false := by rw [← hef]; rfl
          subst hA
          clear hef
          go_wp2
          dsimp only [Exit.jump]
          go_ret
          exact ⟨rfl, hbw2⟩
        · have htb : ((tl.size : Int) == 0) = false := beq_eq_false_iff_ne.2 (by omega)
          have hTn : tl.data.toList ≠ [] := fun h0 => htz (by rw [size_eq, h0]; rfl)
          rw [if_neg hTn] at hef
          have hTabs := HT.out.below hbw2
          have cD := Tryd.utf8_DecodeRuneInString tl W hTabs.u8
          have hdg : decodeGo tl = Utf8.decode tl 0 := by unfold decodeGo; rw [if_neg htz]
          rw [hdg] at cD
          have hwd2 := width_pos tl 0
          have hwn2 : (Utf8.decode tl 0).2 ≤ tl.size := by
            have := decodeL_le _ hTn
            rw [decodeL_self, ← size_eq] at this
            exact this
          have hrl2 := rune_le tl 0
          have hx2 := ext_drop tl (Utf8.decode tl 0).2 hwn2
          have hsz2 : (tl.extract (Utf8.decode tl 0).2 tl.size).size = tl.size - (Utf8.decode tl 0).2 := by rw [ByteArray.size_extract]; omega
          rw [← hx2] at hef
          clear hdg hx2 hTn
          generalize (Utf8.decode tl 0).1 = R2 at *
          generalize (Utf8.decode tl 0).2 = K2 at *
          have hlow : w.heap.size < W.heap.size := (Array.getElem?_eq_some_iff.1 hit2).1
          by_cases hRR : R2 = R
          · subst hRR
            have HEF : Hid (ef2 f' (S.data.toList.drop (pos + K)) (tl.extract K2 tl.size).data.toList = ANS) := by
              show _ = _
              rw [← hef, if_pos (by unfold runeEq; rw [if_pos rfl])]
            clear hef
            go_wp2_with (go_at_call 29; refine cD.mono ?_; rintro e W2 ⟨rfl, hb2⟩)
            go_roundg g'
            case measure => omega
            case rel => exact ⟨pos + K, tl.extract K2 tl.size, f', rfl, (hb2.block _ hlow).trans hit2, hbw2.trans (hb2.mono hbw2.size), HEF.out, by omega, by omega, by omega, by omega⟩
          · have hneq : ((R2 : Int) == (R : Int)) = false := beq_eq_false_iff_ne.2 (by omega)
            by_cases hord : R2 < R
            · have hordi : (R2 : Int) < (R : Int) := by omega
              have hpe : runeEq (R : Int) (R2 : Int) = pairEq (R2 : Int) (R : Int) := by unfold runeEq; rw [if_neg (by omega), if_pos (by omega)]
              rw [hpe] at hef
              clear hpe
              by_cases hb128 : R < 128
              · have hp : pairEq (R2 : Int) (R : Int) = decide (65 ≤ (R2 : Int) ∧ (R2 : Int) ≤ 90 ∧ (R : Int) = (R2 : Int) + 32) := by unfold pairEq; rw [if_pos (by omega)]
                rw [hp] at hef
                clear hp
                by_cases hasc : 65 ≤ (R2 : Int) ∧ (R2 : Int) ≤ 90 ∧ (R : Int) = (R2 : Int) + 32
                · rw [decide_eq_true hasc, if_pos rfl] at hef
                  have HEF : Hid (ef2 f' (S.data.toList.drop (pos + K)) (tl.extract K2 tl.size).data.toList = ANS) := hef
                  clear hef
                  obtain ⟨q1, q2, q3⟩ := hasc
                  go_wp2_with (go_at_call 29; refine cD.mono ?_; rintro e W2 ⟨rfl, hb2⟩)
                  go_roundg g'
                  case measure => omega
                  case rel => exact ⟨pos + K, tl.extract K2 tl.size, f', rfl, (hb2.block _ hlow).trans hit2, hbw2.trans (hb2.mono hbw2.size), HEF.out, by omega, by omega, by omega, by omega⟩
                · rw [decide_eq_false hasc, if_neg Bool.false_ne_true] at hef
                  subst hef
                  go_wp2_with (go_at_call 29; refine cD.mono ?_; rintro e W2 ⟨rfl, hb2⟩)
                  all_goals first
                    | (dsimp only [Exit.jump]
                       go_ret
                       exact ⟨rfl, hbw2.trans (hb2.mono hbw2.size)⟩)
                    | (exfalso; simp only [beq_iff_eq] at *; omega)
              · have hp : pairEq (R2 : Int) (R : Int) = decide (orb (R2 : Int) (R : Int) 3 (sfold (R2 : Int)) = (R : Int)) := by unfold pairEq; rw [if_neg (by omega)]
                rw [hp] at hef
                clear hp
                generalize hRES : orb (R2 : Int) (R : Int) 3 (sfold (R2 : Int)) = RES at hef
                have HRES : Hid (orb (R2 : Int) (R : Int) 3 (sfold (R2 : Int)) = RES) := hRES
                clear hRES
                have h128 : ¬ ((R : Int) < 128) := by omega
                have hcs := comes_start (R2 : Int)
                have hcr := sfold_i32 (R2 : Int) (by omega) (by omega)
                go_wp2_with (first
                  | (go_at_call 29; refine cD.mono ?_; rintro e W2 ⟨rfl, hb2⟩)
                  | (go_at_call 30; refine (sfold_any (R2 : Int) W2 (hTabs.below hb2) (by omega) (by omega)).mono ?_; rintro e W3 ⟨rfl, q3, rfl⟩))
                go_loopg [13] 3 (fun g3 s13 wx => ∃ (q : Nat) (r : Int), wx = W2.drewN q ∧ s13 = .int .i32 r ∧ Comes g3 (R2 : Int) r ∧ orb (R2 : Int) (R : Int) g3 r = RES ∧ -2147483648 ≤ r ∧ r ≤ 2147483647)
                case atStart => exact ⟨q3, sfold (R2 : Int), rfl, rfl, hcs, HRES.out, hcr.1, hcr.2⟩
                case round =>
                  obtain ⟨q, r, rfl, rfl, hcm, horb, hr1, hr2⟩ := hrel
                  by_cases hgo : r ≠ (R2 : Int) ∧ r < (R : Int)
                  · obtain ⟨g4, rfl, hcm2⟩ := comes_step hcm hgo.1
                    rw [orb_step _ _ _ _ hgo] at horb
                    have hn1 : (r != (R2 : Int)) = true := by simpa using hgo.1
                    have hn2 : (r == (R2 : Int)) = false := by simpa using hgo.1
                    have hn3 : r < (R : Int) := hgo.2
                    have hcr2 := sfold_i32 r hr1 hr2
                    have HO : Hid (orb (R2 : Int) (R : Int) g4 (sfold r) = RES) := horb
                    clear hgo horb hcm
                    go_wp2_with (go_at_call 30; refine (sfold_any r (W2.drewN q) ((hTabs.below hb2).drew q) (by omega) (by omega)).mono ?_; rintro e W3 ⟨rfl, q4, rfl⟩)
                    go_roundg g4
                    case measure => omega
                    case rel => exact ⟨_, sfold r, rfl, rfl, hcm2, HO.out, hcr2.1, hcr2.2⟩
                  · rw [orb_stop _ _ _ _ hgo] at horb
                    subst horb
                    by_cases hrb : r = (R : Int)
                    · rw [decide_eq_true hrb, if_pos rfl] at hef
                      have HEF : Hid (ef2 f' (S.data.toList.drop (pos + K)) (tl.extract K2 tl.size).data.toList = ANS) := hef
                      clear hef hgo hcm
                      subst hrb
                      have hn1 : (((R : Nat) : Int) != (R2 : Int)) = true := by simp; omega
                      have hn2 : (((R : Nat) : Int) == (R2 : Int)) = false := beq_eq_false_iff_ne.2 (by omega)
                      go_wp2
                      go_roundg g'
                      case measure => omega
                      case rel => exact ⟨pos + K, tl.extract K2 tl.size, f', rfl, (hb2.block _ hlow).trans hit2, below_drewN (hbw2.trans (hb2.mono hbw2.size)) q, HEF.out, by omega, by omega, by omega, by omega⟩
                    · rw [decide_eq_false hrb, if_neg Bool.false_ne_true] at hef
                      subst hef
                      have hrbb : (r == (R : Int)) = false := beq_eq_false_iff_ne.2 hrb
                      by_cases hra : r = (R2 : Int)
                      · subst hra
                        clear hgo hcm
                        go_wp2
                        dsimp only [Exit.jump]
                        go_ret
                        exact ⟨rfl, below_drewN (hbw2.trans (hb2.mono hbw2.size)) q⟩
                      · have hn1 : (r != (R2 : Int)) = true := by simpa using hra
                        have hn2 : (r == (R2 : Int)) = false := beq_eq_false_iff_ne.2 hra
                        have hn3 : ¬ (r < (R : Int)) := fun h => hgo ⟨hra, h⟩
                        clear hgo hcm
                        go_wp2
                        dsimp only [Exit.jump]
                        go_ret
                        exact ⟨rfl, below_drewN (hbw2.trans (hb2.mono hbw2.size)) q⟩
            · have hordi : ¬ ((R2 : Int) < (R : Int)) := by omega
              have hpe : runeEq (R : Int) (R2 : Int) = pairEq (R : Int) (R2 : Int) := by unfold runeEq; rw [if_neg (by omega), if_neg (by omega)]
              rw [hpe] at hef
              clear hpe
              by_cases hb128 : R2 < 128
              · have hp : pairEq (R : Int) (R2 : Int) = decide (65 ≤ (R : Int) ∧ (R : Int) ≤ 90 ∧ (R2 : Int) = (R : Int) + 32) := by unfold pairEq; rw [if_pos (by omega)]
                rw [hp] at hef
                clear hp
                by_cases hasc : 65 ≤ (R : Int) ∧ (R : Int) ≤ 90 ∧ (R2 : Int) = (R : Int) + 32
                · rw [decide_eq_true hasc, if_pos rfl] at hef
                  have HEF : Hid (ef2 f' (S.data.toList.drop (pos + K)) (tl.extract K2 tl.size).data.toList = ANS) := hef
                  clear hef
                  obtain ⟨q1, q2, q3⟩ := hasc
                  go_wp2_with (go_at_call 29; refine cD.mono ?_; rintro e W2 ⟨rfl, hb2⟩)
                  go_roundg g'
                  case measure => omega
                  case rel => exact ⟨pos + K, tl.extract K2 tl.size, f', rfl, (hb2.block _ hlow).trans hit2, hbw2.trans (hb2.mono hbw2.size), HEF.out, by omega, by omega, by omega, by omega⟩
                · rw [decide_eq_false hasc, if_neg Bool.false_ne_true] at hef
                  subst hef
                  go_wp2_with (go_at_call 29; refine cD.mono ?_; rintro e W2 ⟨rfl, hb2⟩)
                  all_goals first
                    | (dsimp only [Exit.jump]
                       go_ret
                       exact ⟨rfl, hbw2.trans (hb2.mono hbw2.size)⟩)
                    | (exfalso; simp only [beq_iff_eq] at *; omega)
              · have hp : pairEq (R : Int) (R2 : Int) = decide (orb (R : Int) (R2 : Int) 3 (sfold (R : Int)) = (R2 : Int)) := by unfold pairEq; rw [if_neg (by omega)]
                rw [hp] at hef
                clear hp
                generalize hRES : orb (R : Int) (R2 : Int) 3 (sfold (R : Int)) = RES at hef
                have HRES : Hid (orb (R : Int) (R2 : Int) 3 (sfold (R : Int)) = RES) := hRES
                clear hRES
                have h128 : ¬ ((R2 : Int) < 128) := by omega
                have hcs := comes_start (R : Int)
                have hcr := sfold_i32 (R : Int) (by omega) (by omega)
                go_wp2_with (first
                  | (go_at_call 29; refine cD.mono ?_; rintro e W2 ⟨rfl, hb2⟩)
                  | (go_at_call 30; refine (sfold_any (R : Int) W2 (hTabs.below hb2) (by omega) (by omega)).mono ?_; rintro e W3 ⟨rfl, q3, rfl⟩))
                go_loopg [13] 3 (fun g3 s13 wx => ∃ (q : Nat) (r : Int), wx = W2.drewN q ∧ s13 = .int .i32 r ∧ Comes g3 (R : Int) r ∧ orb (R : Int) (R2 : Int) g3 r = RES ∧ -2147483648 ≤ r ∧ r ≤ 2147483647)
                case atStart => exact ⟨q3, sfold (R : Int), rfl, rfl, hcs, HRES.out, hcr.1, hcr.2⟩
                case round =>
                  obtain ⟨q, r, rfl, rfl, hcm, horb, hr1, hr2⟩ := hrel
                  by_cases hgo : r ≠ (R : Int) ∧ r < (R2 : Int)
                  · obtain ⟨g4, rfl, hcm2⟩ := comes_step hcm hgo.1
                    rw [orb_step _ _ _ _ hgo] at horb
                    have hn1 : (r != (R : Int)) = true := by simpa using hgo.1
                    have hn2 : (r == (R : Int)) = false := by simpa using hgo.1
                    have hn3 : r < (R2 : Int) := hgo.2
                    have hcr2 := sfold_i32 r hr1 hr2
                    have HO : Hid (orb (R : Int) (R2 : Int) g4 (sfold r) = RES) := horb
                    clear hgo horb hcm
                    go_wp2_with (go_at_call 30; refine (sfold_any r (W2.drewN q) ((hTabs.below hb2).drew q) (by omega) (by omega)).mono ?_; rintro e W3 ⟨rfl, q4, rfl⟩)
                    go_roundg g4
                    case measure => omega
                    case rel => exact ⟨_, sfold r, rfl, rfl, hcm2, HO.out, hcr2.1, hcr2.2⟩
                  · rw [orb_stop _ _ _ _ hgo] at horb
                    subst horb
                    by_cases hrb : r = (R2 : Int)
                    · rw [decide_eq_true hrb, if_pos rfl] at hef
                      have HEF : Hid (ef2 f' (S.data.toList.drop (pos + K)) (tl.extract K2 tl.size).data.toList = ANS) := hef
                      clear hef hgo hcm
                      subst hrb
                      have hn1 : (((R2 : Nat) : Int) != (R : Int)) = true := by simp; omega
                      have hn2 : (((R2 : Nat) : Int) == (R : Int)) = false := beq_eq_false_iff_ne.2 (by omega)
                      go_wp2
                      go_roundg g'
                      case measure => omega
                      case rel => exact ⟨pos + K, tl.extract K2 tl.size, f', rfl, (hb2.block _ hlow).trans hit2, below_drewN (hbw2.trans (hb2.mono hbw2.size)) q, HEF.out, by omega, by omega, by omega, by omega⟩
                    · rw [decide_eq_false hrb, if_neg Bool.false_ne_true] at hef
                      subst hef
                      have hrbb : (r == (R2 : Int)) = false := beq_eq_false_iff_ne.2 hrb
                      by_cases hra : r = (R : Int)
                      · subst hra
                        clear hgo hcm
                        go_wp2
                        dsimp only [Exit.jump]
                        go_ret
                        exact ⟨rfl, below_drewN (hbw2.trans (hb2.mono hbw2.size)) q⟩
                      · have hn1 : (r != (R : Int)) = true := by simpa using hra
                        have hn2 : (r == (R : Int)) = false := beq_eq_false_iff_ne.2 hra
                        have hn3 : ¬ (r < (R2 : Int)) := fun h => hgo ⟨hra, h⟩
                        clear hgo hcm
                        go_wp2
                        dsimp only [Exit.jump]
                        go_ret
                        exact ⟨rfl, below_drewN (hbw2.trans (hb2.mono hbw2.size)) q⟩
      · obtain rfl : pos = S.size := by omega
        have hnx : ∀ ty, (Instr.next (.pointer (some ⟨w.heap.size, 0, none⟩)) true ty).run Tryd.prog wr = _ := fun ty => Lib.run_next_end_at wr w.heap.size S S.size ty hit hlt
        have hA : ANS = ((tl.size : Int) == 0) := by
          rw [← hef, List.drop_eq_nil_of_le (by simp)]
          obtain ⟨f', rfl⟩ : ∃ f', f = f' + 1 := ⟨f - 1, by omega⟩
          rw [ef2, if_pos rfl]
          exact nil_size tl
        subst hA
        clear hef
        go_wp2
        dsimp only [Exit.jump]
        go_ret
        exact ⟨rfl, hbw⟩
end Go.Proofs.Qxb6601722aDoor
