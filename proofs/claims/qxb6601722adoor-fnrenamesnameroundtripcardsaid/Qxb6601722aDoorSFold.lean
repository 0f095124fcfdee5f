/-
  Seat b6601722aD: the walk of unicode.SimpleFold.
-/
import Derived.Test.Qxb6601722aDoorFold
import Derived.Test.Qxb6601722aDoorShelf
import Derived.Shelf.Unicode.DecodeAny
import Derived.Shelf.Unicode.CaseLaid
import Derived.WalkKit
import Derived.WalkSpells
import Derived.WalkLawsBesides
import Derived.Deep.QuietTactic
import Derived.BigQuiet
import Derived.Deep.LoopGhost
import Derived.Deep.DeepMust
namespace Go.Proofs.Qxb6601722aDoor
open Go.RowKit Go.Shelf Go.Lib

/-- Go's five tables, as the row lists them. -/
structure Tabs (w : World) : Prop where
  af : ∀ i, i < 128 → w.cell? ⟨0, i, none⟩ = some (.int .u16 (af.getD i 0 : Nat))
  co : ∃ R oR cap, w.cell? ⟨1, 0, none⟩ = some (.slice (some ⟨R, oR, none⟩) coN cap) ∧ ∀ i, i < coN → w.cell? ⟨R, oR + i * 2, none⟩ = some (.int .u16 ((co.getD i (0, 0)).1 : Nat)) ∧ w.cell? ⟨R, oR + i * 2 + 1, none⟩ = some (.int .u16 ((co.getD i (0, 0)).2 : Nat))
  cr : CaseVar 2 caseA w
  u8 : Lib.Utf8Tabs 3 4 w
theorem Tabs.drew {w : World} (h : Tabs w) (q : Nat) : Tabs (w.drewN q) := ⟨h.af, h.co, h.cr, h.u8⟩

theorem af_lt : af.all (fun x => decide (x < 65536)) = true := by decide +kernel
theorem co_lt : co.all (fun p => decide (p.1 < 65536) && decide (p.2 < 65536)) = true := by decide +kernel
theorem af_bound (i : Nat) (h : i < 128) : af.getD i 0 < 65536 := by
  have hl : i < af.length := by rw [af_len]; exact h
  have hm : af.getD i 0 ∈ af := by simp [List.getD, hl]
  simpa using List.all_eq_true.1 af_lt _ hm
theorem co_bound (i : Nat) (h : i < coN) : (co.getD i (0, 0)).1 < 65536 ∧ (co.getD i (0, 0)).2 < 65536 := by
  have hl : i < co.length := by rw [co_len]; exact h
  have hm : co.getD i (0, 0) ∈ co := by simp [List.getD, hl]
  simpa using List.all_eq_true.1 co_lt _ hm
theorem orb_end (r : Int) (f lo hi : Nat) (h : ¬ lo < hi) : orbAt r f lo hi = lo := by
  cases f with
  | zero => rfl
  | succ f => unfold orbAt; rw [if_neg h]
theorem orb_le (r : Int) : ∀ (f lo hi : Nat), lo ≤ hi → orbAt r f lo hi ≤ hi
  | 0, lo, hi, h => h
  | f + 1, lo, hi, h => by
    unfold orbAt
    split
    · split
      · exact orb_le r f _ _ (by omega)
      · exact Nat.le_trans (orb_le r f _ _ (by omega)) (by omega)
    · exact h

def tailF (r : Int) : Int := match lookupIdx caseA r (caseA.size + 1) 0 caseA.size with
    | none => r
    | some i => if convertR 1 r (caseA.getD i (0, 0, 0, 0, 0)) ≠ r then convertR 1 r (caseA.getD i (0, 0, 0, 0, 0)) else convertR 0 r (caseA.getD i (0, 0, 0, 0, 0))

set_option maxHeartbeats 8000000 in
set_option maxRecDepth 100000 in
theorem sfold_any (r : Int) (w : World) (hT : Tabs w) (hr1 : -2147483648 ≤ r) (hr2 : r ≤ 2147483647) :
    Calls Tryd.prog 30 #[.int .i32 r] w fun e w' => e = .returned (.int .i32 (sfold r)) ∧ ∃ q, w' = w.drewN q := by
  by_cases h1 : r < 0
  · have hs : sfold r = r := by unfold sfold; rw [if_pos (.inl h1)]
    rw [hs]
    go_enter Tryd.func30, Tryd.ntmps30
    go_wp2
    go_ret
    exact ⟨rfl, 0, rfl⟩
  by_cases h2 : 1114111 < r
  · have hs : sfold r = r := by unfold sfold; rw [if_pos (.inr h2)]
    rw [hs]
    go_enter Tryd.func30, Tryd.ntmps30
    go_wp2
    go_ret
    exact ⟨rfl, 0, rfl⟩
  have h12 : ¬ (r < 0 ∨ 1114111 < r) := by omega
  by_cases h3 : r < 128
  · obtain ⟨n, rfl⟩ : ∃ n : Nat, r = (n : Int) := ⟨r.toNat, by omega⟩
    have hs : sfold (n : Int) = (af.getD n 0 : Nat) := by unfold sfold; rw [if_neg h12, if_pos h3]; rfl
    rw [hs]
    have hb := af_bound n (by omega)
    have hcell := hT.af n (by omega)
    generalize af.getD n 0 = x at *
    clear hT hs h12
    go_enter Tryd.func30, Tryd.ntmps30
    go_wp2
    go_ret
    exact ⟨rfl, 0, rfl⟩
  have hs : sfold r = if orbAt r (coN + 1) 0 coN < coN ∧ ((co.getD (orbAt r (coN + 1) 0 coN) (0, 0)).1 : Int) = r then ((co.getD (orbAt r (coN + 1) 0 coN) (0, 0)).2 : Int) else tailF r := by
    unfold sfold tailF; rw [if_neg h12, if_neg h3]; rfl
  have HS : Hid (sfold r = if orbAt r (coN + 1) 0 coN < coN ∧ ((co.getD (orbAt r (coN + 1) 0 coN) (0, 0)).1 : Int) = r then ((co.getD (orbAt r (coN + 1) 0 coN) (0, 0)).2 : Int) else tailF r) := hs
  clear hs h12
  obtain ⟨R, oR, cap, hg1, hco⟩ := hT.co
  obtain ⟨R2, oR2, cap2, hg2, hct⟩ := hT.cr
  have hcoN : coN = 94 := rfl
  have hAle : orbAt r (coN + 1) 0 coN ≤ coN := orb_le r _ _ _ (Nat.zero_le _)
  have cL := Tryd.unicode_lookupCaseRange caseA R2 oR2 cap2 r w hct caseA_ok2.ok (by rw [caseA_size]; omega)
  have HCO : Hid (∀ i, i < coN → w.cell? ⟨R, oR + i * 2, none⟩ = some (.int .u16 ((co.getD i (0, 0)).1 : Nat)) ∧ w.cell? ⟨R, oR + i * 2 + 1, none⟩ = some (.int .u16 ((co.getD i (0, 0)).2 : Nat))) := hco
  have HCT : Hid (CaseTab R2 oR2 caseA w) := hct
  clear hT hco hct
  generalize hSF : sfold r = sf
  rw [hSF] at HS
  clear hSF
  generalize hAA : orbAt r (coN + 1) 0 coN = A at *
  have HAA : Hid (orbAt r (coN + 1) 0 coN = A) := hAA
  clear hAA
  go_enter Tryd.func30, Tryd.ntmps30
  go_wp2_with fail
  go_loopg [3, 4, 5] (coN + 1) (fun g s3 s4 _ wx => wx = w ∧ ∃ lo hi : Nat, s3 = .int .i64 lo ∧ s4 = .int .i64 hi ∧ lo ≤ hi ∧ hi ≤ coN ∧ hi - lo < g ∧ orbAt r g lo hi = A)
  case atStart => exact ⟨rfl, 0, coN, rfl, rfl, Nat.zero_le _, Nat.le_refl _, by omega, HAA.out⟩
  case round =>
    obtain ⟨hwr, lo, hi, rfl, rfl, hlh, hhn, hg, hl⟩ := hrel
    have hwr' := hwr.symm
    subst hwr'
    by_cases hlt : lo < hi
    · obtain ⟨g', rfl⟩ : ∃ g', gk = g' + 1 := ⟨gk - 1, by omega⟩
      have hz : (lo : Int) < (hi : Int) := by omega
      obtain ⟨m, hm⟩ : ∃ m, (lo + hi) / 2 = m := ⟨_, rfl⟩
      have hmr : lo ≤ m ∧ m < hi := by omega
      have hmz : ((lo : Int) + (hi : Int)) / 2 = (m : Int) := by omega
      have c0 := (HCO.out m (by omega)).1
      have hcb := (co_bound m (by omega)).1
      simp only [orbAt, hlt, if_true, hm] at hl
      generalize (co.getD m (0, 0)).1 = F at c0 hcb hl
      by_cases hb : (F : Int) < r
      · rw [if_pos hb] at hl
        have HL : Hid (orbAt r g' (m + 1) hi = A) := hl
        clear hl cL
        go_wp2
        go_roundg g'
        case measure => omega
        case rel => exact ⟨rfl, m + 1, hi, by first | rfl | simp, rfl, by omega, by omega, by omega, HL.out⟩
      · rw [if_neg hb] at hl
        have HL : Hid (orbAt r g' lo m = A) := hl
        clear hl cL
        go_wp2
        go_roundg g'
        case measure => omega
        case rel => exact ⟨rfl, lo, m, rfl, rfl, by omega, by omega, by omega, HL.out⟩
    · have hz : ¬ ((lo : Int) < (hi : Int)) := by omega
      have hlA : lo = A := by rw [← hl, orb_end r _ _ _ hlt]
      subst hlA
      clear hl hg HAA
      by_cases hAN : lo < coN
      · have hc := HCO.out lo hAN
        have hcb := co_bound lo hAN
        generalize co.getD lo (0, 0) = P2 at *
        obtain ⟨F, T⟩ := P2
        obtain ⟨c0, c1⟩ := hc
        obtain ⟨b0, b1⟩ := hcb
        dsimp only at c0 c1 b0 b1 HS
        by_cases hF : (F : Int) = r
        · have hsf : sf = (T : Int) := HS.out.trans (if_pos ⟨hAN, hF⟩)
          subst hsf
          subst hF
          clear HS cL
          go_wp2
          go_ret
          exact ⟨rfl, 0, rfl⟩
        · have HSF : Hid (sf = tailF r) := HS.out.trans (if_neg (fun h => hF h.2))
          have hFb : ((F : Int) == r) = false := beq_eq_false_iff_ne.2 hF
          clear HS hF
          cases hi : lookupIdx caseA r (caseA.size + 1) 0 caseA.size with
          | none =>
            rw [hi] at cL
            have hsf : sf = r := by rw [HSF.out]; unfold tailF; rw [hi]
            subst hsf
            clear HSF
            go_wp2_with (go_at_call 34; go_must (refine cL.mono ?_; rintro e w2 ⟨rfl, hw2⟩; have hw2s := hw2.symm; subst hw2s))
            go_ret
            exact ⟨rfl, 0, rfl⟩
          | some i =>
            rw [hi] at cL
            obtain ⟨hil, hlo, hhi⟩ := lookupIdx_some caseA r _ _ _ i hi
            have cC1 := Tryd.unicode_convertCase 1 (by omega) r R2 (oR2 + i * 5) (caseA.getD i (0, 0, 0, 0, 0)) w hlo hhi (caseA_ok2 i hil).2 (HCT.out i hil).1 (HCT.out.delta i hil 1 (by omega))
            rw [convert_fits _ (caseA_row i hil) 1 (by omega) r hlo hhi] at cC1
            have cC0 := fun q => Tryd.unicode_convertCase 0 (by omega) r R2 (oR2 + i * 5) (caseA.getD i (0, 0, 0, 0, 0)) (w.drewN q) hlo hhi (caseA_ok2 i hil).2 (HCT.out i hil).1 (HCT.out.delta i hil 0 (by omega))
            rw [convert_fits _ (caseA_row i hil) 0 (by omega) r hlo hhi] at cC0
            have hsf : sf = if convertR 1 r (caseA.getD i (0, 0, 0, 0, 0)) ≠ r then convertR 1 r (caseA.getD i (0, 0, 0, 0, 0)) else convertR 0 r (caseA.getD i (0, 0, 0, 0, 0)) := by rw [HSF.out]; unfold tailF; rw [hi]
            clear HSF hi hlo hhi hil
            generalize convertR 1 r (caseA.getD i (0, 0, 0, 0, 0)) = v1 at *
            generalize convertR 0 r (caseA.getD i (0, 0, 0, 0, 0)) = v0 at *
            by_cases hv : v1 = r
            · rw [if_neg (fun h => h hv)] at hsf
              subst hsf
              subst hv
              go_wp2_with (first
                | (go_at_call 34; go_must (refine cL.mono ?_; rintro e w2 ⟨rfl, hw2⟩; have hw2s := hw2.symm; subst hw2s))
                | (go_at_call_of 35 (Value.int IntKind.i64 1); refine cC1.mono ?_; rintro e w3 ⟨rfl, q, rfl⟩)
                | (go_at_call_of 35 (Value.int IntKind.i64 0); refine (cC0 q).mono ?_; rintro e w4 ⟨rfl, q2, rfl⟩))
              go_ret
              exact ⟨rfl, _, rfl⟩
            · rw [if_pos hv] at hsf
              subst hsf
              have hvb : (sf != r) = true := by simpa using hv
              go_wp2_with (first
                | (go_at_call 34; go_must (refine cL.mono ?_; rintro e w2 ⟨rfl, hw2⟩; have hw2s := hw2.symm; subst hw2s))
                | (go_at_call_of 35 (Value.int IntKind.i64 1); refine cC1.mono ?_; rintro e w3 ⟨rfl, q, rfl⟩))
              go_ret
              exact ⟨rfl, _, rfl⟩
      · have HSF : Hid (sf = tailF r) := HS.out.trans (if_neg (fun h => hAN h.1))
        clear HS
        have hAN' : ¬ ((lo : Int) < (coN : Int)) := by omega
        cases hi : lookupIdx caseA r (caseA.size + 1) 0 caseA.size with
        | none =>
          rw [hi] at cL
          have hsf : sf = r := by rw [HSF.out]; unfold tailF; rw [hi]
          subst hsf
          clear HSF
          go_wp2_with (go_at_call 34; go_must (refine cL.mono ?_; rintro e w2 ⟨rfl, hw2⟩; have hw2s := hw2.symm; subst hw2s))
          go_ret
          exact ⟨rfl, 0, rfl⟩
        | some i =>
          rw [hi] at cL
          obtain ⟨hil, hlo, hhi⟩ := lookupIdx_some caseA r _ _ _ i hi
          have cC1 := Tryd.unicode_convertCase 1 (by omega) r R2 (oR2 + i * 5) (caseA.getD i (0, 0, 0, 0, 0)) w hlo hhi (caseA_ok2 i hil).2 (HCT.out i hil).1 (HCT.out.delta i hil 1 (by omega))
          rw [convert_fits _ (caseA_row i hil) 1 (by omega) r hlo hhi] at cC1
          have cC0 := fun q => Tryd.unicode_convertCase 0 (by omega) r R2 (oR2 + i * 5) (caseA.getD i (0, 0, 0, 0, 0)) (w.drewN q) hlo hhi (caseA_ok2 i hil).2 (HCT.out i hil).1 (HCT.out.delta i hil 0 (by omega))
          rw [convert_fits _ (caseA_row i hil) 0 (by omega) r hlo hhi] at cC0
          have hsf : sf = if convertR 1 r (caseA.getD i (0, 0, 0, 0, 0)) ≠ r then convertR 1 r (caseA.getD i (0, 0, 0, 0, 0)) else convertR 0 r (caseA.getD i (0, 0, 0, 0, 0)) := by rw [HSF.out]; unfold tailF; rw [hi]
          clear HSF hi hlo hhi hil
          generalize convertR 1 r (caseA.getD i (0, 0, 0, 0, 0)) = v1 at *
          generalize convertR 0 r (caseA.getD i (0, 0, 0, 0, 0)) = v0 at *
          by_cases hv : v1 = r
          · rw [if_neg (fun h => h hv)] at hsf
            subst hsf
            subst hv
            go_wp2_with (first
              | (go_at_call 34; go_must (refine cL.mono ?_; rintro e w2 ⟨rfl, hw2⟩; have hw2s := hw2.symm; subst hw2s))
              | (go_at_call_of 35 (Value.int IntKind.i64 1); refine cC1.mono ?_; rintro e w3 ⟨rfl, q, rfl⟩)
              | (go_at_call_of 35 (Value.int IntKind.i64 0); refine (cC0 q).mono ?_; rintro e w4 ⟨rfl, q2, rfl⟩))
            go_ret
            exact ⟨rfl, _, rfl⟩
          · rw [if_pos hv] at hsf
            subst hsf
            have hvb : (sf != r) = true := by simpa using hv
            go_wp2_with (first
              | (go_at_call 34; go_must (refine cL.mono ?_; rintro e w2 ⟨rfl, hw2⟩; have hw2s := hw2.symm; subst hw2s))
              | (go_at_call_of 35 (Value.int IntKind.i64 1); refine cC1.mono ?_; rintro e w3 ⟨rfl, q, rfl⟩))
            go_ret
            exact ⟨rfl, _, rfl⟩
end Go.Proofs.Qxb6601722aDoor
