/-
  Seat b6600830aD: the walks of zzAsciiSpace, zzSpace3, zzSpacePrefix, zzSpaceSuffix.
-/
import Derived.Test.Qxb6600830aDoorPlain
import Derived.Test.Qxb6600830aDoorProg
import Derived.WalkKit
import Derived.WalkSpells
import Derived.WalkLawsBesides
import Derived.Deep.QuietTactic
import Derived.BigQuiet
namespace Go.Proofs.Qxb6600830aDoor
open Go.RowKit

set_option maxHeartbeats 400000 in
theorem asp_any (c : Int) (w : World) :
    Calls Tryd.prog 22 #[.int .u8 c] w fun e w' => e = .returned (.bool (aspB c)) ∧ w' = w := by
  go_enter Tryd.func22, Tryd.ntmps22
  go_wp2
  all_goals (go_ret; refine ⟨?_, rfl⟩; first | rfl | (congr 2; unfold aspB; simp_all))

set_option maxHeartbeats 400000 in
theorem sp3_any (a b c : Int) (w : World) :
    Calls Tryd.prog 23 #[.int .u8 a, .int .u8 b, .int .u8 c] w fun e w' => e = .returned (.bool (sp3B a b c)) ∧ w' = w := by
  go_enter Tryd.func23, Tryd.ntmps23
  go_wp2
  all_goals (go_ret; refine ⟨?_, rfl⟩; congr 2; unfold sp3B; first | (simp_all; done) | (simp_all; omega) | (rw [eq_comm, Bool.eq_iff_iff]; simp_all; omega))

theorem drop_at (s : ByteArray) (i : Nat) (hi : i < s.size) : s.data.toList.drop i = s[i]'hi :: s.data.toList.drop (i + 1) :=
  List.drop_eq_getElem_cons (by simpa using hi)

theorem pre0 (s : ByteArray) (i : Nat) (hi : i < s.size) (hA : aspB ((s[i]'hi).toNat : Int) = false)
    (h2 : ∀ h : i + 1 < s.size, ((s[i]'hi).toNat : Int) = 194 → ¬ (((s[i + 1]'h).toNat : Int) = 133 ∨ ((s[i + 1]'h).toNat : Int) = 160))
    (h3 : ∀ h : i + 2 < s.size, sp3B ((s[i]'hi).toNat : Int) ((s[i + 1]'(by omega)).toNat : Int) ((s[i + 2]'h).toNat : Int) = false) : Lib.headSpace (s.data.toList.drop i) = 0 := by
  rw [drop_at s i hi]
  refine head0 _ _ hA ?_ ?_
  · intro b1 t' e
    by_cases h : i + 1 < s.size
    · rw [drop_at s (i + 1) h] at e
      cases e
      exact h2 h
    · rw [List.drop_of_length_le (by simp; omega)] at e; cases e
  · intro b1 b2 t' e
    by_cases h : i + 2 < s.size
    · rw [drop_at s (i + 1) (by omega), drop_at s (i + 1 + 1) h] at e
      cases e
      exact h3 h
    · have := congrArg List.length e
      simp at this; omega

set_option maxHeartbeats 1000000 in
theorem spre_any (s : ByteArray) (i : Nat) (w : World) (hi : i < s.size) (hs : s.size ≤ 4611686018427387904) :
    Calls Tryd.prog 15 #[.string s, .int .i64 i] w fun e w' => ∃ k : Nat, e = .returned (.int .i64 k) ∧ k + i ≤ s.size ∧ (k = 0 → Lib.headSpace (s.data.toList.drop i) = 0) ∧ (∃ n, w' = w.drewN n) := by
  cases hA : aspB ((s[i]'hi).toNat : Int) with
  | true =>
    go_enter Tryd.func15, Tryd.ntmps15
    go_wp2_with (go_at_call 22; refine (asp_any _ _).mono ?_; rintro e w' ⟨rfl, rfl⟩)
    go_ret
    exact ⟨1, rfl, by omega, by omega, 0, rfl⟩
  | false =>
    by_cases h2 : i + 2 < s.size
    · have h1 : i + 1 < s.size := by omega
      have hw1 : IntKind.i64.wrap ((i : Int) + 1) = (i : Int) + 1 := IntWalk.i64_in _ (by omega)
      have hw2 : IntKind.i64.wrap ((i : Int) + 2) = (i : Int) + 2 := IntWalk.i64_in _ (by omega)
      have hi1 : (i : Int) + 1 < (s.size : Int) := by omega
      have hi2 : (i : Int) + 2 < (s.size : Int) := by omega
      have hp1 : (0 : Int) ≤ (i : Int) + 1 := by omega
      have hp2 : (0 : Int) ≤ (i : Int) + 2 := by omega
      cases hS : sp3B ((s[i]'hi).toNat : Int) ((s[i + 1]'h1).toNat : Int) ((s[i + 2]'h2).toNat : Int) with
      | true =>
        go_enter Tryd.func15, Tryd.ntmps15
        go_wp2_with (go_at_call 22; refine (asp_any _ _).mono ?_; rintro e w' ⟨rfl, rfl⟩)
        all_goals first
          | (exfalso; have h194 : ((s[i]'hi).toNat : Int) = 194 := by assumption
             rw [h194] at hS; simp [sp3B] at hS; done)
          | (go_quiet ((go_at_call 23; exact Calls.quiet_of_same (sp3_any _ _ _ _))); go_wp2; go_ret; exact ⟨3, rfl, by omega, by omega, _, rfl⟩)
      | false =>
        go_enter Tryd.func15, Tryd.ntmps15
        go_wp2_with (go_at_call 22; refine (asp_any _ _).mono ?_; rintro e w' ⟨rfl, rfl⟩)
        all_goals first
          | (go_ret; exact ⟨2, rfl, by omega, by omega, 0, rfl⟩)
          | (go_quiet ((go_at_call 23; exact Calls.quiet_of_same (sp3_any _ _ _ _))); go_wp2; go_ret; exact ⟨0, rfl, by omega, fun _ => pre0 s i hi hA (fun _ => by simp_all) (fun _ => hS), _, rfl⟩)
    · have hw2 : IntKind.i64.wrap ((i : Int) + 2) = (i : Int) + 2 := IntWalk.i64_in _ (by omega)
      have hd : decide ((i : Int) + 2 < (s.size : Int)) = false := by simp; omega
      go_enter Tryd.func15, Tryd.ntmps15
      go_wp2_with (go_at_call 22; refine (asp_any _ _).mono ?_; rintro e w' ⟨rfl, rfl⟩)
      all_goals first
          | (go_ret; exact ⟨2, rfl, by omega, by omega, 0, rfl⟩)
          | (go_quiet ((go_at_call 23; exact Calls.quiet_of_same (sp3_any _ _ _ _))); go_wp2; go_ret; exact ⟨0, rfl, by omega, fun _ => pre0 s i hi hA (fun _ => by first | omega | simp_all) (fun h => absurd h h2), _, rfl⟩)

theorem take_rev (s : ByteArray) (j : Nat) (hj : j < s.size) : (s.data.toList.take (j + 1)).reverse = s[j]'hj :: (s.data.toList.take j).reverse := by
  rw [List.take_succ_eq_append_getElem (by simpa using hj), List.reverse_append]; rfl

theorem suf0 (s : ByteArray) (n : Nat) (h0 : 0 < n) (hn : n ≤ s.size) (hA : aspB ((s[n - 1]'(by omega)).toNat : Int) = false)
    (h2 : ∀ h : 2 ≤ n, ((s[n - 2]'(by omega)).toNat : Int) = 194 → ¬ (((s[n - 1]'(by omega)).toNat : Int) = 133 ∨ ((s[n - 1]'(by omega)).toNat : Int) = 160))
    (h3 : ∀ h : 3 ≤ n, sp3B ((s[n - 3]'(by omega)).toNat : Int) ((s[n - 2]'(by omega)).toNat : Int) ((s[n - 1]'(by omega)).toNat : Int) = false) : Lib.tailSpace (s.data.toList.take n) = 0 := by
  match n, h0 with
  | m + 1, _ =>
    refine tail0 _ _ _ (take_rev s m (by omega)) hA ?_ ?_
    · intro c1 t' e
      match m, e with
      | 0, e => simp at e
      | k + 1, e =>
        rw [take_rev s k (by omega)] at e
        cases e
        exact h2 (by omega)
    · intro c1 c2 t' e
      match m, e with
      | 0, e => simp at e
      | 1, e => rw [take_rev s 0 (by omega)] at e; simp at e
      | k + 2, e =>
        rw [take_rev s (k + 1) (by omega), take_rev s k (by omega)] at e
        cases e
        exact h3 (by omega)

set_option maxHeartbeats 1000000 in
theorem ssuf_any (s : ByteArray) (n : Nat) (w : World) (h0 : 0 < n) (hn : n ≤ s.size) (hs : s.size ≤ 4611686018427387904) :
    Calls Tryd.prog 16 #[.string s, .int .i64 n] w fun e w' => ∃ k : Nat, e = .returned (.int .i64 k) ∧ k ≤ n ∧ (k = 0 → Lib.tailSpace (s.data.toList.take n) = 0) ∧ (∃ q, w' = w.drewN q) := by
  have h1 : n - 1 < s.size := by omega
  have hI1 : ((n : Int) - 1).toNat = n - 1 := by omega
  have hI2 : ((n : Int) - 2).toNat = n - 2 := by omega
  have hI3 : ((n : Int) - 3).toNat = n - 3 := by omega
  have hw1 : IntKind.i64.wrap ((n : Int) - 1) = (n : Int) - 1 := IntWalk.i64_in _ (by omega)
  have hw2 : IntKind.i64.wrap ((n : Int) - 2) = (n : Int) - 2 := IntWalk.i64_in _ (by omega)
  have hw3 : IntKind.i64.wrap ((n : Int) - 3) = (n : Int) - 3 := IntWalk.i64_in _ (by omega)
  cases hA : aspB ((s[n - 1]'h1).toNat : Int) with
  | true =>
    go_enter Tryd.func16, Tryd.ntmps16
    go_wp2_with (go_at_call 22; refine (asp_any _ _).mono ?_; rintro e w' ⟨rfl, rfl⟩)
    go_ret
    exact ⟨1, rfl, by omega, by omega, 0, rfl⟩
  | false =>
    by_cases h3 : 3 ≤ n
    · have hg3 : (3 : Int) ≤ (n : Int) := by omega
      have hp1 : (0 : Int) ≤ (n : Int) - 1 := by omega
      have hp2 : (0 : Int) ≤ (n : Int) - 2 := by omega
      have hp3 : (0 : Int) ≤ (n : Int) - 3 := by omega
      have hl2 : (n : Int) - 2 < (s.size : Int) := by omega
      have hl3 : (n : Int) - 3 < (s.size : Int) := by omega
      cases hS : sp3B ((s[n - 3]'(by omega)).toNat : Int) ((s[n - 2]'(by omega)).toNat : Int) ((s[n - 1]'h1).toNat : Int) with
      | true =>
        go_enter Tryd.func16, Tryd.ntmps16
        go_wp2_with (go_at_call 22; refine (asp_any _ _).mono ?_; rintro e w' ⟨rfl, rfl⟩)
        all_goals first
          | (go_ret; exact ⟨2, rfl, by omega, by omega, 0, rfl⟩)
          | (exfalso; have h194 : ((s[n - 2]'(by omega)).toNat : Int) = 194 := by assumption
             rw [h194] at hS; simp [sp3B] at hS; done)
          | (go_quiet ((go_at_call 23; exact Calls.quiet_of_same (sp3_any _ _ _ _))); go_wp2; go_ret; exact ⟨3, rfl, by omega, by omega, _, rfl⟩)
      | false =>
        have HS : Hid (sp3B ((s[n - 3]'(by omega)).toNat : Int) ((s[n - 2]'(by omega)).toNat : Int) ((s[n - 1]'h1).toNat : Int) = false) := hS
        go_enter Tryd.func16, Tryd.ntmps16
        go_wp2_with (go_at_call 22; refine (asp_any _ _).mono ?_; rintro e w' ⟨rfl, rfl⟩)
        all_goals first
          | (go_ret; exact ⟨2, rfl, by omega, by omega, 0, rfl⟩)
          | (have h194 : ((s[n - 2]'(by omega)).toNat : Int) = 194 := by assumption
             rw [h194] at hS
             go_quiet ((go_at_call 23; exact Calls.quiet_of_same (sp3_any _ _ _ _))); go_wp2; go_ret; exact ⟨0, rfl, by omega, fun _ => suf0 s n h0 hn hA (fun _ => by simp_all) (fun _ => HS.out), _, rfl⟩)
          | (go_quiet ((go_at_call 23; exact Calls.quiet_of_same (sp3_any _ _ _ _))); go_wp2; go_ret; exact ⟨0, rfl, by omega, fun _ => suf0 s n h0 hn hA (fun _ => by simp_all) (fun _ => hS), _, rfl⟩)
    · have hd : decide ((3 : Int) ≤ (n : Int)) = false := by simp; omega
      by_cases h2 : n = 2
      · subst h2
        go_enter Tryd.func16, Tryd.ntmps16
        go_wp2_with (go_at_call 22; refine (asp_any _ _).mono ?_; rintro e w' ⟨rfl, rfl⟩)
        all_goals first
          | (go_ret; exact ⟨2, rfl, by omega, by omega, 0, rfl⟩)
          | (go_quiet ((go_at_call 23; exact Calls.quiet_of_same (sp3_any _ _ _ _))); go_wp2; go_ret; exact ⟨0, rfl, by omega, fun _ => suf0 s 2 h0 hn hA (fun _ => by simp_all) (fun h => absurd h h3), _, rfl⟩)
      · have e1 : n = 1 := by omega
        subst e1
        go_enter Tryd.func16, Tryd.ntmps16
        go_wp2_with (go_at_call 22; refine (asp_any _ _).mono ?_; rintro e w' ⟨rfl, rfl⟩)
        all_goals (go_quiet ((go_at_call 23; exact Calls.quiet_of_same (sp3_any _ _ _ _))); go_wp2; go_ret; exact ⟨0, rfl, by omega, fun _ => suf0 s 1 h0 hn hA (fun h => absurd h (by omega)) (fun h => absurd h h3), _, rfl⟩)
end Go.Proofs.Qxb6600830aDoor
