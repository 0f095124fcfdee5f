/-
  Seat b6600830aD: the walks of zzTrim, zzCleanName.
-/
import Derived.Test.Qxb6600830aDoorSp
import Derived.Lib.IndexBytes
namespace Go.Proofs.Qxb6600830aDoor
open Go.RowKit

theorem size_extract' (s : ByteArray) (a b : Nat) (h : b ≤ s.size) : (s.extract a b).size = b - a := by
  rw [Lib.size_eq, Lib.extract_data, List.length_take, List.length_drop, ← Lib.size_eq]; omega

theorem trim_close {s t : ByteArray} {k m : Nat} (hk : k ≤ s.size) (ht : t.size = s.size - k) (hte : k = 0 → t = s) (hm : m ≤ t.size) (hh : k = 0 → 0 < s.size → Lib.headSpace s.data.toList = 0)
    (hz : 0 < m → Lib.tailSpace (t.data.toList.take m) = 0) : t.extract 0 m = s → 0 < s.size → Lib.headSpace s.data.toList = 0 ∧ Lib.tailSpace s.data.toList = 0 := by
  intro e h0
  have e1 := congrArg ByteArray.size e
  rw [size_extract' t 0 m hm] at e1
  have hk0 : k = 0 := by omega
  have := hte hk0
  subst this
  refine ⟨hh hk0 h0, ?_⟩
  have h := hz (by omega)
  rwa [List.take_of_length_le (by rw [← Lib.size_eq]; omega)] at h

theorem extract_all (s : ByteArray) : s.extract 0 s.size = s := by
  apply ByteArray.ext
  apply Array.toList_inj.1
  rw [Lib.extract_data, List.drop_zero, List.take_of_length_le (by rw [← Lib.size_eq]; omega)]

set_option maxHeartbeats 1000000 in
/-- zzTrim: what it hands back is no longer than s; as long only where no white space stands at either end. -/
theorem trim_any (s : ByteArray) (w : World) (hs : s.size ≤ 4611686018427387904) :
    Calls Tryd.prog 11 #[.string s] w fun e w' => ∃ t : ByteArray, e = .returned (.string t) ∧ (t = s → 0 < s.size → Lib.headSpace s.data.toList = 0 ∧ Lib.tailSpace s.data.toList = 0) ∧ (∃ n, w' = w.drewN n) := by
  go_enter Tryd.func11, Tryd.ntmps11
  go_wp2
  go_loopw [3] (fun lo wr => ∃ k : Nat, k ≤ s.size ∧ lo = .int .i64 k ∧ ∃ q, wr = w.drewN q) (fun lo _ => s.size - (intOf lo).toNat)
  case atStart => exact ⟨0, Nat.zero_le _, rfl, 0, rfl⟩
  case round =>
    obtain ⟨k, hk, rfl, q, rfl⟩ := hrel
    have hts : (s.extract k s.size).size = s.size - k := size_extract' s k s.size (Nat.le_refl _)
    have HE : Hid (k = 0 → s.extract k s.size = s) := fun e => by subst e; exact extract_all s
    by_cases hlt : k < s.size
    · go_wp2_with fail
      refine (spre_any s k _ hlt hs).mono ?_
      rintro e w1 ⟨m, rfl, hm, hz, q1, rfl⟩
      by_cases hm0 : m = 0
      · subst hm0
        have Hz : Hid (k = 0 → 0 < s.size → Lib.headSpace s.data.toList = 0) := fun e _ => by subst e; simpa using hz rfl
        clear hz
        go_wp2_with fail
        generalize s.extract k s.size = t at hts HE
        go_loopw [6] (fun hi wr => ∃ m : Nat, m ≤ t.size ∧ hi = .int .i64 m ∧ ∃ q, wr = w.drewN q) (fun hi _ => (intOf hi).toNat)
        case atStart => exact ⟨s.size - k, by omega, rfl, _, rfl⟩
        case round =>
          obtain ⟨m, hmt, rfl, q2, rfl⟩ := hrel
          by_cases hm0 : 0 < m
          · go_wp2_with fail
            refine (ssuf_any t m _ hm0 hmt (by omega)).mono ?_
            rintro e w1 ⟨j, rfl, hj, hz, q3, rfl⟩
            by_cases hj0 : j = 0
            · subst hj0
              have Hz2 : Hid (0 < m → Lib.tailSpace (t.data.toList.take m) = 0) := fun _ => hz rfl
              clear hz
              go_wp2_with fail
              go_ret
              exact ⟨_, rfl, trim_close hk hts HE.out hmt Hz.out Hz2.out, _, rfl⟩
            · clear hz
              go_wp2_with fail
              go_roundw
              case rel => exact ⟨m - j, by omega, by go_num, _, rfl⟩
              case measure => simp [intOf]; omega
          · go_wp2_with fail
            go_ret
            exact ⟨_, rfl, trim_close hk hts HE.out hmt Hz.out (fun h => absurd h hm0), _, rfl⟩
      · clear hz
        go_wp2_with fail
        go_roundw
        case rel => exact ⟨k + m, by omega, by go_num, _, rfl⟩
        case measure => simp [intOf]; omega
    · have Hz : Hid (k = 0 → 0 < s.size → Lib.headSpace s.data.toList = 0) := fun e h => by omega
      go_wp2_with fail
      generalize s.extract k s.size = t at hts HE
      go_loopw [6] (fun hi wr => ∃ m : Nat, m ≤ t.size ∧ hi = .int .i64 m ∧ ∃ q, wr = w.drewN q) (fun hi _ => (intOf hi).toNat)
      case atStart => exact ⟨s.size - k, by omega, rfl, _, rfl⟩
      case round =>
          obtain ⟨m, hmt, rfl, q2, rfl⟩ := hrel
          have hm0 : ¬ 0 < m := by omega
          go_wp2_with fail
          go_ret
          exact ⟨_, rfl, trim_close hk hts HE.out hmt Hz.out (fun h => absurd h hm0), _, rfl⟩

def noComma (s : ByteArray) (k : Nat) : Prop := ∀ j (h : j < s.size), j < k → (s[j]'h) ≠ 44

theorem comma_mem (s : ByteArray) (h : noComma s s.size) : (44 : UInt8) ∉ s.data.toList := by
  intro hm
  obtain ⟨i, hi, e⟩ := List.getElem_of_mem hm
  have hi' : i < s.size := by simpa using hi
  exact h i hi' hi' e

/-- What zzCleanName hands back. -/
def RetClean (s : ByteArray) (w : World) (e : Ending) (w' : World) : Prop := ∃ b : Bool, e = .returned (.bool b) ∧ (b = true → Clean s.data.toList) ∧ (∃ n, w' = w.drewN n)

set_option maxHeartbeats 1000000 in
/-- zzCleanName: true only at a clean name. -/
theorem clean_any (s : ByteArray) (w : World) (hs : s.size ≤ 4611686018427387904) :
    Calls Tryd.prog 7 #[.string s] w fun e w' => RetClean s w e w' := by
  by_cases h0 : s.size = 0
  · go_enter Tryd.func7, Tryd.ntmps7
    go_wp2_with fail
    go_ret
    exact ⟨false, rfl, by simp, 0, rfl⟩
  · have h0' : 0 < s.size := by omega
    go_enter Tryd.func7, Tryd.ntmps7
    go_wp2_with fail
    go_loop [3] (fun i => ∃ k : Nat, k ≤ s.size ∧ i = .int .i64 k ∧ Hid (noComma s k)) (fun i => s.size - (intOf i).toNat)
    case atStart => exact ⟨0, Nat.zero_le _, rfl, fun j _ h => absurd h (by omega)⟩
    case round =>
      obtain ⟨k, hk, rfl, hno⟩ := hrel
      by_cases hlt : k < s.size
      · by_cases hc : s[k]'hlt = 44
        · have hc' : ((s[k]'hlt).toNat : Int) = 44 := by rw [hc]; rfl
          have Hc : Hid (s[k]'hlt = 44) := hc
          clear hc
          go_wp2_with fail
          go_ret
          exact ⟨false, rfl, by simp, 0, rfl⟩
        · have hc' : (((s[k]'hlt).toNat : Int) == 44) = false := by
            rw [beq_eq_false_iff_ne]
            intro e
            exact hc (UInt8.toNat_inj.1 (by simpa using (Int.ofNat_inj.1 e)))
          have Hc : Hid (s[k]'hlt ≠ 44) := hc
          clear hc
          go_wp2_with fail
          go_round
          case rel =>
            refine ⟨k + 1, by omega, by go_num, fun j h hj => ?_⟩
            by_cases e : j = k
            · subst e; exact Hc.out
            · exact hno.out j h (by omega)
          case measure => simp [intOf]; omega
      · have e : k = s.size := by omega
        have Hno : Hid ((44 : UInt8) ∉ s.data.toList) := comma_mem s (by subst e; exact hno.out)
        clear hno
        go_wp2_with fail
        refine (trim_any s _ hs).mono ?_
        rintro e w1 ⟨t, rfl, ht, q, rfl⟩
        have Ht : Hid (t = s → 0 < s.size → Lib.headSpace s.data.toList = 0 ∧ Lib.tailSpace s.data.toList = 0) := ht
        clear ht
        go_wp2_with fail
        go_ret
        refine ⟨_, rfl, fun hb => ?_, q, rfl⟩
        have hts : t = s := by
          have h := eq_of_beq hb
          rw [ByteArray.toList_eq, ByteArray.toList_eq] at h
          exact WideShapes.bytes_inj h
        obtain ⟨h1, h2⟩ := Ht.out hts h0'
        refine ⟨fun e => ?_, Hno.out, h1, h2⟩
        have h3 := congrArg List.length e
        rw [← Lib.size_eq] at h3
        exact h0 (by simpa using h3)
end Go.Proofs.Qxb6600830aDoor
