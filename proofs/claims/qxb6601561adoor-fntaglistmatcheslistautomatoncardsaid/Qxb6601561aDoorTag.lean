/-
  Seat b6601561aD: the walks of etagChar, tagLength and tagList.
-/
import Derived.Test.Qxb6601561aDoorStrs
import Derived.Test.Qxb6601561aDoorPlain
import Derived.Test.Qxb6601561aDoorShelf
import Derived.Shelf.Strings.OnBuilder
import Derived.Shelf.Strings.SlTrimAscii
import Derived.Maps.AppendAt
import Derived.RangeFuncBox
namespace Go.Proofs.Qxb6601561aDoor
open Go.RowKit

theorem byte_is (c m : UInt8) : c = m ↔ c.toNat = m.toNat := UInt8.toNat_inj.symm

set_option maxHeartbeats 1000000 in
theorem etag_any (c : UInt8) (w : World) : Calls Tryd.prog 17 #[.int .u8 c.toNat] w fun e w' => e = .returned (.bool (etag c)) ∧ w' = w := by
  have e : etag c = (((c.toNat : Int) == 33) || (decide (35 ≤ (c.toNat : Int)) && decide ((c.toNat : Int) ≤ 126)) || decide (128 ≤ (c.toNat : Int))) := by
    unfold etag
    have e1 : (c == 33) = ((c.toNat : Int) == 33) := by
      by_cases h : c = 33
      · subst h; rfl
      · have : ¬ c.toNat = 33 := fun e => h ((byte_is c 33).2 e)
        rw [beq_eq_false_iff_ne.2 h, beq_eq_false_iff_ne.2 (by omega)]
    rw [e1]
    have e2 : decide (35 ≤ c.toNat) = decide (35 ≤ (c.toNat : Int)) := decide_eq_decide.2 (by omega)
    have e3 : decide (c.toNat ≤ 126) = decide ((c.toNat : Int) ≤ 126) := decide_eq_decide.2 (by omega)
    have e4 : decide (128 ≤ c.toNat) = decide (128 ≤ (c.toNat : Int)) := decide_eq_decide.2 (by omega)
    rw [e2, e3, e4]
  generalize etag c = B at *
  generalize c.toNat = x at *
  have HB : Hid (B = (((x : Int) == 33) || (decide (35 ≤ (x : Int)) && decide ((x : Int) ≤ 126)) || decide (128 ≤ (x : Int)))) := e
  clear e
  go_enter Tryd.func17, Tryd.ntmps17
  go_wp2
  all_goals (go_ret; refine ⟨?_, rfl⟩; rw [HB.out]; clear HB; first | (simp_all; done) | (rw [show decide (35 ≤ (x : Int)) = false from decide_eq_false (by omega)]; simp) | (rw [show decide (35 ≤ (x : Int)) = false from decide_eq_false (by omega)]; simp; done))

theorem drop_at (s : ByteArray) (i : Nat) (hi : i < s.size) : s.data.toList.drop i = s[i]'hi :: s.data.toList.drop (i + 1) := by
  have h : i < s.data.toList.length := by simpa using hi
  rw [List.drop_eq_getElem_cons h]
  simp [ByteArray.getElem_eq_getElem_data]
theorem drop_end (s : ByteArray) (i : Nat) (hi : s.size ≤ i) : s.data.toList.drop i = [] := List.drop_eq_nil_of_le (by simpa using hi)
theorem q_close (s : ByteArray) (i : Nat) (hi : i < s.size) (hc : s[i]'hi = 34) : quoteLen (s.data.toList.drop i) = some 1 := by
  rw [drop_at s i hi, quoteLen, if_pos hc]
theorem q_bad (s : ByteArray) (i : Nat) (hi : i < s.size) (hc : s[i]'hi ≠ 34) (hb : (s[i]'hi).toNat < 33 ∨ s[i]'hi = 127) : quoteLen (s.data.toList.drop i) = none := by
  rw [drop_at s i hi, quoteLen, if_neg hc, if_pos hb]
theorem q_on (s : ByteArray) (i : Nat) (hi : i < s.size) (hc : s[i]'hi ≠ 34) (hb : ¬ ((s[i]'hi).toNat < 33 ∨ s[i]'hi = 127)) : (quoteLen (s.data.toList.drop i)).map (fun k => i + k) = (quoteLen (s.data.toList.drop (i + 1))).map (fun k => i + 1 + k) := by
  rw [drop_at s i hi, quoteLen, if_neg hc, if_neg hb]
  cases quoteLen (s.data.toList.drop (i + 1)) <;> simp; omega
theorem q_none (s : ByteArray) (i : Nat) (hi : s.size ≤ i) : quoteLen (s.data.toList.drop i) = none := by
  rw [drop_end s i hi]; rfl
theorem len_short (s : ByteArray) (st : Nat) (h : s.size ≤ st) : lenAt st s.data.toList = 0 := by
  unfold lenAt; rw [drop_end s st h]
theorem len_not (s : ByteArray) (st : Nat) (h : st < s.size) (hc : s[st]'h ≠ 34) : lenAt st s.data.toList = 0 := by
  unfold lenAt; rw [drop_at s st h]; simp [hc]
theorem len_quote (s : ByteArray) (st : Nat) (h : st < s.size) (hc : s[st]'h = 34) : lenAt st s.data.toList = ((quoteLen (s.data.toList.drop (st + 1))).map (fun k => st + 1 + k)).getD 0 := by
  unfold lenAt; rw [drop_at s st h]; simp only [hc, if_true]
  cases quoteLen (s.data.toList.drop (st + 1)) <;> rfl

def tagRel (st : Nat) (s : ByteArray) (v : Value) : Prop := ∃ i : Nat, st + 1 ≤ i ∧ i ≤ s.size ∧ v = .int .i64 i ∧ ((quoteLen (s.data.toList.drop i)).map (fun k => i + k) = (quoteLen (s.data.toList.drop (st + 1))).map (fun k => st + 1 + k))
theorem tag_rel {st : Nat} {s : ByteArray} {v v' : Value} (h : tagRel st s v) (e : v' = v) : tagRel st s v' := by subst e; exact h

set_option maxHeartbeats 2000000 in
theorem tagLength_any (s : ByteArray) (w : World) (hs : s.size ≤ 4194304) : Calls Tryd.prog 18 #[.string s] w fun e w' => e = .returned (.int .i64 (tagLen s.data.toList)) ∧ w' = w := by
  have hpre := Tryd.strings_HasPrefix s ⟨#[87, 47]⟩ w
  cases hp : Lib.hasPrefix s.data.toList [87, 47] with
  | true =>
    have HST : Hid (tagLen s.data.toList = lenAt 2 s.data.toList) := by
      show _ = _
      unfold tagLen startOf; rw [hp]; rfl
    by_cases h1 : s.size ≤ 2
    · have hlen := HST.out.trans (len_short s 2 h1)
      rw [hlen]
      go_enter Tryd.func18, Tryd.ntmps18
      go_wp2_with (go_at_call 22; refine hpre.mono ?_; rintro e w' ⟨rfl, hw'⟩; have hw'' := hw'.symm; subst hw''; rw [show Lib.hasPrefix s.data.toList (⟨#[87, 47]⟩ : ByteArray).data.toList = true from hp])
      go_ret
      exact ⟨rfl, rfl⟩
    have h1' : 2 < s.size := by omega
    by_cases h2 : s[2]'h1' = 34
    · have HT : Hid (tagLen s.data.toList = ((quoteLen (s.data.toList.drop (2 + 1))).map (fun k => 2 + 1 + k)).getD 0) := HST.out.trans (len_quote s 2 h1' h2)
      have h2' : ((s[2]'h1').toNat : Int) = 34 := by rw [h2]; rfl
      clear h1
      generalize hTL : tagLen s.data.toList = T at *
      clear hTL HST h2
      go_enter Tryd.func18, Tryd.ntmps18
      go_wp2_with (go_at_call 22; refine hpre.mono ?_; rintro e w' ⟨rfl, hw'⟩; have hw'' := hw'.symm; subst hw''; rw [show Lib.hasPrefix s.data.toList (⟨#[87, 47]⟩ : ByteArray).data.toList = true from hp])
      go_loop [4, 5] (fun i _ => tagRel 2 s i) (fun i _ => s.size - (intOf i).toNat)
      case atStart => exact ⟨2 + 1, Nat.le_refl _, by omega, by go_num, rfl⟩
      case round =>
        obtain ⟨i, hi0, hi, rfl, hrel2⟩ := hrel
        have HR : Hid ((quoteLen (s.data.toList.drop i)).map (fun k => i + k) = (quoteLen (s.data.toList.drop (2 + 1))).map (fun k => 2 + 1 + k)) := hrel2
        clear hrel2
        by_cases hlt : i < s.size
        · by_cases hc : s[i]'hlt = 34
          · have hc' : ((s[i]'hlt).toNat : Int) = 34 := by rw [hc]; rfl
            have hT := HT.out
            rw [← HR.out, q_close s i hlt hc] at hT
            have HTT : Hid (T = i + 1) := hT
            clear hT hc
            go_wp2
            go_ret
            refine ⟨?_, rfl⟩
            rw [HTT.out]
            rfl
          · have hc' : (((s[i]'hlt).toNat : Int) == 34) = false := by
              have : ¬ (s[i]'hlt).toNat = 34 := fun e => hc ((byte_is _ 34).2 e)
              exact beq_eq_false_iff_ne.2 (by omega)
            by_cases hb : (s[i]'hlt).toNat < 33 ∨ s[i]'hlt = 127
            · have hT := HT.out
              rw [← HR.out, q_bad s i hlt hc hb] at hT
              have HTT : Hid (T = 0) := hT
              clear hT
              by_cases hb1 : (s[i]'hlt).toNat < 33
              · have hb' : ((s[i]'hlt).toNat : Int) < 33 := by omega
                clear hc hb hb1
                go_wp2
                go_ret
                refine ⟨?_, rfl⟩
                rw [HTT.out]
                rfl
              · have hb' : (33 : Int) ≤ ((s[i]'hlt).toNat : Int) := by omega
                have hb2 : ((s[i]'hlt).toNat : Int) = 127 := by
                  rcases hb with h | h
                  · exact absurd h hb1
                  · rw [h]; rfl
                clear hc hb hb1
                go_wp2
                go_ret
                refine ⟨?_, rfl⟩
                rw [HTT.out]
                rfl
            · have hR := HR.out
              rw [q_on s i hlt hc hb] at hR
              have HR2 : Hid ((quoteLen (s.data.toList.drop (i + 1))).map (fun k => i + 1 + k) = (quoteLen (s.data.toList.drop (2 + 1))).map (fun k => 2 + 1 + k)) := hR
              clear hR
              have hb' : (33 : Int) ≤ ((s[i]'hlt).toNat : Int) := by omega
              have hb2 : (((s[i]'hlt).toNat : Int) == 127) = false := by
                have : ¬ (s[i]'hlt).toNat = 127 := fun e => hb (.inr ((byte_is _ 127).2 e))
                exact beq_eq_false_iff_ne.2 (by omega)
              clear hc hb
              go_wp2
              go_round
              case rel => exact tag_rel (show tagRel 2 s (.int .i64 ((i + 1 : Nat) : Int)) from ⟨i + 1, by omega, by omega, rfl, HR2.out⟩) (by go_num)
              case measure => simp [intOf]; omega
        · have hT := HT.out
          rw [← HR.out, q_none s i (by omega)] at hT
          have HTT : Hid (T = 0) := hT
          clear hT
          go_wp2
          go_ret
          refine ⟨?_, rfl⟩
          rw [HTT.out]
          rfl
    · have hlen := HST.out.trans (len_not s 2 h1' h2)
      rw [hlen]
      have h2' : (((s[2]'h1').toNat : Int) == 34) = false := by
        have : ¬ (s[2]'h1').toNat = 34 := fun e => h2 ((byte_is _ 34).2 e)
        exact beq_eq_false_iff_ne.2 (by omega)
      have h2'' : (((s[2]'h1').toNat : Int) != 34) = true := by rw [bne, h2']; rfl
      clear h2 h1
      go_enter Tryd.func18, Tryd.ntmps18
      go_wp2_with (go_at_call 22; refine hpre.mono ?_; rintro e w' ⟨rfl, hw'⟩; have hw'' := hw'.symm; subst hw''; rw [show Lib.hasPrefix s.data.toList (⟨#[87, 47]⟩ : ByteArray).data.toList = true from hp])
      go_ret
      exact ⟨rfl, rfl⟩
  | false =>
    have HST : Hid (tagLen s.data.toList = lenAt 0 s.data.toList) := by
      show _ = _
      unfold tagLen startOf; rw [hp]; rfl
    by_cases h1 : s.size ≤ 0
    · have hlen := HST.out.trans (len_short s 0 h1)
      rw [hlen]
      obtain rfl : s = ByteArray.empty := by rw [← ByteArray.size_eq_zero_iff]; omega
      go_enter Tryd.func18, Tryd.ntmps18
      go_wp2_with (go_at_call 22; refine hpre.mono ?_; rintro e w' ⟨rfl, hw'⟩; have hw'' := hw'.symm; subst hw''; rw [show Lib.hasPrefix ByteArray.empty.data.toList (⟨#[87, 47]⟩ : ByteArray).data.toList = false from hp])
      go_ret
      exact ⟨rfl, rfl⟩
    have h1' : 0 < s.size := by omega
    have hne : ¬ s = ByteArray.empty := by rintro rfl; exact absurd h1' (by decide)
    by_cases h2 : s[0]'h1' = 34
    · have HT : Hid (tagLen s.data.toList = ((quoteLen (s.data.toList.drop (0 + 1))).map (fun k => 0 + 1 + k)).getD 0) := HST.out.trans (len_quote s 0 h1' h2)
      have h2' : ((s[0]'h1').toNat : Int) = 34 := by rw [h2]; rfl
      clear h1
      generalize hTL : tagLen s.data.toList = T at *
      clear hTL HST h2
      go_enter Tryd.func18, Tryd.ntmps18
      go_wp2_with (go_at_call 22; refine hpre.mono ?_; rintro e w' ⟨rfl, hw'⟩; have hw'' := hw'.symm; subst hw''; rw [show Lib.hasPrefix s.data.toList (⟨#[87, 47]⟩ : ByteArray).data.toList = false from hp])
      go_loop [4, 5] (fun i _ => tagRel 0 s i) (fun i _ => s.size - (intOf i).toNat)
      case atStart => exact ⟨0 + 1, Nat.le_refl _, by omega, by go_num, rfl⟩
      case round =>
        obtain ⟨i, hi0, hi, rfl, hrel2⟩ := hrel
        have HR : Hid ((quoteLen (s.data.toList.drop i)).map (fun k => i + k) = (quoteLen (s.data.toList.drop (0 + 1))).map (fun k => 0 + 1 + k)) := hrel2
        clear hrel2
        by_cases hlt : i < s.size
        · by_cases hc : s[i]'hlt = 34
          · have hc' : ((s[i]'hlt).toNat : Int) = 34 := by rw [hc]; rfl
            have hT := HT.out
            rw [← HR.out, q_close s i hlt hc] at hT
            have HTT : Hid (T = i + 1) := hT
            clear hT hc
            go_wp2
            go_ret
            refine ⟨?_, rfl⟩
            rw [HTT.out]
            rfl
          · have hc' : (((s[i]'hlt).toNat : Int) == 34) = false := by
              have : ¬ (s[i]'hlt).toNat = 34 := fun e => hc ((byte_is _ 34).2 e)
              exact beq_eq_false_iff_ne.2 (by omega)
            by_cases hb : (s[i]'hlt).toNat < 33 ∨ s[i]'hlt = 127
            · have hT := HT.out
              rw [← HR.out, q_bad s i hlt hc hb] at hT
              have HTT : Hid (T = 0) := hT
              clear hT
              by_cases hb1 : (s[i]'hlt).toNat < 33
              · have hb' : ((s[i]'hlt).toNat : Int) < 33 := by omega
                clear hc hb hb1
                go_wp2
                go_ret
                refine ⟨?_, rfl⟩
                rw [HTT.out]
                rfl
              · have hb' : (33 : Int) ≤ ((s[i]'hlt).toNat : Int) := by omega
                have hb2 : ((s[i]'hlt).toNat : Int) = 127 := by
                  rcases hb with h | h
                  · exact absurd h hb1
                  · rw [h]; rfl
                clear hc hb hb1
                go_wp2
                go_ret
                refine ⟨?_, rfl⟩
                rw [HTT.out]
                rfl
            · have hR := HR.out
              rw [q_on s i hlt hc hb] at hR
              have HR2 : Hid ((quoteLen (s.data.toList.drop (i + 1))).map (fun k => i + 1 + k) = (quoteLen (s.data.toList.drop (0 + 1))).map (fun k => 0 + 1 + k)) := hR
              clear hR
              have hb' : (33 : Int) ≤ ((s[i]'hlt).toNat : Int) := by omega
              have hb2 : (((s[i]'hlt).toNat : Int) == 127) = false := by
                have : ¬ (s[i]'hlt).toNat = 127 := fun e => hb (.inr ((byte_is _ 127).2 e))
                exact beq_eq_false_iff_ne.2 (by omega)
              clear hc hb
              go_wp2
              go_round
              case rel => exact tag_rel (show tagRel 0 s (.int .i64 ((i + 1 : Nat) : Int)) from ⟨i + 1, by omega, by omega, rfl, HR2.out⟩) (by go_num)
              case measure => simp [intOf]; omega
        · have hT := HT.out
          rw [← HR.out, q_none s i (by omega)] at hT
          have HTT : Hid (T = 0) := hT
          clear hT
          go_wp2
          go_ret
          refine ⟨?_, rfl⟩
          rw [HTT.out]
          rfl
    · have hlen := HST.out.trans (len_not s 0 h1' h2)
      rw [hlen]
      have h2' : (((s[0]'h1').toNat : Int) == 34) = false := by
        have : ¬ (s[0]'h1').toNat = 34 := fun e => h2 ((byte_is _ 34).2 e)
        exact beq_eq_false_iff_ne.2 (by omega)
      have h2'' : (((s[0]'h1').toNat : Int) != 34) = true := by rw [bne, h2']; rfl
      clear h2 h1
      go_enter Tryd.func18, Tryd.ntmps18
      go_wp2_with (go_at_call 22; refine hpre.mono ?_; rintro e w' ⟨rfl, hw'⟩; have hw'' := hw'.symm; subst hw''; rw [show Lib.hasPrefix s.data.toList (⟨#[87, 47]⟩ : ByteArray).data.toList = false from hp])
      go_ret
      exact ⟨rfl, rfl⟩
end Go.Proofs.Qxb6601561aDoor
