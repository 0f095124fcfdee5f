/-
  Seat b6601188aD: the walks of the model of a token: zzBlank, zzNumChar, zzFirstNonBlank, zzCloseQuote, zzTokenEnd, zzSameBytes.
-/
import Derived.Test.Qxb6601188aDoorBytes
namespace Go.Proofs.Qxb6601188aDoor
open Go.RowKit

theorem beq_byte (c m : UInt8) : (((c.toNat : Nat) : Int) == ((m.toNat : Nat) : Int)) = (c == m) := by
  by_cases h : c = m
  · subst h; simp
  · have : c.toNat ≠ m.toNat := fun e => h ((byte_is c m).2 e)
    rw [beq_eq_false_iff_ne.2 h, beq_eq_false_iff_ne.2 (by omega)]

def RetOpt (o : Option Nat) (w : World) (e : Ending) (w' : World) : Prop :=
  w' = w ∧ e = .returned (match o with | some x => .tuple #[.int .i64 (x : Nat), .bool true] | none => .tuple #[.int .i64 0, .bool false])

theorem blank_tab : ∀ x : Fin 256, blanks.contains (UInt8.ofNat x.val) = (((x.val : Int) == 32) || ((x.val : Int) == 9) || ((x.val : Int) == 13) || ((x.val : Int) == 10) || ((x.val : Int) == 58) || ((x.val : Int) == 44)) := by decide +kernel
theorem num_tab : ∀ x : Fin 256, nums.contains (UInt8.ofNat x.val) = (((x.val : Int) == 43) || ((x.val : Int) == 45) || (decide (48 ≤ (x.val : Int)) && decide ((x.val : Int) ≤ 57)) || ((x.val : Int) == 46) || ((x.val : Int) == 101) || ((x.val : Int) == 69)) := by decide +kernel

set_option maxHeartbeats 1000000 in
theorem blank_any (c : UInt8) (w : World) : Calls Tryd.prog 18 #[.int .u8 c.toNat] w fun e w' => e = .returned (.bool (blanks.contains c)) ∧ w' = w := by
  have e := blank_tab ⟨c.toNat, c.toNat_lt⟩
  simp only [UInt8.ofNat_toNat] at e
  generalize blanks.contains c = B at *
  generalize c.toNat = x at *
  have HB : Hid (B = (((x : Int) == 32) || ((x : Int) == 9) || ((x : Int) == 13) || ((x : Int) == 10) || ((x : Int) == 58) || ((x : Int) == 44))) := e
  clear e
  go_enter Tryd.func18, Tryd.ntmps18
  go_wp2
  all_goals (go_ret; refine ⟨?_, rfl⟩; rw [HB.out]; clear HB; simp_all)

set_option maxHeartbeats 1000000 in
theorem num_any (c : UInt8) (w : World) : Calls Tryd.prog 20 #[.int .u8 c.toNat] w fun e w' => e = .returned (.bool (nums.contains c)) ∧ w' = w := by
  have key : ∀ x : Nat, x < 256 → nums.contains (UInt8.ofNat x) = (((x : Int) == 43) || ((x : Int) == 45) || (decide (48 ≤ (x : Int)) && decide ((x : Int) ≤ 57)) || ((x : Int) == 46) || ((x : Int) == 101) || ((x : Int) == 69)) := fun x hx => num_tab ⟨x, hx⟩
  have e := key c.toNat c.toNat_lt
  rw [UInt8.ofNat_toNat] at e
  clear key
  generalize nums.contains c = B at *
  generalize c.toNat = x at *
  have HB : Hid (B = (((x : Int) == 43) || ((x : Int) == 45) || (decide (48 ≤ (x : Int)) && decide ((x : Int) ≤ 57)) || ((x : Int) == 46) || ((x : Int) == 101) || ((x : Int) == 69))) := e
  clear e
  go_enter Tryd.func20, Tryd.ntmps20
  go_wp2
  all_goals (go_ret; refine ⟨?_, rfl⟩; rw [HB.out]; clear HB; first | (simp_all; done) | (rw [show decide (48 ≤ (x : Int)) = false from decide_eq_false (by omega)]; simp))

def firstOf (bs : List UInt8) (k : Nat) : Option Nat := if k + past blanks (bs.drop k) < bs.length then some (k + past blanks (bs.drop k)) else none

theorem past_blank (cs bs : List UInt8) (q : Nat) (h : q < bs.length) (hc : cs.contains (bs.getD q 0) = true) : past cs (bs.drop q) = past cs (bs.drop (q + 1)) + 1 := by
  rw [drop_getD bs q h, past_cons, if_pos hc]
theorem past_stop (cs bs : List UInt8) (q : Nat) (h : q < bs.length) (hc : cs.contains (bs.getD q 0) = false) : past cs (bs.drop q) = 0 := by
  rw [drop_getD bs q h, past_cons, if_neg (by rw [hc]; exact Bool.false_ne_true)]
theorem past_end (cs bs : List UInt8) (q : Nat) (h : bs.length ≤ q) : past cs (bs.drop q) = 0 := by
  rw [List.drop_eq_nil_of_le h]; rfl

def FRel (n k : Nat) (bs : List UInt8) (s : Value) : Prop := ∃ q : Nat, q ≤ n ∧ s = .int .i64 q ∧ k + past blanks (bs.drop k) = q + past blanks (bs.drop q)

set_option maxHeartbeats 1000000 in
theorem first_any (n₀ n c k : Nat) (a : Option Addr) (bs : List UInt8) (w : World) (hn : bs.length = n) (hx : ByAt n₀ w a bs) (hk : k ≤ n) (hb : n ≤ 1048576) :
    Calls Tryd.prog 9 #[.slice a n c, .int .i64 k] w fun e w' => RetOpt (firstOf bs k) w e w' := by
  have HN : Hid (bs.length = n) := hn
  clear hn
  go_enter Tryd.func9, Tryd.ntmps9
  go_wp2_with fail
  go_loop [6] (fun s => FRel n k bs s) (fun s => n - (intOf s).toNat)
  case atStart => exact ⟨k, hk, rfl, rfl⟩
  case round =>
    obtain ⟨q, hq, rfl, hrel2⟩ := hrel
    have HR : Hid (k + past blanks (bs.drop k) = q + past blanks (bs.drop q)) := hrel2
    clear hrel2
    by_cases hlt : q < n
    · obtain ⟨b, off, e, hbb, hcell⟩ := hx q (by rw [HN.out]; exact hlt)
      cases e
      have hbl := blank_any (bs.getD q 0) w
      have HY := past_blank blanks bs q (by rw [HN.out]; exact hlt)
      have HZ := past_stop blanks bs q (by rw [HN.out]; exact hlt)
      generalize bs.getD q 0 = ch at *
      cases hc : blanks.contains ch with
      | true =>
        have HY' : Hid (past blanks (bs.drop q) = past blanks (bs.drop (q + 1)) + 1) := HY hc
        rw [hc] at hbl
        clear HY HZ hc
        generalize ch.toNat = x at *
        go_wp2_with (go_at_call 18; refine hbl.mono ?_; rintro e w' ⟨rfl, hw'⟩; have hw'' := hw'.symm; subst hw'')
        go_round
        case rel => exact ⟨q + 1, by omega, by go_num, by have := HR.out; have := HY'.out; omega⟩
        case measure => simp [intOf]; omega
      | false =>
        have HZ' : Hid (past blanks (bs.drop q) = 0) := HZ hc
        rw [hc] at hbl
        clear HY HZ hc
        generalize ch.toNat = x at *
        go_wp2_with (go_at_call 18; refine hbl.mono ?_; rintro e w' ⟨rfl, hw'⟩; have hw'' := hw'.symm; subst hw'')
        go_ret2
        refine ⟨rfl, ?_⟩
        have h1 := HR.out
        have h2 := HZ'.out
        unfold firstOf
        rw [HN.out, if_pos (by omega), show k + past blanks (bs.drop k) = q by omega]
        rfl
    · have e : q = n := by omega
      subst e
      go_wp2
      go_ret2
      refine ⟨rfl, ?_⟩
      have h1 := HR.out
      have h2 := past_end blanks bs q (by rw [HN.out]; exact Nat.le_refl _)
      unfold firstOf
      rw [HN.out, if_neg (by omega)]
      rfl

def CRel (n p : Nat) (bs : List UInt8) (r s : Value) : Prop := ∃ q run : Nat, p + 1 ≤ q ∧ q ≤ n ∧ run ≤ q ∧ s = .int .i64 q ∧ r = .int .i64 run ∧ (skipTo (bs.drop (p + 1))).map (fun y => p + 1 + y) = (skipE (run % 2 == 1) (bs.drop q)).map (fun y => q + y)

theorem close_rel {n p : Nat} {bs : List UInt8} {r s r' s' : Value} (h : CRel n p bs r s) (hr : r' = r) (hs : s' = s) : CRel n p bs r' s' := by subst hr hs; exact h
theorem skipE_len : ∀ (l : List UInt8) (f : Bool) (r : Nat), skipE f l = some r → r < l.length
  | [], f, r, h => by cases f <;> simp [skipE] at h
  | c :: l, true, r, h => by
    simp [skipE] at h
    obtain ⟨r', h1, h2⟩ := h
    have := skipE_len l false r' h1
    simp; omega
  | c :: l, false, r, h => by
    simp only [skipE] at h
    split at h
    · simp at h; simp; omega
    · split at h
      · simp at h
        obtain ⟨r', h1, h2⟩ := h
        have := skipE_len l true r' h1
        simp; omega
      · simp at h
        obtain ⟨r', h1, h2⟩ := h
        have := skipE_len l false r' h1
        simp; omega
theorem skip_len (bs : List UInt8) (q r : Nat) (h : skipTo (bs.drop q) = some r) : q + r < bs.length := by
  have := skipE_len _ _ _ h
  rw [List.length_drop] at this
  omega
theorem skipE_end (f : Bool) (bs : List UInt8) (q : Nat) (h : bs.length ≤ q) : skipE f (bs.drop q) = none := by
  rw [List.drop_eq_nil_of_le h]; cases f <;> rfl
theorem skipE_close (bs : List UInt8) (q : Nat) (h : q < bs.length) (hc : bs.getD q 0 = 34) : skipE false (bs.drop q) = some 0 := by
  rw [drop_getD bs q h, skipE, if_pos hc]
theorem map_step (o : Option Nat) (q : Nat) : (o.map (· + 1)).map (fun y => q + y) = o.map (fun y => q + 1 + y) := by
  cases o <;> simp; omega
theorem skipE_true (bs : List UInt8) (q : Nat) (h : q < bs.length) : (skipE true (bs.drop q)).map (fun y => q + y) = (skipE false (bs.drop (q + 1))).map (fun y => q + 1 + y) := by
  rw [drop_getD bs q h, skipE, map_step]
theorem skipE_back (bs : List UInt8) (q : Nat) (h : q < bs.length) (hc : bs.getD q 0 = 92) : (skipE false (bs.drop q)).map (fun y => q + y) = (skipE true (bs.drop (q + 1))).map (fun y => q + 1 + y) := by
  rw [drop_getD bs q h, hc, skipE, if_neg (by decide), if_pos rfl, map_step]
theorem skipE_plain (bs : List UInt8) (q : Nat) (h : q < bs.length) (h1 : bs.getD q 0 ≠ 34) (h2 : bs.getD q 0 ≠ 92) : (skipE false (bs.drop q)).map (fun y => q + y) = (skipE false (bs.drop (q + 1))).map (fun y => q + 1 + y) := by
  rw [drop_getD bs q h, skipE, if_neg h1, if_neg h2, map_step]

/-- One round: run r becomes r'. -/
theorem close_next (bs : List UInt8) (q run run' : Nat) (h : q < bs.length) (hnot : ¬ (bs.getD q 0 = 34 ∧ run % 2 = 0)) (hr : run' = if bs.getD q 0 = 92 then run + 1 else 0) :
    (skipE (run % 2 == 1) (bs.drop q)).map (fun y => q + y) = (skipE (run' % 2 == 1) (bs.drop (q + 1))).map (fun y => q + 1 + y) := by
  by_cases hodd : run % 2 = 1
  · have e1 : (run % 2 == 1) = true := by simp [hodd]
    have e2 : (run' % 2 == 1) = false := by
      rw [hr]; split
      · simp; omega
      · rfl
    rw [e1, e2, skipE_true bs q h]
  · have e1 : (run % 2 == 1) = false := by simp; omega
    rw [e1]
    by_cases hb : bs.getD q 0 = 92
    · have e2 : (run' % 2 == 1) = true := by rw [hr, if_pos hb]; simp; omega
      rw [e2, skipE_back bs q h hb]
    · have e2 : (run' % 2 == 1) = false := by rw [hr, if_neg hb]; rfl
      rw [e2, skipE_plain bs q h (fun e => hnot ⟨e, by omega⟩) hb]

set_option maxHeartbeats 1000000 in
theorem close_any (n₀ n c p : Nat) (a : Option Addr) (bs : List UInt8) (w : World) (hn : bs.length = n) (hx : ByAt n₀ w a bs) (hp : p < n) (hb : n ≤ 1048576) :
    Calls Tryd.prog 19 #[.slice a n c, .int .i64 p] w fun e w' => RetOpt ((skipTo (bs.drop (p + 1))).map (fun y => p + 1 + y)) w e w' := by
  have HN : Hid (bs.length = n) := hn
  clear hn
  go_enter Tryd.func19, Tryd.ntmps19
  go_wp2_with fail
  go_loop [6, 7, 8] (fun r s _ => CRel n p bs r s) (fun _ s _ => n - (intOf s).toNat)
  case atStart => exact ⟨p + 1, 0, Nat.le_refl _, by omega, by omega, by go_num, rfl, rfl⟩
  case round =>
    obtain ⟨q, run, hq0, hq, hrun, rfl, rfl, hrel2⟩ := hrel
    have HR : Hid ((skipTo (bs.drop (p + 1))).map (fun y => p + 1 + y) = (skipE (run % 2 == 1) (bs.drop q)).map (fun y => q + y)) := hrel2
    clear hrel2
    by_cases hlt : q < n
    · have hql : q < bs.length := by rw [HN.out]; exact hlt
      obtain ⟨b, off, e, hbb, hcell⟩ := hx q hql
      cases e
      generalize hC : bs.getD q 0 = ch at *
      have HC : Hid (bs.getD q 0 = ch) := hC
      clear hC
      generalize hX : ch.toNat = x at hcell
      have HX : Hid (ch.toNat = x) := hX
      clear hX
      have htm : (run : Int).tmod 2 = ((run % 2 : Nat) : Int) := by rw [Int.tmod_eq_emod_of_nonneg (by omega)]; omega
      by_cases t1 : ((x : Int) == 34) = true
      · have hc34 : bs.getD q 0 = 34 := by rw [HC.out, byte_is, HX.out]; simp at t1; show x = 34; omega
        have hc92 : bs.getD q 0 ≠ 92 := by rw [hc34]; decide
        by_cases hev : run % 2 = 0
        · rw [hev] at htm
          have h1 := skipE_close bs q hql hc34
          have h0 := HR.out
          rw [show (run % 2 == 1) = false by simp [hev], h1] at h0
          have HR2 : Hid ((skipTo (bs.drop (p + 1))).map (fun y => p + 1 + y) = some q) := h0
          clear h1 h0 hc34 hc92
          go_wp2
          go_ret2
          refine ⟨rfl, ?_⟩
          rw [HR2.out]
          rfl
        · have hodd : run % 2 = 1 := by omega
          rw [hodd] at htm
          have h1 := close_next bs q run 0 hql (fun h => hev h.2) (by rw [if_neg hc92])
          rw [← HR.out] at h1
          have HR2 : Hid ((skipTo (bs.drop (p + 1))).map (fun y => p + 1 + y) = (skipE (0 % 2 == 1) (bs.drop (q + 1))).map (fun y => q + 1 + y)) := h1
          clear h1 hc34 hc92
          go_wp2
          go_round
          case rel => exact close_rel (show CRel n p bs (.int .i64 ((0 : Nat) : Int)) (.int .i64 ((q + 1 : Nat) : Int)) from ⟨q + 1, 0, by omega, by omega, by omega, rfl, rfl, HR2.out⟩) (by go_num) (by go_num)
          case measure => simp [intOf]; omega
      · have t2 : ((x : Int) == 34) = false := by simpa using t1
        clear t1
        have hc34 : bs.getD q 0 ≠ 34 := by rw [HC.out, Ne, byte_is, HX.out]; simp at t2; show ¬ x = 34; omega
        by_cases t3 : ((x : Int) == 92) = true
        · have hc92 : bs.getD q 0 = 92 := by rw [HC.out, byte_is, HX.out]; simp at t3; show x = 92; omega
          have h1 := close_next bs q run (run + 1) hql (fun h => hc34 h.1) (by rw [if_pos hc92])
          rw [← HR.out] at h1
          have HR2 : Hid ((skipTo (bs.drop (p + 1))).map (fun y => p + 1 + y) = (skipE ((run + 1) % 2 == 1) (bs.drop (q + 1))).map (fun y => q + 1 + y)) := h1
          clear h1 hc34 hc92
          go_wp2
          go_round
          case rel => exact close_rel (show CRel n p bs (.int .i64 ((run + 1 : Nat) : Int)) (.int .i64 ((q + 1 : Nat) : Int)) from ⟨q + 1, run + 1, by omega, by omega, by omega, rfl, rfl, HR2.out⟩) (by go_num) (by go_num)
          case measure => simp [intOf]; omega
        · have t4 : ((x : Int) == 92) = false := by simpa using t3
          clear t3
          have hc92 : bs.getD q 0 ≠ 92 := by rw [HC.out, Ne, byte_is, HX.out]; simp at t4; show ¬ x = 92; omega
          have h1 := close_next bs q run 0 hql (fun h => hc34 h.1) (by rw [if_neg hc92])
          rw [← HR.out] at h1
          have HR2 : Hid ((skipTo (bs.drop (p + 1))).map (fun y => p + 1 + y) = (skipE (0 % 2 == 1) (bs.drop (q + 1))).map (fun y => q + 1 + y)) := h1
          clear h1 hc34 hc92
          go_wp2
          go_round
          case rel => exact close_rel (show CRel n p bs (.int .i64 ((0 : Nat) : Int)) (.int .i64 ((q + 1 : Nat) : Int)) from ⟨q + 1, 0, by omega, by omega, by omega, rfl, rfl, HR2.out⟩) (by go_num) (by go_num)
          case measure => simp [intOf]; omega
    · have e : q = n := by omega
      subst e
      go_wp2
      go_ret2
      refine ⟨rfl, ?_⟩
      rw [HR.out, skipE_end _ _ _ (by rw [HN.out]; exact Nat.le_refl _)]
      rfl

def NRel (n p : Nat) (bs : List UInt8) (s : Value) : Prop := ∃ q : Nat, p ≤ q ∧ q ≤ n ∧ s = .int .i64 q ∧ p + past nums (bs.drop p) = q + past nums (bs.drop q)
theorem num_rel {n p : Nat} {bs : List UInt8} {s s' : Value} (h : NRel n p bs s) (hs : s' = s) : NRel n p bs s' := by subst hs; exact h

theorem tokIs_brack {bs : List UInt8} {p x : Nat} (hx : (bs.getD p 0).toNat = x) (h : x = 123 ∨ x = 125 ∨ x = 91 ∨ x = 93) : tokEnd bs p = some (p + 1) := by
  unfold tokEnd
  simp only [byte_is, hx]
  exact if_pos h
theorem tokIs_quote {bs : List UInt8} {p x : Nat} (hx : (bs.getD p 0).toNat = x) (h : x = 34) : tokEnd bs p = (skipTo (bs.drop (p + 1))).map (fun r => p + r + 2) := by
  unfold tokEnd
  simp only [byte_is, hx]
  rw [if_neg (by subst h; decide)]
  exact if_pos h
theorem tokIs_four {bs : List UInt8} {p x : Nat} (hx : (bs.getD p 0).toNat = x) (h : x = 116 ∨ x = 110) : tokEnd bs p = if bs.length < p + 4 then none else some (p + 4) := by
  unfold tokEnd
  simp only [byte_is, hx]
  rw [if_neg (by rcases h with rfl | rfl <;> decide), if_neg (by rcases h with rfl | rfl <;> decide)]
  exact if_pos h
theorem tokIs_five {bs : List UInt8} {p x : Nat} (hx : (bs.getD p 0).toNat = x) (h : x = 102) : tokEnd bs p = if bs.length < p + 5 then none else some (p + 5) := by
  unfold tokEnd
  simp only [byte_is, hx]
  rw [if_neg (by subst h; decide), if_neg (by subst h; decide), if_neg (by subst h; decide)]
  exact if_pos h
theorem tokIs_num {bs : List UInt8} {p x : Nat} (hx : (bs.getD p 0).toNat = x) (h1 : ¬ (x = 123 ∨ x = 125 ∨ x = 91 ∨ x = 93)) (h2 : x ≠ 34) (h3 : ¬ (x = 116 ∨ x = 110)) (h4 : x ≠ 102) : tokEnd bs p = some (p + past nums (bs.drop p)) := by
  unfold tokEnd
  simp only [byte_is, hx]
  exact (if_neg h1).trans ((if_neg h2).trans ((if_neg h3).trans (if_neg h4)))

set_option maxHeartbeats 2000000 in
theorem tok_any (n₀ n c p : Nat) (a : Option Addr) (bs : List UInt8) (w : World) (hn : bs.length = n) (hx : ByAt n₀ w a bs) (hp : p < n) (hb : n ≤ 1048576) :
    Calls Tryd.prog 10 #[.slice a n c, .int .i64 p] w fun e w' => RetOpt (tokEnd bs p) w e w' := by
  have hcl := close_any n₀ n c p a bs w hn hx hp hb
  have HN : Hid (bs.length = n) := hn
  have HXX : Hid (ByAt n₀ w a bs) := hx
  obtain ⟨b, off, e, hbb, hcell⟩ := hx p (by omega)
  subst e
  generalize hX : (bs.getD p 0).toNat = x at hcell
  have HX : Hid ((bs.getD p 0).toNat = x) := hX
  clear hX hx hn
  go_enter Tryd.func10, Tryd.ntmps10
  go_wp2_with fail
  · go_ret2
    refine ⟨rfl, ?_⟩
    rw [tokIs_brack HX.out (by have := ‹((x : Int) == 123) = true›; simp at this; omega)]
    rfl
  · go_ret2
    refine ⟨rfl, ?_⟩
    rw [tokIs_brack HX.out (by have := ‹((x : Int) == 125) = true›; simp at this; omega)]
    rfl
  · go_ret2
    refine ⟨rfl, ?_⟩
    rw [tokIs_brack HX.out (by have := ‹((x : Int) == 91) = true›; simp at this; omega)]
    rfl
  · go_ret2
    refine ⟨rfl, ?_⟩
    rw [tokIs_brack HX.out (by have := ‹((x : Int) == 93) = true›; simp at this; omega)]
    rfl
  · have HT : Hid (tokEnd bs p = (skipTo (bs.drop (p + 1))).map (fun r => p + r + 2)) := tokIs_quote HX.out (by have := ‹((x : Int) == 34) = true›; simp at this; omega)
    refine hcl.mono ?_
    rintro e w' ⟨hw', rfl⟩
    have hw'' := hw'.symm
    subst hw''
    have hin := fun r => skip_len bs (p + 1) r
    cases hs : skipTo (bs.drop (p + 1)) with
    | none =>
      rw [hs] at HT
      clear hs hin hcl
      go_wp2
      go_ret2
      refine ⟨rfl, ?_⟩
      rw [HT.out]
      rfl
    | some r =>
      have hr := hin r hs
      rw [HN.out] at hr
      rw [hs] at HT
      clear hs hin hcl
      simp only [Option.map_some]
      go_wp2
      go_ret2
      refine ⟨rfl, ?_⟩
      rw [HT.out]
      refine congrArg Ending.returned ?_
      show Value.tuple #[Value.int .i64 _, .bool true] = Value.tuple #[Value.int .i64 _, .bool true]
      congr 3
      simp
      omega
  · go_ret2
    refine ⟨rfl, ?_⟩
    rw [tokIs_four HX.out (by have := ‹((x : Int) == 116) = true›; simp at this; omega), HN.out, if_pos (by omega)]
    rfl
  · go_ret2
    refine ⟨rfl, ?_⟩
    rw [tokIs_four HX.out (by have := ‹((x : Int) == 116) = true›; simp at this; omega), HN.out, if_neg (by omega)]
    rfl
  · go_ret2
    refine ⟨rfl, ?_⟩
    rw [tokIs_four HX.out (by have := ‹((x : Int) == 110) = true›; simp at this; omega), HN.out, if_pos (by omega)]
    rfl
  · go_ret2
    refine ⟨rfl, ?_⟩
    rw [tokIs_four HX.out (by have := ‹((x : Int) == 110) = true›; simp at this; omega), HN.out, if_neg (by omega)]
    rfl
  · go_ret2
    refine ⟨rfl, ?_⟩
    rw [tokIs_five HX.out (by have := ‹((x : Int) == 102) = true›; simp at this; omega), HN.out, if_pos (by omega)]
    rfl
  · go_ret2
    refine ⟨rfl, ?_⟩
    rw [tokIs_five HX.out (by have := ‹((x : Int) == 102) = true›; simp at this; omega), HN.out, if_neg (by omega)]
    rfl
  · have HT : Hid (tokEnd bs p = some (p + past nums (bs.drop p))) := tokIs_num HX.out (by have t1 := ‹((x : Int) == 123) = false›; have t2 := ‹((x : Int) == 125) = false›; have t3 := ‹((x : Int) == 91) = false›; have t4 := ‹((x : Int) == 93) = false›; simp at t1 t2 t3 t4; omega)
      (by have t1 := ‹((x : Int) == 34) = false›; simp at t1; omega) (by have t1 := ‹((x : Int) == 116) = false›; have t2 := ‹((x : Int) == 110) = false›; simp at t1 t2; omega) (by have t1 := ‹((x : Int) == 102) = false›; simp at t1; omega)
    have T123 : Hid (((x : Int) == 123) = false) := ‹((x : Int) == 123) = false›
    have T125 : Hid (((x : Int) == 125) = false) := ‹((x : Int) == 125) = false›
    have T91 : Hid (((x : Int) == 91) = false) := ‹((x : Int) == 91) = false›
    have T93 : Hid (((x : Int) == 93) = false) := ‹((x : Int) == 93) = false›
    have T34 : Hid (((x : Int) == 34) = false) := ‹((x : Int) == 34) = false›
    have T116 : Hid (((x : Int) == 116) = false) := ‹((x : Int) == 116) = false›
    have T110 : Hid (((x : Int) == 110) = false) := ‹((x : Int) == 110) = false›
    have T102 : Hid (((x : Int) == 102) = false) := ‹((x : Int) == 102) = false›
    simp only [T123.out, T125.out, T91.out, T93.out, T34.out, T116.out, T110.out, T102.out]
    go_loop [8] (fun s => NRel n p bs s) (fun s => n - (intOf s).toNat)
    case atStart => exact ⟨p, Nat.le_refl _, by omega, rfl, rfl⟩
    case round =>
      obtain ⟨q, hpq, hq, rfl, hrel2⟩ := hrel
      have HR : Hid (p + past nums (bs.drop p) = q + past nums (bs.drop q)) := hrel2
      clear hrel2 hcl
      by_cases hlt : q < n
      · obtain ⟨b2, off2, e2, hbb2, hcell2⟩ := HXX.out q (by rw [HN.out]; exact hlt)
        cases e2
        have hnum := num_any (bs.getD q 0) w
        have HY := past_blank nums bs q (by rw [HN.out]; exact hlt)
        have HZ := past_stop nums bs q (by rw [HN.out]; exact hlt)
        generalize bs.getD q 0 = ch at *
        cases hc : nums.contains ch with
        | true =>
          have HY' : Hid (past nums (bs.drop q) = past nums (bs.drop (q + 1)) + 1) := HY hc
          rw [hc] at hnum
          clear HY HZ hc
          generalize ch.toNat = y at *
          go_wp2_with (go_at_call 20; refine hnum.mono ?_; rintro e w' ⟨rfl, hw'⟩; have hw'' := hw'.symm; subst hw'')
          go_round
          case rel =>
            have hr : NRel n p bs (.int .i64 ((q : Int) + 1)) := num_rel (show NRel n p bs (.int .i64 ((q + 1 : Nat) : Int)) from ⟨q + 1, by omega, by omega, rfl, by have := HR.out; have := HY'.out; omega⟩) (by go_num)
            exact hr
          case measure => simp [intOf]; omega
        | false =>
          have HZ' : Hid (past nums (bs.drop q) = 0) := HZ hc
          rw [hc] at hnum
          clear HY HZ hc
          generalize ch.toNat = y at *
          go_wp2_with (go_at_call 20; refine hnum.mono ?_; rintro e w' ⟨rfl, hw'⟩; have hw'' := hw'.symm; subst hw'')
          go_ret2
          refine ⟨rfl, ?_⟩
          have h1 := HR.out
          have h2 := HZ'.out
          rw [HT.out, show p + past nums (bs.drop p) = q by omega]
          rfl
      · have e : q = n := by omega
        subst e
        go_wp2
        go_ret2
        refine ⟨rfl, ?_⟩
        have h1 := HR.out
        have h2 := past_end nums bs q (by rw [HN.out]; exact Nat.le_refl _)
        rw [HT.out, show p + past nums (bs.drop p) = q by omega]
        rfl

set_option maxHeartbeats 1000000 in
/-- zzSameBytes at two slices of the same bytes: true. -/
theorem same_any (n₀ : Nat) (a a2 : Option Addr) (xs : List UInt8) (n c c2 : Nat) (w : World) (hn : xs.length = n) (hx : ByAt n₀ w a xs) (hy : ByAt n₀ w a2 xs) (hxl : n ≤ 1048576) :
    Calls Tryd.prog 12 #[.slice a n c, .slice a2 n c2] w fun e w' => e = .returned (.bool true) ∧ ∃ q, w' = w.drewN q := by
  have HN : Hid (xs.length = n) := hn
  clear hn
  go_enter Tryd.func12, Tryd.ntmps12
  go_wp2_with fail
  go_loopw [5] (fun i wr => ∃ k q : Nat, k ≤ n ∧ i = .int .i64 k ∧ wr = w.drewN q) (fun i _ => n - (intOf i).toNat)
  case atStart => exact ⟨0, 0, Nat.zero_le _, rfl, rfl⟩
  case round =>
    obtain ⟨k, q, hk, rfl, rfl⟩ := hrel
    by_cases hlt : k < n
    · obtain ⟨b, off, e, hb, hcell⟩ := hx k (by rw [HN.out]; exact hlt)
      obtain ⟨b2, off2, e2, hb2, hcell2⟩ := hy k (by rw [HN.out]; exact hlt)
      cases e
      cases e2
      generalize (xs.getD k 0).toNat = x at *
      go_wp2_with fail
      go_quiet (fail)
      go_wp2
      go_roundw
      case rel => exact ⟨k + 1, _, by omega, by go_num, rfl⟩
      case measure => simp [intOf]; omega
    · have e : k = n := by omega
      subst e
      go_wp2
      go_ret
      exact ⟨rfl, q, rfl⟩
end Go.Proofs.Qxb6601188aDoor
