/-
  Seat b6601561aD: the walk of FnTagListMatchesListAutomaton.
-/
import Derived.Test.Qxb6601561aDoorModel
namespace Go.Proofs.Qxb6601561aDoor
open Go.RowKit

def Done (w : World) (e : Ending) (w' : World) : Prop := e = .returned (.bool true) ∧ Below w.heap.size w w'

theorem join_len (xs : List ByteArray) (h : xs.length + sumL xs ≤ 1048576) : (joinOf xs).length ≤ 4194304 := by
  have := J_len xs xs.length (Nat.le_refl _)
  rw [List.take_length, join_J] at this
  omega

theorem auto_count : ∀ (l : List UInt8) (st : Nat) (cur : List UInt8) (out ts : List (List UInt8)), auto l st cur out = some ts → ts.length ≤ out.length + l.length
  | [], st, cur, out, ts, h => by
    unfold auto at h
    split at h
    · cases h
    · cases h; simp
  | c :: l, st, cur, out, ts, h => by
    have ih := auto_count l
    rw [List.length_cons]
    unfold auto at h
    repeat' split at h
    all_goals first
      | (cases h; done)
      | (have := ih _ _ _ _ h; omega)
      | (have := ih _ _ _ _ h; simp at this; omega)
theorem tags_count (xs : List ByteArray) (h : xs.length + sumL xs ≤ 1048576) : (tagsOf (joinOf xs)).length ≤ 1048576 := by
  have := J_len xs xs.length (Nat.le_refl _)
  rw [List.take_length, join_J] at this
  unfold tagsOf resOf
  split
  · simp
  · cases ha : auto (joinOf xs) 0 [] [] with
    | none => simp
    | some ts =>
      have h2 := auto_count _ _ _ _ _ ha
      simp at h2 ⊢
      omega

set_option maxHeartbeats 2000000 in
theorem law_any (a : Option Addr) (xs : List ByteArray) (c : Nat) (w : World) (hx : StrAt w.heap.size w a xs) (hxl : xs.length ≤ 9223372036854775807) (hnil : a = none → xs.length = 0) :
    Calls Tryd.prog 3 #[.slice a xs.length c] w fun e w' => Done w e w' := by
  have q22 : ∀ (w : World) (a : Option Addr) (n c n' c' : Nat), (binOp .eql 22 (.slice a n c) (.slice none n' c')).run Tryd.prog w = .ok (.bool a.isNone) w := fun w a n c n' c' => Lib.run_eql_slice_nil w _ _ a n c n' c' Tryd.underlying22
  have hbys := bytes_any w.heap.size a xs c w hx hxl
  have hfit := fit_any w.heap.size a xs c w hx
  have hcl := clone_any w.heap.size a xs c w hx (Nat.le_refl _)
  clear hx
  have hlist := fun (a1 : Option Addr) (c1 : Nat) (w1 : World) (hx : StrAt w1.heap.size w1 a1 xs) (hc : xs.length ≤ c1) => zztagList_any a1 xs c1 w1 hx hc
  have hmod := fun (a1 : Option Addr) (c1 : Nat) (w1 : World) (hx : StrAt w1.heap.size w1 a1 xs) => model_any a1 xs c1 w1 hx
  have hjl := join_len xs
  have htc := tags_count xs
  generalize tagsOf (joinOf xs) = ts at *
  generalize hG : xs.length = n at *
  have HG : Hid (xs.length = n) := hG
  clear hG
  go_enter Tryd.func3, Tryd.ntmps3
  go_wp2_with fail
  refine hbys.mono ?_
  rintro e w' ⟨b, rfl, hb, hw'⟩
  have hw'' := hw'.symm
  subst hw''
  cases b with
  | false =>
    go_wp2
    go_ret
    exact ⟨rfl, Below.refl _ _⟩
  | true =>
    have hs := hb rfl
    rw [HG.out] at hs
    have hj := hjl hs
    have ht := htc hs
    clear hb hbys hjl htc
    go_wp2_with fail
    refine (hfit (by omega)).mono ?_
    rintro e w' ⟨b, rfl, hw2⟩
    have hw2'' := hw2.symm
    subst hw2''
    clear hfit
    cases b with
    | false =>
      go_wp2
      go_ret
      exact ⟨rfl, Below.refl _ _⟩
    | true =>
      go_wp2_with fail
      refine (hcl (by omega) hnil).mono ?_
      rintro e w1 ⟨a1, c1, rfl, hc1, hx1, hb1⟩
      rw [HG.out] at hc1 ⊢
      clear hcl
      go_wp2_with fail
      refine (hlist a1 c1 w1 hx1 hc1 (by omega) hj).mono ?_
      rintro e w2 ⟨v2, rfl, ⟨a2, c2, rfl, hn2, hs2⟩, hb2⟩
      clear hlist
      go_wp2_with fail
      refine (hmod a1 c1 w2 ((hx1.below hb2).mono hb2.size) hs).mono ?_
      rintro e w3 ⟨v3, rfl, ⟨a3, c3, rfl, hn3, hs3⟩, hb3⟩
      clear hmod
      have hs2' := (hs2.below hb3).mono hb3.size
      have heq := equal_any w3.heap.size a2 a3 (ts.map baOf) c2 c3 w3 hs2' hs3
      rw [List.length_map] at heq
      have hfin : Below w.heap.size w w3 := (hb1.trans (hb2.mono hb1.size)).trans (hb3.mono (Nat.le_trans hb1.size hb2.size))
      have HF : Hid (Below w.heap.size w w3) := hfin
      clear hfin hb1 hb2 hb3 hs2 hs3 hs2' hx1
      go_wp2_with fail
      refine (heq (by omega)).mono ?_
      rintro e w4 ⟨rfl, q, rfl⟩
      clear heq
      by_cases he : ts = []
      · have h2 := hn2.1 he
        subst h2
        have h0 : ts.length = 0 := by rw [he]; rfl
        rw [h0]
        clear he hn2 hn3
        go_wp2
        go_ret
        have hf := HF.out
        exact ⟨rfl, ⟨hf.os, hf.tape, hf.output, hf.size, hf.block⟩⟩
      · have h2 : a2.isNone = false := by
          cases a2 with
          | none => exact absurd (hn2.2 rfl) he
          | some x => rfl
        have h3 : ((ts.length : Int) == 0) = false := by
          have : ts.length ≠ 0 := fun h => he (List.eq_nil_of_length_eq_zero h)
          exact beq_eq_false_iff_ne.2 (by omega)
        generalize ts.length = k at *
        clear hn2 hn3 he
        go_wp2
        go_ret
        have hf := HF.out
        exact ⟨rfl, ⟨hf.os, hf.tape, hf.output, hf.size, hf.block⟩⟩
end Go.Proofs.Qxb6601561aDoor
