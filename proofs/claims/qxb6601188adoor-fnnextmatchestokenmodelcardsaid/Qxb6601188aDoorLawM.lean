/-
  Seat b6601188aD: the walk of FnNextMatchesTokenModel.
-/
import Derived.Test.Qxb6601188aDoorModel
namespace Go.Proofs.Qxb6601188aDoor
open Go.RowKit

def Done (w : World) (e : Ending) (w' : World) : Prop := e = .returned (.bool true) ∧ Below w.heap.size w w'

theorem tok_range {bs : List UInt8} {p e : Nat} (hp : p < bs.length) (he : tokEnd bs p = some e) : p ≤ e ∧ e ≤ bs.length := by
  unfold tokEnd at he
  split at he
  · simp at he; omega
  split at he
  · simp at he
    obtain ⟨r, h1, h2⟩ := he
    have := skip_len bs (p + 1) r h1
    omega
  split at he
  · split at he
    · cases he
    · simp at he; omega
  split at he
  · split at he
    · cases he
    · simp at he; omega
  · have := past_le nums (bs.drop p)
    rw [List.length_drop] at this
    simp at he; omega

set_option maxHeartbeats 2000000 in
theorem lawM_any (a : Option Addr) (xs : List UInt8) (c : Nat) (k : Int) (w : World) (hx : ByAt w.heap.size w a xs) (hxl : xs.length ≤ 9223372036854775807) (hnil : a = none → xs.length = 0) (hk1 : -9223372036854775808 ≤ k) (hk2 : k ≤ 9223372036854775807) :
    Calls Tryd.prog 3 #[.slice a xs.length c, .int .i64 k] w fun e w' => Done w e w' := by
  have hbys := bytes1_any a xs.length c k w hxl
  have hcl := clone_any w.heap.size a xs c w hx (Nat.le_refl _)
  clear hx
  generalize hG : xs.length = n at *
  have HG : Hid (xs.length = n) := hG
  clear hG
  go_enter Tryd.func3, Tryd.ntmps3
  go_wp2_with fail
  refine hbys.mono ?_
  rintro e w' ⟨b, rfl, hb, hw'⟩
  have hw'' := hw'.symm
  subst hw''
  cases b with
  | false =>
    go_wp2
    go_ret
    exact ⟨rfl, Below.refl _ _⟩
  | true =>
    have hn := hb rfl
    clear hb hbys
    by_cases hneg : k < 0
    · go_wp2_with fail
      go_ret
      exact ⟨rfl, Below.refl _ _⟩
    by_cases hbig : (n : Int) ≤ k
    · go_wp2_with fail
      go_ret
      exact ⟨rfl, Below.refl _ _⟩
    obtain ⟨m, rfl⟩ : ∃ m : Nat, k = (m : Int) := ⟨k.toNat, by omega⟩
    have hmn : m < n := by omega
    clear hneg hbig hk1 hk2
    go_wp2_with fail
    refine (hcl (by omega) hnil).mono ?_
    rintro e w1 ⟨a1, rfl, hs1, hb1⟩
    rw [HG.out]
    clear hcl
    obtain ⟨bb, off, ea, hbs, _⟩ := hs1 m (by rw [HG.out]; exact hmn)
    subst ea
    have hfirst := first_any w1.heap.size n n m (some ⟨bb, off, none⟩) xs w1 HG.out hs1 (by omega) hn
    go_wp2_with fail
    refine hfirst.mono ?_
    rintro e w' ⟨hw', rfl⟩
    have hw'' := hw'.symm
    subst hw''
    clear hfirst
    cases hF : firstOf xs m with
    | none =>
      dsimp only
      go_wp2
      go_ret
      exact ⟨rfl, hb1⟩
    | some p =>
      dsimp only
      have hp : p = m + past blanks (xs.drop m) ∧ p < n := by
        unfold firstOf at hF
        split at hF
        · simp at hF
          rw [HG.out] at *
          exact ⟨hF.symm, by omega⟩
        · cases hF
      obtain ⟨hpe, hpn⟩ := hp
      have HPE : Hid (p = m + past blanks (xs.drop m)) := hpe
      clear hpe hF
      have htok := tok_any w1.heap.size n n p (some ⟨bb, off, none⟩) xs w1 HG.out hs1 hpn hn
      go_wp2_with fail
      refine htok.mono ?_
      rintro e w' ⟨hw', rfl⟩
      have hw'' := hw'.symm
      subst hw''
      clear htok
      cases hT : tokEnd xs p with
      | none =>
        dsimp only
        go_wp2
        go_ret
        exact ⟨rfl, hb1⟩
      | some e =>
        dsimp only
        obtain ⟨hpe, hen⟩ := tok_range (by rw [HG.out]; exact hpn) hT
        rw [HG.out] at hen
        have hlies : Lies w1 bb off xs := fun i hi => by
          obtain ⟨b', off', e', _, hc⟩ := hs1 i hi
          cases e'
          exact hc
        have hz := zznext_any w1 bb off n n m p e xs HG.out hlies hbs (by omega) (Nat.le_refl _) (by omega) (by omega) HPE.out hpn hT
        go_wp2_with fail
        refine hz.mono ?_
        rintro e' w9 ⟨rfl, hb9⟩
        have hl9 : Lies w9 bb off xs := hlies.keep (B := w1.heap.size) (Keep.of_below hb9) hbs (by omega)
        have hfin : Below w.heap.size w w9 := hb1.trans (hb9.mono hb1.size)
        have zp : w9.cell? ⟨bb, off + p, none⟩ = some (.int .u8 (xs.getD p 0).toNat) := hl9 p (by rw [HG.out]; exact hpn)
        have hby : ByAt w9.heap.size w9 (some ⟨bb, off + p, none⟩) ((xs.drop p).take (e - p)) := fun j hj => by
          rw [List.length_take, List.length_drop, HG.out] at hj
          refine ⟨bb, off + p, rfl, Nat.lt_of_lt_of_le hbs hb9.size, ?_⟩
          rw [Nat.add_assoc, hl9 (p + j) (by rw [HG.out]; omega)]
          have h1 : ((xs.drop p).take (e - p)).getD j 0 = xs.getD (p + j) 0 := by
            have hj2 : j < e - p := by omega
            simp [List.getD, hj2]
          rw [h1]
        have hsame := same_any w9.heap.size (some ⟨bb, off + p, none⟩) (some ⟨bb, off + p, none⟩) ((xs.drop p).take (e - p)) (e - p) (n - p) (n - p) w9 (by rw [List.length_take, List.length_drop, HG.out]; omega) hby hby (by omega)
        generalize (xs.getD p 0).toNat = x at *
        have HF : Hid (Below w.heap.size w w9) := hfin
        clear hz hl9 hlies hb9 hby hs1 hT hfin
        go_wp2_with fail
        refine hsame.mono ?_
        rintro e' w' ⟨rfl, q, rfl⟩
        go_wp2
        go_ret
        have hf := HF.out
        exact ⟨rfl, ⟨hf.os, hf.tape, hf.output, hf.size, hf.block⟩⟩
end Go.Proofs.Qxb6601188aDoor
