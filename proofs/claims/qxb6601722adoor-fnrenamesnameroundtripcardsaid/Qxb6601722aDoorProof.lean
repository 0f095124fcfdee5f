/-
  Seat b6601722aD: the row of FnRenamesNameRoundTrip, and its tied card.
-/
import Derived.Test.Qxb6601722aDoorLaw
import Derived.Test.Qxb6601722aDoorRead
import Derived.Test.Qxb6601722aDoorRows
import Derived.Test.Qxb6601722aDoorTie
import Derived.Test.Qxb6601722aDoorCards
import Derived.ProofKit
import Derived.LaidMore
import Derived.Lay
import Derived.PinnedBridge
import Derived.SevenTiedAt
import Derived.Stop.Joined
namespace Go.Proofs.Qxb6601722aDoor
open Go.ChangeShapes Go.WideShapes Go.ChangeAt Go.RowKit
open Go.ChangeMaps (open_string shut_string)

theorem own : ownKnob Tryd.prog.godebug = none := by kernel_rfl
theorem laidOut : laidOutB Tryd.prog = true := by kernel_rfl
theorem cells9 : Tryd.prog.cellsOf 9 = 1 := by kernel_rfl

/-- What a slice of strings that came in is good for. -/
theorem strAt_of {W : World} {a : Addr} {len : Nat} {ss : List ByteArray} (hl : len ≤ ss.length) (hcell : ∀ i, i < ss.length → W.cell? (a.add i) = some (.string (ss.getD i ByteArray.empty))) : StrAt W.heap.size W (some a) (ss.take len) := by
  intro j hj
  have hj' : j < len := by rw [List.length_take] at hj; omega
  obtain ⟨b, off, spot⟩ := a
  have h0 := hcell j (by omega)
  have hspot : spot = none := by simpa [Addr.add] using World.cell?_spot (hcell 0 (by omega))
  subst hspot
  rw [add_plain] at h0
  refine ⟨b, off, rfl, World.block_lt_of_cell? _ _ h0, ?_⟩
  unfold txt
  rw [h0, List.getElem?_take, if_pos hj', List.getD]

set_option maxRecDepth 100000 in
theorem lifted (os : Os) (started : os.Started) (H : Type) (enc : TypeId × Value → H) :
    ReturnsInHanded {} Tryd.checked os 4 .any (fun w args => (Rows.fnRenamesNameRoundTripSpec.pre enc Tryd.prog Tryd.f4 Rows.fnRenamesNameRoundTripRow.domain false w args ∧ laidMetH Tryd.prog Rows.fnRenamesNameRoundTripRow.laid w) ∧ sizedMet enc Tryd.prog Tryd.f4 (OpenSpec.ofChange Rows.fnRenamesNameRoundTripSpec) false w args)
      (Rows.fnRenamesNameRoundTripSpec.post enc Tryd.prog Tryd.f4 false true false false) := by
  refine returnsInHanded_of_change_and (C := Tryd.checked) (X := fun w _ => laidMetH Tryd.prog Rows.fnRenamesNameRoundTripRow.laid w) (fun _ _ _ hh h => h.of_heap hh) own started (by kernel_rfl) Tryd.func4
    (ChangeSpec.witness_shaped (enc := enc) (C := Tryd.checked) (os := os) (X := fun w _ => laidMetH Tryd.prog Rows.fnRenamesNameRoundTripRow.laid w) false (World.laidAll Tryd.prog os Rows.fnRenamesNameRoundTripRow.laid) #[.slice none 0 0, .slice none 0 0, .string ⟨#[]⟩] 8 (World.laidAll_os _ _ _)
      (World.shaped_of_ZipB (by kernel_rfl) (by kernel_rfl)) (by kernel_rfl) (by kernel_rfl) (by kernel_rfl)
      (by rw [MakeChecks.laidMetH_plain _ _ _ (by kernel_rfl)]; exact laidMet_laidAll _ (by kernel_rfl) (by kernel_rfl))) ?_
  intro W base args ds gs before hval0 hW _ _ hL _
  have hval : ∀ (j : Nat) t v, Tryd.f4.params[j]? = some t → args[j]? = some v → Value.okWide Tryd.prog W .any base t v := hval0
  have hW' := hW
  obtain ⟨p, q, hA0, hV, rfl, _, _⟩ := hW
  have hA : DataW.TrodAll enc Tryd.prog W 0 (fun _ => true) true Tryd.f4.params.toList args.toList ds p := hA0
  rw [Tryd.params4] at hA hval
  obtain ⟨v0, v1, v2, d0, d1, d2, p0, p1, p2, rfl, rfl, rfl, h0, h1, h2⟩ := trodAll_three hA
  obtain ⟨rfl, rfl⟩ := trodVars_none hV
  obtain ⟨a0, len0, cap0, rfl⟩ := okWide_slice Tryd.underlying22 (hval 0 22 v0 rfl rfl)
  obtain ⟨a1, len1, cap1, rfl⟩ := okWide_slice Tryd.underlying22 (hval 1 22 v1 rfl rfl)
  obtain ⟨x, rfl, rfl, rfl, hxm⟩ := open_string Tryd.underlying9 (hval 2 9 v2 rfl rfl) h2
  clear hA0 hval0
  simp only [List.append_nil] at hW'
  have hlt0 : ∀ x ∈ p0, x.block < W.heap.size := fun x hx => by simpa using hW'.lt x (by simp [hx])
  have hlt1 : ∀ x ∈ p1, x.block < W.heap.size := fun x hx => by simpa using hW'.lt x (by simp [hx])
  have view : ∀ (a : Option Addr) (len cap : Nat) (d : DataW H) (pp : List MemPlace), DataW.Trod enc Tryd.prog W 0 (fun _ => true) true 22 (.slice a len cap) d pp →
      ∃ xs : List ByteArray, xs.length = len ∧ len ≤ 9223372036854775807 ∧ StrAt W.heap.size W a xs ∧ (a = none → len = 0) := by
    intro a len cap d pp ⟨fuel, hf⟩
    rcases open_strings Tryd.underlying22 Tryd.underlying9 cells9 hf with ⟨hcs, hx⟩ | ⟨ad, len', cap', ss, hcs, _, hl, hm, hz, hx, hcell, hws⟩
    · simp [Value.cells] at hcs
      obtain ⟨rfl, rfl, rfl⟩ := hcs
      exact ⟨[], rfl, by decide, fun j hj => absurd hj (by simp), fun _ => rfl⟩
    · simp [Value.cells] at hcs
      obtain ⟨rfl, rfl, rfl⟩ := hcs
      simp only [if_true] at hz
      unfold maxLen at hm
      exact ⟨ss.take len, by rw [List.length_take]; omega, by omega, strAt_of (by omega) hcell, fun h => by cases h⟩
  obtain ⟨xs, hx1, hx2, hx3, hx4⟩ := view _ _ _ _ _ h0
  obtain ⟨ys, hy1, hy2, hy3, hy4⟩ := view _ _ _ _ _ h1
  subst hx1
  subst hy1
  have hxm' := hxm
  unfold maxLen at hxm'
  refine (law_any a0 a1 xs ys cap0 cap1 x W (tabs_of hL) hx3 hy3 hx4 hx2 hy2 (by omega)).mono ?_
  rintro e W' ⟨rfl, hnx⟩
  refine ⟨_, rfl, ?_⟩
  refine ⟨_, _, _, [], p0 ++ (p1 ++ []), [], hW', ?_, ?_, rfl, hnx.frame _, fun h => by cases h⟩
  · exact trodAll_mk1 (shut_bool Tryd.underlying4 _)
  · exact trodAll_mk3 (Below.trod laidOut (by kernel_rfl) (of_decide_eq_true (by kernel_rfl)) h0 hnx hlt0) (Below.trod laidOut (by kernel_rfl) (of_decide_eq_true (by kernel_rfl)) h1 hnx hlt1) (shut_string Tryd.underlying9 hxm)

theorem row_holds : Rows.FnRenamesNameRoundTripSaid :=
  OpenClaim.holds_of_wide 4 Tryd.f4 rfl rfl rfl rfl rfl rfl rfl ⟨rfl, rfl, rfl, rfl, rfl⟩ rfl rfl rfl rfl rfl (by kernel_rfl) Tryd.func4 (by kernel_rfl)
    (of_decide_eq_true (by kernel_rfl)) (by unfold Func.isWrapper; first | (rw [if_pos (by decide +kernel)]; kernel_rfl) | (rw [if_neg (by decide +kernel)]; exact ⟨rfl, rfl⟩))
    (fun os started H enc _ => lifted os started H enc)

theorem card_holds : Rows.FnRenamesNameRoundTripCardSaid :=
  Claim7.holds_tied_plain_at .later [] [.data, .data, .data, .pinned, .pinned] true (true, "392894fb0e3a52071eb22f13d58ed6afd9c1cb2c35b6969b2106222e6a50879f") false row_holds (fun _ h => by cases h) (by kernel_rfl) (fun _ h => by cases h) fnRenamesNameRoundTrip_row_tie rfl ⟨rfl, rfl⟩ (by kernel_rfl) rfl
    (fun f fn hf hfn => by
      obtain rfl : f = 4 := Option.some.inj ((show Tryd.prog.funcNamed Rows.fnRenamesNameRoundTripRow.func = some 4 by kernel_rfl).symm.trans hf) |>.symm
      obtain rfl : fn = Tryd.f4 := (Option.some.inj (Tryd.func4.symm.trans hfn)).symm
      exact ⟨by kernel_rfl, fun j t ht => by
        rw [Tryd.params4] at ht
        have hm : t ∈ [22, 22, 9] := by simpa using Array.mem_of_getElem? ht
        have hall : ([22, 22, 9].all fun u => !Tryd.prog.wantsStandIn u) = true := by kernel_rfl
        exact (show Tryd.prog.wantsStandIn t = false by simpa using List.all_eq_true.1 hall t hm)⟩)
    (by kernel_rfl)
#print axioms card_holds
end Go.Proofs.Qxb6601722aDoor
