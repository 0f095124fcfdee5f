/-
  Seat b6601188aD: what a []byte that came in is good for.
-/
import Derived.Test.Qxb6601188aDoorBytes
import Derived.Test.Qxb6601188aDoorRows
import Derived.ProofKit
namespace Go.Proofs.Qxb6601188aDoor
open Go.ChangeShapes Go.WideShapes Go.ChangeAt Go.RowKit

theorem own : ownKnob Tryd.prog.godebug = none := by kernel_rfl
theorem laidOut : laidOutB Tryd.prog = true := by kernel_rfl
theorem cells5 : Tryd.prog.cellsOf 5 = 1 := by kernel_rfl
theorem byte_of_wf {x : Int} (h : (Lit.int .u8 x).wf = true) : 0 ≤ x ∧ x < 256 := by
  have h1 : IntKind.u8.min = 0 := rfl
  have h2 : IntKind.u8.max = 255 := rfl
  simp only [Lit.wf, Bool.and_eq_true, decide_eq_true_eq] at h
  omega

theorem byAt_of {W : World} {a : Addr} {len : Nat} {zs : List Int} (hl : len ≤ zs.length) (hcell : ∀ i, i < zs.length → W.cell? (a.add i) = some (.int .u8 (zs.getD i 0))) (hw : ∀ n ∈ zs, (Lit.int .u8 n).wf = true) :
    ByAt W.heap.size W (some a) ((zs.take len).map fun x => UInt8.ofNat x.toNat) := by
  intro j hj
  have hj' : j < len := by rw [List.length_map, List.length_take] at hj; omega
  obtain ⟨b, off, spot⟩ := a
  have h0 := hcell j (by omega)
  have hspot : spot = none := by simpa [Addr.add] using World.cell?_spot (hcell 0 (by omega))
  subst hspot
  rw [add_plain] at h0
  refine ⟨b, off, rfl, World.block_lt_of_cell? _ _ h0, ?_⟩
  rw [h0]
  have hjz : j < zs.length := by omega
  have hm : zs.getD j 0 ∈ zs := by
    simp [List.getD, hjz]
  have hb := byte_of_wf (hw _ hm)
  have e : (((zs.take len).map fun x => UInt8.ofNat x.toNat).getD j 0) = UInt8.ofNat (zs.getD j 0).toNat := by
    simp [List.getD, hjz, hj']
  rw [e]
  generalize zs.getD j 0 = x at *
  simp
  omega

theorem view {H : Type} {enc : TypeId × Value → H} {W : World} (a : Option Addr) (len cap : Nat) (d : DataW H) (pp : List MemPlace) (h : DataW.Trod enc Tryd.prog W 0 (fun _ => true) true 22 (.slice a len cap) d pp) :
    ∃ xs : List UInt8, xs.length = len ∧ len ≤ 9223372036854775807 ∧ ByAt W.heap.size W a xs ∧ (a = none → len = 0) := by
  obtain ⟨fuel, hf⟩ := h
  rcases open_ints Tryd.underlying22 Tryd.underlying5 cells5 hf with ⟨hcs, hx⟩ | ⟨ad, len', cap', zs, hcs, _, hl, hm, hz, hx, hcell, hws⟩
  · simp [Value.cells] at hcs
    obtain ⟨rfl, rfl, rfl⟩ := hcs
    exact ⟨[], rfl, by decide, fun j hj => absurd hj (by simp), fun _ => rfl⟩
  · simp [Value.cells] at hcs
    obtain ⟨rfl, rfl, rfl⟩ := hcs
    simp only [if_true] at hz
    unfold maxLen at hm
    exact ⟨(zs.take len).map fun x => UInt8.ofNat x.toNat, by rw [List.length_map, List.length_take]; omega, by omega, byAt_of (by omega) hcell hws, fun h => by cases h⟩
end Go.Proofs.Qxb6601188aDoor
