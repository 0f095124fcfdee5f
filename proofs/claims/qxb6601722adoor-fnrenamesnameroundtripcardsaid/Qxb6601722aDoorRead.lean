/-
  Seat b6601722aD: what the row lists, read as Tabs.
-/
import Derived.Test.Qxb6601722aDoorSFold
import Derived.Test.Qxb6601722aDoorRows
import Derived.Lib.LaidU8
import Derived.Lib.LaidCase
import Derived.PinnedBridge
import Derived.ProofKit
import Derived.LaidMore
import Derived.Stop.Joined
namespace Go.Proofs.Qxb6601722aDoor
open Go.RowKit Go.Lib Go.Shelf

def pairD (x : Nat × Nat) : DataW Unit := .agg (([(x.1 : Int), (x.2 : Int)] : List Int).map fun z => .lit (.int .u16 z))
theorem accept_eq : (Rows.laid_unicode_utf8_acceptRanges : DataW Unit) = Lib.acceptData := by kernel_rfl
theorem af_eq : (Rows.laid_unicode_asciiFold : DataW Unit) = Lib.tabData .u16 (af.map fun (n : Nat) => (n : Int)) := by kernel_rfl
theorem co_eq : (Rows.laid_unicode_caseOrbit : DataW Unit) = .slice (co.map pairD) [] := by kernel_rfl
theorem case_eq : Rows.laid_unicode_CaseRanges = Lib.caseData := Pinned.caseRanges_eq
theorem first_eq : Rows.laid_unicode_utf8_first = Lib.firstData := Pinned.utf8First_eq

theorem u72 : Tryd.prog.underlying 72 = some (.int .u16) := Tryd.underlying72
theorem cells72 : Tryd.prog.cellsOf 72 = 1 := by kernel_rfl
theorem cells73 : Tryd.prog.cellsOf 73 = 128 := by kernel_rfl
theorem cells77 : Tryd.prog.cellsOf 77 = 2 := by kernel_rfl

theorem af_of_reads {w : World} (h : Lib.VarReads Tryd.prog w "unicode.asciiFold" (Lib.tabData .u16 (af.map fun (n : Nat) => (n : Int)))) : ∀ i, i < 128 → w.cell? ⟨0, i, none⟩ = some (.int .u16 (af.getD i 0 : Nat)) := by
  obtain ⟨g, t, cs, fuel, p, hg, hty, hvar, hd⟩ := h
  obtain rfl := Option.some.inj ((show Tryd.prog.globalNamed "unicode.asciiFold" = some 0 by kernel_rfl).symm.trans hg)
  obtain rfl := Option.some.inj ((show (Tryd.prog.globals[0]?).map (·.type) = some 73 by kernel_rfl).symm.trans hty)
  have hcs := Lib.cells_of_tab Tryd.underlying73 u72 cells72 cells73 hd
  intro i hi
  have hl : i < af.length := by rw [af_len]; exact hi
  rw [World.var?_cell hg hvar i, ← Array.getElem?_toList, hcs]
  simp [hl]

theorem co_of_reads {w : World} (h : Lib.VarReads Tryd.prog w "unicode.caseOrbit" (.slice (co.map pairD) [])) :
    ∃ R oR cap, w.cell? ⟨1, 0, none⟩ = some (.slice (some ⟨R, oR, none⟩) coN cap) ∧ ∀ i, i < coN → w.cell? ⟨R, oR + i * 2, none⟩ = some (.int .u16 ((co.getD i (0, 0)).1 : Nat)) ∧ w.cell? ⟨R, oR + i * 2 + 1, none⟩ = some (.int .u16 ((co.getD i (0, 0)).2 : Nat)) := by
  obtain ⟨g, t, cs, fuel, p, hg, hty, hvar, hd⟩ := h
  obtain rfl := Option.some.inj ((show Tryd.prog.globalNamed "unicode.caseOrbit" = some 1 by kernel_rfl).symm.trans hg)
  obtain rfl := Option.some.inj ((show (Tryd.prog.globals[1]?).map (·.type) = some 74 by kernel_rfl).symm.trans hty)
  rcases DataW.trod_slice Tryd.underlying74 hd with ⟨_, hx'⟩ | ⟨a', len, cap, el, rs, m, rfl, hc0, hx', _, hlc, _, hel, helem, hsp, _⟩
  · cases hx'
  have e0 := congrArg Prod.fst hx'
  simp only [DataW.slice.injEq] at e0
  obtain ⟨eE, eR⟩ := e0
  have hlen : len = coN := by
    have := congrArg List.length eE
    simp only [List.length_map] at this
    rw [co_len] at this
    omega
  have hrow : ∀ i, i < coN → ∀ j, j < 2 → w.cell? ((a'.add (i * 2)).add j) = ([.int .u16 ((co.getD i (0, 0)).1 : Nat), .int .u16 ((co.getD i (0, 0)).2 : Nat)] : List Value)[j]? := by
    intro i hi j hj
    have h1 := helem i (by omega)
    rw [cells77] at h1
    obtain ⟨b, hb⟩ : ∃ b, el[i]? = some b := ⟨el[i]'(by omega), List.getElem?_eq_getElem (by omega)⟩
    rw [hb] at h1
    obtain ⟨ce, hce, hte⟩ := Option.bind_eq_some_iff.1 h1
    have hi' : i < co.length := by rw [co_len]; exact hi
    have hb1 : b.1 = pairD (co.getD i (0, 0)) := by
      have := congrArg (·[i]?) eE
      simp only [List.getElem?_map, hb, Option.map_some] at this
      rw [List.getElem?_eq_getElem hi'] at this
      simp only [Option.map_some, Option.some.injEq] at this
      rw [← this]
      simp [List.getD, hi']
    have hcs := Lib.ints_of_struct (k := .u16) (zs := [((co.getD i (0, 0)).1 : Int), ((co.getD i (0, 0)).2 : Int)]) (p := b.2) Tryd.underlying77 (fun q f hq => by
      match q, hq with
      | 0, hq => simp at hq; subst hq; exact ⟨u72, rfl, cells72⟩
      | 1, hq => simp at hq; subst hq; exact ⟨u72, rfl, cells72⟩
      | q + 2, hq => simp at hq) (by rw [cells77]; rfl) (by rw [hte, ← Prod.eta b, hb1]; rfl)
    obtain ⟨_, _, hcc⟩ := World.cells?_some hce
    rw [hcc j hj, hcs]
    rfl
  obtain ⟨R, oR, sR⟩ := a'
  obtain rfl : sR = none := by
    have h00 := hrow 0 (by decide) 0 (by omega)
    have : (Addr.add (Addr.add ⟨R, oR, sR⟩ (0 * 2)) 0) = ⟨R, oR, sR⟩ := by simp [Addr.add]
    rw [this] at h00
    exact cell_spot h00
  refine ⟨R, oR, cap, ?_, fun i hi => ?_⟩
  · rw [World.var?_cell hg hvar 0, ← Array.getElem?_toList, hc0, hlen]
    rfl
  · have k0 := hrow i hi 0 (by omega)
    have k1 := hrow i hi 1 (by omega)
    rw [Addr.add_lit, Addr.add_lit] at k0 k1
    exact ⟨by simpa using k0, by simpa using k1⟩

/-- unicode.lookupCaseRange's numbers, and CaseRanges' own. -/
def ren5 : Go.Shelf.Ren := { f := Tryd.lays274_ren.f, t := Tryd.lays274_ren.t, g := fun _ => 2 }
theorem lays5 : Lays.n274 Tryd.prog ren5 := { Tryd.lays274 with }
theorem tabs_of {W : World} (h : laidMetH Tryd.prog Rows.fnRenamesNameRoundTripRow.laid W) : Tabs W := by
  rw [MakeChecks.laidMetH_plain _ _ _ (by kernel_rfl)] at h
  have h0 := Lib.laidMet.reads h (List.mem_of_getElem? (i := 0) rfl)
  have h1 := Lib.laidMet.reads h (List.mem_of_getElem? (i := 1) rfl)
  have h2 := Lib.laidMet.reads h (List.mem_of_getElem? (i := 2) rfl)
  have h3 := Lib.laidMet.reads h (List.mem_of_getElem? (i := 3) rfl)
  have h4 := Lib.laidMet.reads h (List.mem_of_getElem? (i := 4) rfl)
  rw [accept_eq] at h0
  rw [af_eq] at h1
  rw [co_eq] at h2
  rw [case_eq] at h3
  rw [first_eq] at h4
  exact ⟨af_of_reads h1, co_of_reads h2, caseVar_of_reads lays5 (by kernel_rfl) ⟨by kernel_rfl, by kernel_rfl, by kernel_rfl, by kernel_rfl, by kernel_rfl, by kernel_rfl⟩ h3, utf8Tabs_of_reads Tryd.lays260 Tryd.u8Extra h4 h0⟩
end Go.Proofs.Qxb6601722aDoor
