/-
  DERIVED. GIVEN WITH THE SEED: THE CARDS: each row of Qxb6601188aDoorRows.lean that lists a variable, with what it lists TIED to the program's text (the seventh form; the later family's looks); each row that meets fmt, with fmt's text TOLD by the authors' own Lean function (tested against real Go, not proved from fmt's source: count such statements apart). THE CARD IS WHAT COUNTS. Prove the row's statement (the work); the ties are given (Qxb6601188aDoorTie.lean); close each card by the builder's one call (the guide's Derived/Test/ToyasCard.lean, 'card_holds'). Laid BY PROGRAM, IN A SANDBOX (cutbox-door.mjs). By AI agents, Wed Nov 11 2026. No macro, syntax, notation, axiom, sorry.
-/
import Derived.Test.Qxb6601188aDoorRows
import GoSem.ClaimSeven
namespace Go.Proofs.Qxb6601188aDoor
namespace Rows

/-- THE TIED CARD OF 'zzlaws_root_b1.FnNextMatchesTokenModel'. -/
def fnNextMatchesTokenModelCard : Claim7 := { stood := { row := fnNextMatchesTokenModelRow, standIns := [], harness := (true, "806a32800406995f64607014f2bafd2f13912813d7df41780650c7957985447a"), looks := false }, kinds := [], alts := [], laidByText := true, laidKinds := [.data, .pinned], laidTests := true, laidLooks := .later }
def FnNextMatchesTokenModelCardSaid : Prop := Claim7.holds Tryd.pinned (.plain (OpenSpec.ofChange fnNextMatchesTokenModelSpec)) fnNextMatchesTokenModelCard

/-- THE TIED CARD OF 'zzlaws_root_b1.FnNextReadsAnEscapedStringWhole'. -/
def fnNextReadsAnEscapedStringWholeCard : Claim7 := { stood := { row := fnNextReadsAnEscapedStringWholeRow, standIns := [], harness := (true, "806a32800406995f64607014f2bafd2f13912813d7df41780650c7957985447a"), looks := false }, kinds := [], alts := [], laidByText := true, laidKinds := [.data, .pinned], laidTests := true, laidLooks := .later }
def FnNextReadsAnEscapedStringWholeCardSaid : Prop := Claim7.holds Tryd.pinned (.plain (OpenSpec.ofChange fnNextReadsAnEscapedStringWholeSpec)) fnNextReadsAnEscapedStringWholeCard

/-- THE TIED CARD OF 'zzlaws_root_b1.FnSkipMatchesValueModel'. -/
def fnSkipMatchesValueModelCard : Claim7 := { stood := { row := fnSkipMatchesValueModelRow, standIns := [], harness := (true, "806a32800406995f64607014f2bafd2f13912813d7df41780650c7957985447a"), looks := false }, kinds := [], alts := [], laidByText := true, laidKinds := [.data, .pinned], laidTests := true, laidLooks := .later }
def FnSkipMatchesValueModelCardSaid : Prop := Claim7.holds Tryd.pinned (.plain (OpenSpec.ofChange fnSkipMatchesValueModelSpec)) fnSkipMatchesValueModelCard

/-- THE TIED CARD OF 'zzlaws_root_b1.FnSkipRereadsItsOwnText'. -/
def fnSkipRereadsItsOwnTextCard : Claim7 := { stood := { row := fnSkipRereadsItsOwnTextRow, standIns := [], harness := (true, "806a32800406995f64607014f2bafd2f13912813d7df41780650c7957985447a"), looks := false }, kinds := [], alts := [], laidByText := true, laidKinds := [.data, .pinned], laidTests := true, laidLooks := .later }
def FnSkipRereadsItsOwnTextCardSaid : Prop := Claim7.holds Tryd.pinned (.plain (OpenSpec.ofChange fnSkipRereadsItsOwnTextSpec)) fnSkipRereadsItsOwnTextCard
end Rows
end Go.Proofs.Qxb6601188aDoor
