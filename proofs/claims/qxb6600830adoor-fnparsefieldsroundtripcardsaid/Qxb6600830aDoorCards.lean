/-
  DERIVED. GIVEN WITH THE SEED: THE CARDS: each row of Qxb6600830aDoorRows.lean that lists a variable, with what it lists TIED to the program's text (the seventh form; the later family's looks); each row that meets fmt, with fmt's text TOLD by the authors' own Lean function (tested against real Go, not proved from fmt's source: count such statements apart). THE CARD IS WHAT COUNTS. Prove the row's statement (the work); the ties are given (Qxb6600830aDoorTie.lean); close each card by the builder's one call (the guide's Derived/Test/ToyasCard.lean, 'card_holds'). Laid BY PROGRAM, IN A SANDBOX (cutbox-door.mjs). By AI agents, Wed Nov 11 2026. No macro, syntax, notation, axiom, sorry.
-/
import Derived.Test.Qxb6600830aDoorRows
import GoSem.ClaimSeven
namespace Go.Proofs.Qxb6600830aDoor
namespace Rows

/-- THE TIED CARD OF 'zzlaws_root_b1.FnParseFieldsRoundTrip'. -/
def fnParseFieldsRoundTripCard : Claim7 := { stood := { row := fnParseFieldsRoundTripRow, standIns := [], harness := (true, "d107206bd3bea00fcbbaba47a9185ac497f5e574d5fba2d65c9b11b8a2ee2307"), looks := false }, kinds := [], alts := [], laidByText := true, laidKinds := [.data, .listed, .data, .pinned], laidTests := true, laidLooks := .later }
def FnParseFieldsRoundTripCardSaid : Prop := Claim7.holds Tryd.pinned (.plain (OpenSpec.ofChange fnParseFieldsRoundTripSpec)) fnParseFieldsRoundTripCard
end Rows
end Go.Proofs.Qxb6600830aDoor
