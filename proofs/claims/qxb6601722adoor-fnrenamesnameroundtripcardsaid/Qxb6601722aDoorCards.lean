/-
  DERIVED. GIVEN WITH THE SEED: THE CARDS: each row of Qxb6601722aDoorRows.lean that lists a variable, with what it lists TIED to the program's text (the seventh form; the later family's looks); each row that meets fmt, with fmt's text TOLD by the authors' own Lean function (tested against real Go, not proved from fmt's source: count such statements apart). THE CARD IS WHAT COUNTS. Prove the row's statement (the work); the ties are given (Qxb6601722aDoorTie.lean); close each card by the builder's one call (the guide's Derived/Test/ToyasCard.lean, 'card_holds'). Laid BY PROGRAM, IN A SANDBOX (cutbox-door.mjs). By AI agents, Wed Nov 11 2026. No macro, syntax, notation, axiom, sorry.
-/
import Derived.Test.Qxb6601722aDoorRows
import GoSem.ClaimSeven
namespace Go.Proofs.Qxb6601722aDoor
namespace Rows

/-- THE TIED CARD OF 'zzlaws_pkg_schema_b1.FnRowKeysNotNullOnlyAdds'. -/
def fnRowKeysNotNullOnlyAddsCard : Claim7 := { stood := { row := fnRowKeysNotNullOnlyAddsRow, standIns := [], harness := (true, "392894fb0e3a52071eb22f13d58ed6afd9c1cb2c35b6969b2106222e6a50879f"), looks := false }, kinds := [], alts := [], laidByText := true, laidKinds := [.data, .data, .data, .pinned, .pinned], laidTests := true, laidLooks := .later }
def FnRowKeysNotNullOnlyAddsCardSaid : Prop := Claim7.holds Tryd.pinned (.plain (OpenSpec.ofChange fnRowKeysNotNullOnlyAddsSpec)) fnRowKeysNotNullOnlyAddsCard

/-- THE TIED CARD OF 'zzlaws_pkg_schema_b1.FnRenamesNameRoundTrip'. -/
def fnRenamesNameRoundTripCard : Claim7 := { stood := { row := fnRenamesNameRoundTripRow, standIns := [], harness := (true, "392894fb0e3a52071eb22f13d58ed6afd9c1cb2c35b6969b2106222e6a50879f"), looks := false }, kinds := [], alts := [], laidByText := true, laidKinds := [.data, .data, .data, .pinned, .pinned], laidTests := true, laidLooks := .later }
def FnRenamesNameRoundTripCardSaid : Prop := Claim7.holds Tryd.pinned (.plain (OpenSpec.ofChange fnRenamesNameRoundTripSpec)) fnRenamesNameRoundTripCard

/-- THE TIED CARD OF 'zzlaws_pkg_schema_b1.FnSharedExact'. -/
def fnSharedExactCard : Claim7 := { stood := { row := fnSharedExactRow, standIns := [], harness := (true, "392894fb0e3a52071eb22f13d58ed6afd9c1cb2c35b6969b2106222e6a50879f"), looks := false }, kinds := [], alts := [], laidByText := true, laidKinds := [.data, .data, .data, .pinned, .pinned], laidTests := true, laidLooks := .later }
def FnSharedExactCardSaid : Prop := Claim7.holds Tryd.pinned (.plain (OpenSpec.ofChange fnSharedExactSpec)) fnSharedExactCard
end Rows
end Go.Proofs.Qxb6601722aDoor
