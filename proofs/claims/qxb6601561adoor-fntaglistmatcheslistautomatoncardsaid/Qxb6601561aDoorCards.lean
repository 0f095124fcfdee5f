/-
  DERIVED. GIVEN WITH THE SEED: THE CARDS: each row of Qxb6601561aDoorRows.lean that lists a variable, with what it lists TIED to the program's text (the seventh form; the later family's looks); each row that meets fmt, with fmt's text TOLD by the authors' own Lean function (tested against real Go, not proved from fmt's source: count such statements apart). THE CARD IS WHAT COUNTS. Prove the row's statement (the work); the ties are given (Qxb6601561aDoorTie.lean); close each card by the builder's one call (the guide's Derived/Test/ToyasCard.lean, 'card_holds'). Laid BY PROGRAM, IN A SANDBOX (cutbox-door.mjs). By AI agents, Wed Nov 11 2026. No macro, syntax, notation, axiom, sorry.
-/
import Derived.Test.Qxb6601561aDoorRows
import GoSem.ClaimSeven
namespace Go.Proofs.Qxb6601561aDoor
namespace Rows

/-- THE TIED CARD OF 'zzlaws_root_b1.FnTagListMatchesListAutomaton'. -/
def fnTagListMatchesListAutomatonCard : Claim7 := { stood := { row := fnTagListMatchesListAutomatonRow, standIns := [], harness := (true, "2148cc70d2808ab3fb86e21f8ae9bc99f8d70e0b63f42a7a62c6ea8a3f820961"), looks := false }, kinds := [], alts := [], laidByText := true, laidKinds := [.data, .pinned], laidTests := true, laidLooks := .later }
def FnTagListMatchesListAutomatonCardSaid : Prop := Claim7.holds Tryd.pinned (.plain (OpenSpec.ofChange fnTagListMatchesListAutomatonSpec)) fnTagListMatchesListAutomatonCard

/-- THE TIED CARD OF 'zzlaws_root_b1.FnTagListGivesBackWholeTags'. -/
def fnTagListGivesBackWholeTagsCard : Claim7 := { stood := { row := fnTagListGivesBackWholeTagsRow, standIns := [], harness := (true, "2148cc70d2808ab3fb86e21f8ae9bc99f8d70e0b63f42a7a62c6ea8a3f820961"), looks := false }, kinds := [], alts := [], laidByText := true, laidKinds := [.data, .pinned], laidTests := true, laidLooks := .later }
def FnTagListGivesBackWholeTagsCardSaid : Prop := Claim7.holds Tryd.pinned (.plain (OpenSpec.ofChange fnTagListGivesBackWholeTagsSpec)) fnTagListGivesBackWholeTagsCard

/-- THE TIED CARD OF 'zzlaws_root_b1.FnTagListIdempotent'. -/
def fnTagListIdempotentCard : Claim7 := { stood := { row := fnTagListIdempotentRow, standIns := [], harness := (true, "2148cc70d2808ab3fb86e21f8ae9bc99f8d70e0b63f42a7a62c6ea8a3f820961"), looks := false }, kinds := [], alts := [], laidByText := true, laidKinds := [.data, .pinned], laidTests := true, laidLooks := .later }
def FnTagListIdempotentCardSaid : Prop := Claim7.holds Tryd.pinned (.plain (OpenSpec.ofChange fnTagListIdempotentSpec)) fnTagListIdempotentCard
end Rows
end Go.Proofs.Qxb6601561aDoor
