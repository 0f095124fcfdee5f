/-
  NARROWER THAN 'FOR EVERY INPUT', by the rows' own cells (each row's printed sentence says how): FnTagListMatchesListAutomaton: laid · FnTagListGivesBackWholeTags: laid · FnTagListIdempotent: laid.
  DERIVED. THE GIVEN ROWS OF THIS SEAT. 3 by the template 'for every input the law returns true; each argument reads behind the call as it read before'; 0 by the template 'total and deterministic' (their statements: Qxb6601561aDoorTotals.lean).
  GIVEN WITH THE SEED: the statements are not yours to turn. If you find one false, say at which input.
  Laid BY PROGRAM, IN A SANDBOX (cutbox-rows.mjs): the forced cells as the released guide's own fill.sh prints them over the translation 4b4de3f17eeda311… (all of the seat's roots in one cut). By AI agents, Wed Nov 11 2026. No macro, syntax, notation, axiom, sorry.
-/
import Derived.Test.Qxb6601561aDoorChecked
import GoSem.PinnedTables
import GoSem.Claim
import GoSem.ClaimJoined
import GoSem.ClaimMapViews
import Derived.JoinedTies
import Derived.KernelRfl
namespace Go.Proofs.Qxb6601561aDoor
/- THE CELL 'sum', in the pinned program and in every row, IS THE sha256 OF THE DUMP (.gsa) THAT Qxb6601561aDoorProg.lean LOADS. Nothing in Lean hashes anything: it is a label: what it is worth is what the hold of that sum in a sandbox is worth. -/
noncomputable def Tryd.pinned : Pinned := { name := "qxb6601561adoor", sum := "4b4de3f17eeda31154f6e1c634a67b67fd778084d96ce32992fa37f229f7af2b", checked := Tryd.checked }
namespace Rows
def none {H : Type} : Left H := { results := [], args := [] }

/- WHAT THE LISTED PACKAGE-LEVEL VARIABLES READ AS WHEN THE CALL BEGINS. Each datum BY PROGRAM (the guide's laid-datum.mjs) off the statement by which the dump's own 'gosem.cut.vars' lays the variable. In a bare row this is a premise. The card (Qxb6601561aDoorCards.lean) ties it to the program's text. -/
def laid_unicode_utf8_acceptRanges {H : Type} : DataW H := .agg [.agg [.lit (.int .u8 128), .lit (.int .u8 191)], .agg [.lit (.int .u8 160), .lit (.int .u8 191)], .agg [.lit (.int .u8 128), .lit (.int .u8 159)], .agg [.lit (.int .u8 144), .lit (.int .u8 191)], .agg [.lit (.int .u8 128), .lit (.int .u8 143)], .agg [.lit (.int .u8 0), .lit (.int .u8 0)], .agg [.lit (.int .u8 0), .lit (.int .u8 0)], .agg [.lit (.int .u8 0), .lit (.int .u8 0)], .agg [.lit (.int .u8 0), .lit (.int .u8 0)], .agg [.lit (.int .u8 0), .lit (.int .u8 0)], .agg [.lit (.int .u8 0), .lit (.int .u8 0)], .agg [.lit (.int .u8 0), .lit (.int .u8 0)], .agg [.lit (.int .u8 0), .lit (.int .u8 0)], .agg [.lit (.int .u8 0), .lit (.int .u8 0)], .agg [.lit (.int .u8 0), .lit (.int .u8 0)], .agg [.lit (.int .u8 0), .lit (.int .u8 0)]]
/-- One of Go's own tables, pinned by name: the form's constant. -/
def laid_unicode_utf8_first : DataW Unit := Go.Pinned.utf8First

/-- 'zzlaws_root_b1.FnTagListMatchesListAutomaton': WHATEVER THE INPUT: true; the input reads as it did. -/
def fnTagListMatchesListAutomatonSpec : ChangeSpec := { name := "fnTagListMatchesListAutomaton", fn := fun _ => fun
  | [d] => { results := [.lit (.bool true)], args := [d] }
  | _ => none }
def fnTagListMatchesListAutomatonRow : OpenClaim := { program := "qxb6601561adoor", sum := "4b4de3f17eeda31154f6e1c634a67b67fd778084d96ce32992fa37f229f7af2b", func := "example.com/envelope/envelope/zzlaws_root_b1.FnTagListMatchesListAutomaton", spec := "fnTagListMatchesListAutomaton", inPlace := ["internal/abi.NoEscape", "internal/bytealg.MakeNoZero", "internal/bytealg.IndexByteString", "internal/bytealg.IndexString"], named := ["unicode/utf8.first", "unicode/utf8.acceptRanges", "internal/bytealg.MaxLen"], apart := false, laid := [("unicode/utf8.acceptRanges", laid_unicode_utf8_acceptRanges), ("unicode/utf8.first", laid_unicode_utf8_first)] }
def FnTagListMatchesListAutomatonSaid : Prop := fnTagListMatchesListAutomatonRow.holds Tryd.pinned (OpenSpec.ofChange fnTagListMatchesListAutomatonSpec)

/-- ITS FALSE NEIGHBOUR: 'it returns false'. Refute it at one input. -/
def fnTagListMatchesListAutomatonWrong : ChangeSpec := { name := "fnTagListMatchesListAutomaton", fn := fun _ => fun
  | [d] => { results := [.lit (.bool false)], args := [d] }
  | _ => none }
def FnTagListMatchesListAutomatonWrongFalsely : Prop := fnTagListMatchesListAutomatonRow.holds Tryd.pinned (OpenSpec.ofChange fnTagListMatchesListAutomatonWrong)

/-- 'zzlaws_root_b1.FnTagListGivesBackWholeTags': WHATEVER THE INPUT: true; the input reads as it did. -/
def fnTagListGivesBackWholeTagsSpec : ChangeSpec := { name := "fnTagListGivesBackWholeTags", fn := fun _ => fun
  | [d] => { results := [.lit (.bool true)], args := [d] }
  | _ => none }
def fnTagListGivesBackWholeTagsRow : OpenClaim := { program := "qxb6601561adoor", sum := "4b4de3f17eeda31154f6e1c634a67b67fd778084d96ce32992fa37f229f7af2b", func := "example.com/envelope/envelope/zzlaws_root_b1.FnTagListGivesBackWholeTags", spec := "fnTagListGivesBackWholeTags", inPlace := ["internal/abi.NoEscape", "internal/bytealg.MakeNoZero", "internal/bytealg.IndexByteString", "internal/bytealg.IndexString"], named := ["unicode/utf8.first", "unicode/utf8.acceptRanges", "internal/bytealg.MaxLen"], apart := false, laid := [("unicode/utf8.acceptRanges", laid_unicode_utf8_acceptRanges), ("unicode/utf8.first", laid_unicode_utf8_first)] }
def FnTagListGivesBackWholeTagsSaid : Prop := fnTagListGivesBackWholeTagsRow.holds Tryd.pinned (OpenSpec.ofChange fnTagListGivesBackWholeTagsSpec)

/-- ITS FALSE NEIGHBOUR: 'it returns false'. Refute it at one input. -/
def fnTagListGivesBackWholeTagsWrong : ChangeSpec := { name := "fnTagListGivesBackWholeTags", fn := fun _ => fun
  | [d] => { results := [.lit (.bool false)], args := [d] }
  | _ => none }
def FnTagListGivesBackWholeTagsWrongFalsely : Prop := fnTagListGivesBackWholeTagsRow.holds Tryd.pinned (OpenSpec.ofChange fnTagListGivesBackWholeTagsWrong)

/-- 'zzlaws_root_b1.FnTagListIdempotent': WHATEVER THE INPUT: true; the input reads as it did. -/
def fnTagListIdempotentSpec : ChangeSpec := { name := "fnTagListIdempotent", fn := fun _ => fun
  | [d] => { results := [.lit (.bool true)], args := [d] }
  | _ => none }
def fnTagListIdempotentRow : OpenClaim := { program := "qxb6601561adoor", sum := "4b4de3f17eeda31154f6e1c634a67b67fd778084d96ce32992fa37f229f7af2b", func := "example.com/envelope/envelope/zzlaws_root_b1.FnTagListIdempotent", spec := "fnTagListIdempotent", inPlace := ["internal/abi.NoEscape", "internal/bytealg.MakeNoZero", "internal/bytealg.IndexByteString", "internal/bytealg.IndexString"], named := ["unicode/utf8.first", "unicode/utf8.acceptRanges", "internal/bytealg.MaxLen"], apart := false, laid := [("unicode/utf8.acceptRanges", laid_unicode_utf8_acceptRanges), ("unicode/utf8.first", laid_unicode_utf8_first)] }
def FnTagListIdempotentSaid : Prop := fnTagListIdempotentRow.holds Tryd.pinned (OpenSpec.ofChange fnTagListIdempotentSpec)

/-- ITS FALSE NEIGHBOUR: 'it returns false'. Refute it at one input. -/
def fnTagListIdempotentWrong : ChangeSpec := { name := "fnTagListIdempotent", fn := fun _ => fun
  | [d] => { results := [.lit (.bool false)], args := [d] }
  | _ => none }
def FnTagListIdempotentWrongFalsely : Prop := fnTagListIdempotentRow.holds Tryd.pinned (OpenSpec.ofChange fnTagListIdempotentWrong)

end Rows
end Go.Proofs.Qxb6601561aDoor
