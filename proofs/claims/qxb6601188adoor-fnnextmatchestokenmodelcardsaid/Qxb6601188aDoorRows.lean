/-
  NARROWER THAN 'FOR EVERY INPUT', by the rows' own cells (each row's printed sentence says how): FnNextMatchesTokenModel: laid · FnNextReadsAnEscapedStringWhole: laid · FnSkipMatchesValueModel: laid · FnSkipRereadsItsOwnText: laid.
  DERIVED. THE GIVEN ROWS OF THIS SEAT. 4 by the template 'for every input the law returns true; each argument reads behind the call as it read before'; 0 by the template 'total and deterministic' (their statements: Qxb6601188aDoorTotals.lean).
  GIVEN WITH THE SEED: the statements are not yours to turn. If you find one false, say at which input.
  Laid BY PROGRAM, IN A SANDBOX (cutbox-rows.mjs): the forced cells as the released guide's own fill.sh prints them over the translation 69d8ce7df88b344a… (all of the seat's roots in one cut). By AI agents, Wed Nov 11 2026. No macro, syntax, notation, axiom, sorry.
-/
import Derived.Test.Qxb6601188aDoorChecked
import GoSem.PinnedTables
import GoSem.Claim
import GoSem.ClaimJoined
import GoSem.ClaimMapViews
import Derived.JoinedTies
import Derived.KernelRfl
namespace Go.Proofs.Qxb6601188aDoor
/- THE CELL 'sum', in the pinned program and in every row, IS THE sha256 OF THE DUMP (.gsa) THAT Qxb6601188aDoorProg.lean LOADS. Nothing in Lean hashes anything: it is a label: what it is worth is what the hold of that sum in a sandbox is worth. -/
noncomputable def Tryd.pinned : Pinned := { name := "qxb6601188adoor", sum := "69d8ce7df88b344ab27c2133c0be99255c51346e86eb44cbbd951990ffbcf892", checked := Tryd.checked }
namespace Rows
def none {H : Type} : Left H := { results := [], args := [] }

/- WHAT THE LISTED PACKAGE-LEVEL VARIABLES READ AS WHEN THE CALL BEGINS. Each datum BY PROGRAM (the guide's laid-datum.mjs) off the statement by which the dump's own 'gosem.cut.vars' lays the variable. In a bare row this is a premise. The card (Qxb6601188aDoorCards.lean) ties it to the program's text. -/
def laid_unicode_utf8_acceptRanges {H : Type} : DataW H := .agg [.agg [.lit (.int .u8 128), .lit (.int .u8 191)], .agg [.lit (.int .u8 160), .lit (.int .u8 191)], .agg [.lit (.int .u8 128), .lit (.int .u8 159)], .agg [.lit (.int .u8 144), .lit (.int .u8 191)], .agg [.lit (.int .u8 128), .lit (.int .u8 143)], .agg [.lit (.int .u8 0), .lit (.int .u8 0)], .agg [.lit (.int .u8 0), .lit (.int .u8 0)], .agg [.lit (.int .u8 0), .lit (.int .u8 0)], .agg [.lit (.int .u8 0), .lit (.int .u8 0)], .agg [.lit (.int .u8 0), .lit (.int .u8 0)], .agg [.lit (.int .u8 0), .lit (.int .u8 0)], .agg [.lit (.int .u8 0), .lit (.int .u8 0)], .agg [.lit (.int .u8 0), .lit (.int .u8 0)], .agg [.lit (.int .u8 0), .lit (.int .u8 0)], .agg [.lit (.int .u8 0), .lit (.int .u8 0)], .agg [.lit (.int .u8 0), .lit (.int .u8 0)]]
/-- One of Go's own tables, pinned by name: the form's constant. -/
def laid_unicode_utf8_first : DataW Unit := Go.Pinned.utf8First

/-- 'zzlaws_root_b1.FnNextMatchesTokenModel': WHATEVER THE INPUT: true; the input reads as it did. -/
def fnNextMatchesTokenModelSpec : ChangeSpec := { name := "fnNextMatchesTokenModel", fn := fun _ => fun
  | [d1, d2] => { results := [.lit (.bool true)], args := [d1, d2] }
  | _ => none }
def fnNextMatchesTokenModelRow : OpenClaim := { program := "qxb6601188adoor", sum := "69d8ce7df88b344ab27c2133c0be99255c51346e86eb44cbbd951990ffbcf892", func := "example.com/zhaomu/zhaomu/zzlaws_root_b1.FnNextMatchesTokenModel", spec := "fnNextMatchesTokenModel", named := ["unicode/utf8.first", "unicode/utf8.acceptRanges"], apart := false, laid := [("unicode/utf8.acceptRanges", laid_unicode_utf8_acceptRanges), ("unicode/utf8.first", laid_unicode_utf8_first)] }
def FnNextMatchesTokenModelSaid : Prop := fnNextMatchesTokenModelRow.holds Tryd.pinned (OpenSpec.ofChange fnNextMatchesTokenModelSpec)

/-- ITS FALSE NEIGHBOUR: 'it returns false'. Refute it at one input. -/
def fnNextMatchesTokenModelWrong : ChangeSpec := { name := "fnNextMatchesTokenModel", fn := fun _ => fun
  | [d1, d2] => { results := [.lit (.bool false)], args := [d1, d2] }
  | _ => none }
def FnNextMatchesTokenModelWrongFalsely : Prop := fnNextMatchesTokenModelRow.holds Tryd.pinned (OpenSpec.ofChange fnNextMatchesTokenModelWrong)

/-- 'zzlaws_root_b1.FnNextReadsAnEscapedStringWhole': WHATEVER THE INPUT: true; the input reads as it did. -/
def fnNextReadsAnEscapedStringWholeSpec : ChangeSpec := { name := "fnNextReadsAnEscapedStringWhole", fn := fun _ => fun
  | [d1, d2] => { results := [.lit (.bool true)], args := [d1, d2] }
  | _ => none }
def fnNextReadsAnEscapedStringWholeRow : OpenClaim := { program := "qxb6601188adoor", sum := "69d8ce7df88b344ab27c2133c0be99255c51346e86eb44cbbd951990ffbcf892", func := "example.com/zhaomu/zhaomu/zzlaws_root_b1.FnNextReadsAnEscapedStringWhole", spec := "fnNextReadsAnEscapedStringWhole", named := ["unicode/utf8.first", "unicode/utf8.acceptRanges"], apart := false, laid := [("unicode/utf8.acceptRanges", laid_unicode_utf8_acceptRanges), ("unicode/utf8.first", laid_unicode_utf8_first)] }
def FnNextReadsAnEscapedStringWholeSaid : Prop := fnNextReadsAnEscapedStringWholeRow.holds Tryd.pinned (OpenSpec.ofChange fnNextReadsAnEscapedStringWholeSpec)

/-- ITS FALSE NEIGHBOUR: 'it returns false'. Refute it at one input. -/
def fnNextReadsAnEscapedStringWholeWrong : ChangeSpec := { name := "fnNextReadsAnEscapedStringWhole", fn := fun _ => fun
  | [d1, d2] => { results := [.lit (.bool false)], args := [d1, d2] }
  | _ => none }
def FnNextReadsAnEscapedStringWholeWrongFalsely : Prop := fnNextReadsAnEscapedStringWholeRow.holds Tryd.pinned (OpenSpec.ofChange fnNextReadsAnEscapedStringWholeWrong)

/-- 'zzlaws_root_b1.FnSkipMatchesValueModel': WHATEVER THE INPUT: true; the input reads as it did. -/
def fnSkipMatchesValueModelSpec : ChangeSpec := { name := "fnSkipMatchesValueModel", fn := fun _ => fun
  | [d1, d2] => { results := [.lit (.bool true)], args := [d1, d2] }
  | _ => none }
def fnSkipMatchesValueModelRow : OpenClaim := { program := "qxb6601188adoor", sum := "69d8ce7df88b344ab27c2133c0be99255c51346e86eb44cbbd951990ffbcf892", func := "example.com/zhaomu/zhaomu/zzlaws_root_b1.FnSkipMatchesValueModel", spec := "fnSkipMatchesValueModel", named := ["unicode/utf8.first", "unicode/utf8.acceptRanges"], apart := false, laid := [("unicode/utf8.acceptRanges", laid_unicode_utf8_acceptRanges), ("unicode/utf8.first", laid_unicode_utf8_first)] }
def FnSkipMatchesValueModelSaid : Prop := fnSkipMatchesValueModelRow.holds Tryd.pinned (OpenSpec.ofChange fnSkipMatchesValueModelSpec)

/-- ITS FALSE NEIGHBOUR: 'it returns false'. Refute it at one input. -/
def fnSkipMatchesValueModelWrong : ChangeSpec := { name := "fnSkipMatchesValueModel", fn := fun _ => fun
  | [d1, d2] => { results := [.lit (.bool false)], args := [d1, d2] }
  | _ => none }
def FnSkipMatchesValueModelWrongFalsely : Prop := fnSkipMatchesValueModelRow.holds Tryd.pinned (OpenSpec.ofChange fnSkipMatchesValueModelWrong)

/-- 'zzlaws_root_b1.FnSkipRereadsItsOwnText': WHATEVER THE INPUT: true; the input reads as it did. -/
def fnSkipRereadsItsOwnTextSpec : ChangeSpec := { name := "fnSkipRereadsItsOwnText", fn := fun _ => fun
  | [d1, d2] => { results := [.lit (.bool true)], args := [d1, d2] }
  | _ => none }
def fnSkipRereadsItsOwnTextRow : OpenClaim := { program := "qxb6601188adoor", sum := "69d8ce7df88b344ab27c2133c0be99255c51346e86eb44cbbd951990ffbcf892", func := "example.com/zhaomu/zhaomu/zzlaws_root_b1.FnSkipRereadsItsOwnText", spec := "fnSkipRereadsItsOwnText", named := ["unicode/utf8.first", "unicode/utf8.acceptRanges"], apart := false, laid := [("unicode/utf8.acceptRanges", laid_unicode_utf8_acceptRanges), ("unicode/utf8.first", laid_unicode_utf8_first)] }
def FnSkipRereadsItsOwnTextSaid : Prop := fnSkipRereadsItsOwnTextRow.holds Tryd.pinned (OpenSpec.ofChange fnSkipRereadsItsOwnTextSpec)

/-- ITS FALSE NEIGHBOUR: 'it returns false'. Refute it at one input. -/
def fnSkipRereadsItsOwnTextWrong : ChangeSpec := { name := "fnSkipRereadsItsOwnText", fn := fun _ => fun
  | [d1, d2] => { results := [.lit (.bool false)], args := [d1, d2] }
  | _ => none }
def FnSkipRereadsItsOwnTextWrongFalsely : Prop := fnSkipRereadsItsOwnTextRow.holds Tryd.pinned (OpenSpec.ofChange fnSkipRereadsItsOwnTextWrong)

end Rows
end Go.Proofs.Qxb6601188aDoor
