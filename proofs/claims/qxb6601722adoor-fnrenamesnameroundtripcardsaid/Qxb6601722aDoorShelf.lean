/-
  DERIVED: THE SHELF's CONTRACTS AT THIS DUMP, IN PLAIN WORDS (tools/lay-plain.mjs out of 'Qxb6601722aDoorShelf.lean', which tools/lay-shelf.mjs wrote): THE SAME DECLARATIONS UNDER THE SAME NAMES: 'import', 'namespace', 'open', 'def', 'theorem' AND NOTHING ELSE: no command of the shelf's: FOR A HAND-IN. Each laying: the table of numbers ('.._ren') and one theorem, a field a fact of the dump's own or the kernel's comparison; each contract: ONE APPLICATION.
-/
import Derived.Shelf.Unicode.DecodeSlow
import Derived.Shelf.Unicode.DecodeAny
import Derived.Shelf.Unicode.CaseLookup
import Derived.Shelf.Unicode.CaseConvert
import Derived.Shelf.Unicode.CaseTo
import Derived.Shelf.Unicode.CaseLaid
import Derived.Lib.LaidU8
import Derived.Test.Qxb6601722aDoorProg
namespace Go.Proofs
open Go.Shelf
def Tryd.lays197_ren : Go.Shelf.Ren := ⟨fun | 197 => 29 | 260 => 33 | n => n, fun | 9 => 9 | 21 => 21 | 3 => 3 | 4 => 4 | 5 => 5 | 105 => 66 | 119 => 94 | 0 => 0 | 46 => 75 | 139 => 97 | 138 => 96 | n => n, fun | 3 => 3 | 4 => 4 | n => n⟩
theorem Tryd.lays197 : Go.Proofs.Lays.n197 Tryd.prog Tryd.lays197_ren := {
  mixed := by kernel_rfl
  f197 := Tryd.func29.trans (congrArg some (by kernel_rfl))
  f260 := Tryd.func33.trans (congrArg some (by kernel_rfl))
  t0 := Tryd.underlying0
  a0 := Tryd.isAgg0
  z0 := Tryd.sizeOf0
  v0 := Tryd.zeroValue0
  t3 := Tryd.underlying3
  a3 := Tryd.isAgg3
  z3 := Tryd.sizeOf3
  v3 := Tryd.zeroValue3
  t4 := Tryd.underlying4
  a4 := Tryd.isAgg4
  z4 := Tryd.sizeOf4
  v4 := Tryd.zeroValue4
  t5 := Tryd.underlying5
  a5 := Tryd.isAgg5
  z5 := Tryd.sizeOf5
  v5 := Tryd.zeroValue5
  t9 := Tryd.underlying9
  a9 := Tryd.isAgg9
  z9 := Tryd.sizeOf9
  v9 := Tryd.zeroValue9
  t21 := Tryd.underlying21
  a21 := Tryd.isAgg21
  z21 := Tryd.sizeOf21
  v21 := Tryd.zeroValue21
  t46 := Tryd.underlying75
  a46 := Tryd.isAgg75
  z46 := Tryd.sizeOf75
  v46 := Tryd.zeroValue75
  t105 := Tryd.underlying66
  a105 := Tryd.isAgg66
  z105 := Tryd.sizeOf66
  v105 := Tryd.zeroValue66
  t119 := Tryd.underlying94
  a119 := Tryd.isAgg94
  z119 := Tryd.sizeOf94
  t138 := Tryd.underlying96
  a138 := Tryd.isAgg96
  z138 := Tryd.sizeOf96
  v138 := Tryd.zeroValue96
  t139 := Tryd.underlying97
  a139 := Tryd.isAgg97
  z139 := Tryd.sizeOf97
  v139 := Tryd.zeroValue97
  g3 := by kernel_rfl
  g4 := by kernel_rfl }
def Tryd.lays260_ren : Go.Shelf.Ren := ⟨fun | 260 => 33 | n => n, fun | 9 => 9 | 21 => 21 | 3 => 3 | 4 => 4 | 5 => 5 | 119 => 94 | 0 => 0 | 46 => 75 | 139 => 97 | 138 => 96 | n => n, fun | 3 => 3 | 4 => 4 | n => n⟩
theorem Tryd.lays260 : Go.Proofs.Lays.n260 Tryd.prog Tryd.lays260_ren := {
  mixed := by kernel_rfl
  f260 := Tryd.func33.trans (congrArg some (by kernel_rfl))
  t0 := Tryd.underlying0
  a0 := Tryd.isAgg0
  z0 := Tryd.sizeOf0
  v0 := Tryd.zeroValue0
  t3 := Tryd.underlying3
  a3 := Tryd.isAgg3
  z3 := Tryd.sizeOf3
  v3 := Tryd.zeroValue3
  t4 := Tryd.underlying4
  a4 := Tryd.isAgg4
  z4 := Tryd.sizeOf4
  v4 := Tryd.zeroValue4
  t5 := Tryd.underlying5
  a5 := Tryd.isAgg5
  z5 := Tryd.sizeOf5
  v5 := Tryd.zeroValue5
  t9 := Tryd.underlying9
  a9 := Tryd.isAgg9
  z9 := Tryd.sizeOf9
  v9 := Tryd.zeroValue9
  t21 := Tryd.underlying21
  a21 := Tryd.isAgg21
  z21 := Tryd.sizeOf21
  v21 := Tryd.zeroValue21
  t46 := Tryd.underlying75
  a46 := Tryd.isAgg75
  z46 := Tryd.sizeOf75
  v46 := Tryd.zeroValue75
  t119 := Tryd.underlying94
  a119 := Tryd.isAgg94
  z119 := Tryd.sizeOf94
  t138 := Tryd.underlying96
  a138 := Tryd.isAgg96
  z138 := Tryd.sizeOf96
  v138 := Tryd.zeroValue96
  t139 := Tryd.underlying97
  a139 := Tryd.isAgg97
  z139 := Tryd.sizeOf97
  v139 := Tryd.zeroValue97
  g3 := by kernel_rfl
  g4 := by kernel_rfl }
open Go.RowKit Go.Lib in
/-- **unicode/utf8.DecodeRuneInString AT EVERY STRING.** (LAID: no walk: one application.) -/
theorem Tryd.utf8_DecodeRuneInString (s : ByteArray) (w : World) (hT : Lib.Utf8Tabs 3 4 w) :
    Calls Tryd.prog 29 #[.string s] w fun e w' => e = .returned (.tuple #[.int .i32 (Lib.decodeGo s).1, .int .i64 (Lib.decodeGo s).2]) ∧ Below w.heap.size w w' := Any.utf8_DecodeRuneInString Tryd.lays197 s w hT
def Tryd.lays274_ren : Go.Shelf.Ren := ⟨fun | 274 => 34 | n => n, fun | 21 => 21 | 162 => 80 | 160 => 78 | 3 => 3 | 4 => 4 | 46 => 75 | 0 => 0 | 208 => 102 | 51 => 98 | 206 => 100 | n => n, fun | n => n⟩
theorem Tryd.lays274 : Go.Proofs.Lays.n274 Tryd.prog Tryd.lays274_ren := {
  mixed := by kernel_rfl
  f274 := Tryd.func34.trans (congrArg some (by kernel_rfl))
  t0 := Tryd.underlying0
  a0 := Tryd.isAgg0
  z0 := Tryd.sizeOf0
  v0 := Tryd.zeroValue0
  t3 := Tryd.underlying3
  a3 := Tryd.isAgg3
  z3 := Tryd.sizeOf3
  v3 := Tryd.zeroValue3
  t4 := Tryd.underlying4
  a4 := Tryd.isAgg4
  z4 := Tryd.sizeOf4
  v4 := Tryd.zeroValue4
  t21 := Tryd.underlying21
  a21 := Tryd.isAgg21
  z21 := Tryd.sizeOf21
  v21 := Tryd.zeroValue21
  t46 := Tryd.underlying75
  a46 := Tryd.isAgg75
  z46 := Tryd.sizeOf75
  v46 := Tryd.zeroValue75
  t51 := Tryd.underlying98
  a51 := Tryd.isAgg98
  z51 := Tryd.sizeOf98
  v51 := Tryd.zeroValue98
  t160 := Tryd.underlying78
  a160 := Tryd.isAgg78
  z160 := Tryd.sizeOf78
  v160 := Tryd.zeroValue78
  t162 := Tryd.underlying80
  a162 := Tryd.isAgg80
  z162 := Tryd.sizeOf80
  v162 := Tryd.zeroValue80
  t208 := Tryd.underlying102
  a208 := Tryd.isAgg102
  z208 := Tryd.sizeOf102
  v208 := Tryd.zeroValue102 }
open Go.RowKit Go.Lib in
theorem Tryd.unicode_lookupCaseRange (T : Array CaseRow) (R oR cap : Nat) (r : Int) (w : World) (hT : CaseTab R oR T w) (hok : CaseOk T) (hn : T.size ≤ 1000000000) :
    Calls Tryd.prog 34 #[.int .i32 r, .slice (some ⟨R, oR, none⟩) T.size cap] w fun e w' =>
      e = .returned (match lookupIdx T r (T.size + 1) 0 T.size with | some i => .pointer (some ⟨R, oR + i * 5, none⟩) | none => .pointer none) ∧ w' = w := Any.unicode_lookupCaseRange Tryd.lays274 T R oR cap r w hT hok hn
def Tryd.lays275_ren : Go.Shelf.Ren := ⟨fun | 275 => 35 | n => n, fun | 3 => 3 | 21 => 21 | 160 => 78 | 0 => 0 | 208 => 102 | 206 => 100 | 4 => 4 | 51 => 98 | n => n, fun | n => n⟩
theorem Tryd.lays275 : Go.Proofs.Lays.n275 Tryd.prog Tryd.lays275_ren := {
  mixed := by kernel_rfl
  f275 := Tryd.func35.trans (congrArg some (by kernel_rfl))
  t0 := Tryd.underlying0
  a0 := Tryd.isAgg0
  z0 := Tryd.sizeOf0
  v0 := Tryd.zeroValue0
  t3 := Tryd.underlying3
  a3 := Tryd.isAgg3
  z3 := Tryd.sizeOf3
  v3 := Tryd.zeroValue3
  t4 := Tryd.underlying4
  a4 := Tryd.isAgg4
  z4 := Tryd.sizeOf4
  v4 := Tryd.zeroValue4
  t21 := Tryd.underlying21
  a21 := Tryd.isAgg21
  z21 := Tryd.sizeOf21
  v21 := Tryd.zeroValue21
  t51 := Tryd.underlying98
  a51 := Tryd.isAgg98
  z51 := Tryd.sizeOf98
  v51 := Tryd.zeroValue98
  t160 := Tryd.underlying78
  a160 := Tryd.isAgg78
  z160 := Tryd.sizeOf78
  v160 := Tryd.zeroValue78
  t206 := Tryd.underlying100
  a206 := Tryd.isAgg100
  z206 := Tryd.sizeOf100
  v206 := Tryd.zeroValue100
  t208 := Tryd.underlying102
  a208 := Tryd.isAgg102
  z208 := Tryd.sizeOf102
  v208 := Tryd.zeroValue102 }
open Go.RowKit Go.Lib in
theorem Tryd.unicode_convertCase (c : Nat) (hc : c < 3) (r : Int) (A o : Nat) (x : CaseRow) (w : World) (hlo : (x.1 : Int) ≤ r) (hhi : r ≤ (x.2.1 : Int)) (hH : x.2.1 < 2147483647) (c0 : w.cell? ⟨A, o, none⟩ = some (.int .u32 x.1)) (cD : w.cell? ⟨A, o + 2 + c, none⟩ = some (.int .i32 (x.delta c))) :
    Calls Tryd.prog 35 #[.int .i64 c, .int .i32 r, .pointer (some ⟨A, o, none⟩)] w fun e w' => e = .returned (.int .i32 (wrap32 (convertR c r x))) ∧ ∃ q, w' = w.drewN q := Any.unicode_convertCase Tryd.lays275 c hc r A o x w hlo hhi hH c0 cD
theorem Tryd.u8Extra : U8Extra Tryd.prog Tryd.lays260_ren := {
  n3 := by kernel_rfl
  n4 := by kernel_rfl
  y3 := by kernel_rfl
  y4 := by kernel_rfl
  c5 := by kernel_rfl
  c119 := by kernel_rfl
  c138 := by kernel_rfl }
end Go.Proofs
