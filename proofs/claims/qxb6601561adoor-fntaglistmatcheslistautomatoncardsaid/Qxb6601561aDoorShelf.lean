/-
  DERIVED: THE SHELF's CONTRACTS AT THIS DUMP, IN PLAIN WORDS (tools/lay-plain.mjs out of 'Qxb6601561aDoorShelf.lean', which tools/lay-shelf.mjs wrote): THE SAME DECLARATIONS UNDER THE SAME NAMES: 'import', 'namespace', 'open', 'def', 'theorem' AND NOTHING ELSE: no command of the shelf's: FOR A HAND-IN. Each laying: the table of numbers ('.._ren') and one theorem, a field a fact of the dump's own or the kernel's comparison; each contract: ONE APPLICATION.
-/
import Derived.Shelf.Strings.OnBuilder
import Derived.Shelf.Strings.Prefix
import Derived.Shelf.Strings.SlTrimAscii
import Derived.Test.Qxb6601561aDoorProg
namespace Go.Proofs
open Go.Shelf
def Tryd.lays156_ren : Go.Shelf.Ren := ⟨fun | 156 => 20 | 165 => 30 | 166 => 31 | 169 => 32 | 240 => 38 | 241 => 39 | 276 => 43 | 277 => 44 | n => n, fun | 31 => 22 | 9 => 9 | 3 => 3 | 4 => 4 | 0 => 0 | 20 => 20 | 72 => 42 | 76 => 46 | 70 => 40 | 37 => 27 | 75 => 45 | 127 => 52 | 164 => 54 | 5 => 5 | 80 => 48 | n => n, fun | n => n⟩
theorem Tryd.lays156 : Go.Proofs.Lays.n156 Tryd.prog Tryd.lays156_ren := {
  mixed := by kernel_rfl
  f156 := Tryd.func20.trans (congrArg some (by kernel_rfl))
  f165 := Tryd.func30.trans (congrArg some (by kernel_rfl))
  f166 := Tryd.func31.trans (congrArg some (by kernel_rfl))
  f169 := Tryd.func32.trans (congrArg some (by kernel_rfl))
  f240 := Tryd.func38.trans (congrArg some (by kernel_rfl))
  f241 := Tryd.func39.trans (congrArg some (by kernel_rfl))
  f276 := Tryd.func43.trans (congrArg some (by kernel_rfl))
  f277 := Tryd.func44.trans (congrArg some (by kernel_rfl))
  t0 := Tryd.underlying0
  a0 := Tryd.isAgg0
  z0 := Tryd.sizeOf0
  v0 := Tryd.zeroValue0
  t3 := Tryd.underlying3
  a3 := Tryd.isAgg3
  z3 := Tryd.sizeOf3
  v3 := Tryd.zeroValue3
  t4 := Tryd.underlying4
  a4 := Tryd.isAgg4
  z4 := Tryd.sizeOf4
  v4 := Tryd.zeroValue4
  t9 := Tryd.underlying9
  a9 := Tryd.isAgg9
  z9 := Tryd.sizeOf9
  v9 := Tryd.zeroValue9
  t20 := Tryd.underlying20
  a20 := Tryd.isAgg20
  z20 := Tryd.sizeOf20
  v20 := Tryd.zeroValue20
  t31 := Tryd.underlying22
  a31 := Tryd.isAgg22
  z31 := Tryd.sizeOf22
  v31 := Tryd.zeroValue22
  t37 := Tryd.underlying27
  a37 := Tryd.isAgg27
  z37 := Tryd.sizeOf27
  v37 := Tryd.zeroValue27
  t70 := Tryd.underlying40
  a70 := Tryd.isAgg40
  z70 := Tryd.sizeOf40
  v70 := Tryd.zeroValue40
  t72 := Tryd.underlying42
  a72 := Tryd.isAgg42
  z72 := Tryd.sizeOf42
  v72 := Tryd.zeroValue42
  t75 := Tryd.underlying45
  a75 := Tryd.isAgg45
  z75 := Tryd.sizeOf45
  v75 := Tryd.zeroValue45
  t76 := Tryd.underlying46
  a76 := Tryd.isAgg46
  z76 := Tryd.sizeOf46
  v76 := Tryd.zeroValue46
  t127 := Tryd.underlying52
  a127 := Tryd.isAgg52
  z127 := Tryd.sizeOf52
  v127 := Tryd.zeroValue52
  t164 := Tryd.underlying54
  a164 := Tryd.isAgg54
  z164 := Tryd.sizeOf54
  v164 := Tryd.zeroValue54 }
theorem Tryd.Builder_Extra_156 : Builder.Extra Tryd.prog Tryd.lays156_ren := {
  sizeBuilder := by kernel_rfl
  liesBuilder := by kernel_rfl
  t5 := Tryd.underlying5
  a5 := Tryd.isAgg5
  z5 := Tryd.sizeOf5
  v5 := Tryd.zeroValue5
  infoByte := by kernel_rfl
  cellsByte := by kernel_rfl
  sizeByte := by kernel_rfl
  neB5 := by decide }
open Go.RowKit in
/-- No element: the empty string; the world is as it was. (Whatever the slice's address and capacity: a nil slice too.) (LAID: no walk: one application.) -/
theorem Tryd.strings_Join_none (a : Option Addr) (c : Nat) (sep : ByteArray) (w : World) :
    Calls Tryd.prog 20 #[.slice a 0 c, .string sep] w fun e w' => e = .returned (.string ⟨#[]⟩) ∧ w' = w := Any.strings_Join_none Tryd.lays156 Tryd.Builder_Extra_156 a c sep w
open Go.RowKit in
/-- strings.Join: "Join concatenates the elements of its first argument to create a single string. The separator string sep is placed between elements in the resulting string.": HOWEVER MANY ELEMENTS. Below the heap's end the world is as it was. (LAID: no walk: one application.) -/
theorem Tryd.strings_Join (bk o c : Nat) (xs : List ByteArray) (sep : ByteArray) (w : World) (hcells : ∀ (j : Nat) x, xs[j]? = some x → w.cell? ⟨bk, o + j, none⟩ = some (.string x)) (hbk : bk < w.heap.size) (hN : xs.length ≤ 140737488355328) (hcap : xs.length ≤ c) (hlen : (Lib.join (xs.map (·.data.toList)) sep.data.toList).length ≤ 140737488355328) :
    Calls Tryd.prog 20 #[.slice (some ⟨bk, o, none⟩) xs.length c, .string sep] w fun e w' => e = .returned (.string ⟨(Lib.join (xs.map (·.data.toList)) sep.data.toList).toArray⟩) ∧ Below w.heap.size w w' := Any.strings_Join Tryd.lays156 Tryd.Builder_Extra_156 bk o c xs sep w hcells hbk hN hcap hlen

def Tryd.lays161_ren : Go.Shelf.Ren := ⟨fun | 161 => 21 | 231 => 23 | 227 => 25 | 233 => 26 | 235 => 28 | 228 => 34 | 197 => 35 | 151 => 36 | 260 => 40 | 152 => 41 | 137 => 45 | 119 => 46 | 224 => 47 | 225 => 48 | 217 => 49 | 266 => 50 | n => n, fun | 9 => 9 | 4 => 4 | 3 => 3 | 5 => 5 | 117 => 36 | 116 => 35 | 0 => 0 | 124 => 39 | 105 => 49 | 21 => 21 | 119 => 57 | 46 => 58 | 139 => 61 | 138 => 60 | n => n, fun | 3 => 0 | 4 => 1 | n => n⟩
theorem Tryd.lays161 : Go.Proofs.Lays.n161 Tryd.prog Tryd.lays161_ren := {
  mixed := by kernel_rfl
  f119 := Tryd.func46.trans (congrArg some (by kernel_rfl))
  f137 := Tryd.func45.trans (congrArg some (by kernel_rfl))
  f151 := Tryd.func36.trans (congrArg some (by kernel_rfl))
  f152 := Tryd.func41.trans (congrArg some (by kernel_rfl))
  f161 := Tryd.func21.trans (congrArg some (by kernel_rfl))
  f197 := Tryd.func35.trans (congrArg some (by kernel_rfl))
  f217 := Tryd.func49.trans (congrArg some (by kernel_rfl))
  f224 := Tryd.func47.trans (congrArg some (by kernel_rfl))
  f225 := Tryd.func48.trans (congrArg some (by kernel_rfl))
  f227 := Tryd.func25.trans (congrArg some (by kernel_rfl))
  f228 := Tryd.func34.trans (congrArg some (by kernel_rfl))
  f231 := Tryd.func23.trans (congrArg some (by kernel_rfl))
  f233 := Tryd.func26.trans (congrArg some (by kernel_rfl))
  f235 := Tryd.func28.trans (congrArg some (by kernel_rfl))
  f260 := Tryd.func40.trans (congrArg some (by kernel_rfl))
  f266 := Tryd.func50.trans (congrArg some (by kernel_rfl))
  t0 := Tryd.underlying0
  a0 := Tryd.isAgg0
  z0 := Tryd.sizeOf0
  v0 := Tryd.zeroValue0
  t3 := Tryd.underlying3
  a3 := Tryd.isAgg3
  z3 := Tryd.sizeOf3
  v3 := Tryd.zeroValue3
  t4 := Tryd.underlying4
  a4 := Tryd.isAgg4
  z4 := Tryd.sizeOf4
  v4 := Tryd.zeroValue4
  t5 := Tryd.underlying5
  a5 := Tryd.isAgg5
  z5 := Tryd.sizeOf5
  v5 := Tryd.zeroValue5
  t9 := Tryd.underlying9
  a9 := Tryd.isAgg9
  z9 := Tryd.sizeOf9
  v9 := Tryd.zeroValue9
  t21 := Tryd.underlying21
  a21 := Tryd.isAgg21
  z21 := Tryd.sizeOf21
  v21 := Tryd.zeroValue21
  t46 := Tryd.underlying58
  a46 := Tryd.isAgg58
  z46 := Tryd.sizeOf58
  v46 := Tryd.zeroValue58
  t105 := Tryd.underlying49
  a105 := Tryd.isAgg49
  z105 := Tryd.sizeOf49
  v105 := Tryd.zeroValue49
  t116 := Tryd.underlying35
  a116 := Tryd.isAgg35
  z116 := Tryd.sizeOf35
  t117 := Tryd.underlying36
  a117 := Tryd.isAgg36
  z117 := Tryd.sizeOf36
  v117 := Tryd.zeroValue36
  t119 := Tryd.underlying57
  a119 := Tryd.isAgg57
  z119 := Tryd.sizeOf57
  t124 := Tryd.underlying39
  a124 := Tryd.isAgg39
  z124 := Tryd.sizeOf39
  v124 := Tryd.zeroValue39
  t138 := Tryd.underlying60
  a138 := Tryd.isAgg60
  z138 := Tryd.sizeOf60
  v138 := Tryd.zeroValue60
  t139 := Tryd.underlying61
  a139 := Tryd.isAgg61
  z139 := Tryd.sizeOf61
  v139 := Tryd.zeroValue61
  g3 := by kernel_rfl
  g4 := by kernel_rfl }
open Go.RowKit Go.Lib in
theorem Tryd.strings_TrimLeft (s : ByteArray) (cutset : ByteArray) (w : World) (hcs : cutset.size < 4294967281) (hascii : ∀ (j : Nat) b, cutset.data.toList[j]? = some b → b.toNat < 128) :
    Calls Tryd.prog 21 #[.string s, .string cutset] w fun e w' => e = .returned (.string ⟨(Lib.trimLeftS s.data.toList cutset.data.toList).toArray⟩) ∧ Below w.heap.size w w' := Any.strings_TrimLeft_laid Tryd.lays161 (by kernel_rfl) s cutset w hcs hascii
def Tryd.lays160_ren : Go.Shelf.Ren := ⟨fun | 160 => 19 | 232 => 24 | 231 => 23 | 227 => 25 | 234 => 27 | 233 => 26 | 236 => 29 | 235 => 28 | 228 => 34 | 271 => 37 | 151 => 36 | 197 => 35 | 120 => 42 | 152 => 41 | 260 => 40 | 137 => 45 | 119 => 46 | 224 => 47 | 225 => 48 | 217 => 49 | 266 => 50 | n => n, fun | 9 => 9 | 4 => 4 | 3 => 3 | 5 => 5 | 117 => 36 | 116 => 35 | 0 => 0 | 124 => 39 | 21 => 21 | 105 => 49 | 46 => 58 | 119 => 57 | 139 => 61 | 138 => 60 | n => n, fun | 3 => 0 | 4 => 1 | n => n⟩
theorem Tryd.lays160 : Go.Proofs.Lays.n160 Tryd.prog Tryd.lays160_ren := {
  mixed := by kernel_rfl
  f119 := Tryd.func46.trans (congrArg some (by kernel_rfl))
  f120 := Tryd.func42.trans (congrArg some (by kernel_rfl))
  f137 := Tryd.func45.trans (congrArg some (by kernel_rfl))
  f151 := Tryd.func36.trans (congrArg some (by kernel_rfl))
  f152 := Tryd.func41.trans (congrArg some (by kernel_rfl))
  f160 := Tryd.func19.trans (congrArg some (by kernel_rfl))
  f197 := Tryd.func35.trans (congrArg some (by kernel_rfl))
  f217 := Tryd.func49.trans (congrArg some (by kernel_rfl))
  f224 := Tryd.func47.trans (congrArg some (by kernel_rfl))
  f225 := Tryd.func48.trans (congrArg some (by kernel_rfl))
  f227 := Tryd.func25.trans (congrArg some (by kernel_rfl))
  f228 := Tryd.func34.trans (congrArg some (by kernel_rfl))
  f231 := Tryd.func23.trans (congrArg some (by kernel_rfl))
  f232 := Tryd.func24.trans (congrArg some (by kernel_rfl))
  f233 := Tryd.func26.trans (congrArg some (by kernel_rfl))
  f234 := Tryd.func27.trans (congrArg some (by kernel_rfl))
  f235 := Tryd.func28.trans (congrArg some (by kernel_rfl))
  f236 := Tryd.func29.trans (congrArg some (by kernel_rfl))
  f260 := Tryd.func40.trans (congrArg some (by kernel_rfl))
  f266 := Tryd.func50.trans (congrArg some (by kernel_rfl))
  f271 := Tryd.func37.trans (congrArg some (by kernel_rfl))
  t0 := Tryd.underlying0
  a0 := Tryd.isAgg0
  z0 := Tryd.sizeOf0
  v0 := Tryd.zeroValue0
  t3 := Tryd.underlying3
  a3 := Tryd.isAgg3
  z3 := Tryd.sizeOf3
  v3 := Tryd.zeroValue3
  t4 := Tryd.underlying4
  a4 := Tryd.isAgg4
  z4 := Tryd.sizeOf4
  v4 := Tryd.zeroValue4
  t5 := Tryd.underlying5
  a5 := Tryd.isAgg5
  z5 := Tryd.sizeOf5
  v5 := Tryd.zeroValue5
  t9 := Tryd.underlying9
  a9 := Tryd.isAgg9
  z9 := Tryd.sizeOf9
  v9 := Tryd.zeroValue9
  t21 := Tryd.underlying21
  a21 := Tryd.isAgg21
  z21 := Tryd.sizeOf21
  v21 := Tryd.zeroValue21
  t46 := Tryd.underlying58
  a46 := Tryd.isAgg58
  z46 := Tryd.sizeOf58
  v46 := Tryd.zeroValue58
  t105 := Tryd.underlying49
  a105 := Tryd.isAgg49
  z105 := Tryd.sizeOf49
  v105 := Tryd.zeroValue49
  t116 := Tryd.underlying35
  a116 := Tryd.isAgg35
  z116 := Tryd.sizeOf35
  t117 := Tryd.underlying36
  a117 := Tryd.isAgg36
  z117 := Tryd.sizeOf36
  v117 := Tryd.zeroValue36
  t119 := Tryd.underlying57
  a119 := Tryd.isAgg57
  z119 := Tryd.sizeOf57
  t124 := Tryd.underlying39
  a124 := Tryd.isAgg39
  z124 := Tryd.sizeOf39
  v124 := Tryd.zeroValue39
  t138 := Tryd.underlying60
  a138 := Tryd.isAgg60
  z138 := Tryd.sizeOf60
  v138 := Tryd.zeroValue60
  t139 := Tryd.underlying61
  a139 := Tryd.isAgg61
  z139 := Tryd.sizeOf61
  v139 := Tryd.zeroValue61
  g3 := by kernel_rfl
  g4 := by kernel_rfl }
open Go.RowKit Go.Lib in
theorem Tryd.strings_Trim (s : ByteArray) (cutset : ByteArray) (w : World) (hs : s.size ≤ 9223372036854775807) (hcs : cutset.size < 4294967281) (hascii : ∀ (j : Nat) b, cutset.data.toList[j]? = some b → b.toNat < 128) :
    Calls Tryd.prog 19 #[.string s, .string cutset] w fun e w' => e = .returned (.string ⟨(Lib.trimS s.data.toList cutset.data.toList).toArray⟩) ∧ Below w.heap.size w w' := Any.strings_Trim_laid Tryd.lays160 (by kernel_rfl) s cutset w hs hcs hascii
def Tryd.lays99_ren : Go.Shelf.Ren := ⟨fun | 99 => 22 | 206 => 33 | n => n, fun | 9 => 9 | 4 => 4 | 3 => 3 | n => n, fun | n => n⟩
theorem Tryd.lays99 : Go.Proofs.Lays.n99 Tryd.prog Tryd.lays99_ren := {
  mixed := by kernel_rfl
  f99 := Tryd.func22.trans (congrArg some (by kernel_rfl))
  f206 := Tryd.func33.trans (congrArg some (by kernel_rfl))
  t3 := Tryd.underlying3
  a3 := Tryd.isAgg3
  z3 := Tryd.sizeOf3
  v3 := Tryd.zeroValue3
  t4 := Tryd.underlying4
  a4 := Tryd.isAgg4
  z4 := Tryd.sizeOf4
  v4 := Tryd.zeroValue4
  t9 := Tryd.underlying9
  a9 := Tryd.isAgg9
  z9 := Tryd.sizeOf9
  v9 := Tryd.zeroValue9 }
open Go.RowKit in
theorem Tryd.strings_HasPrefix (s p : ByteArray) (w : World) :
    Calls Tryd.prog 22 #[.string s, .string p] w fun e w' => e = .returned (.bool (Lib.hasPrefix s.data.toList p.data.toList)) ∧ w' = w := Any.strings_HasPrefix Tryd.lays99 s p w
end Go.Proofs
