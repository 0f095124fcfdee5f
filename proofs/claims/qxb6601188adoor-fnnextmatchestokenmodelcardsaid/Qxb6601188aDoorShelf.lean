/-
  DERIVED: THE SHELF's CONTRACTS AT THIS DUMP, IN PLAIN WORDS (tools/lay-plain.mjs out of 'Qxb6601188aDoorShelf.lean', which tools/lay-shelf.mjs wrote): THE SAME DECLARATIONS UNDER THE SAME NAMES: 'import', 'namespace', 'open', 'def', 'theorem' AND NOTHING ELSE: no command of the shelf's: FOR A HAND-IN. Each laying: the table of numbers ('.._ren') and one theorem, a field a fact of the dump's own or the kernel's comparison; each contract: ONE APPLICATION.
-/
import Derived.Shelf.Bytes.SlTrim
import Derived.Test.Qxb6601188aDoorProg
namespace Go.Proofs
open Go.Shelf
def Tryd.lays8_ren : Go.Shelf.Ren := ⟨fun | 8 => 24 | 9 => 25 | 11 => 26 | 12 => 27 | 14 => 28 | 16 => 29 | 17 => 30 | 18 => 31 | 20 => 32 | n => n, fun | 22 => 22 | 9 => 9 | 3 => 3 | 4 => 4 | 5 => 5 | 28 => 45 | 27 => 44 | 0 => 0 | 31 => 48 | 33 => 49 | 21 => 21 | 36 => 52 | 37 => 53 | 40 => 56 | 39 => 55 | n => n, fun | 0 => 0 | 1 => 1 | n => n⟩
theorem Tryd.lays8 : Go.Proofs.SlLaysV.n8 Tryd.prog Tryd.lays8_ren := {
  mixed := by kernel_rfl
  f8 := Tryd.func24.trans (congrArg some (by kernel_rfl))
  f9 := Tryd.func25.trans (congrArg some (by kernel_rfl))
  f11 := Tryd.func26.trans (congrArg some (by kernel_rfl))
  f12 := Tryd.func27.trans (congrArg some (by kernel_rfl))
  f14 := Tryd.func28.trans (congrArg some (by kernel_rfl))
  f16 := Tryd.func29.trans (congrArg some (by kernel_rfl))
  f17 := Tryd.func30.trans (congrArg some (by kernel_rfl))
  f18 := Tryd.func31.trans (congrArg some (by kernel_rfl))
  f20 := Tryd.func32.trans (congrArg some (by kernel_rfl))
  t0 := Tryd.underlying0
  a0 := Tryd.isAgg0
  z0 := Tryd.sizeOf0
  v0 := Tryd.zeroValue0
  t3 := Tryd.underlying3
  a3 := Tryd.isAgg3
  z3 := Tryd.sizeOf3
  v3 := Tryd.zeroValue3
  t4 := Tryd.underlying4
  a4 := Tryd.isAgg4
  z4 := Tryd.sizeOf4
  v4 := Tryd.zeroValue4
  t5 := Tryd.underlying5
  a5 := Tryd.isAgg5
  z5 := Tryd.sizeOf5
  v5 := Tryd.zeroValue5
  t9 := Tryd.underlying9
  a9 := Tryd.isAgg9
  z9 := Tryd.sizeOf9
  v9 := Tryd.zeroValue9
  t21 := Tryd.underlying21
  a21 := Tryd.isAgg21
  z21 := Tryd.sizeOf21
  v21 := Tryd.zeroValue21
  t22 := Tryd.underlying22
  a22 := Tryd.isAgg22
  z22 := Tryd.sizeOf22
  v22 := Tryd.zeroValue22
  t27 := Tryd.underlying44
  a27 := Tryd.isAgg44
  z27 := Tryd.sizeOf44
  t28 := Tryd.underlying45
  a28 := Tryd.isAgg45
  z28 := Tryd.sizeOf45
  v28 := Tryd.zeroValue45
  t31 := Tryd.underlying48
  a31 := Tryd.isAgg48
  z31 := Tryd.sizeOf48
  v31 := Tryd.zeroValue48
  t33 := Tryd.underlying49
  a33 := Tryd.isAgg49
  z33 := Tryd.sizeOf49
  v33 := Tryd.zeroValue49
  t36 := Tryd.underlying52
  a36 := Tryd.isAgg52
  z36 := Tryd.sizeOf52
  t37 := Tryd.underlying53
  a37 := Tryd.isAgg53
  z37 := Tryd.sizeOf53
  v37 := Tryd.zeroValue53
  t39 := Tryd.underlying55
  a39 := Tryd.isAgg55
  z39 := Tryd.sizeOf55
  v39 := Tryd.zeroValue55
  t40 := Tryd.underlying56
  a40 := Tryd.isAgg56
  z40 := Tryd.sizeOf56
  v40 := Tryd.zeroValue56 }
open Go.RowKit Go.Lib in
theorem Tryd.bytes_TrimLeft (p : Option Addr) (n c : Nat) (bs : List UInt8) (cutset : ByteArray) (w : World)
    (hb : bs.length = n) (hnc : n ≤ c) (hbig : c ≤ 9223372036854775807) (h1 : Lib.BytesAt w p n bs) (hcs : cutset.size < 4294967281) (hascii : ∀ (j : Nat) b, cutset.data.toList[j]? = some b → b.toNat < 128) :
    Calls Tryd.prog 24 #[.slice p n c, .string cutset] w fun e w' => e = .returned (Lib.leftV p n c (n - (Lib.trimLeftS bs cutset.data.toList).length)) ∧ Below w.heap.size w w' :=
  have hz := zero_of_info (P := Tryd.prog) (t := Tryd.lays8_ren.t 27) (v := .agg (Array.replicate 256 (.bool false))) (n := 256) (by kernel_rfl)
  Any.bytes_TrimLeft_ascii Tryd.lays8 hz.1 hz.2 p n c bs cutset w hb hnc hbig h1 hcs hascii
end Go.Proofs
