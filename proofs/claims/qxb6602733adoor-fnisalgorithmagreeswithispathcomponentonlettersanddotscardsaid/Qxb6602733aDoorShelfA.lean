/-
  DERIVED: THE SHELF's CONTRACTS AT THIS DUMP, IN PLAIN WORDS (tools/lay-plain.mjs out of 'Qxb6602733aDoorShelfA.lean', which tools/lay-shelf.mjs wrote): THE SAME DECLARATIONS UNDER THE SAME NAMES: 'import', 'namespace', 'open', 'def', 'theorem' AND NOTHING ELSE: no command of the shelf's: FOR A HAND-IN. Each laying: the table of numbers ('.._ren') and one theorem, a field a fact of the dump's own or the kernel's comparison; each contract: ONE APPLICATION.
-/
import Derived.Shelf.Strings.Trim
import Derived.Shelf.Small.Strs
import Derived.Test.Qxb6602733aDoorProg
namespace Go.Proofs
open Go.Shelf
def Tryd.lays160_ren : Go.Shelf.Ren := ⟨fun | 160 => 15 | 232 => 21 | 231 => 20 | 227 => 22 | 234 => 24 | 233 => 23 | 236 => 26 | 235 => 25 | 228 => 28 | 271 => 31 | 151 => 30 | 197 => 29 | 120 => 35 | 152 => 34 | 260 => 33 | 137 => 17 | 119 => 36 | 224 => 37 | 225 => 38 | 217 => 27 | 266 => 32 | n => n, fun | 9 => 9 | 4 => 4 | 3 => 3 | 5 => 5 | 117 => 31 | 116 => 30 | 0 => 0 | 124 => 34 | 21 => 21 | 105 => 35 | 46 => 40 | 119 => 39 | 139 => 43 | 138 => 42 | n => n, fun | 3 => 1 | 4 => 2 | n => n⟩
theorem Tryd.lays160 : Go.Proofs.Lays.n160 Tryd.prog Tryd.lays160_ren := {
  mixed := by kernel_rfl
  f119 := Tryd.func36.trans (congrArg some (by kernel_rfl))
  f120 := Tryd.func35.trans (congrArg some (by kernel_rfl))
  f137 := Tryd.func17.trans (congrArg some (by kernel_rfl))
  f151 := Tryd.func30.trans (congrArg some (by kernel_rfl))
  f152 := Tryd.func34.trans (congrArg some (by kernel_rfl))
  f160 := Tryd.func15.trans (congrArg some (by kernel_rfl))
  f197 := Tryd.func29.trans (congrArg some (by kernel_rfl))
  f217 := Tryd.func27.trans (congrArg some (by kernel_rfl))
  f224 := Tryd.func37.trans (congrArg some (by kernel_rfl))
  f225 := Tryd.func38.trans (congrArg some (by kernel_rfl))
  f227 := Tryd.func22.trans (congrArg some (by kernel_rfl))
  f228 := Tryd.func28.trans (congrArg some (by kernel_rfl))
  f231 := Tryd.func20.trans (congrArg some (by kernel_rfl))
  f232 := Tryd.func21.trans (congrArg some (by kernel_rfl))
  f233 := Tryd.func23.trans (congrArg some (by kernel_rfl))
  f234 := Tryd.func24.trans (congrArg some (by kernel_rfl))
  f235 := Tryd.func25.trans (congrArg some (by kernel_rfl))
  f236 := Tryd.func26.trans (congrArg some (by kernel_rfl))
  f260 := Tryd.func33.trans (congrArg some (by kernel_rfl))
  f266 := Tryd.func32.trans (congrArg some (by kernel_rfl))
  f271 := Tryd.func31.trans (congrArg some (by kernel_rfl))
  t0 := Tryd.underlying0
  a0 := Tryd.isAgg0
  z0 := Tryd.sizeOf0
  v0 := Tryd.zeroValue0
  t3 := Tryd.underlying3
  a3 := Tryd.isAgg3
  z3 := Tryd.sizeOf3
  v3 := Tryd.zeroValue3
  t4 := Tryd.underlying4
  a4 := Tryd.isAgg4
  z4 := Tryd.sizeOf4
  v4 := Tryd.zeroValue4
  t5 := Tryd.underlying5
  a5 := Tryd.isAgg5
  z5 := Tryd.sizeOf5
  v5 := Tryd.zeroValue5
  t9 := Tryd.underlying9
  a9 := Tryd.isAgg9
  z9 := Tryd.sizeOf9
  v9 := Tryd.zeroValue9
  t21 := Tryd.underlying21
  a21 := Tryd.isAgg21
  z21 := Tryd.sizeOf21
  v21 := Tryd.zeroValue21
  t46 := Tryd.underlying40
  a46 := Tryd.isAgg40
  z46 := Tryd.sizeOf40
  v46 := Tryd.zeroValue40
  t105 := Tryd.underlying35
  a105 := Tryd.isAgg35
  z105 := Tryd.sizeOf35
  v105 := Tryd.zeroValue35
  t116 := Tryd.underlying30
  a116 := Tryd.isAgg30
  z116 := Tryd.sizeOf30
  t117 := Tryd.underlying31
  a117 := Tryd.isAgg31
  z117 := Tryd.sizeOf31
  v117 := Tryd.zeroValue31
  t119 := Tryd.underlying39
  a119 := Tryd.isAgg39
  z119 := Tryd.sizeOf39
  t124 := Tryd.underlying34
  a124 := Tryd.isAgg34
  z124 := Tryd.sizeOf34
  v124 := Tryd.zeroValue34
  t138 := Tryd.underlying42
  a138 := Tryd.isAgg42
  z138 := Tryd.sizeOf42
  v138 := Tryd.zeroValue42
  t139 := Tryd.underlying43
  a139 := Tryd.isAgg43
  z139 := Tryd.sizeOf43
  v139 := Tryd.zeroValue43
  g3 := by kernel_rfl
  g4 := by kernel_rfl }
open Go.RowKit in
/-- strings.Trim: "Trim returns a slice of the string s with all leading and trailing Unicode code points contained in cutset removed.": AT A cutset OF ONE ASCII BYTE. THE WORLD BEHIND IT: as it was, or (where s is not empty) with ONE DRAW MORE off the tape: the statement 'return trimLeftByte(trimRightByte(s, c), c)' draws its order of evaluation. (LAID: no walk: one application.) -/
theorem Tryd.strings_Trim_one (s : ByteArray) (c : UInt8) (hc : c.toNat < 128) (w : World) (hs : s.size ≤ 9223372036854775807) :
    Calls Tryd.prog 15 #[.string s, .string ⟨#[c]⟩] w fun e w' => e = .returned (.string ⟨(Lib.trimB s.data.toList c).toArray⟩) ∧ (w' = w ∨ w' = w.drew) := Any.strings_Trim_one Tryd.lays160 s c hc w hs
def Tryd.lays137_ren : Go.Shelf.Ren := ⟨fun | 137 => 17 | 217 => 27 | 266 => 32 | n => n, fun | 9 => 9 | 5 => 5 | 3 => 3 | n => n, fun | n => n⟩
theorem Tryd.lays137 : Go.Proofs.Lays.n137 Tryd.prog Tryd.lays137_ren := {
  mixed := by kernel_rfl
  f137 := Tryd.func17.trans (congrArg some (by kernel_rfl))
  f217 := Tryd.func27.trans (congrArg some (by kernel_rfl))
  f266 := Tryd.func32.trans (congrArg some (by kernel_rfl))
  t3 := Tryd.underlying3
  a3 := Tryd.isAgg3
  z3 := Tryd.sizeOf3
  v3 := Tryd.zeroValue3
  t5 := Tryd.underlying5
  a5 := Tryd.isAgg5
  z5 := Tryd.sizeOf5
  v5 := Tryd.zeroValue5
  t9 := Tryd.underlying9
  a9 := Tryd.isAgg9
  z9 := Tryd.sizeOf9
  v9 := Tryd.zeroValue9 }
open Go.RowKit in
/-- strings.IndexByte: "IndexByte returns the index of the first instance of c in s, or -1 if c is not present in s.": IT RETURNS 'Lib.indexByte s c'; the world is as it was. (LAID: no walk: one application.) -/
theorem Tryd.strings_IndexByte (s : ByteArray) (c : Int) (w : World) :
    Calls Tryd.prog 17 #[.string s, .int .u8 c] w fun e w' => e = .returned (.int .i64 (Lib.indexByte s.data.toList c.toNat.toUInt8)) ∧ w' = w := Any.strings_IndexByte Tryd.lays137 s c w
end Go.Proofs
