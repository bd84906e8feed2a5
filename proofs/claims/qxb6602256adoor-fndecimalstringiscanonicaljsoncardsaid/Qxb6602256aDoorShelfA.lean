/-
  DERIVED: THE SHELF's CONTRACTS AT THIS DUMP, IN PLAIN WORDS (tools/lay-plain.mjs out of 'Qxb6602256aDoorShelfA.lean', which tools/lay-shelf.mjs wrote): THE SAME DECLARATIONS UNDER THE SAME NAMES: 'import', 'namespace', 'open', 'def', 'theorem' AND NOTHING ELSE: no command of the shelf's: FOR A HAND-IN. Each laying: the table of numbers ('.._ren') and one theorem, a field a fact of the dump's own or the kernel's comparison; each contract: ONE APPLICATION.
-/
import Derived.Shelf.Strings.Trim
import Derived.Shelf.Strings.Prefix
import Derived.Test.Qxb6602256aDoorProg
namespace Go.Proofs
open Go.Shelf
def Tryd.lays161_ren : Go.Shelf.Ren := ⟨fun | 161 => 38 | 231 => 50 | 227 => 51 | 233 => 52 | 235 => 53 | 228 => 56 | 197 => 68 | 151 => 69 | 260 => 86 | 152 => 54 | 137 => 70 | 119 => 71 | 224 => 72 | 225 => 73 | 217 => 87 | 266 => 100 | n => n, fun | 9 => 9 | 4 => 4 | 3 => 3 | 5 => 5 | 117 => 63 | 116 => 62 | 0 => 0 | 124 => 66 | 105 => 77 | 21 => 21 | 119 => 107 | 46 => 71 | 139 => 110 | 138 => 109 | n => n, fun | 3 => 3 | 4 => 4 | n => n⟩
theorem Tryd.lays161 : Go.Proofs.Lays.n161 Tryd.prog Tryd.lays161_ren := {
  mixed := by kernel_rfl
  f119 := Tryd.func71.trans (congrArg some (by kernel_rfl))
  f137 := Tryd.func70.trans (congrArg some (by kernel_rfl))
  f151 := Tryd.func69.trans (congrArg some (by kernel_rfl))
  f152 := Tryd.func54.trans (congrArg some (by kernel_rfl))
  f161 := Tryd.func38.trans (congrArg some (by kernel_rfl))
  f197 := Tryd.func68.trans (congrArg some (by kernel_rfl))
  f217 := Tryd.func87.trans (congrArg some (by kernel_rfl))
  f224 := Tryd.func72.trans (congrArg some (by kernel_rfl))
  f225 := Tryd.func73.trans (congrArg some (by kernel_rfl))
  f227 := Tryd.func51.trans (congrArg some (by kernel_rfl))
  f228 := Tryd.func56.trans (congrArg some (by kernel_rfl))
  f231 := Tryd.func50.trans (congrArg some (by kernel_rfl))
  f233 := Tryd.func52.trans (congrArg some (by kernel_rfl))
  f235 := Tryd.func53.trans (congrArg some (by kernel_rfl))
  f260 := Tryd.func86.trans (congrArg some (by kernel_rfl))
  f266 := Tryd.func100.trans (congrArg some (by kernel_rfl))
  t0 := Tryd.underlying0
  a0 := Tryd.isAgg0
  z0 := Tryd.sizeOf0
  v0 := Tryd.zeroValue0
  t3 := Tryd.underlying3
  a3 := Tryd.isAgg3
  z3 := Tryd.sizeOf3
  v3 := Tryd.zeroValue3
  t4 := Tryd.underlying4
  a4 := Tryd.isAgg4
  z4 := Tryd.sizeOf4
  v4 := Tryd.zeroValue4
  t5 := Tryd.underlying5
  a5 := Tryd.isAgg5
  z5 := Tryd.sizeOf5
  v5 := Tryd.zeroValue5
  t9 := Tryd.underlying9
  a9 := Tryd.isAgg9
  z9 := Tryd.sizeOf9
  v9 := Tryd.zeroValue9
  t21 := Tryd.underlying21
  a21 := Tryd.isAgg21
  z21 := Tryd.sizeOf21
  v21 := Tryd.zeroValue21
  t46 := Tryd.underlying71
  a46 := Tryd.isAgg71
  z46 := Tryd.sizeOf71
  v46 := Tryd.zeroValue71
  t105 := Tryd.underlying77
  a105 := Tryd.isAgg77
  z105 := Tryd.sizeOf77
  v105 := Tryd.zeroValue77
  t116 := Tryd.underlying62
  a116 := Tryd.isAgg62
  z116 := Tryd.sizeOf62
  t117 := Tryd.underlying63
  a117 := Tryd.isAgg63
  z117 := Tryd.sizeOf63
  v117 := Tryd.zeroValue63
  t119 := Tryd.underlying107
  a119 := Tryd.isAgg107
  z119 := Tryd.sizeOf107
  t124 := Tryd.underlying66
  a124 := Tryd.isAgg66
  z124 := Tryd.sizeOf66
  v124 := Tryd.zeroValue66
  t138 := Tryd.underlying109
  a138 := Tryd.isAgg109
  z138 := Tryd.sizeOf109
  v138 := Tryd.zeroValue109
  t139 := Tryd.underlying110
  a139 := Tryd.isAgg110
  z139 := Tryd.sizeOf110
  v139 := Tryd.zeroValue110
  g3 := by kernel_rfl
  g4 := by kernel_rfl }
open Go.RowKit in
/-- strings.TrimLeft: "TrimLeft returns a slice of the string s with all leading Unicode code points contained in cutset removed.": AT A cutset OF ONE ASCII BYTE. The world is as it was. (LAID: no walk: one application.) -/
theorem Tryd.strings_TrimLeft_one (s : ByteArray) (c : UInt8) (hc : c.toNat < 128) (w : World) :
    Calls Tryd.prog 38 #[.string s, .string ⟨#[c]⟩] w fun e w' => e = .returned (.string ⟨(Lib.trimLeftB s.data.toList c).toArray⟩) ∧ w' = w := Any.strings_TrimLeft_one Tryd.lays161 s c hc w
def Tryd.lays99_ren : Go.Shelf.Ren := ⟨fun | 99 => 36 | 206 => 48 | n => n, fun | 9 => 9 | 4 => 4 | 3 => 3 | n => n, fun | n => n⟩
theorem Tryd.lays99 : Go.Proofs.Lays.n99 Tryd.prog Tryd.lays99_ren := {
  mixed := by kernel_rfl
  f99 := Tryd.func36.trans (congrArg some (by kernel_rfl))
  f206 := Tryd.func48.trans (congrArg some (by kernel_rfl))
  t3 := Tryd.underlying3
  a3 := Tryd.isAgg3
  z3 := Tryd.sizeOf3
  v3 := Tryd.zeroValue3
  t4 := Tryd.underlying4
  a4 := Tryd.isAgg4
  z4 := Tryd.sizeOf4
  v4 := Tryd.zeroValue4
  t9 := Tryd.underlying9
  a9 := Tryd.isAgg9
  z9 := Tryd.sizeOf9
  v9 := Tryd.zeroValue9 }
open Go.RowKit Go.Lib in
/-- strings.HasPrefix: "HasPrefix reports whether the string s begins with prefix.": IT RETURNS 'Lib.hasPrefix s prefix'; the world is as it was. (LAID: no walk: one application.) -/
theorem Tryd.strings_HasPrefix (s p : ByteArray) (w : World) :
    Calls Tryd.prog 36 #[.string s, .string p] w fun e w' => e = .returned (.bool (Lib.hasPrefix s.data.toList p.data.toList)) ∧ w' = w := Any.strings_HasPrefix Tryd.lays99 s p w
def Tryd.lays101_ren : Go.Shelf.Ren := ⟨fun | 101 => 37 | 208 => 49 | 206 => 48 | n => n, fun | 9 => 9 | 4 => 4 | 3 => 3 | n => n, fun | n => n⟩
theorem Tryd.lays101 : Go.Proofs.Lays.n101 Tryd.prog Tryd.lays101_ren := {
  mixed := by kernel_rfl
  f101 := Tryd.func37.trans (congrArg some (by kernel_rfl))
  f206 := Tryd.func48.trans (congrArg some (by kernel_rfl))
  f208 := Tryd.func49.trans (congrArg some (by kernel_rfl))
  t3 := Tryd.underlying3
  a3 := Tryd.isAgg3
  z3 := Tryd.sizeOf3
  v3 := Tryd.zeroValue3
  t4 := Tryd.underlying4
  a4 := Tryd.isAgg4
  z4 := Tryd.sizeOf4
  v4 := Tryd.zeroValue4
  t9 := Tryd.underlying9
  a9 := Tryd.isAgg9
  z9 := Tryd.sizeOf9
  v9 := Tryd.zeroValue9 }
open Go.RowKit Go.Lib in
/-- strings.TrimPrefix: "TrimPrefix returns s without the provided leading prefix string. If s doesn't start with prefix, s is returned unchanged.": IT RETURNS 'Lib.trimPrefix s prefix'; the world is as it was. (LAID: no walk: one application.) -/
theorem Tryd.strings_TrimPrefix (s p : ByteArray) (w : World) :
    Calls Tryd.prog 37 #[.string s, .string p] w fun e w' => e = .returned (.string ⟨(Lib.trimPrefix s.data.toList p.data.toList).toArray⟩) ∧ w' = w := Any.strings_TrimPrefix Tryd.lays101 s p w
end Go.Proofs
