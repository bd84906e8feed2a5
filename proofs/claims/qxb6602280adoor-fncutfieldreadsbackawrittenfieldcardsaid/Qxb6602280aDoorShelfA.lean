/-
  DERIVED: THE SHELF's CONTRACTS AT THIS DUMP, IN PLAIN WORDS (tools/lay-plain.mjs out of 'Qxb6602280aDoorShelfA.lean', which tools/lay-shelf.mjs wrote): THE SAME DECLARATIONS UNDER THE SAME NAMES: 'import', 'namespace', 'open', 'def', 'theorem' AND NOTHING ELSE: no command of the shelf's: FOR A HAND-IN. Each laying: the table of numbers ('.._ren') and one theorem, a field a fact of the dump's own or the kernel's comparison; each contract: ONE APPLICATION.
-/
import Derived.Shelf.Unicode.IsSpaceAny
import Derived.Shelf.Bytes.SlCut
import Derived.Test.Qxb6602280aDoorProg
namespace Go.Proofs
open Go.Shelf
def Tryd.lays199_ren : Go.Shelf.Ren := ⟨fun | 199 => 35 | 261 => 51 | 311 => 63 | 312 => 64 | n => n, fun | 21 => 21 | 4 => 4 | 51 => 66 | 141 => 68 | 0 => 0 | 196 => 82 | 193 => 79 | 3 => 3 | 198 => 85 | 49 => 83 | 194 => 80 | 201 => 88 | 226 => 94 | 46 => 24 | 227 => 95 | n => n, fun | 6 => 2 | n => n⟩
theorem Tryd.lays199 : Go.Proofs.Lays.n199 Tryd.prog Tryd.lays199_ren := {
  mixed := by kernel_rfl
  f199 := Tryd.func35.trans (congrArg some (by kernel_rfl))
  f261 := Tryd.func51.trans (congrArg some (by kernel_rfl))
  f311 := Tryd.func63.trans (congrArg some (by kernel_rfl))
  f312 := Tryd.func64.trans (congrArg some (by kernel_rfl))
  t0 := Tryd.underlying0
  a0 := Tryd.isAgg0
  z0 := Tryd.sizeOf0
  v0 := Tryd.zeroValue0
  t3 := Tryd.underlying3
  a3 := Tryd.isAgg3
  z3 := Tryd.sizeOf3
  v3 := Tryd.zeroValue3
  t4 := Tryd.underlying4
  a4 := Tryd.isAgg4
  z4 := Tryd.sizeOf4
  v4 := Tryd.zeroValue4
  t21 := Tryd.underlying21
  a21 := Tryd.isAgg21
  z21 := Tryd.sizeOf21
  v21 := Tryd.zeroValue21
  t46 := Tryd.underlying24
  a46 := Tryd.isAgg24
  z46 := Tryd.sizeOf24
  v46 := Tryd.zeroValue24
  t49 := Tryd.underlying83
  a49 := Tryd.isAgg83
  z49 := Tryd.sizeOf83
  v49 := Tryd.zeroValue83
  t51 := Tryd.underlying66
  a51 := Tryd.isAgg66
  z51 := Tryd.sizeOf66
  v51 := Tryd.zeroValue66
  t141 := Tryd.underlying68
  a141 := Tryd.isAgg68
  z141 := Tryd.sizeOf68
  v141 := Tryd.zeroValue68
  t193 := Tryd.underlying79
  a193 := Tryd.isAgg79
  z193 := Tryd.sizeOf79
  v193 := Tryd.zeroValue79
  t194 := Tryd.underlying80
  a194 := Tryd.isAgg80
  z194 := Tryd.sizeOf80
  v194 := Tryd.zeroValue80
  t196 := Tryd.underlying82
  a196 := Tryd.isAgg82
  z196 := Tryd.sizeOf82
  v196 := Tryd.zeroValue82
  t198 := Tryd.underlying85
  a198 := Tryd.isAgg85
  z198 := Tryd.sizeOf85
  v198 := Tryd.zeroValue85
  t201 := Tryd.underlying88
  a201 := Tryd.isAgg88
  z201 := Tryd.sizeOf88
  v201 := Tryd.zeroValue88
  t226 := Tryd.underlying94
  a226 := Tryd.isAgg94
  z226 := Tryd.sizeOf94
  v226 := Tryd.zeroValue94
  t227 := Tryd.underlying95
  a227 := Tryd.isAgg95
  z227 := Tryd.sizeOf95
  v227 := Tryd.zeroValue95
  g6 := by kernel_rfl }
open Go.RowKit Go.Lib in
/-- **unicode.IsSpace AT EVERY int32.** (LAID: no walk: one application.) -/
theorem Tryd.unicode_IsSpace_any (r : Int) (w : World) (hlo : -2147483648 ≤ r) (hhi : r ≤ 2147483647) (hW : Lib.WhiteTab 2 w) :
    Calls Tryd.prog 35 #[.int .i32 r] w fun e w' => e = .returned (.bool (Lib.isSpaceZ r)) ∧ Below w.heap.size w w' := Any.unicode_IsSpace_any Tryd.lays199 r w hlo hhi hW
def Tryd.laysSlT4_ren : Go.Shelf.Ren := ⟨fun | 4 => 27 | 5 => 33 | 6 => 44 | 7 => 45 | 8 => 46 | 9 => 47 | 10 => 48 | 11 => 58 | 12 => 59 | n => n, fun | 22 => 23 | 4 => 4 | 3 => 3 | 0 => 0 | 5 => 5 | 29 => 24 | 9 => 9 | 31 => 74 | 30 => 66 | n => n, fun | 0 => 1 | n => n⟩
theorem Tryd.laysSlT4 : Go.Proofs.SlLaysT.n4 Tryd.prog Tryd.laysSlT4_ren := {
  mixed := by kernel_rfl
  f4 := Tryd.func27.trans (congrArg some (by kernel_rfl))
  f5 := Tryd.func33.trans (congrArg some (by kernel_rfl))
  f6 := Tryd.func44.trans (congrArg some (by kernel_rfl))
  f7 := Tryd.func45.trans (congrArg some (by kernel_rfl))
  f8 := Tryd.func46.trans (congrArg some (by kernel_rfl))
  f9 := Tryd.func47.trans (congrArg some (by kernel_rfl))
  f10 := Tryd.func48.trans (congrArg some (by kernel_rfl))
  f11 := Tryd.func58.trans (congrArg some (by kernel_rfl))
  f12 := Tryd.func59.trans (congrArg some (by kernel_rfl))
  t0 := Tryd.underlying0
  a0 := Tryd.isAgg0
  z0 := Tryd.sizeOf0
  v0 := Tryd.zeroValue0
  t3 := Tryd.underlying3
  a3 := Tryd.isAgg3
  z3 := Tryd.sizeOf3
  v3 := Tryd.zeroValue3
  t4 := Tryd.underlying4
  a4 := Tryd.isAgg4
  z4 := Tryd.sizeOf4
  v4 := Tryd.zeroValue4
  t5 := Tryd.underlying5
  a5 := Tryd.isAgg5
  z5 := Tryd.sizeOf5
  v5 := Tryd.zeroValue5
  t9 := Tryd.underlying9
  a9 := Tryd.isAgg9
  z9 := Tryd.sizeOf9
  v9 := Tryd.zeroValue9
  t22 := Tryd.underlying23
  a22 := Tryd.isAgg23
  z22 := Tryd.sizeOf23
  v22 := Tryd.zeroValue23
  t29 := Tryd.underlying24
  a29 := Tryd.isAgg24
  z29 := Tryd.sizeOf24
  v29 := Tryd.zeroValue24
  t30 := Tryd.underlying66
  a30 := Tryd.isAgg66
  z30 := Tryd.sizeOf66
  v30 := Tryd.zeroValue66
  t31 := Tryd.underlying74
  a31 := Tryd.isAgg74
  z31 := Tryd.sizeOf74
  v31 := Tryd.zeroValue74
  g0 := by kernel_rfl }
/-- **bytes.Cut, WHOLE UP TO THE MODEL's BOUND** ('hs': s shorter than 4294967281 bytes: bytes.Index's): each argument nil, or of no byte at whatever address, or at an address with its cells ('Lib.BytesIn': Derived/Shelf/Bytes/SlSmallAll.lean). 'hr1', 'hr2': each number a byte's (what '(Lit.int .u8 x).wf' says) · 'hm': internal/bytealg.MaxLen's cell holds some int, whatever · 'hp1': a nil slice has no capacity. (LAID: no walk: one application.) -/
theorem Tryd.bytes_Cut_all (p1 p2 : Option Addr) (n c1 k c2 : Nat) (xs ys : List Int) (m : Int) (w : World) (hx : xs.length = n) (hy : ys.length = k) (hr1 : ∀ x ∈ xs, 0 ≤ x ∧ x < 256) (hr2 : ∀ y ∈ ys, 0 ≤ y ∧ y < 256) (h1 : Lib.BytesIn w p1 n xs) (h2 : Lib.BytesIn w p2 k ys) (hp1 : p1 = none → c1 = 0) (hcap : n ≤ c1) (hs : n < 4294967281) (hk : k ≤ 9223372036854775807) (hm : w.cell? ⟨1, 0, none⟩ = some (.int .i64 m)) :
    Calls Tryd.prog 27 #[.slice p1 n c1, .slice p2 k c2] w fun e w' => e = .returned (Lib.cutV p1 n c1 k (Lib.index (Lib.bytesOf xs) (Lib.bytesOf ys))) ∧ ∃ q, w' = w.drewN q := Any.bytes_Cut_all Tryd.laysSlT4 p1 p2 n c1 k c2 xs ys m w hx hy hr1 hr2 h1 h2 hp1 hcap hs hk hm
end Go.Proofs
