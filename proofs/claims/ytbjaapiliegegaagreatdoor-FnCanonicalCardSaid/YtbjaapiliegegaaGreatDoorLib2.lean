/-
  DERIVED: THE SHELF's CONTRACTS AT THIS DUMP, IN PLAIN WORDS (tools/lay-plain.mjs out of 'TryzShelfCase.lean', which tools/lay-shelf.mjs wrote): THE SAME DECLARATIONS UNDER THE SAME NAMES: 'import', 'namespace', 'open', 'def', 'theorem' AND NOTHING ELSE: no command of the shelf's: FOR A HAND-IN. Each laying: the table of numbers ('.._ren') and one theorem, a field a fact of the dump's own or the kernel's comparison; each contract: ONE APPLICATION.
-/
import Derived.Shelf.Bytes.SlCase
import Derived.Test.YtbjaapiliegegaaGreatDoorProg
namespace Go.Proofs
open Go.Shelf
def Tryz.lays15b_ren : Go.Shelf.Ren := ⟨fun | 10 => 15 | 15 => 33 | 16 => 34 | 18 => 35 | 26 => 67 | 27 => 68 | 28 => 69 | 32 => 99 | 33 => 100 | 34 => 101 | 35 => 134 | 36 => 135 | n => n, fun | 22 => 27 | 4 => 4 | 3 => 3 | 0 => 0 | 5 => 5 | 30 => 57 | 35 => 113 | 21 => 21 | 39 => 151 | 45 => 154 | 43 => 152 | 46 => 207 | 33 => 189 | 49 => 210 | 48 => 209 | 50 => 211 | 56 => 271 | 54 => 269 | n => n, fun | 1 => 1 | 2 => 2 | 3 => 3 | n => n⟩
theorem Tryz.lays15b : Go.Proofs.SlLaysU.n10 Tryz.prog Tryz.lays15b_ren := {
  mixed := by kernel_rfl
  f10 := Tryz.func15.trans (congrArg some (by kernel_rfl))
  f15 := Tryz.func33.trans (congrArg some (by kernel_rfl))
  t0 := Tryz.underlying0
  a0 := Tryz.isAgg0
  z0 := Tryz.sizeOf0
  v0 := Tryz.zeroValue0
  t3 := Tryz.underlying3
  a3 := Tryz.isAgg3
  z3 := Tryz.sizeOf3
  v3 := Tryz.zeroValue3
  t4 := Tryz.underlying4
  a4 := Tryz.isAgg4
  z4 := Tryz.sizeOf4
  v4 := Tryz.zeroValue4
  t5 := Tryz.underlying5
  a5 := Tryz.isAgg5
  z5 := Tryz.sizeOf5
  v5 := Tryz.zeroValue5
  t22 := Tryz.underlying27
  a22 := Tryz.isAgg27
  z22 := Tryz.sizeOf27
  v22 := Tryz.zeroValue27
  t30 := Tryz.underlying57
  a30 := Tryz.isAgg57
  z30 := Tryz.sizeOf57
  v30 := Tryz.zeroValue57
  i5 := by kernel_rfl }
end Go.Proofs
