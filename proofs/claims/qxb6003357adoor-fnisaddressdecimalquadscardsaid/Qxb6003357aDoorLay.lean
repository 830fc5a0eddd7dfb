/-
  DERIVED: THE SHELF's CONTRACTS AT THIS DUMP, IN PLAIN WORDS (tools/lay-plain.mjs out of 'Qxb6003357aDoorLay.lean', which tools/lay-shelf.mjs wrote): THE SAME DECLARATIONS UNDER THE SAME NAMES: 'import', 'namespace', 'open', 'def', 'theorem' AND NOTHING ELSE: no command of the shelf's: FOR A HAND-IN. Each laying: the table of numbers ('.._ren') and one theorem, a field a fact of the dump's own or the kernel's comparison; each contract: ONE APPLICATION.
-/
import Derived.Test.Qxb6003357aDoorChecked
import Derived.WalkKit
import Derived.Shelf.Strings.SlTrimAscii
namespace Go.Proofs
open Go.Shelf
def Tryd.lays160_ren : Go.Shelf.Ren := ⟨fun | 160 => 25 | 232 => 33 | 231 => 32 | 227 => 34 | 234 => 36 | 233 => 35 | 236 => 38 | 235 => 37 | 228 => 53 | 271 => 55 | 151 => 54 | 197 => 42 | 120 => 67 | 152 => 66 | 260 => 56 | 137 => 70 | 119 => 71 | 224 => 72 | 225 => 73 | 217 => 74 | 266 => 41 | n => n, fun | 9 => 9 | 4 => 4 | 3 => 3 | 5 => 5 | 117 => 65 | 116 => 64 | 0 => 0 | 124 => 68 | 21 => 21 | 105 => 74 | 46 => 40 | 119 => 97 | 139 => 100 | 138 => 99 | n => n, fun | 3 => 6 | 4 => 7 | n => n⟩
theorem Tryd.lays160 : Go.Proofs.Lays.n160 Tryd.prog Tryd.lays160_ren := {
  mixed := by kernel_rfl
  f119 := Tryd.func71.trans (congrArg some (by kernel_rfl))
  f120 := Tryd.func67.trans (congrArg some (by kernel_rfl))
  f137 := Tryd.func70.trans (congrArg some (by kernel_rfl))
  f151 := Tryd.func54.trans (congrArg some (by kernel_rfl))
  f152 := Tryd.func66.trans (congrArg some (by kernel_rfl))
  f160 := Tryd.func25.trans (congrArg some (by kernel_rfl))
  f197 := Tryd.func42.trans (congrArg some (by kernel_rfl))
  f217 := Tryd.func74.trans (congrArg some (by kernel_rfl))
  f224 := Tryd.func72.trans (congrArg some (by kernel_rfl))
  f225 := Tryd.func73.trans (congrArg some (by kernel_rfl))
  f227 := Tryd.func34.trans (congrArg some (by kernel_rfl))
  f228 := Tryd.func53.trans (congrArg some (by kernel_rfl))
  f231 := Tryd.func32.trans (congrArg some (by kernel_rfl))
  f232 := Tryd.func33.trans (congrArg some (by kernel_rfl))
  f233 := Tryd.func35.trans (congrArg some (by kernel_rfl))
  f234 := Tryd.func36.trans (congrArg some (by kernel_rfl))
  f235 := Tryd.func37.trans (congrArg some (by kernel_rfl))
  f236 := Tryd.func38.trans (congrArg some (by kernel_rfl))
  f260 := Tryd.func56.trans (congrArg some (by kernel_rfl))
  f266 := Tryd.func41.trans (congrArg some (by kernel_rfl))
  f271 := Tryd.func55.trans (congrArg some (by kernel_rfl))
  t0 := Tryd.underlying0
  a0 := Tryd.isAgg0
  z0 := Tryd.sizeOf0
  v0 := Tryd.zeroValue0
  t3 := Tryd.underlying3
  a3 := Tryd.isAgg3
  z3 := Tryd.sizeOf3
  v3 := Tryd.zeroValue3
  t4 := Tryd.underlying4
  a4 := Tryd.isAgg4
  z4 := Tryd.sizeOf4
  v4 := Tryd.zeroValue4
  t5 := Tryd.underlying5
  a5 := Tryd.isAgg5
  z5 := Tryd.sizeOf5
  v5 := Tryd.zeroValue5
  t9 := Tryd.underlying9
  a9 := Tryd.isAgg9
  z9 := Tryd.sizeOf9
  v9 := Tryd.zeroValue9
  t21 := Tryd.underlying21
  a21 := Tryd.isAgg21
  z21 := Tryd.sizeOf21
  v21 := Tryd.zeroValue21
  t46 := Tryd.underlying40
  a46 := Tryd.isAgg40
  z46 := Tryd.sizeOf40
  v46 := Tryd.zeroValue40
  t105 := Tryd.underlying74
  a105 := Tryd.isAgg74
  z105 := Tryd.sizeOf74
  v105 := Tryd.zeroValue74
  t116 := Tryd.underlying64
  a116 := Tryd.isAgg64
  z116 := Tryd.sizeOf64
  t117 := Tryd.underlying65
  a117 := Tryd.isAgg65
  z117 := Tryd.sizeOf65
  v117 := Tryd.zeroValue65
  t119 := Tryd.underlying97
  a119 := Tryd.isAgg97
  z119 := Tryd.sizeOf97
  t124 := Tryd.underlying68
  a124 := Tryd.isAgg68
  z124 := Tryd.sizeOf68
  v124 := Tryd.zeroValue68
  t138 := Tryd.underlying99
  a138 := Tryd.isAgg99
  z138 := Tryd.sizeOf99
  v138 := Tryd.zeroValue99
  t139 := Tryd.underlying100
  a139 := Tryd.isAgg100
  z139 := Tryd.sizeOf100
  v139 := Tryd.zeroValue100
  g3 := by kernel_rfl
  g4 := by kernel_rfl }
end Go.Proofs
