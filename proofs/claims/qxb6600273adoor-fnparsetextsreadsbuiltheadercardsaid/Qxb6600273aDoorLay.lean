/-
  DERIVED: THE SHELF's CONTRACTS AT THIS DUMP, IN PLAIN WORDS (tools/lay-plain.mjs out of 'Qxb6600273aDoorLay.lean', which tools/lay-shelf.mjs wrote): THE SAME DECLARATIONS UNDER THE SAME NAMES: 'import', 'namespace', 'open', 'def', 'theorem' AND NOTHING ELSE: no command of the shelf's: FOR A HAND-IN. Each laying: the table of numbers ('.._ren') and one theorem, a field a fact of the dump's own or the kernel's comparison; each contract: ONE APPLICATION.
-/
import Derived.Test.Qxb6600273aDoorChecked
import Derived.WalkKit
import Derived.Shelf.Strings.SlTrimAscii
import Derived.Shelf.Strings.Builder1
namespace Go.Proofs
open Go.Shelf
def Tryd.lays161_ren : Go.Shelf.Ren := ⟨fun | 161 => 11 | 231 => 16 | 227 => 17 | 233 => 18 | 235 => 19 | 228 => 24 | 197 => 25 | 151 => 26 | 260 => 29 | 152 => 30 | 137 => 36 | 119 => 37 | 224 => 33 | 225 => 32 | 217 => 31 | 266 => 38 | n => n, fun | 9 => 9 | 4 => 4 | 3 => 3 | 5 => 5 | 117 => 40 | 116 => 39 | 0 => 0 | 124 => 43 | 105 => 52 | 21 => 21 | 119 => 63 | 46 => 60 | 139 => 66 | 138 => 65 | n => n, fun | 3 => 1 | 4 => 2 | n => n⟩
theorem Tryd.lays161 : Go.Proofs.Lays.n161 Tryd.prog Tryd.lays161_ren := {
  mixed := by kernel_rfl
  f119 := Tryd.func37.trans (congrArg some (by kernel_rfl))
  f137 := Tryd.func36.trans (congrArg some (by kernel_rfl))
  f151 := Tryd.func26.trans (congrArg some (by kernel_rfl))
  f152 := Tryd.func30.trans (congrArg some (by kernel_rfl))
  f161 := Tryd.func11.trans (congrArg some (by kernel_rfl))
  f197 := Tryd.func25.trans (congrArg some (by kernel_rfl))
  f217 := Tryd.func31.trans (congrArg some (by kernel_rfl))
  f224 := Tryd.func33.trans (congrArg some (by kernel_rfl))
  f225 := Tryd.func32.trans (congrArg some (by kernel_rfl))
  f227 := Tryd.func17.trans (congrArg some (by kernel_rfl))
  f228 := Tryd.func24.trans (congrArg some (by kernel_rfl))
  f231 := Tryd.func16.trans (congrArg some (by kernel_rfl))
  f233 := Tryd.func18.trans (congrArg some (by kernel_rfl))
  f235 := Tryd.func19.trans (congrArg some (by kernel_rfl))
  f260 := Tryd.func29.trans (congrArg some (by kernel_rfl))
  f266 := Tryd.func38.trans (congrArg some (by kernel_rfl))
  t0 := Tryd.underlying0
  a0 := Tryd.isAgg0
  z0 := Tryd.sizeOf0
  v0 := Tryd.zeroValue0
  t3 := Tryd.underlying3
  a3 := Tryd.isAgg3
  z3 := Tryd.sizeOf3
  v3 := Tryd.zeroValue3
  t4 := Tryd.underlying4
  a4 := Tryd.isAgg4
  z4 := Tryd.sizeOf4
  v4 := Tryd.zeroValue4
  t5 := Tryd.underlying5
  a5 := Tryd.isAgg5
  z5 := Tryd.sizeOf5
  v5 := Tryd.zeroValue5
  t9 := Tryd.underlying9
  a9 := Tryd.isAgg9
  z9 := Tryd.sizeOf9
  v9 := Tryd.zeroValue9
  t21 := Tryd.underlying21
  a21 := Tryd.isAgg21
  z21 := Tryd.sizeOf21
  v21 := Tryd.zeroValue21
  t46 := Tryd.underlying60
  a46 := Tryd.isAgg60
  z46 := Tryd.sizeOf60
  v46 := Tryd.zeroValue60
  t105 := Tryd.underlying52
  a105 := Tryd.isAgg52
  z105 := Tryd.sizeOf52
  v105 := Tryd.zeroValue52
  t116 := Tryd.underlying39
  a116 := Tryd.isAgg39
  z116 := Tryd.sizeOf39
  t117 := Tryd.underlying40
  a117 := Tryd.isAgg40
  z117 := Tryd.sizeOf40
  v117 := Tryd.zeroValue40
  t119 := Tryd.underlying63
  a119 := Tryd.isAgg63
  z119 := Tryd.sizeOf63
  t124 := Tryd.underlying43
  a124 := Tryd.isAgg43
  z124 := Tryd.sizeOf43
  v124 := Tryd.zeroValue43
  t138 := Tryd.underlying65
  a138 := Tryd.isAgg65
  z138 := Tryd.sizeOf65
  v138 := Tryd.zeroValue65
  t139 := Tryd.underlying66
  a139 := Tryd.isAgg66
  z139 := Tryd.sizeOf66
  v139 := Tryd.zeroValue66
  g3 := by kernel_rfl
  g4 := by kernel_rfl }
def Tryd.lays169_ren : Go.Shelf.Ren := ⟨fun | 169 => 21 | n => n, fun | 70 => 44 | 9 => 9 | 0 => 0 | 72 => 46 | 37 => 24 | 127 => 56 | 3 => 3 | 5 => 5 | n => n, fun | n => n⟩
theorem Tryd.lays169 : Go.Proofs.Lays.n169 Tryd.prog Tryd.lays169_ren := {
  mixed := by kernel_rfl
  f169 := Tryd.func21.trans (congrArg some (by kernel_rfl))
  t0 := Tryd.underlying0
  a0 := Tryd.isAgg0
  z0 := Tryd.sizeOf0
  v0 := Tryd.zeroValue0
  t3 := Tryd.underlying3
  a3 := Tryd.isAgg3
  z3 := Tryd.sizeOf3
  v3 := Tryd.zeroValue3
  t9 := Tryd.underlying9
  a9 := Tryd.isAgg9
  z9 := Tryd.sizeOf9
  v9 := Tryd.zeroValue9
  t37 := Tryd.underlying24
  a37 := Tryd.isAgg24
  z37 := Tryd.sizeOf24
  v37 := Tryd.zeroValue24
  t70 := Tryd.underlying44
  a70 := Tryd.isAgg44
  z70 := Tryd.sizeOf44
  v70 := Tryd.zeroValue44
  t72 := Tryd.underlying46
  a72 := Tryd.isAgg46
  z72 := Tryd.sizeOf46
  v72 := Tryd.zeroValue46
  t127 := Tryd.underlying56
  a127 := Tryd.isAgg56
  z127 := Tryd.sizeOf56
  v127 := Tryd.zeroValue56 }
end Go.Proofs
