/-
  DERIVED: THE SHELF's CONTRACTS AT THIS DUMP, IN PLAIN WORDS (tools/lay-plain.mjs out of 'Qxb6002908aDoorLay.lean', which tools/lay-shelf.mjs wrote): THE SAME DECLARATIONS UNDER THE SAME NAMES: 'import', 'namespace', 'open', 'def', 'theorem' AND NOTHING ELSE: no command of the shelf's: FOR A HAND-IN. Each laying: the table of numbers ('.._ren') and one theorem, a field a fact of the dump's own or the kernel's comparison; each contract: ONE APPLICATION.
-/
import Derived.Test.Qxb6002908aDoorChecked
import Derived.WalkKit
import Derived.Shelf.Spec.DecodeRune
import Derived.Shelf.Bytes.SlTrimWalks
namespace Go.Proofs
open Go.Shelf
def Tryd.lays32_ren : Go.Shelf.Ren := ⟨fun | 32 => 20 | 49 => 27 | n => n, fun | 30 => 22 | 21 => 21 | 3 => 3 | 0 => 0 | 5 => 5 | 4 => 4 | 33 => 46 | 66 => 57 | 25 => 53 | 69 => 60 | 68 => 59 | n => n, fun | 2 => 1 | 3 => 2 | n => n⟩
theorem Tryd.lays32 : Go.Proofs.Lays7.n32 Tryd.prog Tryd.lays32_ren := {
  mixed := by kernel_rfl
  f32 := Tryd.func20.trans (congrArg some (by kernel_rfl))
  f49 := Tryd.func27.trans (congrArg some (by kernel_rfl))
  t0 := Tryd.underlying0
  a0 := Tryd.isAgg0
  z0 := Tryd.sizeOf0
  v0 := Tryd.zeroValue0
  i0 := by kernel_rfl
  t3 := Tryd.underlying3
  a3 := Tryd.isAgg3
  z3 := Tryd.sizeOf3
  v3 := Tryd.zeroValue3
  i3 := by kernel_rfl
  t4 := Tryd.underlying4
  a4 := Tryd.isAgg4
  z4 := Tryd.sizeOf4
  v4 := Tryd.zeroValue4
  i4 := by kernel_rfl
  t5 := Tryd.underlying5
  a5 := Tryd.isAgg5
  z5 := Tryd.sizeOf5
  v5 := Tryd.zeroValue5
  i5 := by kernel_rfl
  t21 := Tryd.underlying21
  a21 := Tryd.isAgg21
  z21 := Tryd.sizeOf21
  v21 := Tryd.zeroValue21
  i21 := by kernel_rfl
  t25 := Tryd.underlying53
  a25 := Tryd.isAgg53
  z25 := Tryd.sizeOf53
  v25 := Tryd.zeroValue53
  i25 := by kernel_rfl
  t30 := Tryd.underlying22
  a30 := Tryd.isAgg22
  z30 := Tryd.sizeOf22
  v30 := Tryd.zeroValue22
  i30 := by kernel_rfl
  t33 := Tryd.underlying46
  a33 := Tryd.isAgg46
  z33 := Tryd.sizeOf46
  v33 := Tryd.zeroValue46
  i33 := by kernel_rfl
  t66 := Tryd.underlying57
  a66 := Tryd.isAgg57
  z66 := Tryd.sizeOf57
  t68 := Tryd.underlying59
  a68 := Tryd.isAgg59
  z68 := Tryd.sizeOf59
  v68 := Tryd.zeroValue59
  i68 := by kernel_rfl
  t69 := Tryd.underlying60
  a69 := Tryd.isAgg60
  z69 := Tryd.sizeOf60
  v69 := Tryd.zeroValue60
  i69 := by kernel_rfl
  g2 := by kernel_rfl
  g3 := by kernel_rfl }
def Tryd.lays11_ren : Go.Shelf.Ren := ⟨fun | 11 => 18 | n => n, fun | 9 => 9 | 27 => 43 | 4 => 4 | 0 => 0 | 3 => 3 | 5 => 5 | n => n, fun | n => n⟩
theorem Tryd.lays11 : Go.Proofs.SlLaysV.n11 Tryd.prog Tryd.lays11_ren := {
  mixed := by kernel_rfl
  f11 := Tryd.func18.trans (congrArg some (by kernel_rfl))
  t0 := Tryd.underlying0
  a0 := Tryd.isAgg0
  z0 := Tryd.sizeOf0
  v0 := Tryd.zeroValue0
  t3 := Tryd.underlying3
  a3 := Tryd.isAgg3
  z3 := Tryd.sizeOf3
  v3 := Tryd.zeroValue3
  t4 := Tryd.underlying4
  a4 := Tryd.isAgg4
  z4 := Tryd.sizeOf4
  v4 := Tryd.zeroValue4
  t5 := Tryd.underlying5
  a5 := Tryd.isAgg5
  z5 := Tryd.sizeOf5
  v5 := Tryd.zeroValue5
  t9 := Tryd.underlying9
  a9 := Tryd.isAgg9
  z9 := Tryd.sizeOf9
  v9 := Tryd.zeroValue9
  t27 := Tryd.underlying43
  a27 := Tryd.isAgg43
  z27 := Tryd.sizeOf43 }
def Tryd.lays16_ren : Go.Shelf.Ren := ⟨fun | 16 => 19 | n => n, fun | 31 => 55 | 5 => 5 | 4 => 4 | 0 => 0 | 27 => 43 | n => n, fun | n => n⟩
theorem Tryd.lays16 : Go.Proofs.SlLaysV.n16 Tryd.prog Tryd.lays16_ren := {
  mixed := by kernel_rfl
  f16 := Tryd.func19.trans (congrArg some (by kernel_rfl))
  t0 := Tryd.underlying0
  a0 := Tryd.isAgg0
  z0 := Tryd.sizeOf0
  v0 := Tryd.zeroValue0
  t4 := Tryd.underlying4
  a4 := Tryd.isAgg4
  z4 := Tryd.sizeOf4
  v4 := Tryd.zeroValue4
  t5 := Tryd.underlying5
  a5 := Tryd.isAgg5
  z5 := Tryd.sizeOf5
  v5 := Tryd.zeroValue5
  t27 := Tryd.underlying43
  a27 := Tryd.isAgg43
  z27 := Tryd.sizeOf43
  t31 := Tryd.underlying55
  a31 := Tryd.isAgg55
  z31 := Tryd.sizeOf55
  v31 := Tryd.zeroValue55 }
end Go.Proofs
