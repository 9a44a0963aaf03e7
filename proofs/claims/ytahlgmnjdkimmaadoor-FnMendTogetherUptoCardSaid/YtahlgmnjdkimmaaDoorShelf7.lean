/- More library contracts that this program uses, laid by the kit at this translation; conditions: as each theorem says. -/
import Derived.Shelf.Spec.DecodeRune
import Derived.Test.YtahlgmnjdkimmaaDoorProg
namespace Go.Proofs
open Go.Shelf
def Tryd.lays7_32_ren : Go.Shelf.Ren := ⟨fun | 32 => 33 | 49 => 40 | n => n, fun | 30 => 31 | 21 => 21 | 3 => 3 | 0 => 0 | 5 => 5 | 4 => 4 | 33 => 40 | 66 => 55 | 25 => 56 | 69 => 59 | 68 => 58 | n => n, fun | 2 => 0 | 3 => 1 | n => n⟩
theorem Tryd.lays7_32 : Go.Proofs.Lays7.n32 Tryd.prog Tryd.lays7_32_ren := {
  mixed := by kernel_rfl
  f32 := Tryd.func33.trans (congrArg some (by kernel_rfl))
  f49 := Tryd.func40.trans (congrArg some (by kernel_rfl))
  t0 := Tryd.underlying0
  a0 := Tryd.isAgg0
  z0 := Tryd.sizeOf0
  v0 := Tryd.zeroValue0
  i0 := by kernel_rfl
  t3 := Tryd.underlying3
  a3 := Tryd.isAgg3
  z3 := Tryd.sizeOf3
  v3 := Tryd.zeroValue3
  i3 := by kernel_rfl
  t4 := Tryd.underlying4
  a4 := Tryd.isAgg4
  z4 := Tryd.sizeOf4
  v4 := Tryd.zeroValue4
  i4 := by kernel_rfl
  t5 := Tryd.underlying5
  a5 := Tryd.isAgg5
  z5 := Tryd.sizeOf5
  v5 := Tryd.zeroValue5
  i5 := by kernel_rfl
  t21 := Tryd.underlying21
  a21 := Tryd.isAgg21
  z21 := Tryd.sizeOf21
  v21 := Tryd.zeroValue21
  i21 := by kernel_rfl
  t25 := Tryd.underlying56
  a25 := Tryd.isAgg56
  z25 := Tryd.sizeOf56
  v25 := Tryd.zeroValue56
  i25 := by kernel_rfl
  t30 := Tryd.underlying31
  a30 := Tryd.isAgg31
  z30 := Tryd.sizeOf31
  v30 := Tryd.zeroValue31
  i30 := by kernel_rfl
  t33 := Tryd.underlying40
  a33 := Tryd.isAgg40
  z33 := Tryd.sizeOf40
  v33 := Tryd.zeroValue40
  i33 := by kernel_rfl
  t66 := Tryd.underlying55
  a66 := Tryd.isAgg55
  z66 := Tryd.sizeOf55
  t68 := Tryd.underlying58
  a68 := Tryd.isAgg58
  z68 := Tryd.sizeOf58
  v68 := Tryd.zeroValue58
  i68 := by kernel_rfl
  t69 := Tryd.underlying59
  a69 := Tryd.isAgg59
  z69 := Tryd.sizeOf59
  v69 := Tryd.zeroValue59
  i69 := by kernel_rfl
  g2 := by kernel_rfl
  g3 := by kernel_rfl }
end Go.Proofs
