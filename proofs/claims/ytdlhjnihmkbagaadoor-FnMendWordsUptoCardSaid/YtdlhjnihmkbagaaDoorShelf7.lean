/- More library contracts that this program uses, laid by the kit at this translation; conditions: as each theorem says. -/
import Derived.Shelf.Spec.DecodeRune
import Derived.Test.YtdlhjnihmkbagaaDoorProg
namespace Go.Proofs
open Go.Shelf
def Tryd.lays7_32_ren : Go.Shelf.Ren := ⟨fun | 32 => 35 | 49 => 46 | n => n, fun | 30 => 43 | 21 => 21 | 3 => 3 | 0 => 0 | 5 => 5 | 4 => 4 | 33 => 54 | 66 => 53 | 25 => 80 | 69 => 83 | 68 => 82 | n => n, fun | 2 => 3 | 3 => 4 | n => n⟩
theorem Tryd.lays7_32 : Go.Proofs.Lays7.n32 Tryd.prog Tryd.lays7_32_ren := {
  mixed := by kernel_rfl
  f32 := Tryd.func35.trans (congrArg some (by kernel_rfl))
  f49 := Tryd.func46.trans (congrArg some (by kernel_rfl))
  t0 := Tryd.underlying0
  a0 := Tryd.isAgg0
  z0 := Tryd.sizeOf0
  v0 := Tryd.zeroValue0
  i0 := by kernel_rfl
  t3 := Tryd.underlying3
  a3 := Tryd.isAgg3
  z3 := Tryd.sizeOf3
  v3 := Tryd.zeroValue3
  i3 := by kernel_rfl
  t4 := Tryd.underlying4
  a4 := Tryd.isAgg4
  z4 := Tryd.sizeOf4
  v4 := Tryd.zeroValue4
  i4 := by kernel_rfl
  t5 := Tryd.underlying5
  a5 := Tryd.isAgg5
  z5 := Tryd.sizeOf5
  v5 := Tryd.zeroValue5
  i5 := by kernel_rfl
  t21 := Tryd.underlying21
  a21 := Tryd.isAgg21
  z21 := Tryd.sizeOf21
  v21 := Tryd.zeroValue21
  i21 := by kernel_rfl
  t25 := Tryd.underlying80
  a25 := Tryd.isAgg80
  z25 := Tryd.sizeOf80
  v25 := Tryd.zeroValue80
  i25 := by kernel_rfl
  t30 := Tryd.underlying43
  a30 := Tryd.isAgg43
  z30 := Tryd.sizeOf43
  v30 := Tryd.zeroValue43
  i30 := by kernel_rfl
  t33 := Tryd.underlying54
  a33 := Tryd.isAgg54
  z33 := Tryd.sizeOf54
  v33 := Tryd.zeroValue54
  i33 := by kernel_rfl
  t66 := Tryd.underlying53
  a66 := Tryd.isAgg53
  z66 := Tryd.sizeOf53
  t68 := Tryd.underlying82
  a68 := Tryd.isAgg82
  z68 := Tryd.sizeOf82
  v68 := Tryd.zeroValue82
  i68 := by kernel_rfl
  t69 := Tryd.underlying83
  a69 := Tryd.isAgg83
  z69 := Tryd.sizeOf83
  v69 := Tryd.zeroValue83
  i69 := by kernel_rfl
  g2 := by kernel_rfl
  g3 := by kernel_rfl }
end Go.Proofs
