/- More library contracts that this program uses, laid by the kit at this translation; conditions: as each theorem says. -/
import Derived.Shelf.Spec.DecodeRune
import Derived.Test.YtkglbkgbgajbkaaDoorProg
namespace Go.Proofs
open Go.Shelf
def Tryd.lays7_32_ren : Go.Shelf.Ren := ⟨fun | 32 => 21 | 49 => 27 | n => n, fun | 30 => 38 | 21 => 21 | 3 => 3 | 0 => 0 | 5 => 5 | 4 => 4 | 33 => 42 | 66 => 47 | 25 => 52 | 69 => 64 | 68 => 63 | n => n, fun | 2 => 5 | 3 => 6 | n => n⟩
theorem Tryd.lays7_32 : Go.Proofs.Lays7.n32 Tryd.prog Tryd.lays7_32_ren := {
  mixed := by kernel_rfl
  f32 := Tryd.func21.trans (congrArg some (by kernel_rfl))
  f49 := Tryd.func27.trans (congrArg some (by kernel_rfl))
  t0 := Tryd.underlying0
  a0 := Tryd.isAgg0
  z0 := Tryd.sizeOf0
  v0 := Tryd.zeroValue0
  i0 := by kernel_rfl
  t3 := Tryd.underlying3
  a3 := Tryd.isAgg3
  z3 := Tryd.sizeOf3
  v3 := Tryd.zeroValue3
  i3 := by kernel_rfl
  t4 := Tryd.underlying4
  a4 := Tryd.isAgg4
  z4 := Tryd.sizeOf4
  v4 := Tryd.zeroValue4
  i4 := by kernel_rfl
  t5 := Tryd.underlying5
  a5 := Tryd.isAgg5
  z5 := Tryd.sizeOf5
  v5 := Tryd.zeroValue5
  i5 := by kernel_rfl
  t21 := Tryd.underlying21
  a21 := Tryd.isAgg21
  z21 := Tryd.sizeOf21
  v21 := Tryd.zeroValue21
  i21 := by kernel_rfl
  t25 := Tryd.underlying52
  a25 := Tryd.isAgg52
  z25 := Tryd.sizeOf52
  v25 := Tryd.zeroValue52
  i25 := by kernel_rfl
  t30 := Tryd.underlying38
  a30 := Tryd.isAgg38
  z30 := Tryd.sizeOf38
  v30 := Tryd.zeroValue38
  i30 := by kernel_rfl
  t33 := Tryd.underlying42
  a33 := Tryd.isAgg42
  z33 := Tryd.sizeOf42
  v33 := Tryd.zeroValue42
  i33 := by kernel_rfl
  t66 := Tryd.underlying47
  a66 := Tryd.isAgg47
  z66 := Tryd.sizeOf47
  t68 := Tryd.underlying63
  a68 := Tryd.isAgg63
  z68 := Tryd.sizeOf63
  v68 := Tryd.zeroValue63
  i68 := by kernel_rfl
  t69 := Tryd.underlying64
  a69 := Tryd.isAgg64
  z69 := Tryd.sizeOf64
  v69 := Tryd.zeroValue64
  i69 := by kernel_rfl
  g2 := by kernel_rfl
  g3 := by kernel_rfl }
end Go.Proofs
