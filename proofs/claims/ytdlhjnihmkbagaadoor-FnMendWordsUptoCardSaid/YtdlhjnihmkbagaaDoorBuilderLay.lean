/- The contracts of strings.Builder's writers at this translation: the bodies as the kit's shelf has them, laid by hand (the kit's program lays them only where another body names their types). Conditions: as each theorem says. -/
import Derived.Test.YtdlhjnihmkbagaaDoorShelf
import Derived.Shelf.Strings.BuilderCap
import Derived.Shelf.Strings.BuilderK
import Derived.Shelf.Strings.Builder1
namespace Go.Proofs
open Go.Shelf
def Trydx.lays166_ren : Go.Shelf.Ren := ⟨fun | 166 => 41 | 240 => 49 | 276 => 53 | n => n, fun | 0 => 0 | 3 => 3 | 4 => 4 | 9 => 9 | 20 => 20 | 37 => 43 | 70 => 58 | 72 => 60 | 75 => 64 | 164 => 95 | 5 => 5 | 80 => 69 | n => n, fun | n => n⟩
theorem Trydx.lays166 : Go.Proofs.Lays.n166 Tryd.prog Trydx.lays166_ren := {
  mixed := by kernel_rfl
  f166 := Tryd.func41.trans (congrArg some (by kernel_rfl))
  f240 := Tryd.func49.trans (congrArg some (by kernel_rfl))
  f276 := Tryd.func53.trans (congrArg some (by kernel_rfl))
  t0 := Tryd.underlying0
  a0 := Tryd.isAgg0
  z0 := Tryd.sizeOf0
  v0 := Tryd.zeroValue0
  t3 := Tryd.underlying3
  a3 := Tryd.isAgg3
  z3 := Tryd.sizeOf3
  v3 := Tryd.zeroValue3
  t4 := Tryd.underlying4
  a4 := Tryd.isAgg4
  z4 := Tryd.sizeOf4
  v4 := Tryd.zeroValue4
  t9 := Tryd.underlying9
  a9 := Tryd.isAgg9
  z9 := Tryd.sizeOf9
  v9 := Tryd.zeroValue9
  t20 := Tryd.underlying20
  a20 := Tryd.isAgg20
  z20 := Tryd.sizeOf20
  v20 := Tryd.zeroValue20
  t37 := Tryd.underlying43
  a37 := Tryd.isAgg43
  z37 := Tryd.sizeOf43
  v37 := Tryd.zeroValue43
  t70 := Tryd.underlying58
  a70 := Tryd.isAgg58
  z70 := Tryd.sizeOf58
  v70 := Tryd.zeroValue58
  t72 := Tryd.underlying60
  a72 := Tryd.isAgg60
  z72 := Tryd.sizeOf60
  v72 := Tryd.zeroValue60
  t75 := Tryd.underlying64
  a75 := Tryd.isAgg64
  z75 := Tryd.sizeOf64
  v75 := Tryd.zeroValue64
  t164 := Tryd.underlying95
  a164 := Tryd.isAgg95
  z164 := Tryd.sizeOf95
  v164 := Tryd.zeroValue95 }
theorem Trydx.extra166 : Builder.Extra Tryd.prog Trydx.lays166_ren := {
  sizeBuilder := by kernel_rfl
  liesBuilder := by kernel_rfl
  t5 := Tryd.underlying5
  a5 := Tryd.isAgg5
  z5 := Tryd.sizeOf5
  v5 := Tryd.zeroValue5
  infoByte := by kernel_rfl
  cellsByte := by kernel_rfl
  sizeByte := by kernel_rfl
  neB5 := by decide }
def Trydx.lays167_ren : Go.Shelf.Ren := ⟨fun | 167 => 43 | 240 => 49 | 276 => 53 | n => n, fun | 0 => 0 | 4 => 4 | 5 => 5 | 9 => 9 | 20 => 20 | 37 => 43 | 70 => 58 | 72 => 60 | 75 => 64 | 164 => 95 | 80 => 69 | n => n, fun | n => n⟩
theorem Trydx.lays167 : Go.Proofs.Lays.n167 Tryd.prog Trydx.lays167_ren := {
  mixed := by kernel_rfl
  f167 := Tryd.func43.trans (congrArg some (by kernel_rfl))
  f240 := Tryd.func49.trans (congrArg some (by kernel_rfl))
  f276 := Tryd.func53.trans (congrArg some (by kernel_rfl))
  t0 := Tryd.underlying0
  a0 := Tryd.isAgg0
  z0 := Tryd.sizeOf0
  v0 := Tryd.zeroValue0
  t4 := Tryd.underlying4
  a4 := Tryd.isAgg4
  z4 := Tryd.sizeOf4
  v4 := Tryd.zeroValue4
  t5 := Tryd.underlying5
  a5 := Tryd.isAgg5
  z5 := Tryd.sizeOf5
  v5 := Tryd.zeroValue5
  t9 := Tryd.underlying9
  a9 := Tryd.isAgg9
  z9 := Tryd.sizeOf9
  v9 := Tryd.zeroValue9
  t20 := Tryd.underlying20
  a20 := Tryd.isAgg20
  z20 := Tryd.sizeOf20
  v20 := Tryd.zeroValue20
  t37 := Tryd.underlying43
  a37 := Tryd.isAgg43
  z37 := Tryd.sizeOf43
  v37 := Tryd.zeroValue43
  t70 := Tryd.underlying58
  a70 := Tryd.isAgg58
  z70 := Tryd.sizeOf58
  v70 := Tryd.zeroValue58
  t72 := Tryd.underlying60
  a72 := Tryd.isAgg60
  z72 := Tryd.sizeOf60
  v72 := Tryd.zeroValue60
  t75 := Tryd.underlying64
  a75 := Tryd.isAgg64
  z75 := Tryd.sizeOf64
  v75 := Tryd.zeroValue64
  t164 := Tryd.underlying95
  a164 := Tryd.isAgg95
  z164 := Tryd.sizeOf95
  v164 := Tryd.zeroValue95 }
theorem Trydx.extra167 : Builder.Extra Tryd.prog Trydx.lays167_ren := {
  sizeBuilder := by kernel_rfl
  liesBuilder := by kernel_rfl
  t5 := Tryd.underlying5
  a5 := Tryd.isAgg5
  z5 := Tryd.sizeOf5
  v5 := Tryd.zeroValue5
  infoByte := by kernel_rfl
  cellsByte := by kernel_rfl
  sizeByte := by kernel_rfl
  neB5 := by decide }
end Go.Proofs
namespace Go.Proofs.YtdlhjnihmkbagaaDoor
open Go.RowKit
theorem bWriteString (B b : Nat) (bs : List Value) (s : ByteArray) (w : World) (h : Lib.IsBuilderF 60 5 B b bs w) (hlen : bs.length + s.size ≤ 140737488355328) (hBw : B ≤ w.heap.size) :
    Calls Tryd.prog 41 #[.pointer (some ⟨b, 0, none⟩), .string s] w fun e w' => e = .returned (.tuple #[.int .i64 s.size, .nilIface]) ∧ Lib.IsBuilderF 60 5 B b (bs ++ Lib.strCells s) w' ∧ Below B w w' ∧ ∀ v0, w.cell? ⟨b, 1, none⟩ = some v0 → ∃ v1, w'.cell? ⟨b, 1, none⟩ = some v1 ∧ v0.capOf ≤ v1.capOf := by
  refine (Any.Builder_WriteString_kc Trydx.lays166 Trydx.extra166 B b bs s w h hlen hBw).mono ?_
  rintro e w' ⟨he, ⟨h1, h2, _⟩, h3⟩
  exact ⟨he, .inr h1, h2, h3⟩
theorem bWriteByte (B b : Nat) (bs : List Value) (c : Int) (w : World) (h : Lib.IsBuilderF 60 5 B b bs w) (hlen : bs.length + 1 ≤ 140737488355328) (hBw : B ≤ w.heap.size) :
    Calls Tryd.prog 43 #[.pointer (some ⟨b, 0, none⟩), .int .u8 c] w fun e w' => e = .returned .nilIface ∧ Lib.IsBuilderF 60 5 B b (bs ++ [.int .u8 c]) w' ∧ Below B w w' := by
  refine (Any.Builder_WriteByte_k Trydx.lays167 Trydx.extra167 B b bs c w h hlen hBw).mono ?_
  rintro e w' ⟨he, h1, h2, _⟩
  exact ⟨he, .inr h1, h2⟩
end Go.Proofs.YtdlhjnihmkbagaaDoor
