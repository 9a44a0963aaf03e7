/- impl.in hands out the test of a set. Conditions: none. -/
import Derived.Test.YtdlhjnihmkbagaaDoorProg
import Derived.Test.YtdlhjnihmkbagaaDoorMem
namespace Go.Proofs.YtdlhjnihmkbagaaDoor
open Go.RowKit
set_option linter.unusedVariables false

theorem in_here (set : ByteArray) (w : World) :
    Calls Tryd.prog 33 #[.string set] w fun e w' => e = .returned (.func (.func 45) #[] #[.pointer (some ⟨w.heap.size, 0, none⟩)]) ∧ w'.cell? ⟨w.heap.size, 0, none⟩ = some (.string set) ∧ Below w.heap.size w w' := by
  go_enter Tryd.func33, Tryd.ntmps33
  go_wp2
  go_ret
  exact ⟨rfl, by simp [World.cell?, World.alloc, -World.alloc_eq], (Below.refl _ _).alloc (Nat.le_refl _) _⟩
end Go.Proofs.YtdlhjnihmkbagaaDoor
