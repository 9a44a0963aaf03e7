/- The contract of spec.Piece's Bad. Conditions: a text of at most 2 to the 42 bytes. -/
import Derived.Test.YtdlhjnihmkbagaaDoorPieces
namespace Go.Proofs.YtdlhjnihmkbagaaDoor
open Go.RowKit
set_option linter.unusedVariables false

/-- no piece is a bad byte -/
def okB (s : ByteArray) : Bool := (pcsB s).all fun q => !decide (badP q)

theorem bad_any (r : Nat) (bs : List UInt8) (w : World) (hl : bs.length ≤ 4398046511104) :
    Calls Tryd.prog 22 #[.agg #[.int .i32 (r : Int), .string (txt bs)]] w fun e w' => e = .returned (.bool (decide (badP (r, bs)))) ∧ Below w.heap.size w w' := by
  go_enter Tryd.func22, Tryd.ntmps22
  go_wp2
  · go_ret
    refine ⟨?_, (Below.refl _ _).alloc (Nat.le_refl _) _⟩
    have hr : r = 65533 := by omega
    have e : (((txt bs).size : Int) == 1) = decide (badP (r, bs)) := by
      show (((bs.length : Nat) : Int) == 1) = decide (r = 65533 ∧ bs.length = 1)
      rw [Bool.eq_iff_iff, beq_iff_eq, decide_eq_true_iff]
      omega
    rw [← e]; rfl
  · go_ret
    refine ⟨?_, (Below.refl _ _).alloc (Nat.le_refl _) _⟩
    have hr : ¬ r = 65533 := by omega
    have e : false = decide (badP (r, bs)) := by
      symm
      show decide (r = 65533 ∧ bs.length = 1) = false
      simp [hr]
    rw [← e]; rfl
end Go.Proofs.YtdlhjnihmkbagaaDoor
