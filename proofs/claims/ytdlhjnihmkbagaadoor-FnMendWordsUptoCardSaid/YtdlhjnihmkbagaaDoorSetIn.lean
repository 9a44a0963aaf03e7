/- The test that impl.in hands out: whether a code point belongs to a set. Conditions: none. -/
import Derived.Test.YtdlhjnihmkbagaaDoorInSet
import Derived.Test.YtdlhjnihmkbagaaDoorProg
import Derived.Shelf.Strings.FuncGrows
namespace Go.Proofs.YtdlhjnihmkbagaaDoor
open Go.RowKit
set_option linter.unusedVariables false

set_option maxHeartbeats 400000 in
theorem in_any (set : ByteArray) (b x : Nat) (W : World) (hc : W.cell? ⟨b, 0, none⟩ = some (.string set)) :
    Calls Tryd.prog 45 #[.int .i32 (x : Int), .pointer (some ⟨b, 0, none⟩)] W fun e w' => e = .returned (.bool (inSet set x)) ∧ Below W.heap.size W w' := by
  go_enter Tryd.func45, Tryd.ntmps45
  go_wp2
  go_loopg [] (pcsB set).length (fun gf wx => ∃ P : List Pc, P.length = gf ∧ IterAt wx W.heap.size set P ∧ Below W.heap.size W wx ∧ Hid (inSet set x = P.any fun q => q.1 == x))
  case atStart => exact ⟨_, rfl, IterAt.start W set, (Below.refl _ _).alloc (Nat.le_refl _) _, rfl⟩
  case round =>
    obtain ⟨P, hl, hit, hbw, hin⟩ := hrel
    cases P with
    | nil =>
      have hnx := iter_end (Pr := Tryd.prog) hit
      go_wp2
      go_ret
      exact ⟨by rw [hin.out]; rfl, hbw⟩
    | cons q P =>
      obtain ⟨pos, w1, hnx, hit1, hb1, hg1, _, _⟩ := iter_next (Pr := Tryd.prog) hit
      have hb := hbw.trans (hb1 _ (Nat.le_refl _))
      clear hb1 hg1
      obtain ⟨r, bs⟩ := q
      simp only at hnx
      by_cases hrx : r = x
      · subst hrx
        go_wp2
        go_ret
        exact ⟨by rw [hin.out]; simp, hb⟩
      · have hrx' : (((r : Nat) : Int) == ((x : Nat) : Int)) = false := by rw [beq_eq_false_iff_ne]; omega
        have Hrx := Lib.hid hrx; clear hrx
        go_wp2
        go_roundg P.length
        case rel => exact ⟨P, rfl, hit1, hb, by rw [Hid, hin.out, List.any_cons]; simp [Hrx.out]⟩
        case measure => simp only [List.length_cons] at hl; omega

theorem in_pred (set : ByteArray) (b : Nat) (w : World) (hc : w.cell? ⟨b, 0, none⟩ = some (.string set)) : PredGrows Tryd.prog 45 #[.pointer (some ⟨b, 0, none⟩)] (inSet set) w :=
  fun W x _ hb => in_any set b x W ((hb.cell (p := ⟨b, 0, none⟩) (cell_lt hc)).trans hc)
/-- what impl.in hands out: a test over a new block that holds the set -/
theorem in_made (set : ByteArray) (w : World) :
    Calls Tryd.prog 33 #[.string set] w fun e w' => ∃ b, e = .returned (.func (.func 45) #[] #[.pointer (some ⟨b, 0, none⟩)]) ∧ w'.cell? ⟨b, 0, none⟩ = some (.string set) ∧ Below w.heap.size w w' := by
  go_enter Tryd.func33, Tryd.ntmps33
  go_wp2
  go_ret
  exact ⟨w.heap.size, rfl, by simp [World.cell?, World.alloc, -World.alloc_eq], (Below.refl _ _).alloc (Nat.le_refl _) _⟩
end Go.Proofs.YtdlhjnihmkbagaaDoor
