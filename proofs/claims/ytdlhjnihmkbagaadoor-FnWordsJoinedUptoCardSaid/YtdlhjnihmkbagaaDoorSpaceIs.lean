/- Contract of spec.Space: whether a code point is white space. Conditions: none. -/
import Derived.Test.YtdlhjnihmkbagaaDoorProg
import Derived.Test.YtdlhjnihmkbagaaDoorMem
import Derived.Lib.SpaceU
namespace Go.Proofs.YtdlhjnihmkbagaaDoor
open Go.RowKit
set_option linter.unusedVariables false

theorem isSpaceR_no {x : Nat} (h1 : x ≤ 8 ∨ 13 < x) (h2 : x < 8192 ∨ 8202 < x) (e0 : x ≠ 32) (e1 : x ≠ 133) (e2 : x ≠ 160) (e3 : x ≠ 5760) (e4 : x ≠ 8232) (e5 : x ≠ 8233) (e6 : x ≠ 8239) (e7 : x ≠ 8287) (e8 : x ≠ 12288) : Lib.isSpaceR x = false := by
  rw [Bool.eq_false_iff]
  intro h
  simp [Lib.isSpaceR] at h
  omega
theorem isSpaceR_in1 {x : Nat} (h1 : 9 ≤ x) (h2 : x ≤ 13) : Lib.isSpaceR x = true := by simp [Lib.isSpaceR, h1, h2]
theorem isSpaceR_in2 {x : Nat} (h1 : 8192 ≤ x) (h2 : x ≤ 8202) : Lib.isSpaceR x = true := by simp [Lib.isSpaceR, h1, h2]

set_option maxHeartbeats 1600000 in
theorem specSpace (x : Nat) (w : World) :
    Calls Tryd.prog 30 #[.int .i32 (x : Int)] w fun e w' => e = .returned (.bool (Lib.isSpaceR x)) ∧ w = w' := by
  by_cases e0 : x = 32
  · subst e0
    go_enter Tryd.func30, Tryd.ntmps30
    go_wp2
    go_ret
    exact ⟨rfl, rfl⟩
  by_cases e1 : x = 133
  · subst e1
    go_enter Tryd.func30, Tryd.ntmps30
    go_wp2
    go_ret
    exact ⟨rfl, rfl⟩
  by_cases e2 : x = 160
  · subst e2
    go_enter Tryd.func30, Tryd.ntmps30
    go_wp2
    go_ret
    exact ⟨rfl, rfl⟩
  by_cases e3 : x = 5760
  · subst e3
    go_enter Tryd.func30, Tryd.ntmps30
    go_wp2
    go_ret
    exact ⟨rfl, rfl⟩
  by_cases e4 : x = 8232
  · subst e4
    go_enter Tryd.func30, Tryd.ntmps30
    go_wp2
    go_ret
    exact ⟨rfl, rfl⟩
  by_cases e5 : x = 8233
  · subst e5
    go_enter Tryd.func30, Tryd.ntmps30
    go_wp2
    go_ret
    exact ⟨rfl, rfl⟩
  by_cases e6 : x = 8239
  · subst e6
    go_enter Tryd.func30, Tryd.ntmps30
    go_wp2
    go_ret
    exact ⟨rfl, rfl⟩
  by_cases e7 : x = 8287
  · subst e7
    go_enter Tryd.func30, Tryd.ntmps30
    go_wp2
    go_ret
    exact ⟨rfl, rfl⟩
  by_cases e8 : x = 12288
  · subst e8
    go_enter Tryd.func30, Tryd.ntmps30
    go_wp2
    go_ret
    exact ⟨rfl, rfl⟩
  have f0 : ((x : Int) == 32) = false := by rw [beq_eq_false_iff_ne]; omega
  have f1 : ((x : Int) == 133) = false := by rw [beq_eq_false_iff_ne]; omega
  have f2 : ((x : Int) == 160) = false := by rw [beq_eq_false_iff_ne]; omega
  have f3 : ((x : Int) == 5760) = false := by rw [beq_eq_false_iff_ne]; omega
  have f4 : ((x : Int) == 8232) = false := by rw [beq_eq_false_iff_ne]; omega
  have f5 : ((x : Int) == 8233) = false := by rw [beq_eq_false_iff_ne]; omega
  have f6 : ((x : Int) == 8239) = false := by rw [beq_eq_false_iff_ne]; omega
  have f7 : ((x : Int) == 8287) = false := by rw [beq_eq_false_iff_ne]; omega
  have f8 : ((x : Int) == 12288) = false := by rw [beq_eq_false_iff_ne]; omega
  have E := Lib.hid (And.intro e0 (And.intro e1 (And.intro e2 (And.intro e3 (And.intro e4 (And.intro e5 (And.intro e6 (And.intro e7 e8))))))))
  clear e0 e1 e2 e3 e4 e5 e6 e7 e8
  by_cases c0 : x ≤ 8
  · have R := Lib.hid (isSpaceR_no (x := x) (by omega) (by omega) E.out.1 E.out.2.1 E.out.2.2.1 E.out.2.2.2.1 E.out.2.2.2.2.1 E.out.2.2.2.2.2.1 E.out.2.2.2.2.2.2.1 E.out.2.2.2.2.2.2.2.1 E.out.2.2.2.2.2.2.2.2)
    have g0 : ¬ (9 : Int) ≤ (x : Int) := by omega
    have g1 : ¬ (8192 : Int) ≤ (x : Int) := by omega
    go_enter Tryd.func30, Tryd.ntmps30
    go_wp2
    go_ret
    exact ⟨by rw [R.out]; rfl, rfl⟩
  by_cases c1 : x ≤ 13
  · have R := Lib.hid (isSpaceR_in1 (x := x) (by omega) (by omega))
    have g0 : (9 : Int) ≤ (x : Int) := by omega
    have g1 : (x : Int) ≤ 13 := by omega
    go_enter Tryd.func30, Tryd.ntmps30
    go_wp2
    go_ret
    exact ⟨by rw [R.out]; rfl, rfl⟩
  by_cases c2 : x < 8192
  · have R := Lib.hid (isSpaceR_no (x := x) (by omega) (by omega) E.out.1 E.out.2.1 E.out.2.2.1 E.out.2.2.2.1 E.out.2.2.2.2.1 E.out.2.2.2.2.2.1 E.out.2.2.2.2.2.2.1 E.out.2.2.2.2.2.2.2.1 E.out.2.2.2.2.2.2.2.2)
    have g0 : (9 : Int) ≤ (x : Int) := by omega
    have g1 : ¬ (x : Int) ≤ 13 := by omega
    have g2 : ¬ (8192 : Int) ≤ (x : Int) := by omega
    go_enter Tryd.func30, Tryd.ntmps30
    go_wp2
    go_ret
    exact ⟨by rw [R.out]; rfl, rfl⟩
  by_cases c3 : x ≤ 8202
  · have R := Lib.hid (isSpaceR_in2 (x := x) (by omega) (by omega))
    have g0 : (9 : Int) ≤ (x : Int) := by omega
    have g1 : ¬ (x : Int) ≤ 13 := by omega
    have g2 : (8192 : Int) ≤ (x : Int) := by omega
    have g3 : (x : Int) ≤ 8202 := by omega
    go_enter Tryd.func30, Tryd.ntmps30
    go_wp2
    go_ret
    exact ⟨by rw [R.out]; rfl, rfl⟩
  have R := Lib.hid (isSpaceR_no (x := x) (by omega) (by omega) E.out.1 E.out.2.1 E.out.2.2.1 E.out.2.2.2.1 E.out.2.2.2.2.1 E.out.2.2.2.2.2.1 E.out.2.2.2.2.2.2.1 E.out.2.2.2.2.2.2.2.1 E.out.2.2.2.2.2.2.2.2)
  have g0 : (9 : Int) ≤ (x : Int) := by omega
  have g1 : ¬ (x : Int) ≤ 13 := by omega
  have g2 : (8192 : Int) ≤ (x : Int) := by omega
  have g3 : ¬ (x : Int) ≤ 8202 := by omega
  go_enter Tryd.func30, Tryd.ntmps30
  go_wp2
  go_ret
  exact ⟨by rw [R.out]; rfl, rfl⟩

theorem specSpace_b (x : Nat) (w : World) :
    Calls Tryd.prog 30 #[.int .i32 (x : Int)] w fun e w' => e = .returned (.bool (Lib.isSpaceR x)) ∧ Below w.heap.size w w' :=
  (specSpace x w).mono fun e w' ⟨h1, h2⟩ => ⟨h1, by subst h2; exact Below.refl _ _⟩
end Go.Proofs.YtdlhjnihmkbagaaDoor
