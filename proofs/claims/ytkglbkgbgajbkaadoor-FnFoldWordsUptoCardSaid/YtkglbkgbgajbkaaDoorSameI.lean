/- The contract of laws.sameInts: of lists of numbers that hold the same the answer is true. Conditions: the reach of the rows. -/
import Derived.Test.YtkglbkgbgajbkaaDoorProg
import Derived.Test.YtkglbkgbgajbkaaDoorRow2
import Derived.Deep.QuietTactic
import Derived.BigQuiet
import Derived.Test.YtkglbkgbgajbkaaDoorFold
import Derived.Test.YtkglbkgbgajbkaaDoorMarked
namespace Go.Proofs.YtkglbkgbgajbkaaDoor
open Go.RowKit
set_option linter.unusedVariables false

theorem intsV_get {xs : List Nat} {k : Nat} (h : k < (intsV xs).length) : (intsV xs)[k] = .int .i64 ((xs[k]'(by rw [intsV_length] at h; exact h) : Nat) : Int) := by simp [intsV]
set_option maxHeartbeats 400000 in
/-- two rows that hold the same: the answer is true -/
theorem sameInts_true (A A' : Option Addr) (n c c' lo hi : Nat) (xs : List Nat) (w : World) (hn : n = xs.length) (hnb : n ≤ 140737488355328) (h1 : RowAt w lo hi A (intsV xs)) (h2 : RowAt w lo hi A' (intsV xs)) :
    Calls Tryd.prog 10 #[.slice A n c, .slice A' n c'] w fun e w' => e = .returned (.bool true) ∧ ∃ m, w' = w.drewN m := by
  have Hn := Lib.hid hn; clear hn
  have H1 := Lib.hid h1; clear h1
  have H2 := Lib.hid h2; clear h2
  go_enter Tryd.func10, Tryd.ntmps10
  go_wp2
  go_loopw [13] (fun i wr => ∃ k m : Nat, k ≤ n ∧ i = .int .i64 k ∧ wr = w.drewN m) (fun i _ => n - (intOf i).toNat)
  case atStart => exact ⟨0, 0, Nat.zero_le _, rfl, rfl⟩
  case round =>
    obtain ⟨k, m, hk, rfl, rfl⟩ := hrel
    by_cases hlt : k < n
    · have hk' : k < (intsV xs).length := by rw [intsV_length, ← Hn.out]; exact hlt
      obtain ⟨b, o, rfl, _, _, hc1⟩ := H1.out.at_ hk'
      obtain ⟨b', o', rfl, _, _, hc2⟩ := H2.out.at_ hk'
      rw [intsV_get] at hc1 hc2
      generalize xs[k]'(by rw [intsV_length] at hk'; exact hk') = u at hc1 hc2
      clear hk'
      have hi1 : (0 : Int) ≤ (k : Int) := by omega
      have hi2 : (k : Int) < (n : Int) := by omega
      go_wp2
      go_quiet (fail)
      go_wp2
      go_roundw
      case rel => exact ⟨k + 1, _, by omega, by go_num, by first | rfl | (simp only [World.drewN_drewN]; rfl)⟩
      case measure => simp [intOf]; omega
    · go_wp2
      go_ret
      exact ⟨rfl, m, rfl⟩

theorem sameInts_v (v v' : Value) (xs : List Nat) (w : World) (hnb : xs.length ≤ 140737488355328) (h1 : RowV w v (intsV xs)) (h2 : RowV w v' (intsV xs)) :
    Calls Tryd.prog 10 #[v, v'] w fun e w' => e = .returned (.bool true) ∧ ∃ m, w' = w.drewN m := by
  obtain ⟨A, c, rfl, _, h1⟩ := h1
  obtain ⟨A', c', rfl, _, h2⟩ := h2
  exact sameInts_true A A' _ c c' 0 w.heap.size xs w (by rw [intsV_length]) (by rw [intsV_length]; exact hnb) h1 h2
end Go.Proofs.YtkglbkgbgajbkaaDoor
