/- The contract of laws.sameTexts: of lists that hold the same the answer is true. Conditions: the reach of the rows. -/
import Derived.Test.YtdlhjnihmkbagaaDoorProg
import Derived.Test.YtdlhjnihmkbagaaDoorRow2
import Derived.Deep.QuietTactic
import Derived.BigQuiet
import Derived.Test.YtdlhjnihmkbagaaDoorTexts
import Derived.Test.YtdlhjnihmkbagaaDoorMarked
namespace Go.Proofs.YtdlhjnihmkbagaaDoor
open Go.RowKit
set_option linter.unusedVariables false

set_option maxHeartbeats 400000 in
/-- two rows that hold the same: the answer is true -/
theorem sameTexts_true (A A' : Option Addr) (n c c' lo hi : Nat) (xs : List ByteArray) (w : World) (hn : n = xs.length) (hnb : n ≤ 140737488355328) (h1 : RowAt w lo hi A (xs.map Value.string)) (h2 : RowAt w lo hi A' (xs.map Value.string)) :
    Calls Tryd.prog 19 #[.slice A n c, .slice A' n c'] w fun e w' => e = .returned (.bool true) ∧ ∃ m, w' = w.drewN m := by
  have Hn := Lib.hid hn; clear hn
  have H1 := Lib.hid h1; clear h1
  have H2 := Lib.hid h2; clear h2
  go_enter Tryd.func19, Tryd.ntmps19
  go_wp2
  go_loopw [13] (fun i wr => ∃ k m : Nat, k ≤ n ∧ i = .int .i64 k ∧ wr = w.drewN m) (fun i _ => n - (intOf i).toNat)
  case atStart => exact ⟨0, 0, Nat.zero_le _, rfl, rfl⟩
  case round =>
    obtain ⟨k, m, hk, rfl, rfl⟩ := hrel
    by_cases hlt : k < n
    · have hk' : k < (xs.map Value.string).length := by rw [List.length_map, ← Hn.out]; exact hlt
      obtain ⟨b, o, rfl, _, _, hc1⟩ := H1.out.at_ hk'
      obtain ⟨b', o', rfl, _, _, hc2⟩ := H2.out.at_ hk'
      rw [List.getElem_map] at hc1 hc2
      generalize xs[k]'(by rw [List.length_map] at hk'; exact hk') = u at hc1 hc2
      clear hk'
      have hi1 : (0 : Int) ≤ (k : Int) := by omega
      have hi2 : (k : Int) < (n : Int) := by omega
      go_wp2
      go_quiet (fail)
      go_wp2
      go_roundw
      case rel => exact ⟨k + 1, _, by omega, by go_num, by first | rfl | (simp only [World.drewN_drewN]; rfl)⟩
      case measure => simp [intOf]; omega
    · go_wp2
      go_ret
      exact ⟨rfl, m, rfl⟩

theorem sameTexts_v (v v' : Value) (xs : List ByteArray) (w : World) (hnb : xs.length ≤ 140737488355328) (h1 : RowV w v (xs.map Value.string)) (h2 : RowV w v' (xs.map Value.string)) :
    Calls Tryd.prog 19 #[v, v'] w fun e w' => e = .returned (.bool true) ∧ ∃ m, w' = w.drewN m := by
  obtain ⟨A, c, rfl, _, h1⟩ := h1
  obtain ⟨A', c', rfl, _, h2⟩ := h2
  exact sameTexts_true A A' _ c c' 0 w.heap.size xs w (by rw [List.length_map]) (by rw [List.length_map]; exact hnb) h1 h2
theorem sameTexts_t (v v' : Value) (l : List (List UInt8)) (w : World) (hnb : l.length ≤ 140737488355328) (h1 : RowV w v (texts l)) (h2 : RowV w v' (texts l)) :
    Calls Tryd.prog 19 #[v, v'] w fun e w' => e = .returned (.bool true) ∧ ∃ m, w' = w.drewN m :=
  sameTexts_v v v' (l.map txt) w (by rw [List.length_map]; exact hnb) (by rw [List.map_map]; exact h1) (by rw [List.map_map]; exact h2)
end Go.Proofs.YtdlhjnihmkbagaaDoor
