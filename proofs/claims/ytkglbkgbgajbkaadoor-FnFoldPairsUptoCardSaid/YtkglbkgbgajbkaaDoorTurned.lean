/- The contract of laws.turned: the texts from the last one to the first one, in new memory. Conditions: the reach of the rows. -/
import Derived.Test.YtkglbkgbgajbkaaDoorProg
import Derived.Test.YtkglbkgbgajbkaaDoorRow2
import Derived.Test.YtkglbkgbgajbkaaDoorTexts
import Derived.Test.YtkglbkgbgajbkaaDoorMarked
namespace Go.Proofs.YtkglbkgbgajbkaaDoor
open Go.RowKit
set_option linter.unusedVariables false

set_option maxHeartbeats 1600000 in
theorem turned_any (v0 : Value) (l : List (List UInt8)) (w : World) (hl : l.length ≤ 8796093021952) (hv : RowV w v0 (texts l)) :
    Calls Tryd.prog 14 #[v0] w (TextsPost l.reverse w) := by
  obtain ⟨A, c, rfl, hc, hr0⟩ := hv
  rw [texts_length] at hc ⊢
  obtain ⟨n, hnn⟩ : ∃ n, n = l.length := ⟨_, rfl⟩
  rw [← hnn] at hc hl ⊢
  have Hn := Lib.hid hnn
  clear hnn
  go_enter Tryd.func14, Tryd.ntmps14
  go_wp2_with fail
  go_loopw [3, 4] (fun v i wr => ∃ k : Nat, k ≤ n ∧ i = .int .i64 ((k : Int) - 1) ∧ Own wr w.heap.size 9 v (texts (l.drop k).reverse) ∧ Below w.heap.size w wr) (fun _ i _ => (intOf i + 1).toNat)
  case atStart => exact ⟨n, Nat.le_refl _, rfl, by rw [List.drop_of_length_le (by rw [Hn.out]; exact Nat.le_refl _)]; exact Own.empty w _ _ _ rfl (Nat.le_refl _), (Below.refl _ _).alloc (Nat.le_refl _) _⟩
  case round =>
    obtain ⟨k, hk, rfl, ho, hbw⟩ := hrel
    have hzw := hbw.size
    by_cases hlt : 0 < k
    · obtain ⟨j, rfl⟩ : ∃ j, k = j + 1 := ⟨k - 1, by omega⟩
      have hj : j < l.length := by rw [← Hn.out]; omega
      obtain ⟨b, o, rfl, hb1, hb2, hcell⟩ := (hr0.below hbw).at_ (i := j) (by rw [texts_length]; exact hj)
      obtain ⟨x, hx⟩ : ∃ x, x = l[j] := ⟨_, rfl⟩
      rw [show (texts l)[j]'(by rw [texts_length]; exact hj) = .string (txt l[j]) by simp [texts], ← hx] at hcell
      have hst : (l.drop j).reverse = (l.drop (j + 1)).reverse ++ [x] := by rw [List.drop_eq_getElem_cons hj, List.reverse_cons, hx]
      have Hst := Lib.hid hst
      have hlen : ((l.drop (j + 1)).reverse).length ≤ n := by rw [List.length_reverse, List.length_drop, ← Hn.out]; omega
      clear hst hx
      rw [show ((j + 1 : Nat) : Int) - 1 = (j : Int) by omega]
      go_wp2_with (at_builtin; refine wpList_push wr rfl (.tmp 13) (.tmp 18) 22 rfl w.heap.size 9 _ 16 Tryd.underlying22 info_string rfl _ _ (.string (txt x)) _ rfl rfl rfl ho rfl (by rw [texts_length]; omega) (by omega) (by omega) ?_; intro v4 w4 hown4 hbw4 hgr4 hat4)
      go_roundw
      case rel => exact ⟨j, by omega, by go_num, by rw [Hst.out]; unfold texts; rw [List.map_append]; exact hown4, hbw.trans hbw4⟩
      case measure => simp [intOf]
    · have hk0 : k = 0 := by omega
      subst hk0
      rw [List.drop_zero] at ho
      go_wp2_with fail
      go_ret
      exact ⟨_, rfl, ho, hbw⟩
end Go.Proofs.YtkglbkgbgajbkaaDoor
