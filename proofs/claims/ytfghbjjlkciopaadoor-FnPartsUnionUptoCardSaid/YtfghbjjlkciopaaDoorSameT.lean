/- Contracts of laws.sameTexts (of lists that hold the same the answer is true) and laws.turned. Conditions: the reach of the rows. -/
import Derived.Test.YtfghbjjlkciopaaDoorProg
import Derived.Test.YtfghbjjlkciopaaDoorRow2
import Derived.Deep.QuietTactic
import Derived.BigQuiet
import Derived.Test.YtfghbjjlkciopaaDoorFields
import Derived.Test.YtfghbjjlkciopaaDoorMarked
namespace Go.Proofs.YtfghbjjlkciopaaDoor
open Go.RowKit
set_option linter.unusedVariables false

set_option maxHeartbeats 400000 in
/-- two rows that hold the same: the answer is true -/
theorem sameTexts_true (A A' : Option Addr) (n c c' lo hi : Nat) (xs : List ByteArray) (w : World) (hn : n = xs.length) (hnb : n ≤ 140737488355328) (h1 : RowAt w lo hi A (xs.map Value.string)) (h2 : RowAt w lo hi A' (xs.map Value.string)) :
    Calls Tryd.prog 29 #[.slice A n c, .slice A' n c'] w fun e w' => e = .returned (.bool true) ∧ ∃ m, w' = w.drewN m := by
  have Hn := Lib.hid hn; clear hn
  have H1 := Lib.hid h1; clear h1
  have H2 := Lib.hid h2; clear h2
  go_enter Tryd.func29, Tryd.ntmps29
  go_wp2
  go_loopw [13] (fun i wr => ∃ k m : Nat, k ≤ n ∧ i = .int .i64 k ∧ wr = w.drewN m) (fun i _ => n - (intOf i).toNat)
  case atStart => exact ⟨0, 0, Nat.zero_le _, rfl, rfl⟩
  case round =>
    obtain ⟨k, m, hk, rfl, rfl⟩ := hrel
    by_cases hlt : k < n
    · have hk' : k < (xs.map Value.string).length := by rw [List.length_map, ← Hn.out]; exact hlt
      obtain ⟨b, o, rfl, _, _, hc1⟩ := H1.out.at_ hk'
      obtain ⟨b', o', rfl, _, _, hc2⟩ := H2.out.at_ hk'
      rw [List.getElem_map] at hc1 hc2
      generalize xs[k]'(by rw [List.length_map] at hk'; exact hk') = u at hc1 hc2
      clear hk'
      have hi1 : (0 : Int) ≤ (k : Int) := by omega
      have hi2 : (k : Int) < (n : Int) := by omega
      go_wp2
      go_quiet (fail)
      go_wp2
      go_roundw
      case rel => exact ⟨k + 1, _, by omega, by go_num, by first | rfl | (simp only [World.drewN_drewN]; rfl)⟩
      case measure => simp [intOf]; omega
    · go_wp2
      go_ret
      exact ⟨rfl, m, rfl⟩

theorem sameTexts_v (v v' : Value) (xs : List ByteArray) (w : World) (hnb : xs.length ≤ 140737488355328) (h1 : RowV w v (xs.map Value.string)) (h2 : RowV w v' (xs.map Value.string)) :
    Calls Tryd.prog 29 #[v, v'] w fun e w' => e = .returned (.bool true) ∧ ∃ m, w' = w.drewN m := by
  obtain ⟨A, c, rfl, _, h1⟩ := h1
  obtain ⟨A', c', rfl, _, h2⟩ := h2
  exact sameTexts_true A A' _ c c' 0 w.heap.size xs w (by rw [List.length_map]) (by rw [List.length_map]; exact hnb) h1 h2
theorem sameTexts_t (v v' : Value) (l : List (List UInt8)) (w : World) (hnb : l.length ≤ 140737488355328) (h1 : RowV w v (texts l)) (h2 : RowV w v' (texts l)) :
    Calls Tryd.prog 29 #[v, v'] w fun e w' => e = .returned (.bool true) ∧ ∃ m, w' = w.drewN m :=
  sameTexts_v v v' (l.map txt) w (by rw [List.length_map]; exact hnb) (by rw [List.map_map]; exact h1) (by rw [List.map_map]; exact h2)

set_option maxHeartbeats 1600000 in
theorem turned_any (v0 : Value) (l : List (List UInt8)) (w : World) (hl : l.length ≤ 4398046511104) (hv : RowV w v0 (texts l)) :
    Calls Tryd.prog 34 #[v0] w (TextsPost l.reverse w) := by
  obtain ⟨A, c, rfl, hc, hr0⟩ := hv
  rw [texts_length] at hc ⊢
  obtain ⟨n, hnn⟩ : ∃ n, n = l.length := ⟨_, rfl⟩
  rw [← hnn] at hc hl ⊢
  have Hn := Lib.hid hnn
  clear hnn
  go_enter Tryd.func34, Tryd.ntmps34
  go_wp2_with fail
  go_loopw [3, 4] (fun v i wr => ∃ k : Nat, k ≤ n ∧ i = .int .i64 ((k : Int) - 1) ∧ Own wr w.heap.size 9 v (texts (l.drop k).reverse) ∧ Below w.heap.size w wr) (fun _ i _ => (intOf i + 1).toNat)
  case atStart => exact ⟨n, Nat.le_refl _, rfl, by rw [List.drop_of_length_le (by rw [Hn.out]; exact Nat.le_refl _)]; exact Own.empty w _ _ _ rfl (Nat.le_refl _), (Below.refl _ _).alloc (Nat.le_refl _) _⟩
  case round =>
    obtain ⟨k, hk, rfl, ho, hbw⟩ := hrel
    have hzw := hbw.size
    by_cases hlt : 0 < k
    · obtain ⟨j, rfl⟩ : ∃ j, k = j + 1 := ⟨k - 1, by omega⟩
      have hj : j < l.length := by rw [← Hn.out]; omega
      obtain ⟨b, o, rfl, hb1, hb2, hcell⟩ := (hr0.below hbw).at_ (i := j) (by rw [texts_length]; exact hj)
      obtain ⟨x, hx⟩ : ∃ x, x = l[j] := ⟨_, rfl⟩
      rw [show (texts l)[j]'(by rw [texts_length]; exact hj) = .string (txt l[j]) by simp [texts], ← hx] at hcell
      have hst : (l.drop j).reverse = (l.drop (j + 1)).reverse ++ [x] := by rw [List.drop_eq_getElem_cons hj, List.reverse_cons, hx]
      have Hst := Lib.hid hst
      have hlen : ((l.drop (j + 1)).reverse).length ≤ n := by rw [List.length_reverse, List.length_drop, ← Hn.out]; omega
      clear hst hx
      rw [show ((j + 1 : Nat) : Int) - 1 = (j : Int) by omega]
      go_wp2_with (at_builtin; refine wpList_push wr rfl (.tmp 13) (.tmp 18) 22 rfl w.heap.size 9 _ 16 Tryd.underlying22 info_string rfl _ _ (.string (txt x)) _ rfl rfl rfl ho rfl (by rw [texts_length]; omega) (by omega) (by omega) ?_; intro v4 w4 hown4 hbw4 hgr4 hat4)
      go_roundw
      case rel => exact ⟨j, by omega, by go_num, by rw [Hst.out]; unfold texts; rw [List.map_append]; exact hown4, hbw.trans hbw4⟩
      case measure => simp [intOf]
    · have hk0 : k = 0 := by omega
      subst hk0
      rw [List.drop_zero] at ho
      go_wp2_with fail
      go_ret
      exact ⟨_, rfl, ho, hbw⟩
end Go.Proofs.YtfghbjjlkciopaaDoor
