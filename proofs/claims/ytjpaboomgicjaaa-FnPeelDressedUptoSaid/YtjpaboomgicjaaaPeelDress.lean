/- Walks of the laws FnPeelRestores and FnPeelDressed: each returns true; old memory as it was. Conditions: the reach of the rows; for the second one the bound of the second form. -/
import Derived.Test.YtjpaboomgicjaaaDress
import Derived.Test.YtjpaboomgicjaaaFrameUP
namespace Go.Proofs.Ytjpaboomgicjaaa
open Go.RowKit
set_option linter.unusedVariables false

theorem dress_room (s : ByteArray) (L : List Mb) (r : ByteArray) (hr : r.data.toList = (peelB s L).1) (j : Nat) : (dressB r (L.drop j) ((peelB s L).2.drop j)).length ≤ s.size := by
  have h := peelL_append s.data.toList ((L.take j).map mk) ((L.drop j).map mk)
  rw [← List.map_append, List.take_append_drop] at h
  have hl : (peelL s.data.toList ((L.take j).map mk)).2.length = min j L.length := by rw [peelL_length, List.length_map, List.length_take]
  unfold dressB
  rw [hr]
  unfold peelB
  have hd : (peelL s.data.toList (L.map mk)).2.drop j = (peelL (peelL s.data.toList ((L.take j).map mk)).1 ((L.drop j).map mk)).2 := by
    rw [h]
    simp only
    by_cases hj : j ≤ L.length
    · rw [List.drop_append_of_le_length (by omega), List.drop_of_length_le (by omega), List.nil_append]
    · have e : L.drop j = [] := List.drop_eq_nil_of_le (by omega)
      rw [e]
      simp only [List.map_nil, peelL, List.append_nil]
      exact List.drop_of_length_le (by omega)
  rw [hd]
  have he : (peelL s.data.toList (L.map mk)).1 = (peelL (peelL s.data.toList ((L.take j).map mk)).1 ((L.drop j).map mk)).1 := by rw [h]
  rw [he, dress_peel, Lib.size_eq]
  exact peelL_le _ _

set_option maxHeartbeats 400000 in
theorem fnPeelRestores_walk {w : World} (s : ByteArray) (hs : s.size ≤ 140737488351232) (A : Option Addr) (n c : Nat) (L : List Mb) (hm : MArg w A n c L) :
    Calls Try.prog 11 #[.string s, .slice A n c] w fun e w' => e = .returned (.bool true) ∧ Below w.heap.size w w' := by
  obtain ⟨hn, hnc, hn24, hsz, hat⟩ := hm
  have Hn := Lib.hid hn; clear hn
  clear hsz
  go_enter Try.func11, Try.ntmps11
  go_wp2_with fail
  (with_reducible refine (impl_peel s A n c L _ (by unfold maxLen; omega) Hn.out (by omega) hat).mono ?_); rintro e w1 ⟨r, A1, c1, rfl, hr, hown1, hb1⟩
  rw [← Hn.out] at hown1 ⊢
  have Hr := Lib.hid hr; clear hr
  go_wp2_with fail
  (with_reducible refine (impl_peelB s A n c L _ (by unfold maxLen; omega) Hn.out (by omega) ((hat.below hb1).more (Nat.le_refl _) hb1.size)).mono ?_); rintro e w2 ⟨q, A2, c2, rfl, hq, hown2, hb2⟩
  rw [← Hn.out] at hown2 ⊢
  have Hq := Lib.hid hq; clear hq
  have hb12 := hb1.trans (hb2.mono hb1.size)
  go_wp2_with fail
  (with_reducible refine (dressed_any r A n c L _ (peelB s L).2 _ Hn.out (by omega) ((hat.below hb12).more (Nat.le_refl _) hb12.size) (by exact (hown1.rowV.below hb2)) (by rw [peelB_len]; exact Hn.out.symm) (fun j => Nat.le_trans (dress_room s L r Hr.out j) (by omega))).mono ?_); rintro e w3 ⟨t1, rfl, ht1, rfl⟩
  obtain rfl : t1 = s := eq_of_data (ht1.out.trans (by unfold dressB peelB at *; rw [Hr.out]; exact dress_peel _ _))
  clear ht1
  go_wp2_with fail
  (with_reducible refine (dressed_any q A n c L _ (peelB t1 L).2 _ Hn.out (by omega) ((hat.below hb12).more (Nat.le_refl _) hb12.size) (by exact hown2.rowV) (by rw [peelB_len]; exact Hn.out.symm) (fun j => Nat.le_trans (dress_room t1 L q Hq.out j) (by omega))).mono ?_); rintro e w3 ⟨t2, rfl, ht2, rfl⟩
  obtain rfl : t2 = t1 := eq_of_data (ht2.out.trans (by unfold dressB peelB at *; rw [Hq.out]; exact dress_peel _ _))
  clear ht2
  go_wp2
  go_ret
  exact ⟨rfl, hb12⟩
end Go.Proofs.Ytjpaboomgicjaaa
