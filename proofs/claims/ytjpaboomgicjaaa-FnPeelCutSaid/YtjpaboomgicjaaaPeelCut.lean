/- The walk of the law FnPeelCut: it returns true; old memory as it was. Conditions: the reach of the rows. -/
import Derived.Test.YtjpaboomgicjaaaPeelLaws
import Derived.Test.YtjpaboomgicjaaaRow2
import Derived.Test.YtjpaboomgicjaaaTimes
namespace Go.Proofs.Ytjpaboomgicjaaa
open Go.RowKit
set_option linter.unusedVariables false

theorem MAt.take {w : World} {lo hi : Nat} {A : Option Addr} {ms : List Mb} (h : MAt w lo hi A ms) (k : Nat) : MAt w lo hi A (ms.take k) := fun hn => by
  obtain ⟨b, o, rfl, h1, h2, hc⟩ := h (by rintro rfl; simp at hn)
  refine ⟨b, o, rfl, h1, h2, fun i hi => ?_⟩
  have hi' : i < ms.length := by rw [List.length_take] at hi; omega
  rw [List.getElem_take]
  exact hc i hi'
theorem MAt.drop_ne {w : World} {lo hi : Nat} {A : Option Addr} {ms : List Mb} (h : MAt w lo hi A ms) (k : Nat) : MAt w lo hi (A.map fun x => x.add (k * 2)) (ms.drop k) := fun hn => by
  have hk : k < ms.length := by
    rcases Nat.lt_or_ge k ms.length with h' | h'
    · exact h'
    · exact absurd (List.drop_eq_nil_of_le h') hn
  obtain ⟨b, o, rfl, h1, h2, hcell⟩ := h (by rintro rfl; simp at hk)
  refine ⟨b, o + k * 2, by rw [Option.map_some, Go.WideShapes.add_plain], h1, h2, fun i hi => ?_⟩
  have hi' : k + i < ms.length := by rw [List.length_drop] at hi; omega
  have := hcell (k + i) hi'
  rw [List.getElem_drop, show o + k * 2 + i * 2 = o + (k + i) * 2 by omega]
  exact this
theorem MAt.drop_eq {w : World} {lo hi : Nat} {A : Option Addr} {ms : List Mb} (h : MAt w lo hi A ms) (k c : Nat) (hc : c = k) (hl : ms.length ≤ c) : MAt w lo hi A (ms.drop k) := fun hn =>
  absurd (List.drop_eq_nil_of_le (by omega)) hn
theorem peelB_cut (s : ByteArray) (L : List Mb) (k : Nat) (r : ByteArray) (hr : r.data.toList = (peelB s (L.take k)).1) : (peelB r (L.drop k)).1 = (peelB s L).1 ∧ (peelB s (L.take k)).2 ++ (peelB r (L.drop k)).2 = (peelB s L).2 := by
  have h := peelL_append s.data.toList ((L.take k).map mk) ((L.drop k).map mk)
  rw [← List.map_append, List.take_append_drop] at h
  unfold peelB at hr ⊢
  rw [h, hr]
  exact ⟨rfl, rfl⟩

set_option maxHeartbeats 400000 in
theorem fnPeelCut_walk {w : World} (s : ByteArray) (hs : s.size ≤ 140737488351232) (A : Option Addr) (n c : Nat) (L : List Mb) (hm : MArg w A n c L) (j : Int) (hj : -9223372036854775808 ≤ j ∧ j ≤ 9223372036854775807) :
    Calls Try.prog 8 #[.string s, .slice A n c, .int .i64 j] w fun e w' => e = .returned (.bool true) ∧ Below w.heap.size w w' := by
  obtain ⟨hn, hnc, hn24, hsz, hat⟩ := hm
  have Hn := Lib.hid hn; clear hn
  have Hj := Lib.hid hj; clear hj
  clear hsz
  obtain ⟨k, hk, hkn⟩ : ∃ k : Nat, j % ((n : Int) + 1) = (k : Int) ∧ k ≤ n := by
    have h1 := Int.emod_nonneg j (show ((n : Int) + 1) ≠ 0 by omega)
    have h2 := Int.emod_lt_of_pos j (show 0 < ((n : Int) + 1) by omega)
    exact ⟨(j % ((n : Int) + 1)).toNat, by omega, by omega⟩
  have Hk := Lib.hid hk; clear hk
  go_enter Try.func8, Try.ntmps8
  go_wp2_with fail
  (with_reducible refine (at_nat j _ k _ Hj.out (by omega) (by omega) Hk.out).mono ?_); rintro e w' ⟨rfl, rfl⟩
  go_wp2_with fail
  (with_reducible refine (impl_peel s A n c L _ (by unfold maxLen; omega) Hn.out (by omega) hat).mono ?_); rintro e w1 ⟨r, A1, c1, rfl, hr, hown1, hb1⟩
  rw [← Hn.out] at hown1 ⊢
  have Hr := Lib.hid hr; clear hr
  go_wp2_with fail
  have hk1 : k = (L.take k).length := by rw [List.length_take, ← Hn.out]; omega
  (with_reducible refine (impl_peel s A k c (L.take k) _ (by unfold maxLen; omega) hk1 (by omega) (((hat.take k).below hb1).more (Nat.le_refl _) hb1.size)).mono ?_); rintro e w2 ⟨r2, A2, c2, rfl, hr2, hown2, hb2⟩
  rw [← hk1] at hown2 ⊢
  have hr2l : r2.size ≤ s.size := by rw [Lib.size_eq, Lib.size_eq, hr2]; exact peelL_le _ _
  have Hr2 := Lib.hid hr2; have Hk1 := Lib.hid hk1; clear hr2 hk1
  have hb12 := hb1.trans (hb2.mono hb1.size)
  have hk3 : n - k = (L.drop k).length := by rw [List.length_drop, ← Hn.out]
  have Hk3 := Lib.hid hk3; clear hk3
  go_wp2_with fail
  all_goals
    (with_reducible refine (impl_peelB r2 _ (n - k) _ (L.drop k) _ (by unfold maxLen; omega) Hk3.out (by omega) (MAt.more (lo := 0) (hi := w.heap.size) (by first | exact (hat.drop_eq k c ‹_› (by rw [← Hn.out]; exact hnc)).below hb12 | exact (hat.drop_ne k).below hb12) (Nat.le_refl _) hb12.size)).mono ?_); rintro e w3 ⟨r3, A3, c3, rfl, hr3, hown3, hb3⟩
    rw [← Hk3.out] at hown3 ⊢
    obtain rfl := eq_of_data (hr3.trans ((peelB_cut s L k r2 Hr2.out).1.trans Hr.out.symm))
    have hb13 := hb12.trans (hb3.mono hb12.size)
    clear hr3 Hr
    go_wp2_with (first
      | (at_builtin; refine wpList_extend (w3.alloc (.cells #[] 4)) rfl (.tmp 51) (.tmp 52) 24 rfl w3.heap.size 4 (.bool false) 1 Try.underlying24 info_bool rfl _ [] rfl (Own.empty w3 _ _ _ rfl (Nat.le_refl _)) 0 w3.heap.size A2 k c2 ((peelB s (L.take k)).2.map Value.bool) rfl (by rw [List.length_map, peelB_len]; exact Hk1.out) (((hown2.below hb3).row.more (Nat.zero_le _) (Nat.le_refl _)).below ((Below.refl _ _).alloc (Nat.le_refl _) _)) (bools_oneCell _) (by rw [List.length_map, peelB_len, ← Hk1.out]; simp; omega) (by omega) (by simp) ?_; intro v4 w4 hown4 hbw4 hgr4)
      | (at_builtin; refine wpList_extend w4 rfl (.tmp 53) (.tmp 54) 24 rfl w3.heap.size 4 (.bool false) 1 Try.underlying24 info_bool rfl v4 _ rfl hown4 0 w3.heap.size A3 (n - k) c3 ((peelB r2 (L.drop k)).2.map Value.bool) rfl (by rw [List.length_map, peelB_len]; exact Hk3.out) ((hown3.row.more (Nat.zero_le _) (Nat.le_refl _)).below (((Below.refl _ _).alloc (Nat.le_refl _) _).trans hbw4)) (bools_oneCell _) (by rw [List.length_append, List.length_map, List.length_map, peelB_len, peelB_len, ← Hk1.out, ← Hk3.out]; simp; omega) (by omega) (by have := hbw4.size; simp at this; omega) ?_; intro v5 w5 hown5 hbw5 hgr5))
    have hb14 := (((Below.refl w3.heap.size w3).alloc (Nat.le_refl _) (.cells #[] 4)).trans hbw4).trans hbw5
    have hfin : ([] ++ (peelB s (L.take k)).2.map Value.bool) ++ (peelB r2 (L.drop k)).2.map Value.bool = (peelB s L).2.map Value.bool := by
      rw [List.nil_append, ← List.map_append, (peelB_cut s L k r2 Hr2.out).2]
    (with_reducible refine (sameBools_v v5 _ (peelB s L).2 _ (by rw [peelB_len, ← Hn.out]; omega) (by rw [← hfin]; exact hown5.rowV) (by exact ((hown1.rowV.below (hb2.trans (hb3.mono hb2.size))).below hb14))).mono ?_); rintro e w' ⟨rfl, m, rfl⟩
    clear hfin
    go_wp2
    go_ret
    exact ⟨rfl, below_drewN (hb13.trans (hb14.mono hb13.size)) _⟩
end Go.Proofs.Ytjpaboomgicjaaa
