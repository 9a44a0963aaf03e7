/- The walk of the law FnPeelSides: it returns true; old memory as it was. Conditions: the reach of the rows. -/
import Derived.Test.YtjpaboomgicjaaaSides
namespace Go.Proofs.Ytjpaboomgicjaaa
open Go.RowKit
set_option linter.unusedVariables false

theorem takenB_peel (s : ByteArray) (L : List Mb) : ∀ k, takenB (L.take k) ((peelB s L).2.take k) ≤ s.size := by
  intro k
  have h := peelL_append s.data.toList ((L.take k).map mk) ((L.drop k).map mk)
  rw [← List.map_append, List.take_append_drop] at h
  have e : (peelB s L).2.take k = (peelB s (L.take k)).2 := by
    unfold peelB
    rw [h]
    simp only
    by_cases hk : k ≤ L.length
    · rw [List.take_append_of_le_length (by rw [peelL_length, List.length_map, List.length_take]; omega), List.take_of_length_le (by rw [peelL_length, List.length_map, List.length_take]; omega)]
    · have e1 : L.drop k = [] := List.drop_eq_nil_of_le (by omega)
      rw [e1]
      simp only [List.map_nil, peelL, List.append_nil]
      exact List.take_of_length_le (by rw [peelL_length, List.length_map, List.length_take]; omega)
  rw [e]
  have := peel_taken s.data.toList ((L.take k).map mk)
  unfold takenB peelB
  rw [Lib.size_eq]; omega
theorem takenB_all (s : ByteArray) (L : List Mb) : takenB L (peelB s L).2 ≤ s.size := by
  have := takenB_peel s L L.length
  rwa [List.take_length, List.take_of_length_le (by rw [peelB_len]; exact Nat.le_refl _)] at this
theorem front_all (L : List Mb) : ∀ m ∈ (front L).map mk, m.1 = false := by
  intro m hm
  obtain ⟨q, hq, rfl⟩ := List.mem_map.1 hm
  have := (List.mem_filter.1 hq).2
  simpa [mk] using this
theorem back_all (L : List Mb) : ∀ m ∈ (back L).map mk, m.1 = true := by
  intro m hm
  obtain ⟨q, hq, rfl⟩ := List.mem_map.1 hm
  have := (List.mem_filter.1 hq).2
  simpa [mk] using this
/-- where the marks of both ends leave the middle alone -/
theorem sides_eq {s m1 m2 : ByteArray} {L : List Mb} (h1 : Hid (m1.data.toList = (peelB s (front L)).1)) (h2 : Hid (m2.data.toList = (peelB s (back L)).1))
    (h : takenB (front L) (peelB s (front L)).2 + takenB (back L) (peelB s (back L)).2 ≤ s.size) :
    (peelB m1 (back L)).1 = (peelB m2 (front L)).1 ∧ (peelB m2 (front L)).2 = (peelB s (front L)).2 ∧ (peelB m1 (back L)).2 = (peelB s (back L)).2 := by
  have h1 := h1.out
  have h2 := h2.out
  unfold takenB at h
  unfold peelB at h1 h2 h ⊢
  rw [Lib.size_eq] at h
  have := peel_sides s.data.toList ((front L).map mk) ((back L).map mk) (front_all L) (back_all L) h
  rw [h1, h2, this.1, this.2]
  exact ⟨rfl, rfl, rfl⟩
theorem front_le (L : List Mb) : (front L).length ≤ L.length ∧ (back L).length ≤ L.length := ⟨List.length_filter_le _ _, List.length_filter_le _ _⟩

set_option maxHeartbeats 800000 in
theorem fnPeelSides_walk {w : World} (s : ByteArray) (hs : s.size ≤ 140737488351232) (A : Option Addr) (n c : Nat) (L : List Mb) (hm : MArg w A n c L) :
    Calls Try.prog 12 #[.string s, .slice A n c] w fun e w' => e = .returned (.bool true) ∧ Below w.heap.size w w' := by
  obtain ⟨hn, hnc, hn24, hsz, hat⟩ := hm
  have hfl := front_le L
  have Hn := Lib.hid hn
  rw [← hn] at hfl
  obtain ⟨hfl1, hfl2⟩ := hfl
  clear hn
  have Hsz := Lib.hid hsz; clear hsz
  go_enter Try.func12, Try.ntmps12
  go_wp2_with fail
  (with_reducible refine (sides_any A n c L _ Hn.out hn24 hat).mono ?_); rintro e w0 ⟨A1, A2, n1, c1, n2, c2, rfl, H1, H2, hat1, hat2, hb0⟩
  rw [← H1.out] at hfl1
  rw [← H2.out] at hfl2
  go_wp2_with fail
  (with_reducible refine (impl_peel s A1 n1 c1 (front L) _ (by unfold maxLen; omega) H1.out (by omega) hat1).mono ?_); rintro e w1 ⟨m1, B1, d1, rfl, hr1, hown1, hb1⟩
  rw [← H1.out] at hown1 ⊢
  have hl1 : m1.size ≤ s.size := by rw [Lib.size_eq, Lib.size_eq, hr1]; exact peelL_le _ _
  have R1 := Lib.hid hr1; clear hr1
  have hatb1 := (hat2.below hb1).more (Nat.le_refl _) hb1.size
  go_wp2_with fail
  (with_reducible refine (impl_peel m1 A2 n2 c2 (back L) _ (by unfold maxLen; omega) H2.out (by omega) hatb1).mono ?_); rintro e w2 ⟨r2, B2, d2, rfl, hr2, hown2, hb2⟩
  rw [← H2.out] at hown2 ⊢
  have R2 := Lib.hid hr2; clear hr2
  have hb12 := hb1.trans (hb2.mono hb1.size)
  go_wp2_with fail
  (with_reducible refine (impl_peelB s A2 n2 c2 (back L) _ (by unfold maxLen; omega) H2.out (by omega) ((hat2.below hb12).more (Nat.le_refl _) hb12.size)).mono ?_); rintro e w3 ⟨m3, B3, d3, rfl, hr3, hown3, hb3⟩
  rw [← H2.out] at hown3 ⊢
  have hl3 : m3.size ≤ s.size := by rw [Lib.size_eq, Lib.size_eq, hr3]; exact peelL_le _ _
  have R3 := Lib.hid hr3; clear hr3
  have hb13 := hb12.trans (hb3.mono hb12.size)
  go_wp2_with fail
  (with_reducible refine (impl_peelB m3 A1 n1 c1 (front L) _ (by unfold maxLen; omega) H1.out (by omega) ((hat1.below hb13).more (Nat.le_refl _) hb13.size)).mono ?_); rintro e w4 ⟨r4, B4, d4, rfl, hr4, hown4, hb4⟩
  rw [← H1.out] at hown4 ⊢
  have R4 := Lib.hid hr4; clear hr4
  have hb14 := hb13.trans (hb4.mono hb13.size)
  have hb24 := (hb2.trans (hb3.mono hb2.size)).trans (hb4.mono (hb2.trans (hb3.mono hb2.size)).size)
  have hb34 := hb3.trans (hb4.mono hb3.size)
  have hfin := hb0.trans (hb14.mono hb0.size)
  have htk1 := takenB_all s (front L)
  have htk2 := takenB_all s (back L)
  go_wp2_with fail
  (with_reducible refine (taken_any A1 n1 c1 _ (front L) (peelB s (front L)).2 _ H1.out (peelB_len _ _) (by omega) ((hat1.below hb14).more (Nat.le_refl _) hb14.size) (hown1.rowV.below hb24) (fun k => Nat.le_trans (takenB_peel s _ k) hs) (fun m hm => Hsz.out m (List.mem_filter.1 hm).1)).mono ?_); rintro e w' ⟨rfl, rfl⟩
  go_wp2_with fail
  (with_reducible refine (taken_any A2 n2 c2 _ (back L) (peelB s (back L)).2 _ H2.out (peelB_len _ _) (by omega) ((hat2.below hb14).more (Nat.le_refl _) hb14.size) (hown3.rowV.below hb4) (fun k => Nat.le_trans (takenB_peel s _ k) hs) (fun m hm => Hsz.out m (List.mem_filter.1 hm).1)).mono ?_); rintro e w' ⟨rfl, rfl⟩
  by_cases hbig : s.size < takenB (front L) (peelB s (front L)).2 + takenB (back L) (peelB s (back L)).2
  · go_wp2
    go_ret
    exact ⟨rfl, hfin⟩
  · obtain ⟨e1, e2, e3⟩ := sides_eq R1 R3 (by omega)
    rw [e2] at hown4
    rw [e3] at hown2
    obtain rfl := eq_of_data (R2.out.trans (e1.trans R4.out.symm))
    clear e1 e2 e3 R1 R2 R3 R4
    go_wp2_with fail
    (with_reducible refine (sameBools_v _ _ (peelB s (front L)).2 _ (by rw [peelB_len, ← H1.out]; omega) (hown1.rowV.below hb24) hown4.rowV).mono ?_); rintro e w' ⟨rfl, m1', rfl⟩
    go_wp2_with fail
    (with_reducible refine (sameBools_v _ _ (peelB s (back L)).2 _ (by rw [peelB_len, ← H2.out]; omega) ((hown2.rowV.below hb34).drewN _) ((hown3.rowV.below hb4).drewN _)).mono ?_); rintro e w' ⟨rfl, m2', rfl⟩
    go_wp2
    go_ret
    exact ⟨rfl, below_drewN hfin _⟩
end Go.Proofs.Ytjpaboomgicjaaa
