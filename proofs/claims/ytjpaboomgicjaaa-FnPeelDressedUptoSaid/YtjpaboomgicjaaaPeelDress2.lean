/- The walk of the law FnPeelDressed: it returns true; old memory as it was. Conditions: the bound of the second form. -/
import Derived.Test.YtjpaboomgicjaaaPeelDress
namespace Go.Proofs.Ytjpaboomgicjaaa
open Go.RowKit
set_option linter.unusedVariables false

theorem RowV.drewN {w : World} {v : Value} {xs : List Value} (h : RowV w v xs) (k : Nat) : RowV (w.drewN k) v xs := h
theorem dressL_len (t : List UInt8) : ∀ (ms : List Mk) (bs : List Bool), (dressL t ms bs).length ≤ t.length + (ms.map fun m => m.2.length + 1).sum
  | [], bs => by simp [dressL]
  | m :: ms, [] => by simp [dressL]
  | m :: ms, b :: bs => by
    have h := dressL_len t ms bs
    simp only [dressL, dress1, List.map_cons, List.sum_cons]
    split
    · split <;> simp only [List.length_append] <;> omega
    · omega
theorem bulkM_drop (L : List Mb) : ∀ j, bulkM (L.drop j) ≤ bulkM L := by
  induction L with
  | nil => intro j; simp
  | cons m L ih =>
    intro j
    cases j with
    | zero => simp
    | succ j => have := ih j; simp only [List.drop_succ_cons, bulkM, List.map_cons, List.sum_cons] at this ⊢; omega
theorem bulkM_mk (L : List Mb) : ((L.map mk).map fun m => m.2.length + 1).sum = bulkM L := by
  unfold bulkM
  rw [List.map_map]
  congr 1
theorem dress_room2 (s : ByteArray) (L : List Mb) (bs : List Bool) (j : Nat) : (dressB s (L.drop j) (bs.drop j)).length ≤ s.size + bulkM L := by
  have h := dressL_len s.data.toList ((L.drop j).map mk) (bs.drop j)
  rw [bulkM_mk, ← Lib.size_eq] at h
  have := bulkM_drop L j
  unfold dressB
  omega
theorem peelB_dress {s t : ByteArray} {L : List Mb} (ht : Hid (t.data.toList = dressB s L (List.replicate L.length true))) : (peelB t L).1 = s.data.toList ∧ (peelB t L).2 = List.replicate L.length true := by
  have h := peel_dress s.data.toList (L.map mk)
  rw [List.length_map] at h
  unfold peelB
  rw [ht.out]
  unfold dressB
  rw [h]
  exact ⟨rfl, rfl⟩

set_option maxHeartbeats 800000 in
theorem fnPeelDressed_walk {w : World} (s : ByteArray) (hs : s.size ≤ 1048576) (A : Option Addr) (n c : Nat) (L : List Mb) (hm : MArgU w A n c L) :
    Calls Try.prog 9 #[.string s, .slice A n c] w fun e w' => e = .returned (.bool true) ∧ Below w.heap.size w w' := by
  obtain ⟨⟨hn, hnc, hn24, hsz, hat⟩, hbk⟩ := hm
  have Hn := Lib.hid hn; clear hn
  clear hsz
  go_enter Try.func9, Try.ntmps9
  go_wp2
  go_loopw [5, 13] (fun v i wr => ∃ k : Nat, k ≤ n ∧ i = .int .i64 k ∧ Own wr w.heap.size 4 v ((List.replicate k true).map Value.bool) ∧ Below w.heap.size w wr) (fun _ i _ => n - (intOf i).toNat)
  case atStart => exact ⟨0, Nat.zero_le _, rfl, Own.empty w _ _ _ rfl (Nat.le_refl _), (Below.refl _ _).alloc (Nat.le_refl _) _⟩
  case round =>
    obtain ⟨k, hk, rfl, hown, hbw⟩ := hrel
    have hz := hbw.size
    by_cases hlt : k < n
    · go_wp2_with (at_builtin; refine wpList_push wr rfl (.tmp 15) (.tmp 16) 24 rfl w.heap.size 4 (.bool false) 1 Try.underlying24 info_bool rfl _ _ _ _ rfl rfl rfl hown rfl (by simp; omega) (by omega) (by omega) ?_; intro f1 w1 hown1 hbw1 hgr1 hat1)
      go_roundw
      case rel => exact ⟨k + 1, by omega, by go_num, by rw [List.replicate_succ', List.map_append]; exact hown1, hbw.trans hbw1⟩
      case measure => simp [intOf]; omega
    · have hkn : k = n := by omega
      subst hkn
      have Hown := Lib.hid hown; clear hown
      go_wp2_with fail
      (with_reducible refine (dressed_any s A k c L _ (List.replicate k true) _ Hn.out (by omega) ((hat.below hbw).more (Nat.le_refl _) hbw.size) Hown.out.rowV (by simp) (fun j => Nat.le_trans (dress_room2 s L _ j) (by omega))).mono ?_); rintro e w3 ⟨t1, rfl, ht1, rfl⟩
      have hl1 : t1.size ≤ 2097152 := by
        have := dress_room2 s L (List.replicate k true) 0
        rw [Lib.size_eq, ht1.out]
        simp only [List.drop_zero] at this
        omega
      go_wp2_with fail
      (with_reducible refine (impl_peel t1 A k c L _ (by unfold maxLen; omega) Hn.out (by omega) ((hat.below hbw).more (Nat.le_refl _) hbw.size)).mono ?_); rintro e w1 ⟨r, A1, c1, rfl, hr, hown1, hb1⟩
      obtain ⟨e1, e2⟩ := peelB_dress (L := L) (s := s) (t := t1) (by rw [← Hn.out]; exact ht1)
      obtain rfl := eq_of_data (hr.trans e1)
      rw [e2, ← Hn.out] at hown1
      rw [← Hn.out]
      have Hown1 := Lib.hid hown1
      clear hr e1 e2 hown1
      have hb01 := hbw.trans (hb1.mono hbw.size)
      go_wp2_with fail
      (with_reducible refine (dressed_any r A k c L _ (List.replicate k true) _ Hn.out (by omega) ((hat.below hb01).more (Nat.le_refl _) hb01.size) (Hown.out.rowV.below hb1) (by simp) (fun j => Nat.le_trans (dress_room2 r L _ j) (by omega))).mono ?_); rintro e w3 ⟨t2, rfl, ht2, rfl⟩
      obtain rfl : t2 = t1 := eq_of_data (ht2.out.trans ht1.out.symm)
      clear ht2
      go_wp2_with fail
      (with_reducible refine (impl_peelB t2 A k c L _ (by unfold maxLen; omega) Hn.out (by omega) ((hat.below hb01).more (Nat.le_refl _) hb01.size)).mono ?_); rintro e w4 ⟨q, A2, c2, rfl, hq, hown2, hb2⟩
      obtain ⟨e1, e2⟩ := peelB_dress (L := L) (s := r) (t := t2) (by rw [← Hn.out]; exact ht1)
      obtain rfl := eq_of_data (hq.trans e1)
      rw [e2, ← Hn.out] at hown2
      rw [← Hn.out]
      have Hown2 := Lib.hid hown2
      clear hq e1 e2 hown2 ht1
      have hb02 := hb01.trans (hb2.mono hb01.size)
      have hb12 := hb1.trans (hb2.mono hb1.size)
      go_wp2_with fail
      (with_reducible refine (sameBools_v _ _ (List.replicate k true) _ (by simp; omega) (Hown1.out.rowV.below hb2) (Hown.out.rowV.below hb12)).mono ?_); rintro e w' ⟨rfl, m1, rfl⟩
      go_wp2_with fail
      (with_reducible refine (sameBools_v _ _ (List.replicate k true) _ (by simp; omega) (Hown2.out.rowV.drewN _) ((Hown.out.rowV.below hb12).drewN _)).mono ?_); rintro e w' ⟨rfl, m2, rfl⟩
      go_wp2
      go_ret
      exact ⟨rfl, below_drewN hb02 _⟩
end Go.Proofs.Ytjpaboomgicjaaa
