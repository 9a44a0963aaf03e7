/- The walk of the law FnFoldTwice: it returns true; old memory as it was. Conditions: an argument of a bulk of at most 2 to the 20; the tables of the row. -/
import Derived.Test.YtkglbkgbgajbkaaDoorFoldLaws
import Derived.Test.YtkglbkgbgajbkaaDoorFrameUT
namespace Go.Proofs.YtkglbkgbgajbkaaDoor
open Go.RowKit
set_option linter.unusedVariables false

theorem getD_left {L M : List (List UInt8)} {m : Nat} (h : m < L.length) : (L ++ M).getD m [] = L.getD m [] := by
  simp [List.getD, List.getElem?_append_left h]
theorem getD_right {L M : List (List UInt8)} {m : Nat} : (L ++ M).getD (L.length + m) [] = M.getD m [] := by
  simp [List.getD, List.getElem?_append_right]
theorem folds_twice (L : List (List UInt8)) : folds (L ++ L) = folds L ++ folds L := by
  apply List.ext_getElem
  · rw [folds_length, List.length_append, List.length_append, folds_length]
  · intro i h1 h2
    rw [folds_get]
    rw [folds_length, List.length_append] at h1
    rcases Nat.lt_or_ge i L.length with hi | hi
    · rw [List.getElem_append_left (by rw [folds_length]; exact hi), folds_get]
      obtain ⟨a, b, c⟩ := firstOf_is L i
      refine firstOf_eq ⟨a, fun m hm => ?_, ?_⟩
      · rw [getD_left (by omega), getD_left hi]; exact b m hm
      · rw [getD_left (by omega), getD_left hi]; exact c
    · obtain ⟨j, rfl⟩ : ∃ j, i = L.length + j := ⟨i - L.length, by omega⟩
      have hj : j < L.length := by omega
      rw [List.getElem_append_right (by rw [folds_length]; omega), folds_get]
      have e : L.length + j - (folds L).length = j := by rw [folds_length]; omega
      rw [e]
      obtain ⟨a, b, c⟩ := firstOf_is L j
      refine firstOf_eq ⟨by omega, fun m hm => ?_, ?_⟩
      · rw [getD_left (by omega), getD_right]; exact b m hm
      · rw [getD_left (by omega), getD_right]; exact c
theorem texts_one (l : List (List UInt8)) : ∀ u ∈ texts l, u.oneCell' = true := by
  intro u hu
  obtain ⟨x, _, rfl⟩ := List.mem_map.1 hu
  rfl
theorem intsV_one (l : List Nat) : ∀ u ∈ intsV l, u.oneCell' = true := by
  intro u hu
  obtain ⟨x, _, rfl⟩ := List.mem_map.1 hu
  rfl

set_option maxRecDepth 100000 in
set_option maxHeartbeats 3200000 in
theorem fnFoldTwice_walk {w : World} (A : Option Addr) (n c : Nat) (L : List (List UInt8)) (hm : TArgU w A n c L) (hT : TabsF w) :
    Calls Tryd.prog 7 #[.slice A n c] w fun e w' => e = .returned (.bool true) ∧ Below w.heap.size w w' := by
  obtain ⟨⟨hn, hnc, hn16, hsz, hat⟩, hbk⟩ := hm
  have Hn := Lib.hid hn
  have HL : Hid (∀ x ∈ L, x.length ≤ 140737488355328) := fun x hx => by have := hsz x hx; omega
  have HL2 : Hid (∀ x ∈ L ++ L, x.length ≤ 140737488355328) := fun x hx => HL.out x (by simpa using hx)
  have hT1 : Tabs w := hT.1
  have hT2 : FoldVars w := hT.2
  have hnl : n ≤ 1048576 := by have := bulkT_len L; rw [← hn] at this; omega
  have hlt : (texts L).length = n := by rw [texts_length, ← hn]
  have hli : (intsV (folds L)).length = n := by rw [intsV_length, folds_length, ← hn]
  have Hlt := Lib.hid hlt; have Hli := Lib.hid hli
  clear hn hsz hbk hlt hli
  go_enter Tryd.func7, Tryd.ntmps7
  go_wp2_with fail
  (with_reducible refine (impl_fold A n c L _ Hn (by omega) HL.out hat hT1 hT2).mono ?_); rintro e w1 ⟨v1, rfl, h1, hb1⟩
  obtain ⟨A1, c1, rfl, hc1, _⟩ := h1.form
  have hr1 := h1.row.more (Nat.zero_le _) (Nat.le_refl _)
  rw [Hli.out] at hc1 ⊢
  have hat1 := (hat.below hb1).more (Nat.le_refl _) hb1.size
  clear h1 hat
  go_wp2_with (first
    | (at_builtin; refine wpList_extend (w1.alloc (.cells #[] 9)) rfl (.tmp 7) (.tmp 8) 22 rfl w1.heap.size 9 _ 16 Tryd.underlying22 info_string rfl _ [] rfl (Own.empty w1 _ _ _ rfl (Nat.le_refl _)) 0 w1.heap.size A n c (texts L) rfl Hlt.out.symm (hat1.below ((Below.refl _ _).alloc (Nat.le_refl _) _)) (texts_one L) (by rw [Hlt.out]; simp; omega) (by omega) (by simp) ?_; intro v4 w4 hown4 hbw4 hgr4)
    | (at_builtin; refine wpList_extend w4 rfl (.tmp 9) (.tmp 10) 22 rfl w1.heap.size 9 _ 16 Tryd.underlying22 info_string rfl v4 _ rfl hown4 0 w1.heap.size A n c (texts L) rfl Hlt.out.symm (hat1.below (((Below.refl _ _).alloc (Nat.le_refl _) _).trans hbw4)) (texts_one L) (by rw [List.length_append, Hlt.out]; simp; omega) (by omega) (by have := hbw4.size; simp at this; omega) ?_; intro v5 w5 hown5 hbw5 hgr5))
  have hb15 : Below w1.heap.size w1 w5 := (((Below.refl _ _).alloc (Nat.le_refl _) _).trans hbw4).trans hbw5
  have hB5 := hb1.trans (hb15.mono hb1.size)
  have e5 : [] ++ texts L ++ texts L = texts (L ++ L) := by unfold texts; rw [List.map_append]; rfl
  rw [e5] at hown5
  obtain ⟨A5, c5, rfl, hc5, _⟩ := hown5.form
  have hr5 := hown5.row.more (Nat.zero_le _) (Nat.le_refl _)
  have hl5 : (texts (L ++ L)).length = 2 * n := by rw [texts_length, List.length_append, ← Hn.out]; omega
  have Hn5 : Hid (2 * n = (L ++ L).length) := by rw [Hid, List.length_append, ← Hn.out]; omega
  rw [hl5] at hc5 ⊢
  clear hown5 hown4 e5 hl5 hgr4 hgr5
  (with_reducible refine (impl_foldB A5 (2 * n) c5 (L ++ L) _ Hn5 (by omega) HL2.out hr5 (hT1.below hB5) (hT2.below hB5)).mono ?_); rintro e w6 ⟨v6, rfl, h6, hb6⟩
  rw [folds_twice] at h6
  have hr6 := h6.rowV
  have hB6 := hB5.trans (hb6.mono hB5.size)
  have hb16 := hb15.trans (hb6.mono hb15.size)
  have hr16 := (hr1.below hb16).more (Nat.le_refl _) hb16.size
  clear h6 hr1 hr5
  go_wp2_with (first
    | (at_builtin; refine wpList_extend (w6.alloc (.cells #[] 3)) rfl (.tmp 20) (.tmp 21) 23 rfl w6.heap.size 3 _ 8 Tryd.underlying23 info_int rfl _ [] rfl (Own.empty w6 _ _ _ rfl (Nat.le_refl _)) 0 w6.heap.size A1 n c1 (intsV (folds L)) rfl Hli.out.symm (hr16.below ((Below.refl _ _).alloc (Nat.le_refl _) _)) (intsV_one _) (by rw [Hli.out]; simp; omega) (by omega) (by simp) ?_; intro v7 w7 hown7 hbw7 hgr7)
    | (at_builtin; refine wpList_extend w7 rfl (.tmp 22) (.tmp 23) 23 rfl w6.heap.size 3 _ 8 Tryd.underlying23 info_int rfl v7 _ rfl hown7 0 w6.heap.size A1 n c1 (intsV (folds L)) rfl Hli.out.symm (hr16.below (((Below.refl _ _).alloc (Nat.le_refl _) _).trans hbw7)) (intsV_one _) (by rw [List.length_append, Hli.out]; simp; omega) (by omega) (by have := hbw7.size; simp at this; omega) ?_; intro v8 w8 hown8 hbw8 hgr8))
  have hb68 : Below w6.heap.size w6 w8 := (((Below.refl _ _).alloc (Nat.le_refl _) _).trans hbw7).trans hbw8
  have e8 : [] ++ intsV (folds L) ++ intsV (folds L) = intsV (folds L ++ folds L) := by unfold intsV; rw [List.map_append]; rfl
  rw [e8] at hown8
  (with_reducible refine (sameInts_v _ _ (folds L ++ folds L) _ (by rw [List.length_append, folds_length, ← Hn.out]; omega) (hr6.below hb68) hown8.rowV).mono ?_); rintro e w' ⟨rfl, m9, rfl⟩
  go_wp2_with fail
  go_ret
  exact ⟨rfl, below_drewN' (hB6.trans (hb68.mono hB6.size)) m9⟩
end Go.Proofs.YtkglbkgbgajbkaaDoor
