/- The walks of the laws FnFoldBoth and FnFoldFirst: they return true; old memory as it was. Conditions: the reach of the rows; the tables of the rows. -/
import Derived.Test.YtkglbkgbgajbkaaDoorSameI
import Derived.Test.YtkglbkgbgajbkaaDoorTabsF
import Derived.Test.YtkglbkgbgajbkaaDoorFrameT
import Derived.Lib.SlicesS
namespace Go.Proofs.YtkglbkgbgajbkaaDoor
open Go.RowKit
set_option linter.unusedVariables false

theorem firstOf_same {L : List (List UInt8)} {i j : Nat} (hj : j ≤ i) (h : eqF (L.getD j []) (L.getD i []) = true) : firstOf L j = firstOf L i := by
  obtain ⟨h1, h2, h3⟩ := firstOf_is L i
  refine firstOf_eq ⟨?_, fun m hm => ?_, ?_⟩
  · rcases Nat.lt_or_ge j (firstOf L i) with hlt | hge
    · have := h2 j hlt; rw [h] at this; cases this
    · exact hge
  · cases e : eqF (L.getD m []) (L.getD j []) with
    | false => rfl
    | true => have := h2 m hm; rw [eqF_trans e h] at this; cases this
  · exact eqF_trans h3 (by rw [eqF_symm]; exact h)
theorem firstOf_own (L : List (List UInt8)) (i : Nat) : firstOf L (firstOf L i) = firstOf L i := firstOf_same (firstOf_is L i).1 (firstOf_is L i).2.2

set_option maxHeartbeats 800000 in
theorem fnFoldBoth_walk {w : World} (A : Option Addr) (n c : Nat) (L : List (List UInt8)) (hm : TArg w A n c L) (hT : TabsF w) :
    Calls Tryd.prog 4 #[.slice A n c] w fun e w' => e = .returned (.bool true) ∧ Below w.heap.size w w' := by
  obtain ⟨hn, hnc, hn16, hsz, hat⟩ := hm
  have Hn := Lib.hid hn
  have HL : Hid (∀ x ∈ L, x.length ≤ 140737488355328) := fun x hx => by have := hsz x hx; omega
  have hT1 : Tabs w := hT.1
  have hT2 : FoldVars w := hT.2
  have hnl : n ≤ 8796093022208 := by omega
  clear hn hsz
  go_enter Tryd.func4, Tryd.ntmps4
  go_wp2_with fail
  (with_reducible refine (impl_fold A n c L _ Hn hnl HL.out hat hT1 hT2).mono ?_); rintro e w1 ⟨v1, rfl, h1, hb1⟩
  have hr1 := h1.rowV
  obtain ⟨A1, c1, rfl, hc1, _⟩ := h1.form
  rw [intsV_length, folds_length, ← Hn.out] at hc1 hr1 ⊢
  clear h1
  go_wp2_with fail
  (with_reducible refine (impl_foldB A n c L _ Hn hnl HL.out ((hat.below hb1).more (Nat.le_refl _) hb1.size) (hT1.below hb1) (hT2.below hb1)).mono ?_); rintro e w2 ⟨v2, rfl, h2, hb2⟩
  have hB2 := hb1.trans (hb2.mono hb1.size)
  go_wp2_with fail
  (with_reducible refine (sameInts_v _ _ (folds L) _ (by rw [folds_length, ← Hn.out]; omega) (hr1.below hb2) h2.rowV).mono ?_); rintro e w' ⟨rfl, m3, rfl⟩
  go_wp2_with fail
  go_ret
  exact ⟨rfl, below_drewN' hB2 m3⟩

set_option maxRecDepth 100000 in
set_option maxHeartbeats 3200000 in
theorem fnFoldFirst_walk {w : World} (A : Option Addr) (n c : Nat) (L : List (List UInt8)) (hm : TArg w A n c L) (hT : TabsF w) :
    Calls Tryd.prog 3 #[.slice A n c] w fun e w' => e = .returned (.bool true) ∧ Below w.heap.size w w' := by
  obtain ⟨hn, hnc, hn16, hsz, hat⟩ := hm
  have Hn := Lib.hid hn
  have HL : Hid (∀ x ∈ L, x.length ≤ 140737488355328) := fun x hx => by have := hsz x hx; omega
  have hT1 : Tabs w := hT.1
  have hT2 : FoldVars w := hT.2
  have hnl : n ≤ 8796093022208 := by omega
  clear hn hsz
  go_enter Tryd.func3, Tryd.ntmps3
  go_wp2_with fail
  (with_reducible refine (impl_fold A n c L _ Hn hnl HL.out hat hT1 hT2).mono ?_); rintro e w1 ⟨v1, rfl, h1, hb1⟩
  obtain ⟨A1, c1, rfl, hc1, _⟩ := h1.form
  have hr1 := h1.row
  rw [intsV_length, folds_length, ← Hn.out] at hc1 ⊢
  have Hr1 := Lib.hid hr1
  have Hat := Lib.hid (hat.below hb1)
  clear h1 hr1 hat
  go_wp2_with fail
  go_loopw [11] (fun i wr => ∃ k m : Nat, k ≤ n ∧ i = .int .i64 k ∧ wr = w1.drewN m) (fun i _ => n - (intOf i).toNat)
  case atStart => exact ⟨0, 0, Nat.zero_le _, rfl, rfl⟩
  case round =>
    obtain ⟨i, m, hi, rfl, rfl⟩ := hrel
    by_cases hlt : i < n
    · have hiL : i < L.length := by rw [← Hn.out]; exact hlt
      have hiF : i < (intsV (folds L)).length := by rw [intsV_length, folds_length]; exact hiL
      obtain ⟨k, hk⟩ : ∃ k, k = firstOf L i := ⟨_, rfl⟩
      have hki : k ≤ i := by rw [hk]; exact (firstOf_is L i).1
      have hkF : k < (intsV (folds L)).length := by rw [intsV_length, folds_length]; omega
      have hkk : firstOf L k = k := by rw [hk]; exact firstOf_own L i
      obtain ⟨b1, o1, hA1, _, _, hcell⟩ := Hr1.out (by rintro e; rw [e] at hiF; simp at hiF)
      have hci := hcell i hiF
      have hck := hcell k hkF
      rw [intsV_get, folds_get, ← hk] at hci
      rw [intsV_get, folds_get, hkk] at hck
      subst hA1
      have Hcell := Lib.hid hcell
      have Hk := Lib.hid hk
      have hk0 : (0 : Int) ≤ (k : Int) := by omega
      have hk1 : ¬ (k : Int) < 0 := by omega
      have hk2 : ¬ (i : Int) < (k : Int) := by omega
      have hk3 : (k : Int) < (n : Int) := by omega
      have hiz : (i : Int) < (n : Int) := by omega
      have hi0 : (0 : Int) ≤ (i : Int) := by omega
      clear hcell hkk hk hkF hiF
      go_wp2_with fail
      go_loopw [32] (fun jj wr => ∃ j m : Nat, j ≤ i ∧ jj = .int .i64 j ∧ wr = w1.drewN m) (fun jj _ => i - (intOf jj).toNat)
      case atStart => exact ⟨0, m, Nat.zero_le _, rfl, rfl⟩
      case round =>
        obtain ⟨j, m2, hj, rfl, rfl⟩ := hrel
        by_cases hji : j < i
        · have hjL : j < L.length := by omega
          obtain ⟨b, o, rfl, _, _, hcl⟩ := Hat.out (by intro e; have := congrArg List.length e; rw [texts_length] at this; simp at this; rw [this] at hjL; simp at hjL)
          have c1 := hcl j (by rw [texts_length]; exact hjL)
          have c2 := hcl i (by rw [texts_length]; exact hiL)
          have c3 := Hcell.out j (by rw [intsV_length, folds_length]; exact hjL)
          rw [intsV_get, folds_get] at c3
          rw [show (texts L)[j]'(by rw [texts_length]; exact hjL) = .string (txt L[j]) by simp [texts]] at c1
          rw [show (texts L)[i]'(by rw [texts_length]; exact hiL) = .string (txt L[i]) by simp [texts]] at c2
          have hjz : (j : Int) < (i : Int) := by omega
          have hjz2 : (j : Int) < (n : Int) := by omega
          have hj0 : (0 : Int) ≤ (j : Int) := by omega
          by_cases hxy : L[j] = L[i]
          · have hsame : firstOf L j = k := by
              rw [Hk.out]
              refine firstOf_same (by omega) ?_
              rw [show L.getD j [] = L[j] by simp [List.getD, hjL], show L.getD i [] = L[i] by simp [List.getD, hiL], hxy]
              exact eqF_refl _
            rw [hsame] at c3
            rw [hxy] at c1
            generalize L[i] = y at c1 c2
            clear hsame hcl hxy
            go_wp2
            go_quiet (fail)
            go_wp2
            go_roundw
            case rel => exact ⟨j + 1, _, by omega, by go_num, by first | rfl | (simp only [World.drewN_drewN]; rfl)⟩
            case measure => simp [intOf]; omega
          · have hne : ¬ txt L[j] = txt L[i] := fun e => hxy (by have := congrArg (fun s : ByteArray => s.data.toList) e; simpa [txt] using this)
            have hnb : ((txt L[j]).toList == (txt L[i]).toList) = false := (Lib.bytes_beq_false_iff _ _).2 hne
            generalize txt L[j] = x at c1 hnb hne
            generalize txt L[i] = y at c2 hnb hne
            clear hcl hxy
            go_wp2
            go_quiet (fail)
            go_wp2
            go_roundw
            case rel => exact ⟨j + 1, _, by omega, by go_num, by first | rfl | (simp only [World.drewN_drewN]; rfl)⟩
            case measure => simp [intOf]; omega
        · have hjz : ¬ (j : Int) < (i : Int) := by omega
          go_wp2_with fail
          go_roundw
          case rel => exact ⟨i + 1, m2, by omega, by go_num, rfl⟩
          case measure => simp [intOf]; omega
    · go_wp2_with fail
      go_ret
      exact ⟨rfl, below_drewN' hb1 m⟩
end Go.Proofs.YtkglbkgbgajbkaaDoor
