/- The walk of the law FnFoldTurned: it returns true; old memory as it was. Conditions: the reach of the rows; the tables of the rows. -/
import Derived.Test.YtkglbkgbgajbkaaDoorFoldLaws
import Derived.Test.YtkglbkgbgajbkaaDoorTurned
namespace Go.Proofs.YtkglbkgbgajbkaaDoor
open Go.RowKit
set_option linter.unusedVariables false

theorem firstOf_iff {L : List (List UInt8)} (i k : Nat) : firstOf L i = firstOf L k ↔ eqF (L.getD i []) (L.getD k []) = true := by
  constructor
  · intro h
    have h1 := (firstOf_is L i).2.2
    have h2 := (firstOf_is L k).2.2
    rw [← h] at h2
    exact eqF_trans (by rw [eqF_symm]; exact h1) h2
  · intro h
    rcases Nat.le_total i k with hik | hik
    · exact firstOf_same hik h
    · exact (firstOf_same hik (by rw [eqF_symm]; exact h)).symm
theorem turned_getD {L : List (List UInt8)} {i : Nat} (hi : i < L.length) : L.reverse.getD (L.length - 1 - i) [] = L.getD i [] := by
  have h1 : L.length - 1 - i < L.reverse.length := by rw [List.length_reverse]; omega
  simp only [List.getD, List.getElem?_eq_getElem h1, List.getElem?_eq_getElem hi, Option.getD_some]
  rw [List.getElem_reverse]
  congr 1
  omega
theorem turned_iff {L : List (List UInt8)} {i k : Nat} (hi : i < L.length) (hk : k < L.length) : firstOf L.reverse (L.length - 1 - i) = firstOf L.reverse (L.length - 1 - k) ↔ firstOf L i = firstOf L k := by
  rw [firstOf_iff, firstOf_iff, turned_getD hi, turned_getD hk]
theorem wrap_small (U : Nat) (h : U ≤ 140737488355328) : IntKind.i64.wrap (U : Int) = (U : Int) := by
  simp [IntKind.wrap, IntKind.bits, IntKind.signed]
  omega
theorem beq_of_iff {a b c d : Nat} (h : a = b ↔ c = d) : ((a : Int) == (b : Int)) = ((c : Int) == (d : Int)) := by
  rw [Bool.eq_iff_iff, beq_iff_eq, beq_iff_eq]
  omega

set_option maxRecDepth 100000 in
set_option maxHeartbeats 3200000 in
theorem fnFoldTurned_walk {w : World} (A : Option Addr) (n c : Nat) (L : List (List UInt8)) (hm : TArg w A n c L) (hT : TabsF w) :
    Calls Tryd.prog 6 #[.slice A n c] w fun e w' => e = .returned (.bool true) ∧ Below w.heap.size w w' := by
  obtain ⟨hn, hnc, hn16, hsz, hat⟩ := hm
  have Hn := Lib.hid hn
  have HL : Hid (∀ x ∈ L, x.length ≤ 140737488355328) := fun x hx => by have := hsz x hx; omega
  have HLr : Hid (∀ x ∈ L.reverse, x.length ≤ 140737488355328) := fun x hx => HL.out x (by simpa using hx)
  have Hnr : Hid (n = L.reverse.length) := by rw [Hid, List.length_reverse]; exact hn
  have hT1 : Tabs w := hT.1
  have hT2 : FoldVars w := hT.2
  have hnl : n ≤ 8796093022208 := by omega
  have hrv : RowV w (.slice A n c) (texts L) := ⟨A, c, by rw [texts_length, ← hn], by rw [texts_length, ← hn]; exact hnc, hat⟩
  have Hrv := Lib.hid hrv
  have hll : L.length ≤ 8796093021952 := by rw [← hn]; omega
  clear hn hsz hrv
  go_enter Tryd.func6, Tryd.ntmps6
  go_wp2_with fail
  (with_reducible refine (impl_fold A n c L _ Hn hnl HL.out hat hT1 hT2).mono ?_); rintro e w1 ⟨v1, rfl, h1, hb1⟩
  obtain ⟨A1, c1, rfl, hc1, _⟩ := h1.form
  have hr1 := h1.row
  rw [intsV_length, folds_length, ← Hn.out] at hc1 ⊢
  clear h1 hat
  go_wp2_with fail
  (with_reducible refine (turned_any _ L _ hll (Hrv.out.below hb1)).mono ?_); rintro e w2 ⟨v2, rfl, h2, hb2⟩
  obtain ⟨A2, c2, rfl, hc2, _⟩ := h2.form
  have hr2 := h2.row.more (Nat.zero_le _) (Nat.le_refl _)
  rw [texts_length, ← Hnr.out] at hc2 ⊢
  have hB2 := hb1.trans (hb2.mono hb1.size)
  clear h2 hll
  go_wp2_with fail
  (with_reducible refine (impl_foldB A2 n c2 L.reverse _ Hnr hnl HLr.out hr2 (hT1.below hB2) (hT2.below hB2)).mono ?_); rintro e w3 ⟨v3, rfl, h3, hb3⟩
  obtain ⟨A3, c3, rfl, hc3, _⟩ := h3.form
  have hr3 := h3.row
  rw [intsV_length, folds_length, ← Hnr.out] at hc3 ⊢
  have hB3 := hB2.trans (hb3.mono hB2.size)
  have hb13 := hb2.trans (hb3.mono hb2.size)
  have Hr1 := Lib.hid (hr1.below hb13)
  have Hr3 := Lib.hid hr3
  clear h3 hr1 hr2 hr3 Hrv
  go_wp2_with fail
  go_loopw [26] (fun i wr => ∃ k m : Nat, k ≤ n ∧ i = .int .i64 k ∧ wr = w3.drewN m) (fun i _ => n - (intOf i).toNat)
  case atStart => exact ⟨0, 0, Nat.zero_le _, rfl, rfl⟩
  case round =>
    obtain ⟨i, m, hi, rfl, rfl⟩ := hrel
    by_cases hlt : i < n
    · have hiL : i < L.length := by rw [← Hn.out]; exact hlt
      go_wp2_with fail
      go_loopw [31] (fun jj wr => ∃ k m : Nat, k ≤ n ∧ jj = .int .i64 k ∧ wr = w3.drewN m) (fun jj _ => n - (intOf jj).toNat)
      case atStart => exact ⟨0, m, Nat.zero_le _, rfl, rfl⟩
      case round =>
        obtain ⟨k, m2, hk, rfl, rfl⟩ := hrel
        by_cases hkn : k < n
        · have hkL : k < L.length := by rw [← Hn.out]; exact hkn
          have hne : ∀ M : List (List UInt8), n = M.length → intsV (folds M) ≠ [] := fun M hM e => by
            have := congrArg List.length e
            rw [intsV_length, folds_length, ← hM] at this
            simp at this
            omega
          obtain ⟨b1, o1, rfl, _, _, hcl1⟩ := Hr1.out (hne L Hn.out)
          obtain ⟨b3, o3, rfl, _, _, hcl3⟩ := Hr3.out (hne L.reverse Hnr.out)
          obtain ⟨i', hi'⟩ : ∃ i', i' = n - 1 - i := ⟨_, rfl⟩
          obtain ⟨k', hk'⟩ : ∃ k', k' = n - 1 - k := ⟨_, rfl⟩
          have d1 := hcl1 i (by rw [intsV_length, folds_length]; exact hiL)
          have d2 := hcl1 k (by rw [intsV_length, folds_length]; exact hkL)
          have d3 := hcl3 i' (by rw [intsV_length, folds_length, ← Hnr.out]; omega)
          have d4 := hcl3 k' (by rw [intsV_length, folds_length, ← Hnr.out]; omega)
          rw [intsV_get, folds_get] at d1 d2 d3 d4
          have hiff := turned_iff hiL hkL
          rw [← Hn.out, ← hi', ← hk'] at hiff
          have hbe := beq_of_iff hiff
          obtain ⟨f1, hf1⟩ : ∃ f, f = firstOf L i := ⟨_, rfl⟩
          obtain ⟨f2, hf2⟩ : ∃ f, f = firstOf L k := ⟨_, rfl⟩
          obtain ⟨f3, hf3⟩ : ∃ f, f = firstOf L.reverse i' := ⟨_, rfl⟩
          obtain ⟨f4, hf4⟩ : ∃ f, f = firstOf L.reverse k' := ⟨_, rfl⟩
          rw [← hf1] at d1 hbe
          rw [← hf2] at d2 hbe
          rw [← hf3] at d3 hbe
          rw [← hf4] at d4 hbe
          obtain ⟨n1, hn1⟩ : ∃ n1, n = n1 + 1 := ⟨n - 1, by omega⟩
          have g1 : (n : Int) - 1 = (n1 : Int) := by omega
          have g2 := wrap_small n1 (by omega)
          have g3 : (n1 : Int) - (i : Int) = (i' : Int) := by omega
          have g4 := wrap_small i' (by omega)
          have g5 : (n1 : Int) - (k : Int) = (k' : Int) := by omega
          have g6 := wrap_small k' (by omega)
          have p1 : (i : Int) < (n : Int) := by omega
          have p2 : (k : Int) < (n : Int) := by omega
          have p3 : (i' : Int) < (n : Int) := by omega
          have p4 : (k' : Int) < (n : Int) := by omega
          have p5 : (0 : Int) ≤ (i : Int) := by omega
          have p6 : (0 : Int) ≤ (k : Int) := by omega
          have p7 : (0 : Int) ≤ (i' : Int) := by omega
          have p8 : (0 : Int) ≤ (k' : Int) := by omega
          clear hcl1 hcl3 hiff hf1 hf2 hf3 hf4 hne hi' hk' hn1 hkL
          cases hbb : ((f1 : Int) == (f2 : Int)) with
          | true =>
            rw [hbb] at hbe
            go_wp2
            go_quiet (fail)
            go_wp2
            go_roundw
            case rel => exact ⟨k + 1, _, by omega, by go_num, by first | rfl | (simp only [World.drewN_drewN]; rfl)⟩
            case measure => simp [intOf]; omega
          | false =>
            rw [hbb] at hbe
            go_wp2
            go_quiet (fail)
            go_wp2
            go_roundw
            case rel => exact ⟨k + 1, _, by omega, by go_num, by first | rfl | (simp only [World.drewN_drewN]; rfl)⟩
            case measure => simp [intOf]; omega
        · have hkz : ¬ (k : Int) < (n : Int) := by omega
          go_wp2_with fail
          go_roundw
          case rel => exact ⟨i + 1, m2, by omega, by go_num, rfl⟩
          case measure => simp [intOf]; omega
    · go_wp2_with fail
      go_ret
      exact ⟨rfl, below_drewN' hB3 m⟩
end Go.Proofs.YtkglbkgbgajbkaaDoor
