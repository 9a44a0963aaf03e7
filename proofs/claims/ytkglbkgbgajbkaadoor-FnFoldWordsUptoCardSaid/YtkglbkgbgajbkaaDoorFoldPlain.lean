/- Plain law: the first text of a list that is equal to each one under simple folding. Conditions: none. -/
import Derived.Test.YtkglbkgbgajbkaaDoorEqPlain
namespace Go.Proofs.YtkglbkgbgajbkaaDoor
open Go Go.Lib

/-- k is the first one that is equal to i -/
def IsFirst (L : List (List UInt8)) (i k : Nat) : Prop := k ≤ i ∧ (∀ m, m < k → eqF (L.getD m []) (L.getD i []) = false) ∧ eqF (L.getD k []) (L.getD i []) = true
noncomputable def firstOf (L : List (List UInt8)) (i : Nat) : Nat := ((List.range i).find? fun k => eqF (L.getD k []) (L.getD i [])).getD i
theorem firstOf_is (L : List (List UInt8)) (i : Nat) : IsFirst L i (firstOf L i) := by
  unfold firstOf
  cases h : (List.range i).find? fun k => eqF (L.getD k []) (L.getD i []) with
  | none =>
    rw [List.find?_eq_none] at h
    refine ⟨Nat.le_refl _, fun m hm => ?_, eqF_refl _⟩
    have := h m (List.mem_range.2 hm)
    simpa using this
  | some k =>
    rw [List.find?_range_eq_some] at h
    obtain ⟨h1, h2, h3⟩ := h
    refine ⟨by have := List.mem_range.1 h2; show k ≤ i; omega, fun m hm => ?_, h1⟩
    have := h3 m hm
    simpa using this
theorem IsFirst.unique {L : List (List UInt8)} {i k k' : Nat} (h : IsFirst L i k) (h' : IsFirst L i k') : k = k' := by
  rcases Nat.lt_trichotomy k k' with hlt | he | hlt
  · have := h'.2.1 k hlt; rw [h.2.2] at this; cases this
  · exact he
  · have := h.2.1 k' hlt; rw [h'.2.2] at this; cases this
theorem firstOf_eq {L : List (List UInt8)} {i k : Nat} (h : IsFirst L i k) : firstOf L i = k := (firstOf_is L i).unique h
noncomputable def folds (L : List (List UInt8)) : List Nat := (List.range L.length).map (firstOf L)
theorem folds_length (L : List (List UInt8)) : (folds L).length = L.length := by simp [folds]
theorem folds_get {L : List (List UInt8)} {i : Nat} (h : i < (folds L).length) : (folds L)[i] = firstOf L i := by simp [folds]
theorem folds_next {L : List (List UInt8)} {j k : Nat} (hj : j < L.length) (h : IsFirst L j k) : (folds L).take (j + 1) = (folds L).take j ++ [k] := by
  have hj' : j < (folds L).length := by rw [folds_length]; exact hj
  rw [List.take_succ_eq_append_getElem hj', folds_get, firstOf_eq h]
theorem isFirst_iff {L : List (List UInt8)} {j k : Nat} (_ : j < L.length) : IsFirst L j k ↔ (k ≤ j ∧ (∀ m, m < k → eqF (L.getD m []) (L.getD j []) = false) ∧ eqF (L.getD k []) (L.getD j []) = true) := Iff.rfl
end Go.Proofs.YtkglbkgbgajbkaaDoor
