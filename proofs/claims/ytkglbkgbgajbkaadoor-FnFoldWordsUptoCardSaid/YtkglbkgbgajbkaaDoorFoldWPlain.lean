/- Plain law: texts that are equal under folding have as many words, and these are equal one by one. Conditions: none. -/
import Derived.Test.YtkglbkgbgajbkaaDoorWordsPlain
import Derived.Test.YtkglbkgbgajbkaaDoorFoldPlain
namespace Go.Proofs.YtkglbkgbgajbkaaDoor
open Go Go.Lib
set_option linter.unusedVariables false

def spaces : List Nat := [9, 10, 11, 12, 13, 32, 133, 160, 5760, 8192, 8193, 8194, 8195, 8196, 8197, 8198, 8199, 8200, 8201, 8202, 8232, 8233, 8239, 8287, 12288]
theorem spaces_iff (r : Nat) : isSpaceR r = true ↔ r ∈ spaces := by
  simp only [isSpaceR, spaces, Bool.or_eq_true, Bool.and_eq_true, decide_eq_true_eq, beq_iff_eq, List.mem_cons, List.not_mem_nil, or_false]
  omega
theorem spaces_check : (spaces.all fun r => Nat.beq (sfold r) r) = true := by decide +kernel
theorem space_alone {r : Nat} (h : isSpaceR r = true) : sfold r = r := Nat.eq_of_beq_eq_true (List.all_eq_true.1 spaces_check r ((spaces_iff r).1 h))
theorem space_fold {x y : Nat} (h : foldB x y = true) : isSpaceR x = isSpaceR y := by
  rw [Bool.eq_iff_iff]
  constructor
  · intro hx
    rw [(foldB_alone (space_alone hx)).1 h]; exact hx
  · intro hy
    rw [foldB_symm] at h
    rw [(foldB_alone (space_alone hy)).1 h]; exact hy
/-- lists of pieces that are equal one by one -/
def eqSegs : List (List Pc) → List (List Pc) → Prop
  | [], [] => True
  | T :: L, T' :: L' => foldP T T' = true ∧ eqSegs L L'
  | [], _ :: _ => False
  | _ :: _, [] => False
theorem foldP_snoc {p q : Pc} : ∀ {P Q : List Pc}, foldP P Q = true → foldB p.1 q.1 = true → foldP (P ++ [p]) (Q ++ [q]) = true
  | [], [], _, h => by simp [foldP, h]
  | x :: X, y :: Y, h, h' => by
    simp only [foldP, Bool.and_eq_true] at h
    simp only [List.cons_append, foldP, Bool.and_eq_true]
    exact ⟨h.1, foldP_snoc h.2 h'⟩
  | [], _ :: _, h, _ => by simp [foldP] at h
  | _ :: _, [], h, _ => by simp [foldP] at h
theorem eqSegs_app : ∀ {A A' B B' : List (List Pc)}, eqSegs A A' → eqSegs B B' → eqSegs (A ++ B) (A' ++ B')
  | [], [], _, _, _, h => h
  | _ :: _, _ :: _, _, _, h, h' => ⟨h.1, eqSegs_app h.2 h'⟩
  | [], _ :: _, _, _, h, _ => h.elim
  | _ :: _, [], _, _, h, _ => h.elim
theorem foldP_nil_iff {P Q : List Pc} (h : foldP P Q = true) : P = [] ↔ Q = [] := by
  have := foldP_len P Q h
  constructor
  · rintro rfl; exact List.eq_nil_of_length_eq_zero this.symm
  · rintro rfl; exact List.eq_nil_of_length_eq_zero this
theorem eqSegs_sg : ∀ (P Q C D : List Pc), foldP P Q = true → foldP C D = true → eqSegs (sg isSpaceR P C) (sg isSpaceR Q D)
  | [], [], C, D, _, h => by
    simp only [sg]
    by_cases hc : C = []
    · rw [if_pos hc, if_pos ((foldP_nil_iff h).1 hc)]; trivial
    · rw [if_neg hc, if_neg fun e => hc ((foldP_nil_iff h).2 e)]; exact ⟨h, trivial⟩
  | p :: P, q :: Q, C, D, hP, h => by
    simp only [foldP, Bool.and_eq_true] at hP
    have hs := space_fold hP.1
    simp only [sg, hs]
    by_cases hq : isSpaceR q.1 = true
    · simp only [hq, if_true]
      refine eqSegs_app ?_ (eqSegs_sg P Q [] [] hP.2 rfl)
      by_cases hc : C = []
      · rw [if_pos hc, if_pos ((foldP_nil_iff h).1 hc)]; trivial
      · rw [if_neg hc, if_neg fun e => hc ((foldP_nil_iff h).2 e)]; exact ⟨h, trivial⟩
    · simp only [hq, Bool.false_eq_true, if_false]
      exact eqSegs_sg P Q _ _ hP.2 (foldP_snoc h hP.1)
  | [], _ :: _, _, _, h, _ => by simp [foldP] at h
  | _ :: _, [], _, _, h, _ => by simp [foldP] at h
theorem eqSegs_len : ∀ {A B : List (List Pc)}, eqSegs A B → A.length = B.length
  | [], [], _ => rfl
  | _ :: _, _ :: _, h => by simp [eqSegs_len h.2]
  | [], _ :: _, h => h.elim
  | _ :: _, [], h => h.elim
theorem eqSegs_get : ∀ {A B : List (List Pc)} (h : eqSegs A B) (j : Nat) (ha : j < A.length) (hb : j < B.length), foldP A[j] B[j] = true
  | _ :: _, _ :: _, h, 0, _, _ => h.1
  | _ :: _, _ :: _, h, j + 1, ha, hb => by
    simp only [List.getElem_cons_succ]
    exact eqSegs_get h.2 j (by simpa using ha) (by simpa using hb)
  | [], _, _, _, ha, _ => by simp at ha
  | _ :: _, [], h, _, _, _ => h.elim
theorem words_fold {a b : List UInt8} (h : eqF a b = true) : (wordsOf a).length = (wordsOf b).length ∧ ∀ j (ha : j < (wordsOf a).length) (hb : j < (wordsOf b).length), eqF (wordsOf a)[j] (wordsOf b)[j] = true := by
  have hs := eqSegs_sg (pcs a) (pcs b) [] [] h rfl
  refine ⟨?_, fun j ha hb => ?_⟩
  · unfold wordsOf segs
    rw [List.length_map, List.length_map, eqSegs_len hs]
  · unfold wordsOf segs at ha hb ⊢
    rw [List.length_map] at ha hb
    simp only [List.getElem_map]
    unfold eqF
    have n1 : Norm (sg isSpaceR (pcs a) [])[j] := norm_seg (norm_pcs a) (List.getElem_mem ha)
    have n2 : Norm (sg isSpaceR (pcs b) [])[j] := norm_seg (norm_pcs b) (List.getElem_mem hb)
    unfold Norm at n1 n2
    rw [n1, n2]
    exact eqSegs_get hs j ha hb
end Go.Proofs.YtkglbkgbgajbkaaDoor
