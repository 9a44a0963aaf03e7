/- Plain law: trimming steps, one after the other. Conditions: none. -/
import Derived.Test.YthgigchablajbaaDoorSpacePlain
import Derived.Test.YthgigchablajbaaDoorPieces
namespace Go.Proofs.YthgigchablajbaaDoor
open Go Go.Lib

/-- a step: what to trim, and the set -/
abbrev St := Int × List UInt8
def stepP (x : St) (P : List Pc) : List Pc :=
  if x.1 % 4 = 0 then trimB (inSet (txt x.2)) P else if x.1 % 4 = 1 then trimL (inSet (txt x.2)) P else if x.1 % 4 = 2 then trimR (inSet (txt x.2)) P else trimB isSpaceR P
def shaveP (L : List St) (P : List Pc) : List Pc := L.foldl (fun P x => stepP x P) P
theorem shaveP_append (A B : List St) (P : List Pc) : shaveP (A ++ B) P = shaveP B (shaveP A P) := by simp [shaveP]
theorem shaveP_snoc (A : List St) (x : St) (P : List Pc) : shaveP (A ++ [x]) P = stepP x (shaveP A P) := by simp [shaveP]
theorem Norm.stepP {P : List Pc} (h : Norm P) (x : St) : Norm (stepP x P) := by
  unfold Go.Proofs.YthgigchablajbaaDoor.stepP
  split
  · exact h.trimB _
  · split
    · exact h.trimL _
    · split
      · exact h.trimR _
      · exact h.trimB _
theorem Norm.shaveP {P : List Pc} (h : Norm P) (L : List St) : Norm (shaveP L P) := by
  induction L using snoc_ind with
  | h0 => exact h
  | h1 L x ih => rw [shaveP_snoc]; exact ih.stepP x
theorem stepP_infix (x : St) (P : List Pc) : ∃ A B, P = A ++ (stepP x P ++ B) := by
  unfold stepP
  split
  · exact trimB_infix _ P
  · split
    · obtain ⟨A, h⟩ := trimL_suffix (inSet (txt x.2)) P
      exact ⟨A, [], by rw [List.append_nil]; exact h⟩
    · split
      · obtain ⟨B, h⟩ := trimR_prefix (inSet (txt x.2)) P
        exact ⟨[], B, h⟩
      · exact trimB_infix _ P
theorem shaveP_infix (L : List St) (P : List Pc) : ∃ A B, P = A ++ (shaveP L P ++ B) := by
  induction L using snoc_ind with
  | h0 => exact ⟨[], [], by simp [shaveP]⟩
  | h1 L x ih =>
    obtain ⟨A, B, h⟩ := ih
    obtain ⟨C, D, h2⟩ := stepP_infix x (shaveP L P)
    rw [shaveP_snoc]
    refine ⟨A ++ C, D ++ B, ?_⟩
    have h3 : A ++ (shaveP L P ++ B) = A ++ C ++ (stepP x (shaveP L P) ++ (D ++ B)) := by
      conv => lhs; rw [h2]
      simp
    exact h.trans h3
/-- what is left of a text -/
def shaved (L : List St) (x : List UInt8) : List UInt8 := flat (shaveP L (pcs x))
theorem shaved_pcs (L : List St) (x : List UInt8) : pcs (shaved L x) = shaveP L (pcs x) := (norm_pcs x).shaveP L
theorem shaved_append (A B : List St) (x : List UInt8) : shaved (A ++ B) x = shaved B (shaved A x) := by
  unfold shaved
  rw [shaveP_append]
  have := shaved_pcs A x
  unfold shaved at this
  rw [this]
theorem shaved_nil (x : List UInt8) : shaved [] x = x := flat_pcs x
theorem shaved_len (L : List St) (x : List UInt8) : (shaved L x).length ≤ x.length := by
  obtain ⟨A, B, h⟩ := shaveP_infix L (pcs x)
  have := congrArg List.length (congrArg flat h)
  rw [flat_pcs, flat_append, flat_append, List.length_append, List.length_append] at this
  unfold shaved
  omega
theorem shaved_stands (L : List St) (x : List UInt8) : ∃ a b, x = a ++ (shaved L x ++ b) := by
  obtain ⟨A, B, h⟩ := shaveP_infix L (pcs x)
  refine ⟨flat A, flat B, ?_⟩
  have := congrArg flat h
  rw [flat_pcs, flat_append, flat_append] at this
  exact this
theorem stepP_0 {x : St} (h : x.1 % 4 = 0) (P : List Pc) : stepP x P = trimB (inSet (txt x.2)) P := by unfold stepP; rw [if_pos h]
theorem stepP_1 {x : St} (h : x.1 % 4 = 1) (P : List Pc) : stepP x P = trimL (inSet (txt x.2)) P := by unfold stepP; rw [if_neg (by omega), if_pos h]
theorem stepP_2 {x : St} (h : x.1 % 4 = 2) (P : List Pc) : stepP x P = trimR (inSet (txt x.2)) P := by unfold stepP; rw [if_neg (by omega), if_neg (by omega), if_pos h]
theorem stepP_3 {x : St} (h : x.1 % 4 = 3) (P : List Pc) : stepP x P = trimB isSpaceR P := by unfold stepP; rw [if_neg (by omega), if_neg (by omega), if_neg (by omega)]
theorem shaved_sides (a b : List UInt8) (x : List UInt8) : shaved [(1, a), (2, b)] x = shaved [(2, b), (1, a)] x := by
  unfold shaved
  congr 1
  show stepP (2, b) (stepP (1, a) (pcs x)) = stepP (1, a) (stepP (2, b) (pcs x))
  rw [stepP_1 (x := (1, a)) rfl, stepP_1 (x := (1, a)) rfl, stepP_2 (x := (2, b)) rfl, stepP_2 (x := (2, b)) rfl]
  exact trim_sides _ _ _
/-- a step at a text -/
def step1 (x : St) (l : List UInt8) : List UInt8 := flat (stepP x (pcs l))
theorem shaved_cons (x : St) (L : List St) (l : List UInt8) : shaved (x :: L) l = shaved L (step1 x l) := by
  show flat (shaveP L (stepP x (pcs l))) = flat (shaveP L (pcs (flat (stepP x (pcs l)))))
  have h : pcs (flat (stepP x (pcs l))) = stepP x (pcs l) := (norm_pcs l).stepP x
  rw [h]
theorem shaved_one (x : St) (l : List UInt8) : shaved [x] l = step1 x l := rfl
theorem shaved_snoc (L : List St) (x : St) (l : List UInt8) : shaved (L ++ [x]) l = step1 x (shaved L l) := shaved_append L [x] l
end Go.Proofs.YthgigchablajbaaDoor
