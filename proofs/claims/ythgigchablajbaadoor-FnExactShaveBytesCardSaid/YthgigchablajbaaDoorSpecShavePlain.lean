/- Plain law: a trimming step as two counts of pieces, from the left and from the right. Conditions: none. -/
import Derived.Test.YthgigchablajbaaDoorShaveSteps
namespace Go.Proofs.YthgigchablajbaaDoor
open Go Go.Lib

/-- the test of a step -/
def stTest (x : St) : Nat → Bool := if x.1 % 4 = 3 then Lib.isSpaceR else inSet (txt x.2)
def finL (j : Int) (t : Nat → Bool) (P : List Pc) : List Pc := if j = 2 then P else trimL t P
def finR (j : Int) (t : Nat → Bool) (P : List Pc) : List Pc := if j = 1 then P else trimR t P
theorem step_eq (x : St) (j : Int) (hj : x.1 % 4 = j) (P : List Pc) : stepP x P = finR j (stTest x) (finL j (stTest x) P) := by
  have h4 : j = 0 ∨ j = 1 ∨ j = 2 ∨ j = 3 := by omega
  unfold stepP finL finR stTest trimB
  rw [hj]
  rcases h4 with rfl | rfl | rfl | rfl <;> simp
theorem finL_on {j : Int} {t : Nat → Bool} {P : List Pc} {F : Nat} (hF : F < P.length) (hj : ¬ j = 2) (h : t P[F].1 = true) : finL j t (P.drop (F + 1)) = finL j t (P.drop F) := by
  unfold finL
  rw [if_neg hj, if_neg hj, List.drop_eq_getElem_cons hF]
  unfold trimL
  rw [List.dropWhile_cons, if_pos h]
theorem finL_stop {j : Int} {t : Nat → Bool} {P : List Pc} {F : Nat} (hF : F < P.length) (h : t P[F].1 = false) : finL j t (P.drop F) = P.drop F := by
  unfold finL
  split
  · rfl
  · rw [List.drop_eq_getElem_cons hF]
    unfold trimL
    rw [List.dropWhile_cons, if_neg (by rw [h]; simp)]
theorem finL_end {j : Int} {t : Nat → Bool} {P : List Pc} {F : Nat} (hF : P.length ≤ F) : finL j t (P.drop F) = P.drop F := by
  rw [List.drop_eq_nil_of_le hF]; unfold finL; split <;> rfl
theorem cut_snoc {P : List Pc} {F T : Nat} (hFT : F ≤ T) (hT : T < P.length) : (P.take (T + 1)).drop F = (P.take T).drop F ++ [P[T]] := by
  rw [List.take_succ_eq_append_getElem hT, List.drop_append_of_le_length (by rw [List.length_take]; omega)]
theorem finR_on {j : Int} {t : Nat → Bool} {P : List Pc} {F T : Nat} (hFT : F ≤ T) (hT : T < P.length) (hj : ¬ j = 1) (h : t P[T].1 = true) : finR j t ((P.take T).drop F) = finR j t ((P.take (T + 1)).drop F) := by
  unfold finR
  rw [if_neg hj, if_neg hj, cut_snoc hFT hT, trimR_snoc, if_pos h]
theorem finR_stop {j : Int} {t : Nat → Bool} {P : List Pc} {F T : Nat} (hFT : F ≤ T) (hT : T < P.length) (h : t P[T].1 = false) : finR j t ((P.take (T + 1)).drop F) = (P.take (T + 1)).drop F := by
  unfold finR
  split
  · rfl
  · rw [cut_snoc hFT hT, trimR_snoc, if_neg (by rw [h]; simp)]
theorem finR_end {j : Int} {t : Nat → Bool} {P : List Pc} {F : Nat} : finR j t ((P.take F).drop F) = (P.take F).drop F := by
  have : (P.take F).drop F = [] := List.drop_eq_nil_of_le (by rw [List.length_take]; omega)
  rw [this]; unfold finR; split <;> rfl
theorem flat_cut_len (P : List Pc) (F T k : Nat) : (flat (((P.take T).drop F).take k)).length ≤ (flat P).length := by
  have h1 : ∀ (X : List Pc) (m : Nat), (flat (X.take m)).length ≤ (flat X).length := fun X m => by
    conv => rhs; rw [← List.take_append_drop m X, flat_append, List.length_append]
    omega
  have h2 : ∀ (X : List Pc) (m : Nat), (flat (X.drop m)).length ≤ (flat X).length := fun X m => by
    conv => rhs; rw [← List.take_append_drop m X, flat_append, List.length_append]
    omega
  have a := h1 ((P.take T).drop F) k
  have b := h2 (P.take T) F
  have c := h1 P T
  omega
end Go.Proofs.YthgigchablajbaaDoor
