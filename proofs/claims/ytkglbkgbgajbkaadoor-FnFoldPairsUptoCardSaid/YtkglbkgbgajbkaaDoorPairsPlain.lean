/- Plain law: well-formed texts without a stroke, with a stroke between them, are equal under folding just if both are. Conditions: none. -/
import Derived.Test.YtkglbkgbgajbkaaDoorEqPlain
namespace Go.Proofs.YtkglbkgbgajbkaaDoor
open Go Go.Lib

/-- a text without bad bytes and without a stroke -/
def Plain (x : List UInt8) : Prop := ∀ q ∈ pcs x, ¬ badP q ∧ q.1 ≠ 124
theorem foldP_stroke : ∀ (P P' Q Q' : List Pc), (∀ q ∈ P, q.1 ≠ 124) → (∀ q ∈ P', q.1 ≠ 124) → foldP (P ++ (124, [124]) :: Q) (P' ++ (124, [124]) :: Q') = (foldP P P' && foldP Q Q')
  | [], [], Q, Q', _, _ => by simp [foldP, foldB_refl]
  | [], x :: X, Q, Q', _, h => by
    have hx : foldB 124 x.1 = false := by
      cases e : foldB 124 x.1 with
      | false => rfl
      | true => exact absurd ((foldB_alone stroke_alone).1 e) (h x (by simp))
    simp [foldP, hx]
  | x :: X, [], Q, Q', h, _ => by
    have hx : foldB x.1 124 = false := by
      rw [foldB_symm]
      cases e : foldB 124 x.1 with
      | false => rfl
      | true => exact absurd ((foldB_alone stroke_alone).1 e) (h x (by simp))
    simp [foldP, hx]
  | x :: X, y :: Y, Q, Q', h, h' => by
    simp only [List.cons_append, foldP]
    rw [foldP_stroke X Y Q Q' (fun q hq => h q (by simp [hq])) (fun q hq => h' q (by simp [hq])), Bool.and_assoc]
theorem pcs_pair {a : List UInt8} (ha : Plain a) (b : List UInt8) : pcs (a ++ [124] ++ b) = pcs a ++ (124, [124]) :: pcs b := by
  rw [List.append_assoc, pcs_append_good _ _ (fun q hq => (ha q hq).1), List.singleton_append, pcs_low (by decide)]
  rfl
theorem eqF_pair {a a' : List UInt8} (ha : Plain a) (ha' : Plain a') (b b' : List UInt8) : eqF (a ++ [124] ++ b) (a' ++ [124] ++ b') = (eqF a a' && eqF b b') := by
  unfold eqF
  rw [pcs_pair ha, pcs_pair ha', foldP_stroke _ _ _ _ (fun q hq => (ha q hq).2) (fun q hq => (ha' q hq).2)]
end Go.Proofs.YtkglbkgbgajbkaaDoor
