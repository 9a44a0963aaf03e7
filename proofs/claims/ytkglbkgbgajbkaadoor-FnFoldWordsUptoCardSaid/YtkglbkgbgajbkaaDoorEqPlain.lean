/- Plain law: texts that are equal under simple folding, piece by piece: an equivalence. Conditions: none. -/
import Derived.Test.YtkglbkgbgajbkaaDoorSFold2
import Derived.Test.YtkglbkgbgajbkaaDoorTokPlain
import Derived.Lib.TrimAscii
namespace Go.Proofs.YtkglbkgbgajbkaaDoor
open Go Go.Lib

noncomputable def foldP : List Pc → List Pc → Bool
  | [], [] => true
  | p :: P, q :: Q => foldB p.1 q.1 && foldP P Q
  | [], _ :: _ => false
  | _ :: _, [] => false
theorem foldP_refl : ∀ P : List Pc, foldP P P = true
  | [] => rfl
  | p :: P => by simp [foldP, foldB_refl, foldP_refl P]
theorem foldP_symm : ∀ P Q : List Pc, foldP P Q = foldP Q P
  | [], [] => rfl
  | p :: P, q :: Q => by simp [foldP, foldB_symm p.1 q.1, foldP_symm P Q]
  | [], _ :: _ => rfl
  | _ :: _, [] => rfl
theorem foldP_trans : ∀ P Q R : List Pc, foldP P Q = true → foldP Q R = true → foldP P R = true
  | [], [], R, _, h => h
  | p :: P, q :: Q, [], _, h => by simp [foldP] at h
  | p :: P, q :: Q, r :: R, h1, h2 => by
    simp only [foldP, Bool.and_eq_true] at h1 h2 ⊢
    exact ⟨foldB_trans h1.1 h2.1, foldP_trans P Q R h1.2 h2.2⟩
  | [], _ :: _, _, h, _ => by simp [foldP] at h
  | _ :: _, [], _, h, _ => by simp [foldP] at h
theorem foldP_len : ∀ P Q : List Pc, foldP P Q = true → P.length = Q.length
  | [], [], _ => rfl
  | p :: P, q :: Q, h => by
    simp only [foldP, Bool.and_eq_true] at h
    simp [foldP_len P Q h.2]
  | [], _ :: _, h => by simp [foldP] at h
  | _ :: _, [], h => by simp [foldP] at h
/-- two texts that are equal under simple folding -/
noncomputable def eqF (s t : List UInt8) : Bool := foldP (pcs s) (pcs t)
theorem eqF_refl (s : List UInt8) : eqF s s = true := foldP_refl _
theorem eqF_symm (s t : List UInt8) : eqF s t = eqF t s := foldP_symm _ _
theorem eqF_trans {s t u : List UInt8} (h1 : eqF s t = true) (h2 : eqF t u = true) : eqF s u = true := foldP_trans _ _ _ h1 h2
theorem pcs_low {x : UInt8} (hx : x.toNat < 128) (r : List UInt8) : pcs (x :: r) = (x.toNat, [x]) :: pcs r := by
  rw [pcs_cons (by simp), decodeL_ascii x r hx]
  rfl
theorem eqF_low {x y : UInt8} (hx : x.toNat < 128) (hy : y.toNat < 128) (r t : List UInt8) : eqF (x :: r) (y :: t) = (foldB x.toNat y.toNat && eqF r t) := by
  unfold eqF
  rw [pcs_low hx, pcs_low hy]
  rfl
theorem pcs_nil_iff {l : List UInt8} : pcs l = [] ↔ l = [] := by
  constructor
  · intro h
    have := flat_pcs l
    rw [h] at this
    exact this.symm
  · rintro rfl; rfl
theorem foldP_nil_left (Q : List Pc) : foldP [] Q = decide (Q = []) := by cases Q <;> simp [foldP]
theorem foldP_nil_right (P : List Pc) : foldP P [] = decide (P = []) := by cases P <;> simp [foldP]
/-- where one has come to its end -/
theorem eqF_end (s t : List UInt8) (h : s = [] ∨ t = []) : eqF s t = decide (s.length = t.length) := by
  unfold eqF
  rcases h with rfl | rfl
  · rw [pcs_nil, foldP_nil_left]
    rw [decide_eq_decide, pcs_nil_iff]
    exact ⟨fun h => by rw [h], fun h => List.eq_nil_of_length_eq_zero h.symm⟩
  · rw [pcs_nil, foldP_nil_right]
    rw [decide_eq_decide, pcs_nil_iff]
    exact ⟨fun h => by rw [h], fun h => List.eq_nil_of_length_eq_zero h⟩
/-- two code points, the smaller one first -/
theorem foldB_order (x y : Nat) : foldB x y = if y < x then foldB y x else foldB x y := by
  split
  · exact foldB_symm x y
  · rfl
end Go.Proofs.YtkglbkgbgajbkaaDoor
