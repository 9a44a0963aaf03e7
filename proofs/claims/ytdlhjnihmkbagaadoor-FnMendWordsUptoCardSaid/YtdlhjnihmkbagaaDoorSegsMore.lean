/- Plain law: parts of a list that is cut at a taken piece, that is read from behind, of which all pieces stay. Conditions: none. -/
import Derived.Test.YtdlhjnihmkbagaaDoorTokBackPlain
namespace Go.Proofs.YtdlhjnihmkbagaaDoor
open Go Go.Lib

theorem sg_split (p : Nat → Bool) {q : Pc} (hq : p q.1 = true) (B : List Pc) : ∀ (A cur : List Pc), sg p (A ++ q :: B) cur = sg p A cur ++ segs p B
  | [], cur => by simp [sg, hq, segs]
  | x :: A, cur => by
    simp only [List.cons_append, sg]
    rw [sg_split p hq B A [], sg_split p hq B A (cur ++ [x])]
    split <;> simp
theorem segs_split (p : Nat → Bool) {q : Pc} (hq : p q.1 = true) (A B : List Pc) : segs p (A ++ q :: B) = segs p A ++ segs p B := sg_split p hq B A []
theorem segs_none (p : Nat → Bool) {P : List Pc} (h : ∀ q ∈ P, p q.1 = false) : segs p P = if P = [] then [] else [P] := by
  split
  · rename_i e; rw [e]; rfl
  · rename_i e; exact segs_only p P h e
theorem split_or (p : Nat → Bool) (P : List Pc) : (∀ q ∈ P, p q.1 = false) ∨ ∃ A q B, P = A ++ q :: B ∧ p q.1 = true := by
  by_cases h : ∃ q ∈ P, p q.1 = true
  · obtain ⟨q, hq, hp⟩ := h
    obtain ⟨A, B, e⟩ := List.append_of_mem hq
    exact .inr ⟨A, q, B, e, hp⟩
  · exact .inl fun q hq => by
      by_cases hp : p q.1 = true
      · exact absurd ⟨q, hq, hp⟩ h
      · simpa using hp
theorem segs_ind {motive : List Pc → Prop} (p : Nat → Bool) (h0 : ∀ P, (∀ q ∈ P, p q.1 = false) → motive P) (h1 : ∀ A q B, p q.1 = true → motive A → motive B → motive (A ++ q :: B)) : ∀ P, motive P := by
  intro P
  have : ∀ n (P : List Pc), P.length ≤ n → motive P := by
    intro n
    induction n with
    | zero => intro P hP; rw [List.eq_nil_of_length_eq_zero (l := P) (by omega)]; exact h0 [] (by simp)
    | succ n ih =>
      intro P hP
      rcases split_or p P with h | ⟨A, q, B, rfl, hq⟩
      · exact h0 P h
      · simp only [List.length_append, List.length_cons] at hP
        exact h1 A q B hq (ih A (by omega)) (ih B (by omega))
  exact this P.length P (Nat.le_refl _)
theorem segs_reverse (p : Nat → Bool) (P : List Pc) : segs p P.reverse = ((segs p P).map List.reverse).reverse := by
  induction P using segs_ind p with
  | h0 P h =>
    rw [segs_none p h, segs_none p (P := P.reverse) (fun q hq => h q (by simpa using hq))]
    by_cases e : P = []
    · subst e; rfl
    · rw [if_neg e, if_neg (by simpa using e)]; rfl
  | h1 A q B hq hA hB =>
    rw [List.reverse_append, List.reverse_cons, List.append_assoc, List.singleton_append, segs_split p hq, segs_split p hq, hA, hB, List.map_append, List.reverse_append]
end Go.Proofs.YtdlhjnihmkbagaaDoor
