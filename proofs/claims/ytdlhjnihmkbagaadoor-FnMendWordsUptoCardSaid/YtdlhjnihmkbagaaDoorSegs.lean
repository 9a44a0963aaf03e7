/- Plain law: the parts of a text between pieces that a test takes. Conditions: none. -/
import Derived.Test.YtdlhjnihmkbagaaDoorPcs3
namespace Go.Proofs.YtdlhjnihmkbagaaDoor
open Go Go.Lib

def sg (p : Nat → Bool) : List Pc → List Pc → List (List Pc)
  | [], cur => if cur = [] then [] else [cur]
  | q :: Q, cur => if p q.1 then (if cur = [] then [] else [cur]) ++ sg p Q [] else sg p Q (cur ++ [q])
/-- the runs of pieces that the test does not take -/
def segs (p : Nat → Bool) (P : List Pc) : List (List Pc) := sg p P []
/-- as the reference goes: what is there, and whether the last one is open -/
def fstep (p : Nat → Bool) (st : List (List UInt8) × Bool) (q : Pc) : List (List UInt8) × Bool :=
  if p q.1 then (st.1, false) else if st.2 then (st.1.dropLast ++ [st.1.getLast?.getD [] ++ q.2], true) else (st.1 ++ [q.2], true)
def fwalk (p : Nat → Bool) (P : List Pc) : List (List UInt8) × Bool := P.foldl (fstep p) ([], false)
theorem fwalk_snoc (p : Nat → Bool) (P : List Pc) (q : Pc) : fwalk p (P ++ [q]) = fstep p (fwalk p P) q := by simp [fwalk]

theorem fold_sg (p : Nat → Bool) : ∀ (Q : List Pc) (out : List (List UInt8)) (cur : List Pc),
    (cur ≠ [] → (Q.foldl (fstep p) (out ++ [flat cur], true)).1 = out ++ (sg p Q cur).map flat) ∧ (cur = [] → (Q.foldl (fstep p) (out, false)).1 = out ++ (sg p Q []).map flat)
  | [], out, cur => ⟨fun h => by simp [sg, h], fun _ => by simp [sg]⟩
  | q :: Q, out, cur => by
    constructor
    · intro h
      rw [List.foldl_cons]
      unfold sg
      by_cases hp : p q.1 = true
      · have := (fold_sg p Q (out ++ [flat cur]) []).2 rfl
        simp only [fstep, hp, if_true, h, if_false]
        rw [this]; simp
      · have := (fold_sg p Q out (cur ++ [q])).1 (by simp)
        simp only [fstep, hp, if_true, Bool.false_eq_true, if_false]
        rw [flat_append, flat_cons, flat_nil, List.append_nil] at this
        simpa using this
    · intro h
      rw [List.foldl_cons]
      unfold sg
      by_cases hp : p q.1 = true
      · have := (fold_sg p Q out []).2 rfl
        simp only [fstep, hp, if_true]
        rw [this]; simp
      · have := (fold_sg p Q out [q]).1 (by simp)
        simp only [fstep, hp, Bool.false_eq_true, if_false]
        rw [flat_cons, flat_nil, List.append_nil] at this
        simpa using this
theorem fwalk_segs (p : Nat → Bool) (P : List Pc) : (fwalk p P).1 = (segs p P).map flat := by
  have := (fold_sg p P [] []).2 rfl
  simpa [fwalk, segs] using this

/-- sizes on the way -/
theorem fstep_sum (p : Nat → Bool) (st : List (List UInt8) × Bool) (q : Pc) (h : st.2 = true → st.1 ≠ []) : ((fstep p st q).1.map List.length).sum ≤ (st.1.map List.length).sum + q.2.length ∧ ((fstep p st q).2 = true → (fstep p st q).1 ≠ []) ∧ (fstep p st q).1.length ≤ st.1.length + 1 := by
  unfold fstep
  by_cases hp : p q.1 = true
  · simp [hp]
  · simp only [hp, if_false, Bool.false_eq_true]
    by_cases ho : st.2 = true
    · have hne := h ho
      simp only [ho, if_true]
      obtain ⟨A, x, hA⟩ : ∃ A x, st.1 = A ++ [x] := ⟨_, _, (List.dropLast_concat_getLast hne).symm⟩
      rw [hA]
      simp; omega
    · simp [ho]
theorem snoc_ind {α : Type} {motive : List α → Prop} (h0 : motive []) (h1 : ∀ l x, motive l → motive (l ++ [x])) : ∀ l, motive l := by
  intro l
  have : ∀ n (l : List α), l.length = n → motive l := by
    intro n
    induction n with
    | zero => intro l hl; rw [List.eq_nil_of_length_eq_zero hl]; exact h0
    | succ n ih =>
      intro l hl
      have hne : l ≠ [] := by intro e; rw [e] at hl; simp at hl
      rw [← List.dropLast_concat_getLast hne]
      exact h1 _ _ (ih _ (by rw [List.length_dropLast]; omega))
  exact this l.length l rfl
theorem fwalk_sum (p : Nat → Bool) (P : List Pc) : ((fwalk p P).1.map List.length).sum ≤ (flat P).length ∧ ((fwalk p P).2 = true → (fwalk p P).1 ≠ []) ∧ (fwalk p P).1.length ≤ P.length := by
  induction P using snoc_ind with
  | h0 => simp [fwalk, flat_nil]
  | h1 P q ih =>
    have h := fstep_sum p (fwalk p P) q ih.2.1
    rw [fwalk_snoc, flat_append, flat_cons, flat_nil, List.append_nil, List.length_append, List.length_append]
    simp only [List.length_cons, List.length_nil]
    exact ⟨by omega, h.2.1, by omega⟩
theorem mem_len_sum {l : List (List UInt8)} {x : List UInt8} (h : x ∈ l) : x.length ≤ (l.map List.length).sum := by
  induction l with
  | nil => cases h
  | cons y l ih =>
    simp only [List.map_cons, List.sum_cons]
    rcases List.mem_cons.1 h with rfl | h
    · omega
    · have := ih h; omega
end Go.Proofs.YtdlhjnihmkbagaaDoor
