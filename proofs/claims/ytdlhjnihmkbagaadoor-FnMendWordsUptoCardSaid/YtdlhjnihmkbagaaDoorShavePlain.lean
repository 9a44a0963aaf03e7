/- Plain law: trimming steps, told by pieces: cut anywhere, either end first, several sets again and again. Conditions: none. -/
import Derived.Test.YtdlhjnihmkbagaaDoorTokBackPlain
namespace Go.Proofs.YtdlhjnihmkbagaaDoor
open Go Go.Lib

def trimB (p : Nat → Bool) (P : List Pc) : List Pc := trimR p (trimL p P)
theorem trimL_append_stop (p : Nat → Bool) (A : List Pc) (q : Pc) (B : List Pc) (hA : ∀ x ∈ A, p x.1 = true) (hq : p q.1 = false) : trimL p (A ++ q :: B) = q :: B := by
  induction A with
  | nil => simp [trimL, hq]
  | cons x A ih =>
    have hx := hA x (by simp)
    have := ih fun y hy => hA y (by simp [hy])
    simpa [trimL, hx] using this
theorem trimL_all (p : Nat → Bool) (A : List Pc) (hA : ∀ x ∈ A, p x.1 = true) : trimL p A = [] := dropWhile_all fun x hx => hA x hx
theorem trimR_append_stop (p : Nat → Bool) (A : List Pc) (q : Pc) (B : List Pc) (hB : ∀ x ∈ B, p x.1 = true) (hq : p q.1 = false) : trimR p (A ++ q :: B) = A ++ [q] := by
  induction B using snoc_ind with
  | h0 => rw [trimR_snoc, hq]; rfl
  | h1 B x ih =>
    have hx := hB x (by simp)
    rw [show A ++ q :: (B ++ [x]) = (A ++ q :: B) ++ [x] by simp, trimR_snoc, if_pos hx]
    exact ih fun y hy => hB y (by simp [hy])
theorem trimR_all (p : Nat → Bool) (A : List Pc) (hA : ∀ x ∈ A, p x.1 = true) : trimR p A = [] := by
  induction A using snoc_ind with
  | h0 => rfl
  | h1 A x ih => rw [trimR_snoc, if_pos (hA x (by simp)), ih fun y hy => hA y (by simp [hy])]
/-- the first piece that stays -/
theorem split_first (p : Nat → Bool) (P : List Pc) : (∀ x ∈ P, p x.1 = true) ∨ ∃ A q B, P = A ++ q :: B ∧ (∀ x ∈ A, p x.1 = true) ∧ p q.1 = false := by
  induction P with
  | nil => exact .inl (by simp)
  | cons x P ih =>
    by_cases hx : p x.1 = true
    · rcases ih with h | ⟨A, q, B, rfl, h1, h2⟩
      · exact .inl fun y hy => by
          rcases List.mem_cons.1 hy with rfl | hy
          · exact hx
          · exact h y hy
      · refine .inr ⟨x :: A, q, B, rfl, fun y hy => ?_, h2⟩
        rcases List.mem_cons.1 hy with rfl | hy
        · exact hx
        · exact h1 y hy
    · exact .inr ⟨[], x, P, rfl, by simp, by simpa using hx⟩
/-- the last piece that stays -/
theorem split_last (p : Nat → Bool) (P : List Pc) : (∀ x ∈ P, p x.1 = true) ∨ ∃ A q B, P = A ++ q :: B ∧ (∀ x ∈ B, p x.1 = true) ∧ p q.1 = false := by
  induction P using snoc_ind with
  | h0 => exact .inl (by simp)
  | h1 P x ih =>
    by_cases hx : p x.1 = true
    · rcases ih with h | ⟨A, q, B, rfl, h1, h2⟩
      · exact .inl fun y hy => by
          rcases List.mem_append.1 hy with hy | hy
          · exact h y hy
          · rw [List.mem_singleton] at hy; subst hy; exact hx
      · refine .inr ⟨A, q, B ++ [x], by simp, fun y hy => ?_, h2⟩
        rcases List.mem_append.1 hy with hy | hy
        · exact h1 y hy
        · rw [List.mem_singleton] at hy; subst hy; exact hx
    · exact .inr ⟨P, x, [], rfl, by simp, by simpa using hx⟩
/-- either end first -/
theorem trim_sides (p q : Nat → Bool) (P : List Pc) : trimR q (trimL p P) = trimL p (trimR q P) := by
  rcases split_first p P with hp | ⟨A, a, B, rfl, hA, ha⟩
  · rw [trimL_all p P hp]
    obtain ⟨C, hC⟩ := trimR_prefix q P
    rw [trimL_all p (trimR q P) (fun x hx => hp x (by rw [hC]; simp [hx]))]
    rfl
  · rw [trimL_append_stop p A a B hA ha]
    rcases split_last q (a :: B) with hq | ⟨C, c, D, he, hD, hc⟩
    · rw [trimR_all q _ hq]
      have : trimR q (A ++ a :: B) = trimR q A := by
        rcases split_last q A with h | ⟨E, e, F, rfl, hF, hE⟩
        · rw [trimR_all q A h, trimR_all q _ (fun x hx => by
            rcases List.mem_append.1 hx with hx | hx
            · exact h x hx
            · exact hq x hx)]
        · rw [trimR_append_stop q E e F hF hE, show (E ++ e :: F) ++ a :: B = E ++ e :: (F ++ a :: B) by simp, trimR_append_stop q E e _ (fun x hx => by
            rcases List.mem_append.1 hx with hx | hx
            · exact hF x hx
            · exact hq x hx) hE]
      rw [this]
      obtain ⟨C, hC⟩ := trimR_prefix q A
      rw [trimL_all p _ (fun x hx => hA x (by rw [hC]; simp [hx]))]
    · rw [he, trimR_append_stop q C c D hD hc, show A ++ (C ++ c :: D) = (A ++ C) ++ c :: D by simp, trimR_append_stop q _ c D hD hc]
      cases C with
      | nil =>
        simp only [List.nil_append, List.cons.injEq] at he
        obtain ⟨rfl, _⟩ := he
        rw [List.append_nil, show A ++ [a] = A ++ a :: [] from rfl, trimL_append_stop p A a [] hA ha]
        rfl
      | cons c0 C =>
        simp only [List.cons_append, List.cons.injEq] at he
        obtain ⟨rfl, _⟩ := he
        rw [show (A ++ a :: C) ++ [c] = A ++ a :: (C ++ [c]) by simp, trimL_append_stop p A a _ hA ha]
        rfl
theorem Norm.trimB {P : List Pc} (h : Norm P) (p : Nat → Bool) : Norm (trimB p P) := (h.trimL p).trimR p
theorem trimB_infix (p : Nat → Bool) (P : List Pc) : ∃ A B, P = A ++ (trimB p P ++ B) := by
  obtain ⟨A, hA⟩ := trimL_suffix p P
  obtain ⟨B, hB⟩ := trimR_prefix p (trimL p P)
  exact ⟨A, B, by unfold trimB; rw [← hB]; exact hA⟩
theorem segs_trimB (p : Nat → Bool) (P : List Pc) : segs p (trimB p P) = segs p P := by unfold trimB; rw [segs_trimR, segs_trimL]

/-! ### Several sets -/
theorem trimL_weaker {p u : Nat → Bool} (h : ∀ x, p x = true → u x = true) (P : List Pc) : trimL u (trimL p P) = trimL u P := by
  rcases split_first u P with hu | ⟨A, a, B, rfl, hA, ha⟩
  · rw [trimL_all u P hu]
    obtain ⟨C, hC⟩ := trimL_suffix p P
    exact trimL_all u _ fun x hx => hu x (by rw [hC]; simp [hx])
  · have hap : p a.1 = false := by
      cases e : p a.1 with
      | false => rfl
      | true => rw [h _ e] at ha; cases ha
    rw [trimL_append_stop u A a B hA ha]
    rcases split_first p A with hp | ⟨C, c, D, rfl, hC, hc⟩
    · rw [trimL_append_stop p A a B hp hap]; simp [trimL, ha]
    · rw [show (C ++ c :: D) ++ a :: B = C ++ c :: (D ++ a :: B) by simp, trimL_append_stop p C c _ hC hc, show c :: (D ++ a :: B) = (c :: D) ++ a :: B by simp, trimL_append_stop u (c :: D) a B (fun x hx => hA x (by simp only [List.mem_append]; exact .inr hx)) ha]
theorem trimR_weaker {p u : Nat → Bool} (h : ∀ x, p x = true → u x = true) (P : List Pc) : trimR u (trimR p P) = trimR u P := by
  rcases split_last u P with hu | ⟨A, a, B, rfl, hB, ha⟩
  · rw [trimR_all u P hu]
    obtain ⟨C, hC⟩ := trimR_prefix p P
    exact trimR_all u _ fun x hx => hu x (by rw [hC]; simp [hx])
  · have hap : p a.1 = false := by
      cases e : p a.1 with
      | false => rfl
      | true => rw [h _ e] at ha; cases ha
    rw [trimR_append_stop u A a B hB ha]
    rcases split_last p B with hp | ⟨C, c, D, rfl, hD, hc⟩
    · rw [trimR_append_stop p A a B hp hap, trimR_snoc, ha]; rfl
    · rw [show A ++ a :: (C ++ c :: D) = (A ++ a :: C) ++ c :: D by simp, trimR_append_stop p _ c D hD hc, show (A ++ a :: C) ++ [c] = A ++ a :: (C ++ [c]) by simp, trimR_append_stop u A a _ (fun x hx => hB x (by
        rcases List.mem_append.1 hx with hx | hx
        · simp [hx]
        · rw [List.mem_singleton] at hx; subst hx; simp)) ha]
theorem trimB_weaker {p u : Nat → Bool} (h : ∀ x, p x = true → u x = true) (P : List Pc) : trimB u (trimB p P) = trimB u P := by
  unfold trimB
  rw [← trim_sides u p, trimR_weaker h, trimL_weaker h]
/-- one round through all sets -/
def roundB (ps : List (Nat → Bool)) (P : List Pc) : List Pc := ps.foldl (fun P p => trimB p P) P
theorem trimB_len (p : Nat → Bool) (P : List Pc) : (trimB p P).length ≤ P.length ∧ ((trimB p P).length = P.length → trimB p P = P) := by
  obtain ⟨A, B, h⟩ := trimB_infix p P
  have hl := congrArg List.length h
  simp only [List.length_append] at hl
  refine ⟨by omega, fun e => ?_⟩
  have hA : A = [] := List.eq_nil_of_length_eq_zero (by omega)
  have hB : B = [] := List.eq_nil_of_length_eq_zero (by omega)
  rw [hA, hB] at h
  simpa using h.symm
theorem roundB_len (ps : List (Nat → Bool)) : ∀ P : List Pc, (roundB ps P).length ≤ P.length ∧ ((roundB ps P).length = P.length → roundB ps P = P ∧ ∀ p ∈ ps, trimB p P = P) := by
  induction ps with
  | nil => exact fun P => ⟨Nat.le_refl _, fun _ => ⟨rfl, by simp⟩⟩
  | cons p ps ih =>
    intro P
    have h1 := trimB_len p P
    have h2 := ih (trimB p P)
    have e : roundB (p :: ps) P = roundB ps (trimB p P) := rfl
    rw [e]
    refine ⟨by omega, fun he => ?_⟩
    have e1 := h1.2 (by omega)
    have e2 := h2.2 (by omega)
    rw [e1] at e2
    refine ⟨by rw [e1]; exact e2.1, fun x hx => ?_⟩
    rcases List.mem_cons.1 hx with rfl | hx
    · exact e1
    · exact e2.2 x hx
def roundsB (ps : List (Nat → Bool)) : Nat → List Pc → List Pc
  | 0, P => P
  | n + 1, P => roundsB ps n (roundB ps P)
theorem roundsB_snoc (ps : List (Nat → Bool)) : ∀ (n : Nat) (P : List Pc), roundsB ps (n + 1) P = roundB ps (roundsB ps n P)
  | 0, _ => rfl
  | n + 1, P => roundsB_snoc ps n (roundB ps P)
theorem roundB_union (ps : List (Nat → Bool)) (u : Nat → Bool) (h : ∀ p ∈ ps, ∀ x, p x = true → u x = true) : ∀ P : List Pc, trimB u (roundB ps P) = trimB u P := by
  induction ps with
  | nil => exact fun P => rfl
  | cons p ps ih =>
    intro P
    have e : roundB (p :: ps) P = roundB ps (trimB p P) := rfl
    rw [e, ih (fun p hp => h p (by simp [hp])), trimB_weaker (h p (by simp))]
theorem roundsB_union (ps : List (Nat → Bool)) (u : Nat → Bool) (h : ∀ p ∈ ps, ∀ x, p x = true → u x = true) : ∀ (n : Nat) (P : List Pc), trimB u (roundsB ps n P) = trimB u P
  | 0, _ => rfl
  | n + 1, P => by
    show trimB u (roundsB ps n (roundB ps P)) = _
    rw [roundsB_union ps u h n, roundB_union ps u h]
theorem trimB_ends {p : Nat → Bool} {P : List Pc} (h : trimB p P = P) : (∀ q B, P = q :: B → p q.1 = false) ∧ (∀ A q, P = A ++ [q] → p q.1 = false) := by
  refine ⟨fun q B e => ?_, fun A q e => ?_⟩
  · cases hq : p q.1 with
    | false => rfl
    | true =>
      exfalso
      have h1 : (trimB p P).length ≤ (trimL p P).length := by
        obtain ⟨C, hC⟩ := trimR_prefix p (trimL p P)
        have := congrArg List.length hC
        unfold trimB
        rw [List.length_append] at this
        omega
      have h2 : (trimL p P).length ≤ B.length := by rw [e]; simp only [trimL, List.dropWhile_cons, hq, if_true]; exact (List.dropWhile_sublist _).length_le
      rw [h, e, List.length_cons] at h1
      rw [e] at h2
      omega
  · cases hq : p q.1 with
    | false => rfl
    | true =>
      exfalso
      have h1 : (trimB p P).length ≤ (trimR p P).length := by
        unfold trimB
        rw [trim_sides]
        exact trimL_len p _
      have h2 : (trimR p P).length ≤ A.length := by
        rw [e, trimR_snoc, if_pos hq]
        obtain ⟨C, hC⟩ := trimR_prefix p A
        have := congrArg List.length hC
        rw [List.length_append] at this
        omega
      rw [h, e, List.length_append, List.length_singleton] at h1
      rw [e] at h2
      omega
theorem trimB_of_ends {u : Nat → Bool} {P : List Pc} (h1 : ∀ q B, P = q :: B → u q.1 = false) (h2 : ∀ A q, P = A ++ [q] → u q.1 = false) : trimB u P = P := by
  unfold trimB
  have e : trimL u P = P := by
    cases P with
    | nil => rfl
    | cons q B => simp [trimL, h1 q B rfl]
  rw [e]
  rcases Nat.eq_zero_or_pos P.length with h0 | h0
  · rw [List.eq_nil_of_length_eq_zero h0]; rfl
  · have hne : P ≠ [] := List.length_pos_iff.1 h0
    have e2 := (List.dropLast_concat_getLast hne).symm
    rw [e2, trimR_snoc, if_neg]
    rw [h2 _ _ e2]; simp
/-- again and again, as often as there are pieces: trimmed of all sets together -/
theorem rounds_all (ps : List (Nat → Bool)) (u : Nat → Bool) (hu : ∀ x, u x = ps.any fun p => p x) (P : List Pc) (n : Nat) (hn : P.length ≤ n) : roundsB ps n P = trimB u P := by
  have hw : ∀ p ∈ ps, ∀ x, p x = true → u x = true := fun p hp x hx => by rw [hu]; exact List.any_eq_true.2 ⟨p, hp, hx⟩
  have fix : ∀ n (P : List Pc), P.length ≤ n → roundB ps (roundsB ps n P) = roundsB ps n P ∧ ∀ p ∈ ps, trimB p (roundsB ps n P) = roundsB ps n P := by
    intro n
    induction n with
    | zero =>
      intro P hP
      have : P = [] := List.eq_nil_of_length_eq_zero (by omega)
      subst this
      have h := roundB_len ps []
      exact h.2 (by have := h.1; simp at this ⊢; rw [this])
    | succ n ih =>
      intro P hP
      have h := roundB_len ps P
      by_cases he : (roundB ps P).length = P.length
      · have h3 := h.2 he
        have hall : ∀ m, roundsB ps m P = P := by
          intro m
          induction m with
          | zero => rfl
          | succ m ih2 =>
            show roundsB ps m (roundB ps P) = P
            rw [h3.1, ih2]
        rw [hall]
        exact h3
      · exact ih (roundB ps P) (by have := h.1; omega)
  have hf := (fix n P hn).2
  rw [← roundsB_union ps u hw n P]
  symm
  refine trimB_of_ends (fun q B e => ?_) (fun A q e => ?_)
  · rw [hu]
    cases h : ps.any fun p => p q.1 with
    | false => rfl
    | true =>
      obtain ⟨p, hp, hx⟩ := List.any_eq_true.1 h
      have := (trimB_ends (hf p hp)).1 q B e
      rw [this] at hx; cases hx
  · rw [hu]
    cases h : ps.any fun p => p q.1 with
    | false => rfl
    | true =>
      obtain ⟨p, hp, hx⟩ := List.any_eq_true.1 h
      have := (trimB_ends (hf p hp)).2 A q e
      rw [this] at hx; cases hx
end Go.Proofs.YtdlhjnihmkbagaaDoor
