/- Plain law: what the library trims and splits at white space, told by pieces. Conditions: none. -/
import Derived.Test.YtdlhjnihmkbagaaDoorShavePlain
namespace Go.Proofs.YtdlhjnihmkbagaaDoor
open Go Go.Lib

theorem trimLeftD_pcs : ∀ (f : Nat) (l : List UInt8), l.length ≤ f → trimLeftD f l = flat (trimL isSpaceR (pcs l))
  | 0, l, h => by
    have : l = [] := List.eq_nil_of_length_eq_zero (by omega)
    subst this; rfl
  | f + 1, l, h => by
    by_cases hl : l = []
    · subst hl; rw [trimLeftD_nil]; rfl
    · unfold trimLeftD
      rw [if_neg hl, pcs_cons hl]
      unfold trimL
      rw [List.dropWhile_cons]
      simp only
      by_cases hs : isSpaceR (decodeL l).1 = true
      · rw [if_pos hs, if_pos hs, trimLeftD_pcs f _ (by have := drop_lt hl; omega)]
        rfl
      · rw [if_neg hs, if_neg hs, ← pcs_cons hl, flat_pcs]
theorem trimRightD_pcs : ∀ (f : Nat) (Q : List Pc), Norm Q → (flat Q).length ≤ f → trimRightD f (flat Q) = flat (trimR isSpaceR Q)
  | 0, Q, hN, h => by
    have hQ : Q = [] := by
      by_cases hQ : Q = []
      · exact hQ
      · have hpos : ∀ q ∈ Q, q.2 ≠ [] := fun q hq => by
          unfold Norm at hN
          rw [← hN] at hq
          exact pcs_pos q hq
        have := flat_nil_iff hpos hQ
        omega
    subst hQ; rfl
  | f + 1, Q, hN, h => by
    rcases Nat.eq_zero_or_pos Q.length with h0 | h0
    · rw [List.eq_nil_of_length_eq_zero h0]
      show trimRightD (f + 1) [] = []
      rw [trimRightD_nil]
    · have hne : Q ≠ [] := List.length_pos_iff.1 h0
      obtain ⟨Q0, q, rfl⟩ : ∃ Q0 q, Q = Q0 ++ [q] := ⟨_, _, (List.dropLast_concat_getLast hne).symm⟩
      have hl := pc_len hN.right
      have hlen : (flat (Q0 ++ [q])).length = (flat Q0).length + q.2.length := by rw [flat_append, flat_cons, flat_nil, List.append_nil, List.length_append]
      have hne2 : flat (Q0 ++ [q]) ≠ [] := fun e => by
        rw [e] at hlen
        simp at hlen; omega
      unfold trimRightD
      rw [if_neg hne2, decodeLast_pc hN, trimR_snoc]
      simp only
      by_cases hs : isSpaceR q.1 = true
      · rw [if_pos hs, if_pos hs]
        have e : (flat (Q0 ++ [q])).take ((flat (Q0 ++ [q])).length - q.2.length) = flat Q0 := by
          rw [hlen, Nat.add_sub_cancel, flat_append, List.take_left]
        rw [e]
        exact trimRightD_pcs f Q0 hN.left (by omega)
      · rw [if_neg hs, if_neg hs]
theorem trimRightD_more : ∀ (l : List UInt8) (f : Nat), l.length ≤ f → trimRightD f l = trimRightD l.length l := fun l f h => trimRightD_fuel f l.length l h (Nat.le_refl _)
/-- white space off at both ends -/
theorem trimSpace_pcs (l : List UInt8) : trimSpaceD l = flat (trimB isSpaceR (pcs l)) := by
  unfold trimSpaceD trimB
  rw [trimLeftD_pcs _ _ (Nat.le_refl _), trimRightD_pcs _ _ ((norm_pcs l).trimL isSpaceR)]
  obtain ⟨Q, hQ⟩ := trimL_suffix isSpaceR (pcs l)
  have := congrArg List.length (congrArg flat hQ)
  rw [flat_append, flat_pcs, List.length_append] at this
  omega
theorem fieldsGo_pcs : ∀ (f : Nat) (C : List Pc) (l : List UInt8), l.length < f → (∀ q ∈ C, q.2 ≠ []) → fieldsGoD f (flat C) l = (sg isSpaceR (pcs l) C).map flat
  | 0, _, _, h, _ => by omega
  | f + 1, C, l, h, hC => by
    have hnil : flat C = [] ↔ C = [] := ⟨fun e => by
      by_cases hc : C = []
      · exact hc
      · have := flat_nil_iff hC hc
        rw [e] at this; simp at this, fun e => by rw [e]; rfl⟩
    by_cases hl : l = []
    · subst hl
      unfold fieldsGoD
      rw [if_pos rfl, pcs_nil]
      unfold sg
      by_cases hc : C = []
      · rw [if_pos (hnil.2 hc), if_pos hc]; rfl
      · rw [if_neg (fun e => hc (hnil.1 e)), if_neg hc]; rfl
    · have hd := drop_lt hl
      have hpp : (l.take (decodeL l).2) ≠ [] := fun e => by
        have h1 := width_ge l
        have := congrArg List.length e
        rw [List.length_take, List.length_nil] at this
        have := List.length_pos_iff.2 hl
        omega
      unfold fieldsGoD
      rw [if_neg hl, pcs_cons hl]
      unfold sg
      simp only
      by_cases hs : isSpaceR (decodeL l).1 = true
      · rw [if_pos hs, if_pos hs, List.map_append]
        have ih := fieldsGo_pcs f [] (l.drop (decodeL l).2) (by omega) (by simp)
        rw [flat_nil] at ih
        rw [ih]
        by_cases hc : C = []
        · rw [if_pos (hnil.2 hc), if_pos hc]; rfl
        · rw [if_neg (fun e => hc (hnil.1 e)), if_neg hc]; rfl
      · rw [if_neg hs, if_neg hs]
        have ih := fieldsGo_pcs f (C ++ [((decodeL l).1, l.take (decodeL l).2)]) (l.drop (decodeL l).2) (by omega) (fun q hq => by
          rcases List.mem_append.1 hq with h' | h'
          · exact hC q h'
          · rw [List.mem_singleton] at h'; subst h'; exact hpp)
        rw [flat_append, flat_cons, flat_nil, List.append_nil] at ih
        exact ih
/-- the words of a text -/
theorem fields_pcs (l : List UInt8) : fieldsD l = (segs isSpaceR (pcs l)).map flat := by
  have := fieldsGo_pcs (l.length + 1) [] l (by omega) (by simp)
  rw [flat_nil] at this
  exact this
end Go.Proofs.YtdlhjnihmkbagaaDoor
