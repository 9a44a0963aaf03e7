/- Plain law: the trims of the library by a test of code points, told by pieces. Conditions: none. -/
import Derived.Test.YtdlhjnihmkbagaaDoorPcs2
namespace Go.Proofs.YtdlhjnihmkbagaaDoor
open Go Go.Lib

def trimL (p : Nat → Bool) (P : List Pc) : List Pc := P.dropWhile fun q => p q.1
def trimR (p : Nat → Bool) (P : List Pc) : List Pc := (P.reverse.dropWhile fun q => p q.1).reverse

theorem trimL_suffix (p : Nat → Bool) (P : List Pc) : ∃ Q, P = Q ++ trimL p P := ⟨P.takeWhile fun q => p q.1, (List.takeWhile_append_dropWhile ..).symm⟩
theorem Norm.trimL {P : List Pc} (h : Norm P) (p : Nat → Bool) : Norm (trimL p P) := by
  obtain ⟨Q, hQ⟩ := trimL_suffix p P
  rw [hQ] at h
  exact h.right
theorem trimR_prefix (p : Nat → Bool) (P : List Pc) : ∃ Q, P = trimR p P ++ Q := by
  refine ⟨(P.reverse.takeWhile fun q => p q.1).reverse, ?_⟩
  unfold trimR
  rw [← List.reverse_append, List.takeWhile_append_dropWhile, List.reverse_reverse]
theorem Norm.trimR {P : List Pc} (h : Norm P) (p : Nat → Bool) : Norm (trimR p P) := by
  obtain ⟨Q, hQ⟩ := trimR_prefix p P
  rw [hQ] at h
  exact h.left
theorem trimR_snoc (p : Nat → Bool) (P : List Pc) (q : Pc) : trimR p (P ++ [q]) = if p q.1 then trimR p P else P ++ [q] := by
  unfold trimR
  rw [List.reverse_append, List.reverse_singleton, List.singleton_append, List.dropWhile_cons]
  split
  · rfl
  · rw [List.reverse_cons, List.reverse_reverse]

theorem idx_from (p : Nat → Bool) (s : ByteArray) : ∀ (f pos : Nat), pos ≤ s.size → s.size ≤ pos + f →
    (idxFuncFrom p false s f pos = -1 ∧ trimL p (pcs (s.data.toList.drop pos)) = []) ∨ ∃ k : Nat, idxFuncFrom p false s f pos = k ∧ s.data.toList.drop k = flat (trimL p (pcs (s.data.toList.drop pos)))
  | 0, pos, h1, h2 => by
    left
    have : s.data.toList.drop pos = [] := List.drop_eq_nil_of_le (by rw [← size_eq]; omega)
    rw [this]; exact ⟨rfl, rfl⟩
  | f + 1, pos, h1, h2 => by
    by_cases hlt : pos < s.size
    · have hne : s.data.toList.drop pos ≠ [] := by
        intro e
        have := congrArg List.length e
        rw [List.length_drop, ← size_eq] at this
        simp at this; omega
      have hd := decodeL_drop s pos
      have hw := width_le _ hne
      have hge := width_ge (s.data.toList.drop pos)
      rw [List.length_drop, ← size_eq] at hw
      rw [hd] at hw hge
      unfold idxFuncFrom
      rw [if_pos hlt]
      rw [pcs_cons hne, hd]
      unfold trimL
      rw [List.dropWhile_cons]
      simp only
      by_cases hp : p (Utf8.decode s pos).1 = false
      · right
        refine ⟨pos, by rw [if_pos hp], ?_⟩
        rw [hp]
        simp only [Bool.false_eq_true, if_false]
        rw [← hd, ← pcs_cons hne, flat_pcs]
      · have hp' : p (Utf8.decode s pos).1 = true := by simpa using hp
        rw [if_neg hp, hp']
        simp only [if_true]
        have := idx_from p s f (pos + (Utf8.decode s pos).2) (by omega) (by omega)
        rw [← List.drop_drop] at this
        exact this
    · left
      have : s.data.toList.drop pos = [] := List.drop_eq_nil_of_le (by rw [← size_eq]; omega)
      rw [this]
      exact ⟨idxFuncFrom_end p false s (f + 1) pos hlt, rfl⟩

theorem trimLeft_pcs (p : Nat → Bool) (s : ByteArray) : (trimLeftF p s).data.toList = flat (trimL p (pcsB s)) := by
  have h := idx_from p s s.size 0 (Nat.zero_le _) (by omega)
  rw [List.drop_zero] at h
  unfold trimLeftF
  change (idxFunc p false s = -1 ∧ _) ∨ ∃ k : Nat, idxFunc p false s = k ∧ _ at h
  rcases h with ⟨h1, h2⟩ | ⟨k, h1, h2⟩
  · rw [if_pos h1]
    unfold pcsB
    rw [h2]; rfl
  · rw [if_neg (by rw [h1]; omega), h1, Int.toNat_natCast, extract_data, List.take_of_length_le (by rw [List.length_drop, ← size_eq]; exact Nat.le_refl _), h2]
    rfl

theorem last_from (p : Nat → Bool) (s : ByteArray) : ∀ (Q : List Pc), Norm Q → ∀ (f i : Nat), i ≤ f → i ≤ s.size → s.data.toList.take i = flat Q →
    (lastIdxFuncFrom p false s f i = -1 ∧ trimR p Q = []) ∨ ∃ (Q0 Q1 : List Pc) (q : Pc), lastIdxFuncFrom p false s f i = ((flat Q0).length : Int) ∧ Q = Q0 ++ q :: Q1 ∧ trimR p Q = Q0 ++ [q] := by
  intro Q
  induction hn : Q.length generalizing Q with
  | zero =>
    intro _ f i hf hi he
    obtain rfl : Q = [] := List.eq_nil_of_length_eq_zero hn
    have : i = 0 := by
      have := congrArg List.length he
      rw [List.length_take, ← size_eq, flat_nil, List.length_nil] at this
      omega
    subst this
    exact .inl ⟨lastIdxFuncFrom_zero p false s f, rfl⟩
  | succ n ih =>
    intro hN f i hf hi he
    obtain ⟨Q0, q, rfl⟩ : ∃ Q0 q, Q = Q0 ++ [q] := ⟨Q.dropLast, Q.getLast (by intro e; rw [e] at hn; simp at hn), (List.dropLast_concat_getLast _).symm⟩
    have hl := pc_len hN.right
    have hlen : i = (flat Q0).length + q.2.length := by
      have := congrArg List.length he
      rw [List.length_take, ← size_eq, flat_append, flat_cons, flat_nil, List.append_nil, List.length_append] at this
      omega
    have hdec := decodeLast_pc hN
    rw [← he] at hdec
    obtain ⟨g, rfl⟩ : ∃ g, f = g + 1 := ⟨f - 1, by omega⟩
    unfold lastIdxFuncFrom
    rw [if_pos (by omega), hdec]
    simp only
    rw [trimR_snoc]
    have hi0 : i - q.2.length = (flat Q0).length := by omega
    by_cases hp : p q.1 = false
    · right
      refine ⟨Q0, [], q, by rw [if_pos hp, hi0], rfl, by rw [hp]; rfl⟩
    · have hp' : p q.1 = true := by simpa using hp
      rw [if_neg hp, hp', hi0]
      simp only [if_true]
      have he0 : s.data.toList.take (flat Q0).length = flat Q0 := by
        have e1 : (s.data.toList.take i).take (flat Q0).length = flat Q0 := by rw [he, flat_append, List.take_left]
        rwa [List.take_take, Nat.min_eq_left (by omega)] at e1
      rcases ih Q0 (by simpa using hn) hN.left g (flat Q0).length (by omega) (by omega) he0 with h | ⟨A, B, q', h1, h2, h3⟩
      · exact .inl h
      · exact .inr ⟨A, B ++ [q], q', h1, by rw [h2]; simp, h3⟩

theorem trimRight_pcs (p : Nat → Bool) (s : ByteArray) : (trimRightF p s).data.toList = flat (trimR p (pcsB s)) := by
  have hN : Norm (pcsB s) := norm_pcs _
  have hfl : flat (pcsB s) = s.data.toList := flat_pcs _
  have h := last_from p s (pcsB s) hN s.size s.size (Nat.le_refl _) (Nat.le_refl _) (by rw [hfl, List.take_of_length_le (by rw [← size_eq]; exact Nat.le_refl _)])
  unfold trimRightF rightEndF
  change (lastIdxFunc p false s = -1 ∧ _) ∨ ∃ (Q0 Q1 : List Pc) (q : Pc), lastIdxFunc p false s = _ ∧ _ at h
  rcases h with ⟨h1, h2⟩ | ⟨Q0, Q1, q, h1, h2, h3⟩
  · rw [h1, h2, if_neg (by omega), extract_data]; simp [flat_nil]
  · rw [h1, if_pos (by omega), Int.toNat_natCast]
    have hq : Norm (q :: Q1) := by rw [h2] at hN; exact hN.right
    have hdrop : s.data.toList.drop (flat Q0).length = flat (q :: Q1) := by rw [← hfl, h2, flat_append, List.drop_left]
    have hl := pc_len hq
    have hgo : decodeGoB (s.extract (flat Q0).length s.size) = (q.1, q.2.length) := by
      unfold decodeGoB
      have hdata : (s.extract (flat Q0).length s.size).data.toList = flat (q :: Q1) := by
        rw [extract_data, hdrop, List.take_of_length_le]
        rw [← hdrop, List.length_drop, ← size_eq]; exact Nat.le_refl _
      rw [if_neg]
      · rw [← decode_pc hq, ← hdata]
        unfold decodeL
        rw [mk_data]
      · rw [size_eq, hdata, flat_cons, List.length_append]; omega
    rw [hgo, h3, extract_data, List.drop_zero, Nat.sub_zero]
    simp only
    rw [← hfl, h2, flat_append, flat_append, flat_cons, flat_cons, flat_nil, List.append_nil, ← List.append_assoc]
    rw [List.take_append_of_le_length (by rw [List.length_append]; exact Nat.le_refl _), List.take_of_length_le (by rw [List.length_append]; exact Nat.le_refl _)]
theorem trimBoth_pcs (p : Nat → Bool) (s : ByteArray) : (trimF p s).data.toList = flat (trimR p (trimL p (pcsB s))) := by
  unfold trimF
  rw [trimRight_pcs]
  congr 2
  unfold pcsB
  rw [trimLeft_pcs]
  exact Norm.trimL (norm_pcs _) p
end Go.Proofs.YtdlhjnihmkbagaaDoor
