/- Plain law: what was unwrapped, wrapped as often, is the text; a text wrapped more often is unwrapped more often. Conditions: none. -/
import Derived.Test.YtjpaboomgicjaaaUnwPlain
namespace Go.Proofs.Ytjpaboomgicjaaa
open Go

def rep (l : List UInt8) (n : Nat) : List UInt8 := (List.replicate n l).flatten
theorem rep_zero (l : List UInt8) : rep l 0 = [] := rfl
theorem rep_succ (l : List UInt8) (n : Nat) : rep l (n + 1) = l ++ rep l n := by simp [rep, List.replicate_succ]
theorem rep_succ' (l : List UInt8) (n : Nat) : rep l (n + 1) = rep l n ++ l := by simp [rep, List.replicate_succ']
theorem rep_length (l : List UInt8) (n : Nat) : (rep l n).length = n * l.length := by
  induction n with
  | zero => simp [rep_zero]
  | succ n ih => rw [rep_succ, List.length_append, ih, Nat.add_mul]; omega

theorem ustep_iff {o c s r : List UInt8} : ustep o c s = some r ↔ 0 < o.length + c.length ∧ s = o ++ r ++ c := by
  constructor
  · intro h
    refine ⟨(ustep_len h).2, ?_⟩
    unfold ustep at h
    split at h
    · rename_i hc
      obtain ⟨h0, h1, h2, h3⟩ := hc
      injection h with h
      unfold Lib.hasPrefix at h2
      unfold Lib.hasSuffix at h3
      have e2 := List.prefix_iff_eq_take.1 (List.isPrefixOf_iff_prefix.1 h2)
      have e3 := List.suffix_iff_eq_drop.1 (List.isSuffixOf_iff_suffix.1 h3)
      conv => lhs; rw [← List.take_append_drop o.length s, ← List.take_append_drop (s.length - o.length - c.length) (s.drop o.length)]
      rw [h, ← e2, List.append_assoc, List.drop_drop]
      congr 2
      conv => rhs; rw [e3]
      congr 1
      omega
    · cases h
  · rintro ⟨h0, rfl⟩
    unfold ustep
    rw [if_pos]
    · congr 1
      rw [List.append_assoc, List.drop_left]
      rw [show (o ++ (r ++ c)).length - o.length - c.length = r.length by simp, List.take_left]
    · refine ⟨h0, by simp only [List.length_append]; omega, ?_, ?_⟩
      · unfold Lib.hasPrefix
        rw [List.isPrefixOf_iff_prefix, List.append_assoc]
        exact List.prefix_append _ _
      · unfold Lib.hasSuffix
        rw [List.isSuffixOf_iff_suffix]
        exact List.suffix_append _ _

theorem iter_restores {o c : List UInt8} : ∀ {n : Nat} {s r : List UInt8}, iter (ustep o c) n s = some r → rep o n ++ r ++ rep c n = s
  | 0, s, r, h => by simp [iter] at h; subst h; simp [rep_zero]
  | n + 1, s, r, h => by
    rw [iter_succ] at h
    obtain ⟨q, hq, hr⟩ := Option.bind_eq_some_iff.1 h
    have h1 := iter_restores hr
    have h2 := (ustep_iff.1 hq).2
    rw [rep_succ, rep_succ', h2, ← h1]
    simp [List.append_assoc]

theorem iter_wrapped {o c : List UInt8} (h0 : 0 < o.length + c.length) : ∀ (k : Nat) (s : List UInt8), iter (ustep o c) k (rep o k ++ s ++ rep c k) = some s
  | 0, s => by simp [iter, rep_zero]
  | k + 1, s => by
    rw [iter_succ, ustep_iff.2 ⟨h0, (show rep o (k + 1) ++ s ++ rep c (k + 1) = o ++ (rep o k ++ s ++ rep c k) ++ c by rw [rep_succ, rep_succ']; simp [List.append_assoc])⟩, Option.bind_some]
    exact iter_wrapped h0 k s

theorem iter_more {o c s r : List UInt8} {n : Nat} (h0 : 0 < o.length + c.length) (k : Nat) (h : iter (ustep o c) n s = some r) : iter (ustep o c) (n + k) (rep o k ++ s ++ rep c k) = some r := by
  rw [Nat.add_comm, iter_add, iter_wrapped h0, Option.bind_some, h]
end Go.Proofs.Ytjpaboomgicjaaa
