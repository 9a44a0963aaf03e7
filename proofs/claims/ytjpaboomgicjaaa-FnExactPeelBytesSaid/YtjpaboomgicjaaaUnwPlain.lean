/- Plain law: a step of unwrapping, iterated till it ends, has one end. No program is in sight. Conditions: none. -/
import Derived.Lib.Strings
namespace Go.Proofs.Ytjpaboomgicjaaa
open Go

def iter {α : Type} (f : α → Option α) : Nat → α → Option α
  | 0, a => some a
  | n + 1, a => (iter f n a).bind f

theorem iter_succ {α : Type} (f : α → Option α) (n : Nat) (a : α) : iter f (n + 1) a = (f a).bind (iter f n) := by
  induction n with
  | zero => simp [iter]
  | succ n ih => rw [iter, ih, Option.bind_assoc]; rfl

theorem iter_add {α : Type} (f : α → Option α) (n m : Nat) (a : α) : iter f (n + m) a = (iter f n a).bind (iter f m) := by
  induction m with
  | zero => simp [iter]
  | succ m ih => rw [← Nat.add_assoc, iter, ih, Option.bind_assoc]; rfl

theorem iter_unique {α : Type} {f : α → Option α} {n m : Nat} {a r q : α} (h1 : iter f n a = some r) (e1 : f r = none) (h2 : iter f m a = some q) (e2 : f q = none) : n = m ∧ r = q := by
  rcases Nat.lt_trichotomy n m with h | h | h
  · exfalso
    obtain ⟨d, rfl⟩ : ∃ d, m = n + 1 + d := ⟨m - n - 1, by omega⟩
    rw [iter_add, iter, h1] at h2
    simp [e1] at h2
  · subst h; rw [h1] at h2; exact ⟨rfl, by injection h2⟩
  · exfalso
    obtain ⟨d, rfl⟩ : ∃ d, n = m + 1 + d := ⟨n - m - 1, by omega⟩
    rw [iter_add, iter, h2] at h1
    simp [e2] at h1

/-- one step: both texts are there, one behind the other, and come off -/
def ustep (o c s : List UInt8) : Option (List UInt8) :=
  if 0 < o.length + c.length ∧ o.length + c.length ≤ s.length ∧ Lib.hasPrefix s o = true ∧ Lib.hasSuffix s c = true then
    some ((s.drop o.length).take (s.length - o.length - c.length)) else none

theorem ustep_len {o c s r : List UInt8} (h : ustep o c s = some r) : r.length + (o.length + c.length) = s.length ∧ 0 < o.length + c.length := by
  unfold ustep at h
  split at h
  · rename_i hc
    injection h with h
    subst h
    simp only [List.length_take, List.length_drop]
    omega
  · cases h

theorem iter_ustep_len {o c s r : List UInt8} {n : Nat} (h : iter (ustep o c) n s = some r) : r.length + n * (o.length + c.length) = s.length ∧ (n = 0 ∨ 0 < o.length + c.length) := by
  induction n generalizing r with
  | zero => simp [iter] at h; subst h; simp
  | succ n ih =>
    rw [iter] at h
    obtain ⟨q, hq, hr⟩ := Option.bind_eq_some_iff.1 h
    have h1 := ih hq
    have h2 := ustep_len hr
    refine ⟨?_, .inr h2.2⟩
    rw [Nat.add_mul]; omega

theorem iter_le {o c s r : List UInt8} {n : Nat} (h : iter (ustep o c) n s = some r) : n + r.length ≤ s.length := by
  obtain ⟨h1, h2⟩ := iter_ustep_len h
  rcases h2 with rfl | h2
  · omega
  · have : n * 1 ≤ n * (o.length + c.length) := Nat.mul_le_mul_left n h2
    omega

theorem hasSuffix_drop {o c s : List UInt8} (ho : o.length ≤ s.length) : Lib.hasSuffix (s.drop o.length) c = true ↔ o.length + c.length ≤ s.length ∧ Lib.hasSuffix s c = true := by
  unfold Lib.hasSuffix
  simp only [List.isSuffixOf_iff_suffix]
  constructor
  · intro h
    have hl := h.length_le
    rw [List.length_drop] at hl
    exact ⟨by omega, h.trans (List.drop_suffix _ _)⟩
  · rintro ⟨hl, h⟩
    rw [List.suffix_iff_eq_drop] at h ⊢
    rw [List.length_drop, List.drop_drop]
    conv => lhs; rw [h]
    congr 1
    omega

theorem hasPrefix_le {s o : List UInt8} (h : Lib.hasPrefix s o = true) : o.length ≤ s.length := by
  unfold Lib.hasPrefix at h
  exact (List.isPrefixOf_iff_prefix.1 h).length_le
theorem hasSuffix_le {s o : List UInt8} (h : Lib.hasSuffix s o = true) : o.length ≤ s.length := by
  unfold Lib.hasSuffix at h
  exact (List.isSuffixOf_iff_suffix.1 h).length_le

/-- what the two cuts make of a text is a step -/
theorem ustep_some {o c s : List UInt8} (hne : 0 < o.length + c.length) (h1 : Lib.hasPrefix s o = true) (h2 : Lib.hasSuffix (Lib.trimPrefix s o) c = true) :
    ustep o c s = some (Lib.trimSuffix (Lib.trimPrefix s o) c) := by
  have e : Lib.trimPrefix s o = s.drop o.length := by unfold Lib.trimPrefix; rw [if_pos h1]
  have e2 : Lib.trimSuffix (Lib.trimPrefix s o) c = (Lib.trimPrefix s o).take ((Lib.trimPrefix s o).length - c.length) := by
    conv => lhs; unfold Lib.trimSuffix
    rw [if_pos h2]
  rw [e2]
  rw [e] at h2 ⊢
  obtain ⟨h3, h4⟩ := (hasSuffix_drop (hasPrefix_le h1)).1 h2
  unfold ustep
  rw [if_pos ⟨hne, h3, h1, h4⟩, List.length_drop]
theorem ustep_none1 {o c s : List UInt8} (h1 : Lib.hasPrefix s o = false) : ustep o c s = none := by
  unfold ustep; rw [if_neg]; rintro ⟨_, _, h, _⟩; rw [h1] at h; cases h
theorem ustep_none2 {o c s : List UInt8} (h1 : Lib.hasPrefix s o = true) (h2 : Lib.hasSuffix (Lib.trimPrefix s o) c = false) : ustep o c s = none := by
  unfold ustep; rw [if_neg]
  rintro ⟨_, h3, _, h4⟩
  have e : Lib.trimPrefix s o = s.drop o.length := by unfold Lib.trimPrefix; rw [if_pos h1]
  rw [e, (hasSuffix_drop (hasPrefix_le h1)).2 ⟨h3, h4⟩] at h2
  cases h2
theorem ustep_none0 {o c s : List UInt8} (h : o.length + c.length = 0) : ustep o c s = none := by
  unfold ustep; rw [if_neg]; omega
end Go.Proofs.Ytjpaboomgicjaaa
