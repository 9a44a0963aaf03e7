/- Plain law: the state of the Fields family on its way through a text: where the open part began, and where it stands. Conditions: none. -/
import Derived.Test.YtdlhjnihmkbagaaDoorSegsMore
import Derived.Test.YtdlhjnihmkbagaaDoorPieces
import Derived.Shelf.Unicode.DecodeSlow
namespace Go.Proofs.YtdlhjnihmkbagaaDoor
open Go Go.Lib

/-- what has come; where the open part began, or -1; where it stands -/
def FIs (p : Nat → Bool) (s : ByteArray) (pre : List (List UInt8)) (st : Int) (i : Nat) : Prop :=
  ∃ D C P : List Pc, pcsB s = D ++ (C ++ P) ∧ i = (flat D).length + (flat C).length ∧ ((st = -1 ∧ C = []) ∨ (C ≠ [] ∧ st = ((flat D).length : Int))) ∧ pre ++ (sg p P C).map flat = (segs p (pcsB s)).map flat

theorem FIs.start (p : Nat → Bool) (s : ByteArray) : FIs p s [] (-1) 0 := ⟨[], [], pcsB s, rfl, rfl, .inl ⟨rfl, rfl⟩, rfl⟩
theorem size_flat (s : ByteArray) : s.size = (flat (pcsB s)).length := by
  rw [size_eq]; unfold pcsB; rw [flat_pcs]
theorem FIs.le {p : Nat → Bool} {s : ByteArray} {pre : List (List UInt8)} {st : Int} {i : Nat} (h : FIs p s pre st i) : i ≤ s.size ∧ (st = -1 ∨ ∃ k : Nat, st = k ∧ k < i) := by
  obtain ⟨D, C, P, h1, rfl, h3, _⟩ := h
  have h0 := size_flat s
  rw [h1, flat_append, flat_append, List.length_append, List.length_append] at h0
  refine ⟨by omega, ?_⟩
  rcases h3 with ⟨h3, _⟩ | ⟨hC, h3⟩
  · exact .inl h3
  · refine .inr ⟨_, h3, ?_⟩
    have : 0 < (flat C).length := flat_nil_iff (fun q hq => pcs_pos q (show q ∈ pcs s.data.toList by rw [show pcs s.data.toList = D ++ (C ++ P) from h1]; simp [hq])) hC
    omega
theorem extract_mid {s : ByteArray} {D C P : List Pc} (h : pcsB s = D ++ (C ++ P)) : s.extract (flat D).length ((flat D).length + (flat C).length) = txt (flat C) := by
  have hl : s.data.toList = flat D ++ (flat C ++ flat P) := by
    have := flat_pcs s.data.toList
    unfold pcsB at h
    rw [h, flat_append, flat_append] at this
    exact this.symm
  rw [← mk_data (s.extract _ _), extract_data, hl, List.drop_left]
  unfold txt
  congr 2
  rw [Nat.add_sub_cancel_left, List.take_left]
theorem decode_at {s : ByteArray} {A : List Pc} {q : Pc} {P : List Pc} (h : pcsB s = A ++ q :: P) : decodeGo (s.extract (flat A).length s.size) = (q.1, q.2.length) := by
  have hN : Norm (A ++ q :: P) := by rw [← h]; exact norm_pcs _
  have hq : Norm (q :: P) := hN.right
  have hfl : s.data.toList = flat A ++ flat (q :: P) := by
    have := flat_pcs s.data.toList
    unfold pcsB at h
    rw [h, flat_append] at this
    exact this.symm
  have hdata : (s.extract (flat A).length s.size).data.toList = flat (q :: P) := by
    rw [extract_data, hfl, List.drop_left, List.take_of_length_le]
    rw [size_eq, hfl, List.length_append]; omega
  have hl := pc_len hq
  unfold decodeGo
  rw [if_neg]
  · rw [← decode_pc hq, ← hdata]
    unfold decodeL
    rw [mk_data]
  · rw [size_eq, hdata, flat_cons, List.length_append]; omega
theorem FIs.more {p : Nat → Bool} {s : ByteArray} {pre : List (List UInt8)} {st : Int} {i : Nat} (h : FIs p s pre st i) (hi : i < s.size) :
    ∃ q : Pc, decodeGo (s.extract i s.size) = (q.1, q.2.length) ∧ q.1 ≤ 1114111 ∧ 1 ≤ q.2.length ∧ i + q.2.length ≤ s.size ∧
      (p q.1 = true → st = -1 → FIs p s pre (-1) (i + q.2.length)) ∧
      (p q.1 = true → ∀ k : Nat, st = k → ∃ x : List UInt8, s.extract k i = txt x ∧ FIs p s (pre ++ [x]) (-1) (i + q.2.length) ∧ pre.length < ((segs p (pcsB s)).map flat).length) ∧
      (p q.1 = false → st = -1 → FIs p s pre i (i + q.2.length)) ∧
      (p q.1 = false → ∀ k : Nat, st = k → FIs p s pre st (i + q.2.length)) := by
  obtain ⟨D, C, P, h1, rfl, h3, h4⟩ := h
  have h0 := size_flat s
  rw [h1, flat_append, flat_append, List.length_append, List.length_append] at h0
  cases P with
  | nil => simp [flat_nil] at h0; omega
  | cons q P =>
    have hA : pcsB s = (D ++ C) ++ q :: P := by rw [h1, List.append_assoc]
    have hlen : (flat (D ++ C)).length = (flat D).length + (flat C).length := by rw [flat_append, List.length_append]
    have hd := decode_at hA
    rw [hlen] at hd
    have hN : Norm (q :: P) := by
      have : Norm ((D ++ C) ++ q :: P) := by rw [← hA]; exact norm_pcs _
      exact this.right
    have hql := pc_len hN
    have hqm : q ∈ pcs s.data.toList := by rw [show pcs s.data.toList = _ from hA]; simp
    rw [flat_cons, List.length_append] at h0
    refine ⟨q, hd, pcs_rune q hqm, hql.1, by omega, ?_, ?_, ?_, ?_⟩
    · intro hp hst
      have hC : C = [] := by
        rcases h3 with ⟨_, h⟩ | ⟨_, h⟩
        · exact h
        · omega
      subst hC
      refine ⟨D ++ [q], [], P, by rw [h1]; simp, by rw [flat_append, flat_cons, flat_nil]; simp, .inl ⟨rfl, rfl⟩, ?_⟩
      rw [← h4]
      simp [sg, hp]
    · intro hp k hst
      have hC : C ≠ [] ∧ st = ((flat D).length : Int) := by
        rcases h3 with ⟨h, _⟩ | h
        · omega
        · exact h
      have hk : k = (flat D).length := by omega
      subst hk
      have h5 : sg p (q :: P) C = C :: sg p P [] := by simp [sg, hp, hC.1]
      rw [h5] at h4
      refine ⟨flat C, extract_mid h1, ⟨D ++ C ++ [q], [], P, by rw [h1]; simp, by rw [flat_append, flat_append, flat_cons, flat_nil]; simp; omega, .inl ⟨rfl, rfl⟩, ?_⟩, ?_⟩
      · rw [← h4]; simp
      · rw [← h4]; simp
    · intro hp hst
      have hC : C = [] := by
        rcases h3 with ⟨_, h⟩ | ⟨_, h⟩
        · exact h
        · omega
      subst hC
      refine ⟨D, [q], P, by rw [h1]; simp, by rw [flat_cons, flat_nil]; simp, .inr ⟨by simp, by rw [flat_nil]; simp⟩, ?_⟩
      rw [← h4]
      simp [sg, hp]
    · intro hp k hst
      have hC : C ≠ [] ∧ st = ((flat D).length : Int) := by
        rcases h3 with ⟨h, _⟩ | h
        · omega
        · exact h
      refine ⟨D, C ++ [q], P, by rw [h1]; simp, by rw [flat_append C, flat_cons, flat_nil]; simp; omega, .inr ⟨by simp, hC.2⟩, ?_⟩
      rw [← h4]
      simp [sg, hp]
theorem FIs.end_ {p : Nat → Bool} {s : ByteArray} {pre : List (List UInt8)} {st : Int} {i : Nat} (h : FIs p s pre st i) (hi : ¬ i < s.size) :
    (st = -1 → pre = (segs p (pcsB s)).map flat) ∧ (∀ k : Nat, st = k → ∃ x : List UInt8, s.extract k s.size = txt x ∧ pre ++ [x] = (segs p (pcsB s)).map flat) := by
  obtain ⟨D, C, P, h1, rfl, h3, h4⟩ := h
  have h0 := size_flat s
  rw [h1, flat_append, flat_append, List.length_append, List.length_append] at h0
  have hP : P = [] := by
    by_cases hP : P = []
    · exact hP
    · have : 0 < (flat P).length := flat_nil_iff (fun q hq => pcs_pos q (show q ∈ pcs s.data.toList by rw [show pcs s.data.toList = D ++ (C ++ P) from h1]; simp [hq])) hP
      omega
  subst hP
  rw [flat_nil] at h0
  constructor
  · intro hst
    have hC : C = [] := by
      rcases h3 with ⟨_, h⟩ | ⟨_, h⟩
      · exact h
      · omega
    rw [← h4]
    simp [sg, hC]
  · intro k hst
    have hC : C ≠ [] ∧ st = ((flat D).length : Int) := by
      rcases h3 with ⟨h, _⟩ | h
      · omega
      · exact h
    have hk : k = (flat D).length := by omega
    subst hk
    refine ⟨flat C, ?_, by rw [← h4]; simp [sg, hC.1]⟩
    rw [← extract_mid h1]
    congr 1
theorem FIs.count {p : Nat → Bool} {s : ByteArray} {pre : List (List UInt8)} {st : Int} {i : Nat} (h : FIs p s pre st i) : pre.length ≤ ((segs p (pcsB s)).map flat).length := by
  obtain ⟨D, C, P, _, _, _, h4⟩ := h
  rw [← h4, List.length_append]; omega
end Go.Proofs.YtdlhjnihmkbagaaDoor
