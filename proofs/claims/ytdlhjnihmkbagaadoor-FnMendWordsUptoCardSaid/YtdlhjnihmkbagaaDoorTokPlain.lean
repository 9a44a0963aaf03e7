/- Plain law: the parts of a text found from its beginning on, by trimming. Conditions: none. -/
import Derived.Test.YtdlhjnihmkbagaaDoorSegs
namespace Go.Proofs.YtdlhjnihmkbagaaDoor
open Go Go.Lib

theorem norm_pcsB (s : ByteArray) : Norm (pcsB s) := by
  unfold Norm pcsB
  rw [flat_pcs]
theorem pcsB_flat {s : ByteArray} {P : List Pc} (h : s.data.toList = flat P) (hn : Norm P) : pcsB s = P := by
  unfold pcsB
  rw [h]; exact hn
theorem trimLeft_is (p : Nat → Bool) (s : ByteArray) : pcsB (trimLeftF p s) = trimL p (pcsB s) := pcsB_flat (trimLeft_pcs p s) ((norm_pcsB s).trimL p)
theorem trimRight_is (p : Nat → Bool) (s : ByteArray) : pcsB (trimRightF p s) = trimR p (pcsB s) := pcsB_flat (trimRight_pcs p s) ((norm_pcsB s).trimR p)
theorem flat_pcsB (s : ByteArray) : flat (pcsB s) = s.data.toList := flat_pcs _
theorem pcsB_nil_iff (s : ByteArray) : pcsB s = [] ↔ s.size = 0 := by
  constructor
  · intro h
    rw [size_eq, ← flat_pcsB, h]; rfl
  · intro h
    unfold pcsB
    rw [List.eq_nil_of_length_eq_zero (l := s.data.toList) (by rw [← size_eq]; exact h), pcs_nil]

theorem sg_run (p : Nat → Bool) : ∀ (Q cur : List Pc), sg p Q cur = (if cur ++ (Q.takeWhile fun q => !p q.1) = [] then [] else [cur ++ (Q.takeWhile fun q => !p q.1)]) ++ segs p (Q.dropWhile fun q => !p q.1)
  | [], cur => by simp [sg, segs]
  | q :: Q, cur => by
    by_cases hp : p q.1 = true
    · simp [sg, segs, hp]
    · have h := sg_run p Q (cur ++ [q])
      unfold sg
      simp only [hp]
      rw [if_neg (by simp), h]
      simp [hp]
theorem segs_take (p : Nat → Bool) {q : Pc} {Q : List Pc} (hq : p q.1 = true) : segs p (q :: Q) = segs p Q := by
  simp [segs, sg, hq]
theorem segs_trimL (p : Nat → Bool) : ∀ P : List Pc, segs p (trimL p P) = segs p P
  | [] => rfl
  | q :: Q => by
    by_cases hp : p q.1 = true
    · rw [segs_take p hp, ← segs_trimL p Q]
      simp [trimL, hp]
    · simp [trimL, hp]
theorem segs_head (p : Nat → Bool) {R : List Pc} (hR : R ≠ []) (ht : trimL p R = R) :
    segs p R = (R.takeWhile fun q => !p q.1) :: segs p (trimL (fun x => !p x) R) := by
  unfold segs
  rw [sg_run, List.nil_append, if_neg, List.singleton_append]
  · rfl
  · cases R with
    | nil => exact absurd rfl hR
    | cons q Q =>
      by_cases hp : p q.1 = true
      · exfalso
        have := congrArg List.length ht
        have h2 : (List.dropWhile (fun q : Pc => p q.1) Q).length ≤ Q.length := (List.dropWhile_sublist _).length_le
        simp only [trimL, List.dropWhile_cons, hp, if_true, List.length_cons] at this
        omega
      · simp [hp]
theorem trimL_trimL (p : Nat → Bool) (P : List Pc) : trimL p (trimL p P) = trimL p P := by
  induction P with
  | nil => rfl
  | cons q Q ih =>
    by_cases hp : p q.1 = true
    · simpa [trimL, hp] using ih
    · simp [trimL, hp]
theorem trimL_len (p : Nat → Bool) (P : List Pc) : (trimL p P).length ≤ P.length := (List.dropWhile_sublist _).length_le
theorem trimSuffix_app (a b : List UInt8) : trimSuffix (a ++ b) b = a := by
  unfold trimSuffix
  rw [if_pos, List.length_append, Nat.add_sub_cancel, List.take_left]
  rw [← hasSuffix_of_drop]; simp
theorem trimPrefix_app (a b : List UInt8) : trimPrefix (a ++ b) a = b := by
  unfold trimPrefix
  rw [if_pos, List.drop_left]
  rw [← hasPrefix_of_take]; simp

/-- on the way: what is found, and what is left -/
def TokIs (p : Nat → Bool) (s : ByteArray) (T : List (List UInt8)) (rest : ByteArray) : Prop :=
  trimL p (pcsB rest) = pcsB rest ∧ T ++ (segs p (pcsB rest)).map flat = (segs p (pcsB s)).map flat ∧ rest.size + T.length ≤ s.size
theorem trimLeftF_size (p : Nat → Bool) (s : ByteArray) : (trimLeftF p s).size ≤ s.size := by
  obtain ⟨Q, hQ⟩ := trimL_suffix p (pcsB s)
  have := congrArg List.length (congrArg flat hQ)
  rw [flat_append, flat_pcsB, List.length_append, ← trimLeft_pcs, ← size_eq, ← size_eq] at this
  omega
theorem TokIs.start (p : Nat → Bool) (s : ByteArray) : TokIs p s [] (trimLeftF p s) :=
  ⟨by rw [trimLeft_is, trimL_trimL], by rw [trimLeft_is, segs_trimL, List.nil_append], by simpa using trimLeftF_size p s⟩
theorem tok_size {p : Nat → Bool} {rest : ByteArray} (hr : 0 < rest.size) (h : trimL p (pcsB rest) = pcsB rest) : (trimLeftF (fun x => !p x) rest).size < rest.size := by
  have hne : pcsB rest ≠ [] := by rw [Ne, pcsB_nil_iff]; omega
  have hQ : (pcsB rest).takeWhile (fun q => !p q.1) ++ trimL (fun x => !p x) (pcsB rest) = pcsB rest := List.takeWhile_append_dropWhile ..
  have := congrArg List.length (congrArg flat hQ)
  rw [flat_append, flat_pcsB, List.length_append, ← trimLeft_pcs, ← size_eq, ← size_eq] at this
  suffices 0 < (flat ((pcsB rest).takeWhile (fun q => !p q.1))).length by omega
  have hpos : ∀ q ∈ pcsB rest, q.2 ≠ [] := fun q hq => pcs_pos q hq
  clear this hQ
  revert hne h hpos
  generalize pcsB rest = R
  intro h hne hpos
  cases R with
  | nil => exact absurd rfl hne
  | cons q Q =>
    have h1 := List.length_pos_iff.2 (hpos q (by simp))
    by_cases hp : p q.1 = true
    · exfalso
      have := congrArg List.length h
      have h2 : (List.dropWhile (fun q : Pc => p q.1) Q).length ≤ Q.length := (List.dropWhile_sublist _).length_le
      simp only [trimL, List.dropWhile_cons, hp, if_true, List.length_cons] at this
      omega
    · simp only [List.takeWhile_cons, hp, Bool.not_false, if_true, flat_cons, List.length_append]
      omega
theorem TokIs.next {p : Nat → Bool} {s rest : ByteArray} {T : List (List UInt8)} (h : TokIs p s T rest) (hr : 0 < rest.size) :
    TokIs p s (T ++ [trimSuffix rest.data.toList (trimLeftF (fun x => !p x) rest).data.toList]) (trimLeftF p (trimLeftF (fun x => !p x) rest)) ∧ (trimLeftF p (trimLeftF (fun x => !p x) rest)).size < rest.size := by
  have hne : pcsB rest ≠ [] := by rw [Ne, pcsB_nil_iff]; omega
  have hlt := tok_size hr h.1
  have hle := trimLeftF_size p (trimLeftF (fun x => !p x) rest)
  refine ⟨⟨by rw [trimLeft_is, trimL_trimL], ?_, ?_⟩, by omega⟩
  · rw [trimLeft_is, segs_trimL, trimLeft_is, ← h.2.1, segs_head p hne h.1, List.map_cons, List.append_assoc, List.singleton_append]
    congr 2
    have hQ : (pcsB rest).takeWhile (fun q => !p q.1) ++ trimL (fun x => !p x) (pcsB rest) = pcsB rest := List.takeWhile_append_dropWhile ..
    have e : rest.data.toList = flat ((pcsB rest).takeWhile (fun q => !p q.1)) ++ (trimLeftF (fun x => !p x) rest).data.toList := by
      rw [trimLeft_pcs, ← flat_append, hQ, flat_pcsB]
    conv => lhs; rw [e]
    rw [trimSuffix_app]
  · have := h.2.2
    rw [List.length_append, List.length_singleton]
    omega
theorem TokIs.end_ {p : Nat → Bool} {s rest : ByteArray} {T : List (List UInt8)} (h : TokIs p s T rest) (hr : ¬ 0 < rest.size) : T = (segs p (pcsB s)).map flat := by
  have e : pcsB rest = [] := by rw [pcsB_nil_iff]; omega
  have := h.2.1
  rw [e] at this
  simpa [segs, sg] using this
theorem segs_size (p : Nat → Bool) (s : ByteArray) : (segs p (pcsB s)).length ≤ s.size := by
  have h := (fwalk_sum p (pcsB s)).2.2
  rw [fwalk_segs, List.length_map] at h
  have h2 : (pcsB s).length ≤ s.size := by
    have h3 : ∀ P : List Pc, (∀ q ∈ P, q.2 ≠ []) → P.length ≤ (flat P).length := by
      intro P
      induction P with
      | nil => intro _; exact Nat.zero_le _
      | cons q Q ih =>
        intro hq
        have h1 := List.length_pos_iff.2 (hq q (by simp))
        have := ih fun x hx => hq x (by simp [hx])
        rw [flat_cons, List.length_append, List.length_cons]
        omega
    have := h3 (pcsB s) (fun q hq => pcs_pos q hq)
    rwa [flat_pcsB, ← size_eq] at this
  omega
end Go.Proofs.YtdlhjnihmkbagaaDoor
