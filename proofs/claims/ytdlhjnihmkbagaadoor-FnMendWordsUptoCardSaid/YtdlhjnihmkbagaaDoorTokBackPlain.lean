/- Plain law: the parts of a text found from its end on, by trimming. Conditions: none. -/
import Derived.Test.YtdlhjnihmkbagaaDoorTokPlain
namespace Go.Proofs.YtdlhjnihmkbagaaDoor
open Go Go.Lib

theorem takeWhile_all {α : Type} {f : α → Bool} {l : List α} (h : ∀ x ∈ l, f x = true) : l.takeWhile f = l := by
  induction l with
  | nil => rfl
  | cons x l ih => rw [List.takeWhile_cons, if_pos (h x (by simp)), ih fun y hy => h y (by simp [hy])]
theorem dropWhile_all {α : Type} {f : α → Bool} {l : List α} (h : ∀ x ∈ l, f x = true) : l.dropWhile f = [] := by
  induction l with
  | nil => rfl
  | cons x l ih => rw [List.dropWhile_cons, if_pos (h x (by simp)), ih fun y hy => h y (by simp [hy])]
theorem sg_snoc_take (p : Nat → Bool) (q : Pc) (hq : p q.1 = true) : ∀ (P cur : List Pc), sg p (P ++ [q]) cur = sg p P cur
  | [], cur => by simp [sg, hq]
  | x :: P, cur => by
    simp only [List.cons_append, sg]
    rw [sg_snoc_take p q hq P [], sg_snoc_take p q hq P (cur ++ [x])]
theorem segs_snoc_take (p : Nat → Bool) {q : Pc} {Q : List Pc} (hq : p q.1 = true) : segs p (Q ++ [q]) = segs p Q := sg_snoc_take p q hq Q []
theorem segs_trimR (p : Nat → Bool) (P : List Pc) : segs p (trimR p P) = segs p P := by
  induction P using snoc_ind with
  | h0 => rfl
  | h1 P q ih =>
    rw [trimR_snoc]
    by_cases hp : p q.1 = true
    · rw [if_pos hp, ih, segs_snoc_take p hp]
    · rw [if_neg hp]
/-- a run of pieces that the test does not take, at the end -/
theorem sg_app_run (p : Nat → Bool) (T : List Pc) (hT : ∀ q ∈ T, p q.1 = false) (hne : T ≠ []) (q : Pc) (hq : p q.1 = true) : ∀ (P cur : List Pc), sg p (P ++ q :: T) cur = sg p P cur ++ [T]
  | [], cur => by
    have h1 : sg p T [] = [T] := by
      rw [sg_run, List.nil_append]
      have h2 : (T.takeWhile fun q => !p q.1) = T := takeWhile_all (fun x hx => by simp [hT x hx])
      have h3 : (T.dropWhile fun q => !p q.1) = [] := dropWhile_all (fun x hx => by simp [hT x hx])
      rw [h2, h3, if_neg hne]
      simp [segs, sg]
    simp [sg, hq, h1]
  | x :: P, cur => by
    simp only [List.cons_append, sg]
    rw [sg_app_run p T hT hne q hq P [], sg_app_run p T hT hne q hq P (cur ++ [x])]
    split <;> simp
theorem segs_only (p : Nat → Bool) (T : List Pc) (hT : ∀ q ∈ T, p q.1 = false) (hne : T ≠ []) : segs p T = [T] := by
  unfold segs
  rw [sg_run, List.nil_append]
  have h2 : (T.takeWhile fun q => !p q.1) = T := takeWhile_all (fun x hx => by simp [hT x hx])
  have h3 : (T.dropWhile fun q => !p q.1) = [] := dropWhile_all (fun x hx => by simp [hT x hx])
  rw [h2, h3, if_neg hne]
  simp [segs, sg]
/-- what trimming from the end leaves, and takes -/
theorem trimR_split (p : Nat → Bool) (P : List Pc) : ∃ T, P = trimR p P ++ T ∧ (∀ q ∈ T, p q.1 = true) ∧ (trimR p P = [] ∨ ∃ P' q, trimR p P = P' ++ [q] ∧ p q.1 = false) := by
  induction P using snoc_ind with
  | h0 => exact ⟨[], rfl, by simp, .inl rfl⟩
  | h1 P q ih =>
    rw [trimR_snoc]
    by_cases hp : p q.1 = true
    · rw [if_pos hp]
      obtain ⟨T, h1, h2, h3⟩ := ih
      refine ⟨T ++ [q], by rw [← List.append_assoc, ← h1], ?_, h3⟩
      intro x hx
      rcases List.mem_append.1 hx with h | h
      · exact h2 x h
      · simp only [List.mem_singleton] at h; subst h; exact hp
    · rw [if_neg hp]
      exact ⟨[], by simp, by simp, .inr ⟨P, q, rfl, by simpa using hp⟩⟩
theorem trimR_trimR (p : Nat → Bool) (P : List Pc) : trimR p (trimR p P) = trimR p P := by
  obtain ⟨T, _, _, h | ⟨P', q, h, hq⟩⟩ := trimR_split p P
  · rw [h]; rfl
  · rw [h, trimR_snoc, if_neg (by simp [hq])]
theorem segs_last (p : Nat → Bool) {R : List Pc} (hR : R ≠ []) (ht : trimR p R = R) :
    ∃ T, R = trimR (fun x => !p x) R ++ T ∧ T ≠ [] ∧ segs p R = segs p (trimR (fun x => !p x) R) ++ [T] := by
  obtain ⟨T, h1, h2, h3⟩ := trimR_split (fun x => !p x) R
  have hT : ∀ q ∈ T, p q.1 = false := fun q hq => by simpa using h2 q hq
  have hne : T ≠ [] := by
    rintro rfl
    rw [List.append_nil] at h1
    rcases h3 with h3 | ⟨P', q, h3, hq⟩
    · exact hR (h1.trans h3)
    · have hq' : p q.1 = true := by simpa using hq
      rw [← h1] at h3
      rw [h3, trimR_snoc, if_pos hq'] at ht
      obtain ⟨Q, hQ⟩ := trimR_prefix p P'
      have := congrArg List.length ht
      have h4 := congrArg List.length hQ
      simp only [List.length_append, List.length_singleton] at this h4
      omega
  refine ⟨T, h1, hne, ?_⟩
  rcases h3 with h3 | ⟨P', q, h3, hq⟩
  · rw [h3]
    rw [h3, List.nil_append] at h1
    rw [h1, segs_only p T hT hne]; rfl
  · have hq' : p q.1 = true := by simpa using hq
    conv => lhs; rw [h1]
    rw [h3, List.append_assoc, List.singleton_append]
    unfold segs
    rw [sg_app_run p T hT hne q hq' P' [], sg_snoc_take p q hq']
theorem flat_nil_iff {P : List Pc} (h : ∀ q ∈ P, q.2 ≠ []) (hP : P ≠ []) : 0 < (flat P).length := by
  cases P with
  | nil => exact absurd rfl hP
  | cons q Q =>
    have := List.length_pos_iff.2 (h q (by simp))
    rw [flat_cons, List.length_append]; omega

/-- on the way: what is found, and what is left -/
def TokBIs (p : Nat → Bool) (s : ByteArray) (T : List (List UInt8)) (rest : ByteArray) : Prop :=
  trimR p (pcsB rest) = pcsB rest ∧ (segs p (pcsB rest)).map flat ++ T.reverse = (segs p (pcsB s)).map flat ∧ rest.size + T.length ≤ s.size
theorem trimRightF_size (p : Nat → Bool) (s : ByteArray) : (trimRightF p s).size ≤ s.size := by
  obtain ⟨Q, hQ⟩ := trimR_prefix p (pcsB s)
  have := congrArg List.length (congrArg flat hQ)
  rw [flat_append, flat_pcsB, List.length_append, ← trimRight_pcs, ← size_eq, ← size_eq] at this
  omega
theorem TokBIs.start (p : Nat → Bool) (s : ByteArray) : TokBIs p s [] (trimRightF p s) :=
  ⟨by rw [trimRight_is, trimR_trimR], by rw [trimRight_is, segs_trimR, List.reverse_nil, List.append_nil], by simpa using trimRightF_size p s⟩
theorem TokBIs.next {p : Nat → Bool} {s rest : ByteArray} {T : List (List UInt8)} (h : TokBIs p s T rest) (hr : 0 < rest.size) :
    TokBIs p s (T ++ [trimPrefix rest.data.toList (trimRightF (fun x => !p x) rest).data.toList]) (trimRightF p (trimRightF (fun x => !p x) rest)) ∧ (trimRightF p (trimRightF (fun x => !p x) rest)).size < rest.size := by
  have hne : pcsB rest ≠ [] := by rw [Ne, pcsB_nil_iff]; omega
  obtain ⟨X, hX, hXne, hseg⟩ := segs_last p hne h.1
  have e : rest.data.toList = (trimRightF (fun x => !p x) rest).data.toList ++ flat X := by
    rw [trimRight_pcs, ← flat_append, ← hX, flat_pcsB]
  have hlt : (trimRightF (fun x => !p x) rest).size < rest.size := by
    have h1 := congrArg List.length e
    rw [List.length_append, ← size_eq, ← size_eq] at h1
    have h2 : 0 < (flat X).length := flat_nil_iff (fun q hq => pcs_pos q (show q ∈ pcsB rest by rw [hX]; simp [hq])) hXne
    omega
  have hle := trimRightF_size p (trimRightF (fun x => !p x) rest)
  refine ⟨⟨by rw [trimRight_is, trimR_trimR], ?_, ?_⟩, by omega⟩
  · rw [trimRight_is, segs_trimR, trimRight_is, ← h.2.1, hseg, List.map_append, List.reverse_append, List.append_assoc]
    congr 2
    rw [List.reverse_singleton, List.map_singleton]
    conv => lhs; rw [e]
    rw [trimPrefix_app]
  · have := h.2.2
    rw [List.length_append, List.length_singleton]
    omega
theorem TokBIs.end_ {p : Nat → Bool} {s rest : ByteArray} {T : List (List UInt8)} (h : TokBIs p s T rest) (hr : ¬ 0 < rest.size) : T = ((segs p (pcsB s)).map flat).reverse := by
  have e : pcsB rest = [] := by rw [pcsB_nil_iff]; omega
  have := h.2.1
  rw [e] at this
  rw [← this]
  simp [segs, sg]
end Go.Proofs.YtdlhjnihmkbagaaDoor
