/- Plain law: marks that come off a text, and what follows of it. No program is in sight. Conditions: none. -/
import Derived.Test.YtjpaboomgicjaaaUnwPlain2
namespace Go.Proofs.Ytjpaboomgicjaaa
open Go

abbrev Mk := Bool × List UInt8
def pstep (s : List UInt8) (m : Mk) : List UInt8 × Bool :=
  if m.1 then (Lib.trimSuffix s m.2, Lib.hasSuffix s m.2) else (Lib.trimPrefix s m.2, Lib.hasPrefix s m.2)
def peelL : List UInt8 → List Mk → List UInt8 × List Bool
  | s, [] => (s, [])
  | s, m :: ms => ((peelL (pstep s m).1 ms).1, (pstep s m).2 :: (peelL (pstep s m).1 ms).2)

theorem peelL_append (s : List UInt8) (a b : List Mk) : peelL s (a ++ b) = ((peelL (peelL s a).1 b).1, (peelL s a).2 ++ (peelL (peelL s a).1 b).2) := by
  induction a generalizing s with
  | nil => simp [peelL]
  | cons m a ih => simp [peelL, ih]
theorem peelL_snoc (s : List UInt8) (a : List Mk) (m : Mk) : peelL s (a ++ [m]) = ((pstep (peelL s a).1 m).1, (peelL s a).2 ++ [(pstep (peelL s a).1 m).2]) := by
  rw [peelL_append]; simp [peelL]
theorem peelL_length (s : List UInt8) (ms : List Mk) : (peelL s ms).2.length = ms.length := by
  induction ms generalizing s with
  | nil => rfl
  | cons m ms ih => simp [peelL, ih]
theorem pstep_le (s : List UInt8) (m : Mk) : (pstep s m).1.length ≤ s.length := by
  unfold pstep Lib.trimSuffix Lib.trimPrefix
  split <;> split <;> simp
theorem peelL_le (s : List UInt8) (ms : List Mk) : (peelL s ms).1.length ≤ s.length := by
  induction ms generalizing s with
  | nil => exact Nat.le_refl _
  | cons m ms ih => exact Nat.le_trans (ih _) (pstep_le s m)

/-! Marks put on -/
def dress1 (t : List UInt8) (m : Mk) (b : Bool) : List UInt8 := if b then (if m.1 then t ++ m.2 else m.2 ++ t) else t
def dressL (r : List UInt8) : List Mk → List Bool → List UInt8
  | m :: ms, b :: bs => dress1 (dressL r ms bs) m b
  | _, _ => r

theorem prefix_split {s t : List UInt8} (h : Lib.hasPrefix s t = true) : t ++ s.drop t.length = s := by
  unfold Lib.hasPrefix at h
  have e := List.prefix_iff_eq_take.1 (List.isPrefixOf_iff_prefix.1 h)
  conv => lhs; rw [e]
  rw [List.length_take]
  have : min t.length s.length = t.length := by
    have := (List.isPrefixOf_iff_prefix.1 h).length_le; omega
  rw [this, List.take_append_drop]
theorem suffix_split {s t : List UInt8} (h : Lib.hasSuffix s t = true) : s.take (s.length - t.length) ++ t = s := by
  unfold Lib.hasSuffix at h
  have e := List.suffix_iff_eq_drop.1 (List.isSuffixOf_iff_suffix.1 h)
  conv => lhs; rw [e]
  rw [List.length_drop]
  have : s.length - (s.length - (s.length - t.length)) = s.length - t.length := by omega
  rw [this, List.take_append_drop]

theorem dress_pstep (s : List UInt8) (m : Mk) : dress1 (pstep s m).1 m (pstep s m).2 = s := by
  unfold dress1 pstep Lib.trimSuffix Lib.trimPrefix
  by_cases hm : m.1 = true
  · by_cases hb : Lib.hasSuffix s m.2 = true
    · simp only [hm, if_true, hb]; exact suffix_split hb
    · simp [hm, hb]
  · by_cases hb : Lib.hasPrefix s m.2 = true
    · simp only [hm, hb, if_true, Bool.false_eq_true, if_false]; exact prefix_split hb
    · simp [hm, hb]
theorem dress_peel (s : List UInt8) (ms : List Mk) : dressL (peelL s ms).1 ms (peelL s ms).2 = s := by
  induction ms generalizing s with
  | nil => simp [dressL, peelL]
  | cons m ms ih => simp only [peelL, dressL]; rw [ih, dress_pstep]

theorem pstep_dress (t : List UInt8) (m : Mk) : pstep (dress1 t m true) m = (t, true) := by
  unfold dress1 pstep
  by_cases hm : m.1 = true
  · have hb : Lib.hasSuffix (t ++ m.2) m.2 = true := by unfold Lib.hasSuffix; rw [List.isSuffixOf_iff_suffix]; exact List.suffix_append _ _
    simp only [hm, if_true, Lib.trimSuffix, hb]
    simp
  · have hb : Lib.hasPrefix (m.2 ++ t) m.2 = true := by unfold Lib.hasPrefix; rw [List.isPrefixOf_iff_prefix]; exact List.prefix_append _ _
    simp only [hm, if_true, Lib.trimPrefix, hb, Bool.false_eq_true, if_false]
    simp
theorem peel_dress (s : List UInt8) (ms : List Mk) : peelL (dressL s ms (List.replicate ms.length true)) ms = (s, List.replicate ms.length true) := by
  induction ms with
  | nil => simp [peelL, dressL]
  | cons m ms ih => simp only [List.length_cons, List.replicate_succ, dressL, peelL, pstep_dress, ih]

/-! Read from behind -/
def flip1 (m : Mk) : Mk := (!m.1, m.2.reverse)
theorem hasPrefix_reverse (s t : List UInt8) : Lib.hasPrefix s.reverse t.reverse = Lib.hasSuffix s t := by
  unfold Lib.hasPrefix Lib.hasSuffix
  rw [Bool.eq_iff_iff, List.isPrefixOf_iff_prefix, List.isSuffixOf_iff_suffix, List.reverse_prefix]
theorem hasSuffix_reverse (s t : List UInt8) : Lib.hasSuffix s.reverse t.reverse = Lib.hasPrefix s t := by
  unfold Lib.hasPrefix Lib.hasSuffix
  rw [Bool.eq_iff_iff, List.isPrefixOf_iff_prefix, List.isSuffixOf_iff_suffix, List.reverse_suffix]
theorem pstep_flip (s : List UInt8) (m : Mk) : pstep s.reverse (flip1 m) = ((pstep s m).1.reverse, (pstep s m).2) := by
  unfold pstep flip1 Lib.trimSuffix Lib.trimPrefix
  by_cases hm : m.1 = true
  · simp only [hm, Bool.not_true, Bool.false_eq_true, if_false, if_true, hasPrefix_reverse]
    by_cases hb : Lib.hasSuffix s m.2 = true
    · have := hasSuffix_le hb
      simp [hb, List.reverse_take]; omega
    · simp [hb]
  · have hm' : m.1 = false := by simpa using hm
    simp only [hm', Bool.not_false, Bool.false_eq_true, if_false, if_true, hasSuffix_reverse]
    by_cases hb : Lib.hasPrefix s m.2 = true
    · simp [hb, List.reverse_drop]
    · simp [hb]
theorem peelL_flip (s : List UInt8) (ms : List Mk) : peelL s.reverse (ms.map flip1) = ((peelL s ms).1.reverse, (peelL s ms).2) := by
  induction ms generalizing s with
  | nil => rfl
  | cons m ms ih => simp only [List.map_cons, peelL, pstep_flip, ih]

/-! Both ends -/
def takenL : List Mk → List Bool → Nat
  | m :: ms, b :: bs => (if b then m.2.length else 0) + takenL ms bs
  | _, _ => 0
theorem pstep_taken (s : List UInt8) (m : Mk) : (pstep s m).1.length + (if (pstep s m).2 then m.2.length else 0) = s.length := by
  unfold pstep Lib.trimSuffix Lib.trimPrefix
  by_cases hm : m.1 = true
  · by_cases hb : Lib.hasSuffix s m.2 = true
    · have := hasSuffix_le hb; simp [hm, hb]; omega
    · simp [hm, hb]
  · by_cases hb : Lib.hasPrefix s m.2 = true
    · have := hasPrefix_le hb; simp [hm, hb]; omega
    · simp [hm, hb]
theorem peel_taken (s : List UInt8) (ms : List Mk) : (peelL s ms).1.length + takenL ms (peelL s ms).2 = s.length := by
  induction ms generalizing s with
  | nil => simp [peelL, takenL]
  | cons m ms ih =>
    have h1 := ih (pstep s m).1
    have h2 := pstep_taken s m
    simp only [peelL, takenL]; omega

theorem peel_back_drop (ms : List Mk) (hall : ∀ m ∈ ms, m.1 = true) : ∀ (s : List UInt8) (A : Nat), A ≤ (peelL s ms).1.length → peelL (s.drop A) ms = ((peelL s ms).1.drop A, (peelL s ms).2) := by
  induction ms with
  | nil => intro s A _; rfl
  | cons m ms ih =>
    intro s A hA
    have hm : m.1 = true := hall m (by simp)
    have hstep : pstep (s.drop A) m = ((pstep s m).1.drop A, (pstep s m).2) := by
      have hle : A ≤ (pstep s m).1.length := Nat.le_trans hA (by simp only [peelL]; exact peelL_le _ _)
      unfold pstep at hle ⊢
      simp only [hm, if_true] at hle ⊢
      unfold Lib.trimSuffix at hle ⊢
      by_cases hb : Lib.hasSuffix s m.2 = true
      · have hl := hasSuffix_le hb
        rw [if_pos hb, List.length_take] at hle
        have hb' : Lib.hasSuffix (s.drop A) m.2 = true := by
          unfold Lib.hasSuffix at hb ⊢
          rw [List.isSuffixOf_iff_suffix] at hb ⊢
          rw [List.suffix_iff_eq_drop] at hb ⊢
          rw [List.length_drop, List.drop_drop]
          conv => lhs; rw [hb]
          congr 1
          omega
        rw [if_pos hb, if_pos hb', hb, hb', List.length_drop, List.drop_take]
        congr 2
        omega
      · have hb' : ¬ Lib.hasSuffix (s.drop A) m.2 = true := by
          intro h
          apply hb
          unfold Lib.hasSuffix at h ⊢
          rw [List.isSuffixOf_iff_suffix] at h ⊢
          exact h.trans (List.drop_suffix _ _)
        rw [if_neg hb, if_neg hb']
        simp only [Bool.not_eq_true] at hb hb'
        rw [hb, hb']
    simp only [peelL] at hA ⊢
    rw [hstep]
    rw [ih (fun m' h' => hall m' (by simp [h'])) _ A hA]

theorem peel_front_take (ms : List Mk) (hall : ∀ m ∈ ms, m.1 = false) : ∀ (s : List UInt8) (D : Nat), D ≤ (peelL s ms).1.length → peelL (s.take (s.length - D)) ms = ((peelL s ms).1.take ((peelL s ms).1.length - D), (peelL s ms).2) := by
  intro s D hD
  have hall' : ∀ m ∈ ms.map flip1, m.1 = true := by
    intro m hm
    obtain ⟨m', h', rfl⟩ := List.mem_map.1 hm
    simp [flip1, hall m' h']
  have h := peel_back_drop (ms.map flip1) hall' s.reverse D (by rw [peelL_flip]; simpa using hD)
  rw [peelL_flip] at h
  have e1 : s.reverse.drop D = (s.take (s.length - D)).reverse := by rw [List.reverse_take]; congr 1; have := peelL_le s ms; omega
  rw [e1, peelL_flip] at h
  simp only [Prod.mk.injEq] at h
  refine Prod.ext ?_ h.2
  have h1 := congrArg List.reverse h.1
  rw [List.reverse_reverse] at h1
  rw [h1]
  simp only
  rw [List.reverse_drop, List.reverse_reverse, List.length_reverse]

theorem peel_sides (s : List UInt8) (a b : List Mk) (ha : ∀ m ∈ a, m.1 = false) (hb : ∀ m ∈ b, m.1 = true) (h : takenL a (peelL s a).2 + takenL b (peelL s b).2 ≤ s.length) :
    peelL (peelL s a).1 b = ((peelL (peelL s b).1 a).1, (peelL s b).2) ∧ (peelL (peelL s b).1 a).2 = (peelL s a).2 := by
  have t1 := peel_taken s a
  have t2 := peel_taken s b
  -- what the front leaves is a drop, what the back leaves is a take
  have e1 : ∀ (ms : List Mk), (∀ m ∈ ms, m.1 = false) → ∀ t : List UInt8, (peelL t ms).1 = t.drop (t.length - (peelL t ms).1.length) := by
    intro ms
    induction ms with
    | nil => intro _ t; simp [peelL]
    | cons m ms ih =>
      intro hall t
      have hm : m.1 = false := hall m (by simp)
      have h1 := ih (fun m' h' => hall m' (by simp [h'])) (pstep t m).1
      have hs : (pstep t m).1 = t.drop (t.length - (pstep t m).1.length) := by
        unfold pstep
        simp only [hm, Bool.false_eq_true, if_false]
        unfold Lib.trimPrefix
        split
        · rename_i hp
          have := hasPrefix_le hp
          rw [List.length_drop]
          congr 1
          omega
        · simp
      have hl := peelL_le (pstep t m).1 ms
      have hl2 := pstep_le t m
      simp only [peelL]
      conv => lhs; rw [h1, hs, List.drop_drop]
      rw [← hs]
      congr 1
      omega
  have e2 : ∀ (ms : List Mk), (∀ m ∈ ms, m.1 = true) → ∀ t : List UInt8, (peelL t ms).1 = t.take (peelL t ms).1.length := by
    intro ms hall t
    have hall' : ∀ m ∈ ms.map flip1, m.1 = false := by
      intro m hm
      obtain ⟨m', h', rfl⟩ := List.mem_map.1 hm
      simp [flip1, hall m' h']
    have h1 := e1 (ms.map flip1) hall' t.reverse
    rw [peelL_flip] at h1
    simp only [List.length_reverse] at h1
    have h2 := congrArg List.reverse h1
    rw [List.reverse_reverse, List.reverse_drop, List.reverse_reverse, List.length_reverse] at h2
    have hl := peelL_le t ms
    conv => lhs; rw [h2]
    congr 1
    omega
  have f1 := e1 a ha s
  have f2 := e2 b hb s
  have hA : s.length - (peelL s a).1.length ≤ (peelL s b).1.length := by omega
  have hD : s.length - (peelL s b).1.length ≤ (peelL s a).1.length := by omega
  have g1 := peel_back_drop b hb s _ hA
  have g2 := peel_front_take a ha s _ hD
  rw [← f1] at g1
  have l1 := peelL_le s a
  have l2 := peelL_le s b
  rw [show s.length - (s.length - (peelL s b).1.length) = (peelL s b).1.length by omega, ← f2] at g2
  rw [g1, g2]
  refine ⟨Prod.ext ?_ rfl, rfl⟩
  simp only
  rw [f2]
  conv => rhs; rw [f1]
  rw [List.length_take, List.length_drop]
  rw [List.drop_take]
  congr 1
  omega
end Go.Proofs.Ytjpaboomgicjaaa
