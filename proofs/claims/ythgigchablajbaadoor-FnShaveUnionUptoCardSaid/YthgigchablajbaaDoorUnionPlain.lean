/- Plain law: trimming of several well-formed sets, again and again; a trimmed text begins with its first part and ends with its last one. Conditions: none. -/
import Derived.Test.YthgigchablajbaaDoorShaveSteps
import Derived.Test.YthgigchablajbaaDoorPartsLaw
import Derived.Test.YthgigchablajbaaDoorGood
namespace Go.Proofs.YthgigchablajbaaDoor
open Go Go.Lib

def tests (L : List (List UInt8)) : List (Nat → Bool) := L.map fun x => inSet (txt x)
theorem Norm.roundB {P : List Pc} (h : Norm P) (ps : List (Nat → Bool)) : Norm (roundB ps P) := by
  induction ps generalizing P with
  | nil => exact h
  | cons p ps ih => exact ih (h.trimB p)
theorem Norm.roundsB {P : List Pc} (h : Norm P) (ps : List (Nat → Bool)) (n : Nat) : Norm (roundsB ps n P) := by
  induction n generalizing P with
  | zero => exact h
  | succ n ih => exact ih (h.roundB ps)
theorem roundB_snoc (ps : List (Nat → Bool)) (p : Nat → Bool) (P : List Pc) : roundB (ps ++ [p]) P = trimB p (roundB ps P) := by simp [roundB]
/-- after i rounds and j sets -/
def unionAt (L : List (List UInt8)) (i j : Nat) (l : List UInt8) : List UInt8 := flat (roundB ((tests L).take j) (roundsB (tests L) i (pcs l)))
theorem unionAt_zero (L : List (List UInt8)) (l : List UInt8) : unionAt L 0 0 l = l := flat_pcs l
theorem unionAt_norm (L : List (List UInt8)) (i j : Nat) (l : List UInt8) : pcs (unionAt L i j l) = roundB ((tests L).take j) (roundsB (tests L) i (pcs l)) := ((norm_pcs l).roundsB _ _).roundB _
theorem unionAt_next {L : List (List UInt8)} {i j : Nat} (hj : j < L.length) (l : List UInt8) : shaved [(0, L[j])] (unionAt L i j l) = unionAt L i (j + 1) l := by
  rw [shaved_one]
  unfold step1
  rw [unionAt_norm, stepP_0 (x := (0, L[j])) rfl]
  unfold unionAt
  have hj' : j < (tests L).length := by simpa [tests] using hj
  rw [List.take_succ_eq_append_getElem hj', roundB_snoc]
  simp [tests]
theorem unionAt_round (L : List (List UInt8)) (i : Nat) (l : List UInt8) : unionAt L i L.length l = unionAt L (i + 1) 0 l := by
  unfold unionAt
  rw [roundsB_snoc, List.take_of_length_le (by simp [tests])]
  rfl
theorem unionAt_len (L : List (List UInt8)) (l : List UInt8) : ∀ i j, j ≤ L.length → (unionAt L i j l).length ≤ l.length := by
  intro i
  induction i with
  | zero =>
    intro j
    induction j with
    | zero => intro _; rw [unionAt_zero]; exact Nat.le_refl _
    | succ j ih =>
      intro hj
      rw [← unionAt_next (by omega)]
      exact Nat.le_trans (shaved_len _ _) (ih (by omega))
  | succ i ih =>
    intro j
    induction j with
    | zero => intro _; rw [← unionAt_round]; exact ih _ (Nat.le_refl _)
    | succ j ih2 =>
      intro hj
      rw [← unionAt_next (by omega)]
      exact Nat.le_trans (shaved_len _ _) (ih2 (by omega))
theorem unionAt_all {L : List (List UInt8)} (h : AllGood L) (l : List UInt8) : unionAt L l.length 0 l = shaved [(0, L.flatten)] l := by
  rw [shaved_one]
  unfold step1
  rw [stepP_0 (x := (0, L.flatten)) rfl]
  show flat (roundsB (tests L) l.length (pcs l)) = _
  rw [rounds_all (tests L) (inSet (txt L.flatten)) (fun x => by rw [inSet_concat L h]; unfold tests; rw [List.any_map]; rfl) (pcs l) l.length (pcs_len_le l)]

/-! ### A trimmed text and its parts -/
theorem trimB_L (p : Nat → Bool) (P : List Pc) : trimL p (trimB p P) = trimB p P := by
  unfold trimB
  rw [trim_sides, trimL_trimL]
theorem trimB_R (p : Nat → Bool) (P : List Pc) : trimR p (trimB p P) = trimB p P := by
  unfold trimB
  rw [trimR_trimR]
theorem trimB_none {p : Nat → Bool} {P : List Pc} (h : segs p P = []) : trimB p P = [] := by
  by_cases e : trimB p P = []
  · exact e
  · have := segs_head p e (trimB_L p P)
    rw [segs_trimB, h] at this
    cases this
theorem shave_none {set : ByteArray} {l : List UInt8} (h : cutBy set l = []) : shaved [(0, set.data.toList)] l = [] := by
  rw [shaved_one]
  unfold step1
  rw [stepP_0 (x := (0, set.data.toList)) rfl]
  show flat (trimB (inSet (txt set.data.toList)) (pcs l)) = []
  rw [show txt set.data.toList = set from Lib.mk_data set]
  have : segs (inSet set) (pcs l) = [] := List.map_eq_nil_iff.1 h
  rw [trimB_none this]; rfl
theorem shave_set (set : ByteArray) (l : List UInt8) : shaved [(0, set.data.toList)] l = flat (trimB (inSet set) (pcs l)) := by
  rw [shaved_one]
  unfold step1
  rw [stepP_0 (x := (0, set.data.toList)) rfl]
  show flat (trimB (inSet (txt set.data.toList)) (pcs l)) = _
  rw [show txt set.data.toList = set from Lib.mk_data set]
theorem shave_cut (set : ByteArray) (l : List UInt8) : cutBy set (shaved [(0, set.data.toList)] l) = cutBy set l := by
  rw [shave_set]
  unfold cutBy
  have : pcs (flat (trimB (inSet set) (pcs l))) = trimB (inSet set) (pcs l) := (norm_pcs l).trimB _
  rw [this, segs_trimB]
theorem shave_first {set : ByteArray} {l x : List UInt8} {r : List (List UInt8)} (h : cutBy set l = x :: r) : ∃ b, shaved [(0, set.data.toList)] l = x ++ b := by
  rw [shave_set]
  have hne : trimB (inSet set) (pcs l) ≠ [] := by
    intro e
    have := segs_trimB (inSet set) (pcs l)
    rw [e] at this
    unfold cutBy at h
    rw [← this] at h
    cases h
  have h2 := segs_head (inSet set) hne (trimB_L _ _)
  rw [segs_trimB] at h2
  unfold cutBy at h
  rw [h2, List.map_cons] at h
  injection h with h3 _
  refine ⟨flat ((trimB (inSet set) (pcs l)).dropWhile fun q => !inSet set q.1), ?_⟩
  rw [← h3, ← flat_append, List.takeWhile_append_dropWhile]
theorem shave_last {set : ByteArray} {l x : List UInt8} {r : List (List UInt8)} (h : cutBy set l = r ++ [x]) : ∃ a, shaved [(0, set.data.toList)] l = a ++ x := by
  rw [shave_set]
  have hne : trimB (inSet set) (pcs l) ≠ [] := by
    intro e
    have := segs_trimB (inSet set) (pcs l)
    rw [e] at this
    unfold cutBy at h
    rw [← this] at h
    have h' := congrArg List.length h
    simp [segs, sg] at h'
  obtain ⟨T, h1, _, h2⟩ := segs_last (inSet set) hne (trimB_R _ _)
  rw [segs_trimB] at h2
  unfold cutBy at h
  rw [h2, List.map_append, List.map_singleton] at h
  have h3 := List.append_inj_right' h rfl
  injection h3 with h3 _
  refine ⟨flat (trimR (fun x => !inSet set x) (trimB (inSet set) (pcs l))), ?_⟩
  conv => lhs; rw [h1]
  rw [flat_append, h3]
end Go.Proofs.YthgigchablajbaaDoor
