/- Plain law: a trimmed text has the parts of the text, begins with the first one and ends with the last one. Conditions: none. -/
import Derived.Test.YthgigchablajbaaDoorShaveSteps
import Derived.Test.YthgigchablajbaaDoorPartsPlain
namespace Go.Proofs.YthgigchablajbaaDoor
open Go Go.Lib

theorem partsOf_set (set : ByteArray) (x : List UInt8) : partsOf [set] x = cutBy set x := by simp [partsOf, partStep]
theorem trimB_L (p : Nat → Bool) (P : List Pc) : trimL p (trimB p P) = trimB p P := by
  unfold trimB
  rw [trim_sides, trimL_trimL]
theorem trimB_R (p : Nat → Bool) (P : List Pc) : trimR p (trimB p P) = trimB p P := by
  unfold trimB
  rw [trimR_trimR]
theorem trimB_none {p : Nat → Bool} {P : List Pc} (h : segs p P = []) : trimB p P = [] := by
  by_cases e : trimB p P = []
  · exact e
  · have := segs_head p e (trimB_L p P)
    rw [segs_trimB, h] at this
    cases this
theorem shave_none {set : ByteArray} {l : List UInt8} (h : cutBy set l = []) : shaved [(0, set.data.toList)] l = [] := by
  rw [shaved_one]
  unfold step1
  rw [stepP_0 (x := (0, set.data.toList)) rfl]
  show flat (trimB (inSet (txt set.data.toList)) (pcs l)) = []
  rw [show txt set.data.toList = set from Lib.mk_data set]
  have : segs (inSet set) (pcs l) = [] := List.map_eq_nil_iff.1 h
  rw [trimB_none this]; rfl
theorem shave_set (set : ByteArray) (l : List UInt8) : shaved [(0, set.data.toList)] l = flat (trimB (inSet set) (pcs l)) := by
  rw [shaved_one]
  unfold step1
  rw [stepP_0 (x := (0, set.data.toList)) rfl]
  show flat (trimB (inSet (txt set.data.toList)) (pcs l)) = _
  rw [show txt set.data.toList = set from Lib.mk_data set]
theorem shave_cut (set : ByteArray) (l : List UInt8) : cutBy set (shaved [(0, set.data.toList)] l) = cutBy set l := by
  rw [shave_set]
  unfold cutBy
  have : pcs (flat (trimB (inSet set) (pcs l))) = trimB (inSet set) (pcs l) := (norm_pcs l).trimB _
  rw [this, segs_trimB]
theorem shave_first {set : ByteArray} {l x : List UInt8} {r : List (List UInt8)} (h : cutBy set l = x :: r) : ∃ b, shaved [(0, set.data.toList)] l = x ++ b := by
  rw [shave_set]
  have hne : trimB (inSet set) (pcs l) ≠ [] := by
    intro e
    have := segs_trimB (inSet set) (pcs l)
    rw [e] at this
    unfold cutBy at h
    rw [← this] at h
    cases h
  have h2 := segs_head (inSet set) hne (trimB_L _ _)
  rw [segs_trimB] at h2
  unfold cutBy at h
  rw [h2, List.map_cons] at h
  injection h with h3 _
  refine ⟨flat ((trimB (inSet set) (pcs l)).dropWhile fun q => !inSet set q.1), ?_⟩
  rw [← h3, ← flat_append, List.takeWhile_append_dropWhile]
theorem shave_last {set : ByteArray} {l x : List UInt8} {r : List (List UInt8)} (h : cutBy set l = r ++ [x]) : ∃ a, shaved [(0, set.data.toList)] l = a ++ x := by
  rw [shave_set]
  have hne : trimB (inSet set) (pcs l) ≠ [] := by
    intro e
    have := segs_trimB (inSet set) (pcs l)
    rw [e] at this
    unfold cutBy at h
    rw [← this] at h
    have h' := congrArg List.length h
    simp [segs, sg] at h'
  obtain ⟨T, h1, _, h2⟩ := segs_last (inSet set) hne (trimB_R _ _)
  rw [segs_trimB] at h2
  unfold cutBy at h
  rw [h2, List.map_append, List.map_singleton] at h
  have h3 := List.append_inj_right' h rfl
  injection h3 with h3 _
  refine ⟨flat (trimR (fun x => !inSet set x) (trimB (inSet set) (pcs l))), ?_⟩
  conv => lhs; rw [h1]
  rw [flat_append, h3]
end Go.Proofs.YthgigchablajbaaDoor
