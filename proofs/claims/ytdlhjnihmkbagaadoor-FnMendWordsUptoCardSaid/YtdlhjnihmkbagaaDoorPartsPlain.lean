/- Plain law: parts of parts, set by set; how many there are and how long. Conditions: none. -/
import Derived.Test.YtdlhjnihmkbagaaDoorTokPlain
import Derived.Test.YtdlhjnihmkbagaaDoorInSet
namespace Go.Proofs.YtdlhjnihmkbagaaDoor
open Go Go.Lib

/-- the parts of one text -/
def cutBy (set : ByteArray) (x : List UInt8) : List (List UInt8) := (segs (inSet set) (pcs x)).map flat
def partStep (set : ByteArray) (l : List (List UInt8)) : List (List UInt8) := l.flatMap (cutBy set)
/-- parts of parts -/
def partsOf (sets : List ByteArray) (x : List UInt8) : List (List UInt8) := sets.foldl (fun l set => partStep set l) [x]
theorem partsOf_snoc (sets : List ByteArray) (set : ByteArray) (x : List UInt8) : partsOf (sets ++ [set]) x = partStep set (partsOf sets x) := by
  simp [partsOf]
def lens (l : List (List UInt8)) : Nat := (l.map List.length).sum
theorem lens_append (a b : List (List UInt8)) : lens (a ++ b) = lens a + lens b := by simp [lens]
theorem cutBy_bound (set : ByteArray) (x : List UInt8) : (cutBy set x).length ≤ x.length ∧ lens (cutBy set x) ≤ x.length := by
  have h := fwalk_sum (inSet set) (pcs x)
  have h2 := segs_size (inSet set) ⟨x.toArray⟩
  rw [fwalk_segs, flat_pcs] at h
  refine ⟨?_, h.1⟩
  unfold cutBy
  rw [List.length_map]
  exact h2
theorem partStep_bound (set : ByteArray) (l : List (List UInt8)) : (partStep set l).length ≤ lens l ∧ lens (partStep set l) ≤ lens l := by
  induction l with
  | nil => exact ⟨Nat.le_refl _, Nat.le_refl _⟩
  | cons x l ih =>
    have h := cutBy_bound set x
    have e : partStep set (x :: l) = cutBy set x ++ partStep set l := rfl
    rw [e, List.length_append, lens_append]
    simp only [lens, List.map_cons, List.sum_cons] at ih h ⊢
    omega
theorem partsOf_bound (sets : List ByteArray) (x : List UInt8) : (partsOf sets x).length ≤ x.length + 1 ∧ lens (partsOf sets x) ≤ x.length := by
  induction sets using snoc_ind with
  | h0 => simp [partsOf, lens]
  | h1 sets set ih =>
    rw [partsOf_snoc]
    have := partStep_bound set (partsOf sets x)
    omega
theorem partStep_take (set : ByteArray) (l : List (List UInt8)) (j : Nat) (hj : j < l.length) : partStep set (l.take (j + 1)) = partStep set (l.take j) ++ cutBy set l[j] := by
  unfold partStep
  rw [List.take_succ_eq_append_getElem hj, List.flatMap_append]
  simp
theorem lens_take (l : List (List UInt8)) (j : Nat) : lens (l.take j) ≤ lens l := by
  have : lens l = lens (l.take j) + lens (l.drop j) := by rw [← lens_append, List.take_append_drop]
  omega
end Go.Proofs.YtdlhjnihmkbagaaDoor
