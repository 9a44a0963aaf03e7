/- Plain law: the words of a text, told by pieces; of texts with white space between them; of a mended text; of texts that are equal under folding piece by piece. Conditions: none. -/
import Derived.Test.YtdlhjnihmkbagaaDoorSpacePlain
import Derived.Test.YtdlhjnihmkbagaaDoorSegsMore
import Derived.Test.YtdlhjnihmkbagaaDoorJoinPlain
namespace Go.Proofs.YtdlhjnihmkbagaaDoor
open Go Go.Lib

/-- the words of a text -/
def wordsOf (x : List UInt8) : List (List UInt8) := (segs isSpaceR (pcs x)).map flat
theorem wordsOf_fields (x : List UInt8) : fieldsD x = wordsOf x := fields_pcs x
theorem wordsOf_len (x : List UInt8) : (wordsOf x).length ≤ x.length := by
  have := segs_size isSpaceR ⟨x.toArray⟩
  unfold wordsOf
  rw [List.length_map]
  exact this
theorem wordsOf_mem {x y : List UInt8} (h : y ∈ wordsOf x) : y.length ≤ x.length := by
  obtain ⟨T, hT, rfl⟩ := List.mem_map.1 h
  obtain ⟨_, _, A, B, hAB⟩ := segs_infix isSpaceR (pcs x) T hT
  have := congrArg List.length (congrArg flat hAB)
  rw [flat_pcs, flat_append, flat_append, List.length_append, List.length_append] at this
  omega
/-- a text of white space -/
def Blank (b : List UInt8) : Prop := b ≠ [] ∧ ∀ q ∈ pcs b, isSpaceR q.1 = true
theorem Blank.good {b : List UInt8} (h : Blank b) : ∀ q ∈ pcs b, ¬ badP q := fun q hq hb => by
  have h1 := h.2 q hq
  rw [hb.1] at h1
  exact absurd h1 (by decide)
theorem Blank.fresh {b : List UInt8} (h : Blank b) (x : List UInt8) : fresh (b ++ x) := fresh_app h.1 (good_fresh h.good)
theorem blank_pcs {b : List UInt8} (h : Blank b) : pcs b ≠ [] := fun e => by
  have := flat_pcs b
  rw [e] at this
  exact h.1 this.symm
theorem words_blank {b : List UInt8} (h : Blank b) (s x : List UInt8) : wordsOf (s ++ (b ++ x)) = wordsOf s ++ wordsOf x := by
  unfold wordsOf
  rw [pcs_append_fresh _ (h.fresh x), pcs_append_good _ _ h.good]
  obtain ⟨q, B, hB⟩ := List.exists_cons_of_ne_nil (blank_pcs h)
  have hq : isSpaceR q.1 = true := h.2 q (by rw [hB]; simp)
  rw [hB, List.cons_append, segs_split isSpaceR hq, segs_skip isSpaceR B _ (fun y hy => h.2 y (by rw [hB]; simp [hy])), List.map_append]
theorem wordsOf_nil : wordsOf [] = [] := rfl
theorem words_end {b : List UInt8} (h : Blank b) (s : List UInt8) : wordsOf (s ++ b) = wordsOf s := by
  have := words_blank h s []
  rwa [List.append_nil, wordsOf_nil, List.append_nil] at this
theorem blank_one : Blank [32] := ⟨by simp, fun q hq => by
  have e : pcs [32] = [(32, [32])] := by decide
  rw [e, List.mem_singleton] at hq
  subst hq
  decide⟩
end Go.Proofs.YtdlhjnihmkbagaaDoor
