/- Words for lists of well-formed texts, put together one by one; a row of one text. Conditions: none. -/
import Derived.Test.YthgigchablajbaaDoorPartsLaw
import Derived.Test.YthgigchablajbaaDoorValid
import Derived.Test.YthgigchablajbaaDoorTexts
import Derived.Test.YthgigchablajbaaDoorFrameUT
namespace Go.Proofs.YthgigchablajbaaDoor
open Go.RowKit

/-- on the way: the texts that are behind are well-formed -/
def AllGood (L : List (List UInt8)) : Prop := ∀ x ∈ L, ∀ q ∈ pcs x, ¬ badP q
theorem AllGood.step {L : List (List UInt8)} {k : Nat} (h : AllGood (L.take k)) (hk : k < L.length) (hx : okB (txt L[k]) = true) : AllGood (L.take (k + 1)) := fun x hm => by
  rw [List.take_succ_eq_append_getElem hk] at hm
  rcases List.mem_append.1 hm with h' | h'
  · exact h x h'
  · rw [List.mem_singleton] at h'
    subst h'
    intro q hq hb
    have := List.all_eq_true.1 hx q hq
    simp [hb] at this
theorem flatten_len (L : List (List UInt8)) : L.flatten.length ≤ bulkT L := by
  induction L with
  | nil => exact Nat.zero_le _
  | cons x L ih => simp only [bulkT, List.map_cons, List.sum_cons, List.flatten_cons, List.length_append] at ih ⊢; omega
theorem flatten_take (L : List (List UInt8)) (k : Nat) (hk : k < L.length) : (L.take (k + 1)).flatten = (L.take k).flatten ++ L[k] := by
  rw [List.take_succ_eq_append_getElem hk, List.flatten_append]
  simp only [List.flatten_cons, List.flatten_nil, List.append_nil]
theorem flatten_take_len (L : List (List UInt8)) (k : Nat) : (L.take k).flatten.length ≤ bulkT L := by
  have h1 := flatten_len (L.take k)
  have h2 : bulkT L = bulkT (L.take k) + bulkT (L.drop k) := by
    unfold bulkT
    rw [← List.sum_append, ← List.map_append, List.take_append_drop]
  omega
theorem row_one (w : World) (x : List UInt8) (e : TypeId) : RowAt (w.alloc (.cells #[.string (txt x)] e)) 0 (w.alloc (.cells #[.string (txt x)] e)).heap.size (some ⟨w.heap.size, 0, none⟩) (texts [x]) := fun _ => by
  refine ⟨w.heap.size, 0, rfl, Nat.zero_le _, by simp, fun i hi => ?_⟩
  rw [texts_length] at hi
  obtain rfl : i = 0 := by simp at hi; omega
  simp [texts, World.cell?, World.alloc, -World.alloc_eq]
end Go.Proofs.YthgigchablajbaaDoor
