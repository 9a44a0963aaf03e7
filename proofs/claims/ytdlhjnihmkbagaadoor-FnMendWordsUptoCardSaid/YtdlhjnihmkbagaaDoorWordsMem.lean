/- Words for walks that put rows of words behind one another. Conditions: none. -/
import Derived.Test.YtdlhjnihmkbagaaDoorRows1
import Derived.Test.YtdlhjnihmkbagaaDoorWordsPlain
namespace Go.Proofs.YtdlhjnihmkbagaaDoor
open Go.RowKit
set_option linter.unusedVariables false

theorem txt_len (l : List UInt8) : (txt l).size = l.length := rfl
/-- the outer loop's word -/
def WIs (w : World) (v : Value) (T : List (List (List UInt8))) (wr : World) : Prop :=
  ∃ vs, Own wr w.heap.size 22 v vs ∧ Rows wr w.heap.size v.ownBlock vs (T.map texts) ∧ Below w.heap.size w wr
theorem wordsAll_take (L : List (List UInt8)) (k : Nat) (h : k < L.length) : (L.take (k + 1)).map wordsOf = (L.take k).map wordsOf ++ [wordsOf L[k]] := by
  rw [List.take_succ_eq_append_getElem h, List.map_append]; rfl
end Go.Proofs.YtdlhjnihmkbagaaDoor
