/- Whether a code point belongs to a set; where a cell lies. Conditions: none. -/
import Derived.Test.YtdlhjnihmkbagaaDoorIter
namespace Go.Proofs.YtdlhjnihmkbagaaDoor
open Go.RowKit

/-- a code point belongs to a set -/
def inSet (set : ByteArray) (x : Nat) : Bool := (pcsB set).any fun q => q.1 == x

theorem cell_lt {w : World} {b o : Nat} {v : Value} (h : w.cell? ⟨b, o, none⟩ = some v) : b < w.heap.size := by
  rcases Nat.lt_or_ge b w.heap.size with hl | hl
  · exact hl
  · simp [World.cell?, Array.getElem?_eq_none hl] at h
end Go.Proofs.YtdlhjnihmkbagaaDoor
