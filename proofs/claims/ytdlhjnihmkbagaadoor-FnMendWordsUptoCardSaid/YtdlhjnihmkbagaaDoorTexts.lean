/- Words for rows of texts. Conditions: none. -/
import Derived.Test.YtdlhjnihmkbagaaDoorPieces
namespace Go.Proofs.YtdlhjnihmkbagaaDoor
open Go.RowKit

def texts (l : List (List UInt8)) : List Value := l.map fun x => .string (txt x)
theorem texts_length (l : List (List UInt8)) : (texts l).length = l.length := by simp [texts]
theorem info_string : (Tryd.prog.info? 9).map (fun i => (i.zero, i.size, i.bytes)) = some (some (.string ByteArray.empty), 1, 16) := by kernel_rfl

/-- texts in new memory -/
def TextsPost (l : List (List UInt8)) (w : World) (e : Ending) (w' : World) : Prop :=
  ∃ v, e = .returned v ∧ Own w' w.heap.size 9 v (texts l) ∧ Below w.heap.size w w'
theorem txt_append (a b : List UInt8) : txt a ++ txt b = txt (a ++ b) := by
  simp [txt, ByteArray.ext_iff, ByteArray.data_append]
theorem own_set {w : World} {base : Nat} {e : TypeId} {g n c : Nat} {ys : List Value} {A : Option Addr} (h : Own w base e (.slice A n c) ys) (hA : A = some ⟨g, 0, none⟩) {k : Nat} (hk : k < ys.length) (u : Value) :
    Own (w.setCell ⟨g, k, none⟩ u) base e (.slice (some ⟨g, 0, none⟩) n c) (ys.set k u) ∧ w.grownBy (w.setCell ⟨g, k, none⟩ u) (some g) := by
  obtain ⟨g', hA', _, _, _, hset⟩ := own_at h hk
  rw [hA] at hA' hset
  have : g = g' := by injection hA' with hA'; injection hA' with hA' _ _
  subst this
  exact hset u
end Go.Proofs.YtdlhjnihmkbagaaDoor
