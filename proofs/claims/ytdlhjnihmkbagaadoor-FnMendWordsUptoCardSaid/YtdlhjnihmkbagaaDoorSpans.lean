/- The parts of bytes, told by where they begin and end. Conditions: none. -/
import Derived.Test.YtdlhjnihmkbagaaDoorFieldsIt
import Derived.Test.YtdlhjnihmkbagaaDoorBV
import Derived.Test.YtdlhjnihmkbagaaDoorTokPlain
namespace Go.Proofs.YtdlhjnihmkbagaaDoor
open Go.RowKit
set_option linter.unusedVariables false

/-- the part that a span tells -/
def spanOf (s : ByteArray) (p : Nat × Nat) : List UInt8 := (s.extract p.1 p.2).data.toList
/-- the loop's word -/
def SpIs (p : Nat → Bool) (s : ByteArray) (sp : List (Nat × Nat)) (st : Int) (i : Nat) : Prop :=
  FIs p s (sp.map (spanOf s)) st i ∧ ∀ q ∈ sp, q.1 < q.2 ∧ q.2 ≤ s.size
theorem SpIs.start (p : Nat → Bool) (s : ByteArray) : SpIs p s [] (-1) 0 := ⟨FIs.start p s, by simp⟩
theorem SpIs.more {p : Nat → Bool} {s : ByteArray} {sp : List (Nat × Nat)} {st : Int} {i : Nat} (h : SpIs p s sp st i) (hi : i < s.size) :
    ∃ q : Pc, Lib.decodeGo (s.extract i s.size) = (q.1, q.2.length) ∧ q.1 ≤ 1114111 ∧ 1 ≤ q.2.length ∧ i + q.2.length ≤ s.size ∧
      (p q.1 = true → st = -1 → SpIs p s sp (-1) (i + q.2.length)) ∧
      (p q.1 = true → ∀ k : Nat, st = k → SpIs p s (sp ++ [(k, i)]) (-1) (i + q.2.length)) ∧
      (p q.1 = false → st = -1 → SpIs p s sp i (i + q.2.length)) ∧
      (p q.1 = false → ∀ k : Nat, st = k → SpIs p s sp st (i + q.2.length)) := by
  obtain ⟨h1, h2⟩ := h
  obtain ⟨q, a1, a2, a3, a4, a5, a6, a7, a8⟩ := h1.more hi
  refine ⟨q, a1, a2, a3, a4, fun u v => ⟨a5 u v, h2⟩, fun u k v => ?_, fun u v => ⟨a7 u v, h2⟩, fun u k v => ⟨a8 u k v, h2⟩⟩
  obtain ⟨x, e, hF, _⟩ := a6 u k v
  refine ⟨?_, ?_⟩
  · rw [List.map_append, List.map_singleton]
    unfold spanOf
    rw [e]
    exact hF
  · intro q' hq'
    rcases List.mem_append.1 hq' with h | h
    · exact h2 q' h
    · rw [List.mem_singleton] at h
      subst h
      have hle := h1.le
      refine ⟨?_, hle.1⟩
      rcases hle.2 with e' | ⟨k', e', hk'⟩
      · omega
      · simp only; omega
theorem SpIs.last {p : Nat → Bool} {s : ByteArray} {sp : List (Nat × Nat)} {st : Int} {i : Nat} (h : SpIs p s sp st i) (hi : ¬ i < s.size) :
    (st = -1 → sp.map (spanOf s) = (segs p (pcsB s)).map flat) ∧ (∀ k : Nat, st = k → (sp ++ [(k, s.size)]).map (spanOf s) = (segs p (pcsB s)).map flat ∧ k < s.size) := by
  obtain ⟨h1, h2⟩ := h
  obtain ⟨e1, e2⟩ := h1.end_ hi
  refine ⟨e1, fun k hk => ?_⟩
  obtain ⟨x, e, hx⟩ := e2 k hk
  refine ⟨?_, ?_⟩
  · rw [List.map_append, List.map_singleton]
    unfold spanOf at hx ⊢
    rw [e]
    exact hx
  · have hle := h1.le
    rcases hle.2 with e' | ⟨k', e', hk'⟩
    · omega
    · omega
theorem SpIs.count {p : Nat → Bool} {s : ByteArray} {sp : List (Nat × Nat)} {st : Int} {i : Nat} (h : SpIs p s sp st i) : sp.length ≤ s.size := by
  have h1 := h.1.count
  rw [List.length_map, List.length_map] at h1
  have h2 := segs_size p s
  omega
/-- the slices that the spans tell -/
def cutV (b o : Nat) (p : Nat × Nat) : Value := .slice (some ⟨b, o + p.1, none⟩) (p.2 - p.1) (p.2 - p.1)
theorem span_bat {s : ByteArray} {b o : Nat} {W : World} (h : BytesAt s b o W) (hb : b < W.heap.size) {q : Nat × Nat} (hq : q.1 < q.2 ∧ q.2 ≤ s.size) : BAt W W.heap.size (some ⟨b, o + q.1, none⟩) (spanOf s q) ∧ (spanOf s q).length = q.2 - q.1 := by
  have e : spanOf s q = (s.data.toList.drop q.1).take (q.2 - q.1) := by unfold spanOf; rw [Lib.extract_data]
  have hl : (spanOf s q).length = q.2 - q.1 := by rw [e, List.length_take, List.length_drop, ← Lib.size_eq]; omega
  refine ⟨fun _ => ⟨b, o + q.1, rfl, hb, fun i hi => ?_⟩, hl⟩
  have hi' : q.1 + i < s.size := by omega
  rw [Nat.add_assoc, h (q.1 + i) hi', get!_toList s (q.1 + i) (by rw [← Lib.size_eq]; exact hi')]
  simp only [e, List.getElem_take, List.getElem_drop]
end Go.Proofs.YtdlhjnihmkbagaaDoor
