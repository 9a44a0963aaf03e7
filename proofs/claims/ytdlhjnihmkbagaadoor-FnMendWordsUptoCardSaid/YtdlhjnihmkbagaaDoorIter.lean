/- Words for a range over a string: what is still to come, by pieces; one step; the end. Conditions: none. -/
import Derived.Test.YtdlhjnihmkbagaaDoorPcs3
import Derived.Test.YtdlhjnihmkbagaaDoorMem
import Derived.Lib.OthersKept
import Derived.Deep.LoopGhost
namespace Go.Proofs.YtdlhjnihmkbagaaDoor
open Go.RowKit

/-- block k is an iterator over s; the pieces P are still to come -/
def IterAt (w : World) (k : Nat) (s : ByteArray) (P : List Pc) : Prop :=
  ∃ pos, w.heap[k]? = some (.stringIter s pos) ∧ pcs (s.data.toList.drop pos) = P ∧ pos ≤ s.size

theorem IterAt.start (w : World) (s : ByteArray) : IterAt (w.iter s 0) w.heap.size s (pcsB s) := ⟨0, World.iter_heap w s 0, rfl, Nat.zero_le _⟩
theorem IterAt.lt {w : World} {k : Nat} {s : ByteArray} {P : List Pc} (h : IterAt w k s P) : k < w.heap.size := by
  obtain ⟨pos, hk, _⟩ := h
  exact (Array.getElem?_eq_some_iff.1 hk).1
theorem IterAt.below {w w' : World} {k B : Nat} {s : ByteArray} {P : List Pc} (h : IterAt w k s P) (hb : Below B w w') (hk : k < B) : IterAt w' k s P := by
  obtain ⟨pos, h1, h2, h3⟩ := h
  exact ⟨pos, (hb.block k hk).trans h1, h2, h3⟩
/-- one block alone has turned, and it is another one -/
theorem IterAt.grown {w w' : World} {k : Nat} {s : ByteArray} {P : List Pc} {row : Option Nat} (h : IterAt w k s P) (hg : w.grownBy w' row) (hne : some k ≠ row) : IterAt w' k s P := by
  have hk := h.lt
  obtain ⟨pos, h1, h2, h3⟩ := h
  exact ⟨pos, (hg.block k hk hne).trans h1, h2, h3⟩

theorem iter_next {Pr : Program} {w : World} {k : Nat} {s : ByteArray} {q : Pc} {P : List Pc} (h : IterAt w k s (q :: P)) :
    ∃ (pos : Nat) (W : World), (∀ ty, (Instr.next (.pointer (some ⟨k, 0, none⟩)) true ty).run Pr w = .ok (.tuple #[.bool true, .int .i64 pos, .int .i32 (q.1 : Int)]) W) ∧ IterAt W k s P ∧ (∀ B, B ≤ k → Below B w W) ∧ w.grownBy W (some k) ∧ s.data.toList.drop pos = flat (q :: P) ∧ pos < s.size := by
  obtain ⟨pos, h1, h2, h3⟩ := h
  have hne : s.data.toList.drop pos ≠ [] := by intro e; rw [e, pcs_nil] at h2; cases h2
  have hlt : pos < s.size := by
    rcases Nat.lt_or_ge pos s.size with h | h
    · exact h
    · exact absurd (List.drop_eq_nil_of_le (by rw [← Lib.size_eq]; exact h)) hne
  have hd := Lib.decodeL_drop s pos
  have hw := width_le _ hne
  rw [List.length_drop, ← Lib.size_eq, hd] at hw
  have h2' := h2
  rw [pcs_cons hne, hd] at h2
  injection h2 with e1 e2
  refine ⟨pos, w.iterAt k s (pos + (Utf8.decode s pos).2), fun ty => ?_, ⟨pos + (Utf8.decode s pos).2, Lib.iterAt_heap w k s pos _ h1, by rw [← List.drop_drop]; exact e2, by omega⟩, fun B hB => Lib.below_iterAt (Below.refl _ _) hB s _, ⟨rfl, rfl, rfl, by rw [Lib.iterAt_size]; exact Nat.le_refl _, fun i hi hn => Lib.iterAt_other w k i s _ (fun e => hn (by rw [e]))⟩, by rw [← h2', flat_pcs], hlt⟩
  rw [Lib.run_next_any_at w k s pos ty h1 hlt, ← e1]
theorem iter_end {Pr : Program} {w : World} {k : Nat} {s : ByteArray} (h : IterAt w k s []) :
    ∀ ty, (Instr.next (.pointer (some ⟨k, 0, none⟩)) true ty).run Pr w = .ok (.tuple #[.bool false]) w := by
  obtain ⟨pos, h1, h2, h3⟩ := h
  have hge : ¬ pos < s.size := by
    intro hlt
    have hne : s.data.toList.drop pos ≠ [] := by
      intro e
      have := congrArg List.length e
      rw [List.length_drop, ← Lib.size_eq] at this
      simp at this; omega
    rw [pcs_cons hne] at h2
    cases h2
  exact fun ty => Lib.run_next_end_at w k s pos ty h1 hge
end Go.Proofs.YtdlhjnihmkbagaaDoor
