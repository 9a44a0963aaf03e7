/- Words for a row whose elements are written over one by one. Conditions: none. -/
import Derived.Test.YtdlhjnihmkbagaaDoorRow2
namespace Go.Proofs.YtdlhjnihmkbagaaDoor
open Go.RowKit
set_option linter.unusedVariables false

def MarkedIs (w : World) (base : Nat) (e : TypeId) (v : Value) (xs : List Value) (M : Nat → Value) (k0 k : Nat) (wr : World) : Prop :=
  Own wr base e v (((List.range k).map fun i => M (k0 + i)) ++ xs.drop k) ∧ w.grownBy wr v.ownBlock
theorem MarkedIs.zero {w : World} {base : Nat} {e : TypeId} {v : Value} {xs : List Value} {M : Nat → Value} {k0 : Nat} (h : Own w base e v xs) : MarkedIs w base e v xs M k0 0 w := ⟨h, World.grownBy.refl w _⟩
theorem marked_len {xs : List Value} {M : Nat → Value} {k0 k : Nat} (hk : k ≤ xs.length) : (((List.range k).map fun i => M (k0 + i)) ++ xs.drop k).length = xs.length := by simp; omega
theorem marked_step {xs : List Value} {M : Nat → Value} {k0 k : Nat} (hk : k < xs.length) : (((List.range k).map fun i => M (k0 + i)) ++ xs.drop k).set k (M (k0 + k)) = ((List.range (k + 1)).map fun i => M (k0 + i)) ++ xs.drop (k + 1) := by
  rw [set_at _ _ _ _ (by simp) hk, List.range_succ, List.map_append]; rfl
theorem MarkedIs.at_ {w : World} {base : Nat} {e : TypeId} {A : Option Addr} {n c : Nat} {xs : List Value} {M : Nat → Value} {k0 k : Nat} {wr : World} (h : MarkedIs w base e (.slice A n c) xs M k0 k wr) (hk : k < xs.length) :
    ∃ g old, A = some ⟨g, 0, none⟩ ∧ base ≤ g ∧ wr.cell? ⟨g, k, none⟩ = some old ∧ wr.frozen? ⟨g, k, none⟩ = false := by
  obtain ⟨g, rfl, hb, hc, hf, _⟩ := own_at h.1 (k := k) (by rw [marked_len (by omega)]; exact hk)
  exact ⟨g, _, rfl, hb, hc, hf⟩
/-- the next mark is written into a world that is as this one below, or this one itself -/
theorem MarkedIs.next {w : World} {base g : Nat} {e : TypeId} {n c : Nat} {xs : List Value} {M : Nat → Value} {k0 k : Nat} {wr w1 : World} (h : MarkedIs w base e (.slice (some ⟨g, 0, none⟩) n c) xs M k0 k wr) (hk : k < xs.length) (hb : Below wr.heap.size wr w1) :
    MarkedIs w base e (.slice (some ⟨g, 0, none⟩) n c) xs M k0 (k + 1) (w1.setCell ⟨g, k, none⟩ (M (k0 + k))) := by
  have h1 := h.1.below hb
  obtain ⟨g', hg, _, _, _, hu⟩ := own_at h1 (k := k) (by rw [marked_len (by omega)]; exact hk)
  injection hg with hg
  injection hg with hg
  subst hg
  obtain ⟨ho, hgr⟩ := hu (M (k0 + k))
  rw [marked_step hk] at ho
  refine ⟨ho, (h.2.trans ?_).trans hgr⟩
  exact ⟨hb.os, hb.tape, hb.output, hb.size, fun i hi _ => hb.block i hi⟩

theorem own_grown {w w' : World} {base base' : Nat} {e : TypeId} {v : Value} {xs : List Value} {row : Option Nat} (h : Own w base e v xs) (hg : w.grownBy w' row) (hne : ∀ g, row = some g → w.heap.size ≤ g ∨ g < base ∨ base' ≤ g) (hb : ∀ g, v.ownBlock = some g → g < base') : Own w' base e v xs := by
  refine World.ownsRow.kept h hg ?_
  cases hv : v.ownBlock with
  | none => exact .inl rfl
  | some g =>
    refine .inr (fun e => ?_)
    have h1 := World.ownsRow.lt h g hv
    have h2 := hb g hv
    rcases hne g e.symm with h3 | h3 | h3 <;> omega
theorem below_drewN' {B : Nat} {a w : World} (h : Below B a w) (n : Nat) : Below B a (w.drewN n) := ⟨h.os, h.tape, h.output, h.size, h.block⟩
theorem own_drewN {w : World} {base : Nat} {e : TypeId} {v : Value} {xs : List Value} (h : Own w base e v xs) (k : Nat) : Own (w.drewN k) base e v xs := h
theorem RowAt.grown {w w' : World} {lo hi : Nat} {A : Option Addr} {xs : List Value} {row : Option Nat} (h : RowAt w lo hi A xs) (hg : w.grownBy w' row) (hne : ∀ g, row = some g → g < lo ∨ hi ≤ g) (hh : hi ≤ w.heap.size) : RowAt w' lo hi A xs := fun hn => by
  obtain ⟨b, o, rfl, h1, hlt, hc⟩ := h hn
  have hb : w'.heap[b]? = w.heap[b]? := hg.block b (by omega) (fun e => by have := hne b e.symm; omega)
  exact ⟨b, o, rfl, h1, hlt, fun i hi => (World.cell?_of_block hb).trans (hc i hi)⟩
end Go.Proofs.YtdlhjnihmkbagaaDoor
