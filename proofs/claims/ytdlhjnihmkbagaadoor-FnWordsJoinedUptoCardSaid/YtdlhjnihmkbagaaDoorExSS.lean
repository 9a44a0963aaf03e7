/- Rows of rows within blocks: kept, marked, held. Conditions: the reach of the rows. -/
import Derived.Test.YtdlhjnihmkbagaaDoorExRows
import Derived.Test.YtdlhjnihmkbagaaDoorWordsPlain
import Derived.Test.YtdlhjnihmkbagaaDoorFrameT
namespace Go.Proofs.YtdlhjnihmkbagaaDoor
open Go.RowKit
set_option linter.unusedVariables false

/-- a row of rows, all of it within blocks base .. hi -/
def SS (w : World) (base hi : Nat) (v : Value) (L : List (List Value)) : Prop :=
  ∃ vs, Own w base 22 v vs ∧ Rows w base v.ownBlock vs L ∧ (∀ g, v.ownBlock = some g → g < hi) ∧ ∀ (i : Nat) (u : Value) g, vs[i]? = some u → u.ownBlock = some g → g < hi
theorem SS.of {w : World} {base : Nat} {v : Value} {vs : List Value} {L : List (List Value)} (h1 : Own w base 22 v vs) (h2 : Rows w base v.ownBlock vs L) : SS w base w.heap.size v L :=
  ⟨vs, h1, h2, fun g hg => (World.ownsRow.lt h1 g hg).2, fun i u g hu hg => (h2.lt hu hg).2.1⟩
theorem SS.keep {w w' : World} {base hi : Nat} {v : Value} {L : List (List Value)} (h : SS w base hi v L) (hk : ∀ g, base ≤ g → g < hi → w'.heap[g]? = w.heap[g]?) : SS w' base hi v L := by
  obtain ⟨vs, h1, h2, h3, h4⟩ := h
  exact ⟨vs, own_block h1 fun g hg => hk g (World.ownsRow.lt h1 g hg).1 (h3 g hg), h2.block fun i u g hu hg => hk g (h2.lt hu hg).1 (h4 i u g hu hg), h3, h4⟩
theorem SS.below {w w' : World} {base hi B : Nat} {v : Value} {L : List (List Value)} (h : SS w base hi v L) (hb : Below B w w') (hB : hi ≤ B) : SS w' base hi v L := h.keep fun g _ hg => hb.block g (by omega)
theorem SS.grown {w w' : World} {base hi : Nat} {v : Value} {L : List (List Value)} {row : Option Nat} (h : SS w base hi v L) (hg : w.grownBy w' row) (hh : hi ≤ w.heap.size) (hne : ∀ g, row = some g → g < base ∨ hi ≤ g) : SS w' base hi v L :=
  h.keep fun g h1 h2 => hg.block g (by omega) fun e => by have := hne g e.symm; omega
theorem SS.drewN {w : World} {base hi : Nat} {v : Value} {L : List (List Value)} (h : SS w base hi v L) (k : Nat) : SS (w.drewN k) base hi v L := h
theorem SS.rowsV {w : World} {base hi : Nat} {v : Value} {L : List (List Value)} (h : SS w base hi v L) : RowsV w v L := by
  obtain ⟨vs, h1, h2, _⟩ := h
  exact h2.rowsV h1
theorem markSS_1 (v : Value) (L : List (List Value)) (n base hi : Nat) (w : World) (h : SS w base hi v L) (hl : tot L = n) (hn : n + 1 ≤ 1099511627776) (hbase : base ≤ w.heap.size) :
    Calls Tryd.prog 15 #[v, .int .i64 1] w fun e w' => e = .returned (.int .i64 ((n + 1 : Nat) : Int)) ∧ SS w' base hi v (tmsR 1 L) ∧ Below base w w' := by
  subst hl
  obtain ⟨vs, h1, h2, h3, h4⟩ := h
  have h := markStringSS_any v vs L 1 base w h1 h2 (by omega) (by omega) hbase
  rw [Nat.add_comm] at h
  exact h.mono fun e w' ⟨a, b, c, d⟩ => ⟨a, ⟨vs, b, c, h3, h4⟩, d⟩
theorem heldSS_1 (v : Value) (L : List (List Value)) (n : Nat) (w : World) (h : RowsV w v (tmsR 1 L)) (hl : tot L = n) (hn : n + 1 ≤ 1099511627776) (hnl : L.length ≤ 140737488355328) :
    Calls Tryd.prog 16 #[v, .int .i64 1] w fun e w' => e = .returned (.int .i64 ((n + 1 : Nat) : Int)) ∧ Below w.heap.size w w' := by
  subst hl
  have h := heldStringSS_any v L 1 w h (by omega) (by omega) hnl
  rw [Nat.add_comm] at h
  exact h
theorem le_drewN {a : Nat} {w : World} (h : a ≤ w.heap.size) (k : Nat) : a ≤ (w.drewN k).heap.size := h
/-- how many words there are in all -/
theorem tot_words (L : List (List UInt8)) : tot ((L.map wordsOf).map texts) ≤ bulkT L := by
  unfold tot bulkT
  rw [List.map_map, List.map_map]
  induction L with
  | nil => simp
  | cons x r ih =>
    have := wordsOf_len x
    simp only [List.map_cons, List.sum_cons, Function.comp, texts_length] at ih ⊢
    omega
end Go.Proofs.YtdlhjnihmkbagaaDoor
