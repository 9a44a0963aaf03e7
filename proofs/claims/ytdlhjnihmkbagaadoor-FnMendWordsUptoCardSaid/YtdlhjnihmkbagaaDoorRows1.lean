/- Words for rows of rows of texts: the inner rows lie apart from one another and from the outer one. Conditions: none. -/
import Derived.Test.YtdlhjnihmkbagaaDoorTexts
import Derived.Test.YtdlhjnihmkbagaaDoorMarked
namespace Go.Proofs.YtdlhjnihmkbagaaDoor
open Go.RowKit
set_option linter.unusedVariables false

theorem info_strings : (Tryd.prog.info? 22).map (fun i => (i.zero, i.size, i.bytes)) = some (some (.slice none 0 0), 1, 24) := by kernel_rfl

theorem own_block {w w' : World} {base : Nat} {e : TypeId} {v : Value} {xs : List Value} (h : Own w base e v xs) (hk : ∀ g, v.ownBlock = some g → w'.heap[g]? = w.heap[g]?) : Own w' base e v xs := by
  refine ⟨h.1, ?_⟩
  rcases h.2 with h0 | ⟨g, cap, cur, hv, hb, hg, r⟩
  · exact .inl h0
  · exact .inr ⟨g, cap, cur, hv, hb, (hk g (by rw [hv]; rfl)).trans hg, r⟩
/-- inner rows of a call's own; ob: the outer row's block -/
def Rows (w : World) (base : Nat) (ob : Option Nat) (vs : List Value) (L : List (List Value)) : Prop :=
  vs.length = L.length ∧ ∀ (i : Nat) (u : Value) (xs : List Value), vs[i]? = some u → L[i]? = some xs → Own w base 9 u xs ∧ ∀ g, u.ownBlock = some g → ob ≠ some g ∧ ∀ (j : Nat) (y : Value), j ≠ i → vs[j]? = some y → y.ownBlock ≠ some g
theorem Rows.nil (w : World) (base : Nat) (ob : Option Nat) : Rows w base ob [] [] := ⟨rfl, fun i u xs h => by simp at h⟩
theorem Rows.block {w w' : World} {base : Nat} {ob : Option Nat} {vs : List Value} {L : List (List Value)} (h : Rows w base ob vs L) (hk : ∀ (i : Nat) (u : Value) g, vs[i]? = some u → u.ownBlock = some g → w'.heap[g]? = w.heap[g]?) : Rows w' base ob vs L :=
  ⟨h.1, fun i u xs hu hx => ⟨own_block (h.2 i u xs hu hx).1 fun g hg => hk i u g hu hg, (h.2 i u xs hu hx).2⟩⟩
theorem Rows.lt {w : World} {base : Nat} {ob : Option Nat} {vs : List Value} {L : List (List Value)} (h : Rows w base ob vs L) {i : Nat} {u : Value} {g : Nat} (hu : vs[i]? = some u) (hg : u.ownBlock = some g) : base ≤ g ∧ g < w.heap.size ∧ ob ≠ some g := by
  have hi : i < L.length := by rw [← h.1]; exact (List.getElem?_eq_some_iff.1 hu).1
  obtain ⟨h1, h2⟩ := h.2 i u _ hu (List.getElem?_eq_getElem hi)
  have := World.ownsRow.lt h1 g hg
  exact ⟨this.1, this.2, (h2 g hg).1⟩
theorem Rows.below {w w' : World} {base : Nat} {ob : Option Nat} {vs : List Value} {L : List (List Value)} (h : Rows w base ob vs L) (hb : Below w.heap.size w w') : Rows w' base ob vs L :=
  h.block fun i u g hu hg => hb.block g (h.lt hu hg).2.1
theorem Rows.outer {w w' : World} {base : Nat} {ob : Option Nat} {vs : List Value} {L : List (List Value)} (h : Rows w base ob vs L) (hg : w.grownBy w' ob) : Rows w' base ob vs L :=
  h.block fun i u g hu hg' => hg.block g (h.lt hu hg').2.1 fun e => (h.lt hu hg').2.2 e.symm
theorem Rows.move {w : World} {base : Nat} {ob ob' : Option Nat} {vs : List Value} {L : List (List Value)} (h : Rows w base ob vs L) (hat : ob' = ob ∨ ∃ g, ob' = some g ∧ w.heap.size ≤ g) : Rows w base ob' vs L :=
  ⟨h.1, fun i u xs hu hx => ⟨(h.2 i u xs hu hx).1, fun g hg => ⟨by
    rcases hat with rfl | ⟨g', rfl, hg'⟩
    · exact ((h.2 i u xs hu hx).2 g hg).1
    · intro e
      injection e with e
      have := (h.lt hu hg).2.1
      omega, ((h.2 i u xs hu hx).2 g hg).2⟩⟩⟩
theorem Rows.snoc {w : World} {base : Nat} {ob : Option Nat} {vs : List Value} {L : List (List Value)} {u : Value} {xs : List Value} (h : Rows w base ob vs L) (hu : Own w base 9 u xs) (hne : ∀ g, u.ownBlock = some g → ob ≠ some g ∧ ∀ y ∈ vs, y.ownBlock ≠ some g) : Rows w base ob (vs ++ [u]) (L ++ [xs]) := by
  refine ⟨by simp [h.1], fun i y ys hy hl => ?_⟩
  rcases Nat.lt_or_ge i vs.length with hi | hi
  · rw [List.getElem?_append_left hi] at hy
    rw [List.getElem?_append_left (by rw [← h.1]; exact hi)] at hl
    obtain ⟨h1, h2⟩ := h.2 i y ys hy hl
    refine ⟨h1, fun g hg => ⟨(h2 g hg).1, fun j z hj hz => ?_⟩⟩
    rcases Nat.lt_or_ge j vs.length with hj' | hj'
    · rw [List.getElem?_append_left hj'] at hz
      exact (h2 g hg).2 j z hj hz
    · rw [List.getElem?_append_right hj', List.getElem?_singleton] at hz
      split at hz
      · injection hz with hz
        subst hz
        exact fun e => (hne g e).2 y (List.mem_iff_getElem?.2 ⟨i, hy⟩) hg
      · cases hz
  · rw [List.getElem?_append_right hi, List.getElem?_singleton] at hy
    rw [List.getElem?_append_right (by rw [← h.1]; exact hi), List.getElem?_singleton, ← h.1] at hl
    split at hy
    · rename_i hi0
      rw [if_pos hi0] at hl
      injection hy with hy; injection hl with hl
      subst hy; subst hl
      refine ⟨hu, fun g hg => ⟨(hne g hg).1, fun j z hj hz => ?_⟩⟩
      have hj' : j < vs.length := by
        have := (List.getElem?_eq_some_iff.1 hz).1
        rw [List.length_append, List.length_singleton] at this
        omega
      rw [List.getElem?_append_left hj'] at hz
      exact (hne g hg).2 z (List.mem_iff_getElem?.2 ⟨j, hz⟩)
    · cases hy
/-- one new row behind the others -/
theorem Rows.push {wr w1 w2 : World} {base : Nat} {v v' : Value} {vs : List Value} {L : List (List Value)} {u : Value} {xs : List Value} (h : Rows wr base v.ownBlock vs L) (ho : Own wr base 22 v vs) (hb : Below wr.heap.size wr w1) (hu : Own w1 wr.heap.size 9 u xs) (hbase : base ≤ wr.heap.size) (hg : w1.grownBy w2 v.ownBlock) (hat : v'.ownBlock = v.ownBlock ∨ ∃ g, v'.ownBlock = some g ∧ w1.heap.size ≤ g) :
    Rows w2 base v'.ownBlock (vs ++ [u]) (L ++ [xs]) := by
  have h1 : Rows w1 base v.ownBlock (vs ++ [u]) (L ++ [xs]) := (h.below hb).snoc (hu.le hbase) fun g hg => by
    have hge := (World.ownsRow.lt hu g hg).1
    refine ⟨fun e => ?_, fun y hy e => ?_⟩
    · have := (World.ownsRow.lt ho g e).2
      omega
    · obtain ⟨i, hi⟩ := List.mem_iff_getElem?.1 hy
      have := (h.lt hi e).2.1
      omega
  exact (h1.move hat).block fun i y g hy hg' => hg.block g (h1.lt hy hg').2.1 fun e => (h1.lt hy hg').2.2 e.symm
/-- one row has been written over -/
theorem Rows.mark {w w' : World} {base : Nat} {ob : Option Nat} {vs : List Value} {L : List (List Value)} (h : Rows w base ob vs L) {i : Nat} {u : Value} {xs ys : List Value} (hu : vs[i]? = some u) (hx : L[i]? = some xs) (hg : w.grownBy w' u.ownBlock) (ho : Own w' base 9 u ys) : Rows w' base ob vs (L.set i ys) := by
  refine ⟨by rw [List.length_set]; exact h.1, fun j z zs hz hl => ?_⟩
  by_cases hj : j = i
  · subst hj
    rw [hu] at hz
    injection hz with hz
    subst hz
    rw [List.getElem?_set_self (List.getElem?_eq_some_iff.1 hx).1] at hl
    injection hl with hl
    subst hl
    exact ⟨ho, (h.2 j u xs hu hx).2⟩
  · rw [List.getElem?_set_ne (fun e => hj e.symm)] at hl
    obtain ⟨h1, h2⟩ := h.2 j z zs hz hl
    refine ⟨own_block h1 fun g hg' => hg.block g (World.ownsRow.lt h1 g hg').2 fun e => ?_, h2⟩
    exact (h2 g hg').2 i u (fun e' => hj e'.symm) hu e.symm
theorem Rows.outerKept {w w' : World} {base : Nat} {v : Value} {vs : List Value} {L : List (List Value)} (h : Rows w base v.ownBlock vs L) (ho : Own w base 22 v vs) {i : Nat} {u : Value} (hu : vs[i]? = some u) (hg : w.grownBy w' u.ownBlock) : Own w' base 22 v vs :=
  own_block ho fun g hg' => hg.block g (World.ownsRow.lt ho g hg').2 fun e => (h.lt hu e.symm).2.2 hg'

/-- a value that is a slice of rows of these elements, wherever they lie -/
def RowsV (w : World) (v : Value) (L : List (List Value)) : Prop := ∃ vs, RowV w v vs ∧ vs.length = L.length ∧ ∀ (i : Nat) (u : Value) (xs : List Value), vs[i]? = some u → L[i]? = some xs → RowV w u xs
theorem RowsV.below {w w' : World} {v : Value} {L : List (List Value)} (h : RowsV w v L) (hb : Below w.heap.size w w') : RowsV w' v L := by
  obtain ⟨vs, h1, h2, h3⟩ := h
  exact ⟨vs, h1.below hb, h2, fun i u xs hu hx => (h3 i u xs hu hx).below hb⟩
theorem RowsV.drewN {w : World} {v : Value} {L : List (List Value)} (h : RowsV w v L) (k : Nat) : RowsV (w.drewN k) v L := h
theorem Rows.rowsV {w : World} {base base' : Nat} {v : Value} {vs : List Value} {ob : Option Nat} {L : List (List Value)} (ho : Own w base 22 v vs) (h : Rows w base' ob vs L) : RowsV w v L :=
  ⟨vs, ho.rowV, h.1, fun i u xs hu hx => (h.2 i u xs hu hx).1.rowV⟩
/-- the row's form; the i-th inner row -/
theorem RowsV.open_ {w : World} {v : Value} {L : List (List Value)} (h : RowsV w v L) : ∃ A c vs, v = .slice A L.length c ∧ L.length ≤ c ∧ RowAt w 0 w.heap.size A vs ∧ vs.length = L.length ∧ ∀ (i : Nat) (hi : i < vs.length) (hl : i < L.length), RowV w vs[i] L[i] := by
  obtain ⟨vs, ⟨A, c, rfl, h1, h2⟩, h3, h4⟩ := h
  exact ⟨A, c, vs, by rw [h3], by omega, h2, h3, fun i hi hl => h4 i _ _ (List.getElem?_eq_getElem hi) (List.getElem?_eq_getElem hl)⟩
/-- texts of texts in new memory -/
def RowsPost (L : List (List (List UInt8))) (w : World) (e : Ending) (w' : World) : Prop :=
  ∃ v vs, e = .returned v ∧ Own w' w.heap.size 22 v vs ∧ Rows w' w.heap.size v.ownBlock vs (L.map texts) ∧ Below w.heap.size w w'
end Go.Proofs.YtdlhjnihmkbagaaDoor
