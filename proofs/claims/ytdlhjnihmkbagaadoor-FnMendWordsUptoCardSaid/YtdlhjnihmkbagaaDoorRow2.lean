/- Words for rows of a call's own: a whole list appended, under a guard or not. Conditions: none. -/
import Derived.Test.YtdlhjnihmkbagaaDoorRow
namespace Go.Proofs.YtdlhjnihmkbagaaDoor
open Go.RowKit

theorem run_extend {P : Program} (W : World) (t ty e : TypeId) (base : Nat) (z : Value) (bytes : Nat) (ht : P.underlying t = some (.slice e)) (hinf : (P.info? e).map (fun i => (i.zero, i.size, i.bytes)) = some (some z, 1, bytes)) (hzs : z.cells.size = 1)
    (v : Value) (xs : List Value) (hown : Own W base e v xs) (lo hi : Nat) (A : Option Addr) (c : Nat) (ys : List Value) (hr : RowAt W lo hi A ys) (h1 : ∀ u ∈ ys, u.oneCell' = true)
    (hbytes : (xs.length + ys.length) * bytes ≤ 140737488355328) (hby : 0 < bytes) (hbase : base ≤ W.heap.size) :
    ∃ v' w', (Builtin.append_ #[t, t] ty #[v, .slice A ys.length c]).run P W = .ok v' w' ∧ Own w' base e v' (xs ++ ys) ∧ W.grownBy w' v.ownBlock ∧ (v'.ownBlock = v.ownBlock ∨ v'.ownBlock = some W.heap.size) := by
  obtain ⟨i, hi', hz0, hz1, hz2⟩ := info_parts hinf
  have hlen : xs.length + ys.length ≤ maxLen := by
    have : (xs.length + ys.length) * 1 ≤ (xs.length + ys.length) * bytes := Nat.mul_le_mul_left _ hby
    unfold maxLen; omega
  cases A with
  | none =>
    have hy : ys = [] := by
      by_cases hy : ys = []
      · exact hy
      · obtain ⟨b, o, hA, _⟩ := hr hy
        cases hA
    subst hy
    have hrun : (Builtin.append_ #[t, t] ty #[v, .slice none 0 c]).run P W = .ok v W := by
      rcases hown.2 with ⟨rfl, h0⟩ | ⟨g, cap, cur, rfl, _, _, hnc, _⟩
      · simp [Builtin.append_, run_underlying ht, sizeOf, typeInfo, hi', Builtin.lenOf, Builtin.firstCells]
      · simp [Builtin.append_, run_underlying ht, sizeOf, typeInfo, hi', Builtin.lenOf, Builtin.firstCells, hnc, storeCells]
    exact ⟨v, W, hrun, by rw [List.append_nil]; exact hown, World.grownBy.refl W _, .inl rfl⟩
  | some ad =>
    have hcells : ∀ j u, ys[j]? = some u → W.cell? (ad.add j) = some u := by
      intro j u hu
      obtain ⟨hj, hu'⟩ := List.getElem?_eq_some_iff.1 hu
      obtain ⟨b, o, hA, _, _, hc⟩ := hr (by rintro rfl; simp at hj)
      injection hA with hA
      subst hA
      rw [Go.WideShapes.add_plain, hc j hj, hu']
    obtain ⟨v', w', hrun, h2, h3, _, h5⟩ := run_append_own_at (P := P) W base t ty e i z 1 bytes ht hi' hz0 hz1 hz2 hzs (by omega) v xs.length xs hown ad ys.length c ys (by simp) hcells h1 hlen hbytes hbase
    exact ⟨v', w', hrun, by unfold Own; rw [List.length_append]; exact h2, h3, h5⟩

theorem wpList_extend {P : Program} {ops : Array Oper} {rest : List Oper} {o : Oper} {a : Act} {Q : Exit → Act → World → Prop} (W : World) (hw : Region.wanted o (yielded ops a.tmps) = true) (s x : Operand) (t : TypeId)
    (ho : o.op = .call { callee := .builtin .append, args := #[s, x], argTypes := #[t, t] }) (base : Nat) (e : TypeId) (z : Value) (bytes : Nat) (ht : P.underlying t = some (.slice e))
    (hinf : (P.info? e).map (fun i => (i.zero, i.size, i.bytes)) = some (some z, 1, bytes)) (hzs : z.cells.size = 1)
    (v : Value) (xs : List Value) (hs : a.eval s = v) (hown : Own W base e v xs) (lo hi : Nat) (A : Option Addr) (n c : Nat) (ys : List Value) (hx : a.eval x = .slice A n c) (hn : n = ys.length) (hr : RowAt W lo hi A ys) (h1 : ∀ u ∈ ys, u.oneCell' = true)
    (hbytes : (xs.length + ys.length) * bytes ≤ 140737488355328) (hby : 0 < bytes) (hbase : base ≤ W.heap.size)
    (h : ∀ v' w', Own w' base e v' (xs ++ ys) → Below base W w' → W.grownBy w' v.ownBlock → wpList P ops Q rest (a.put o.dst v') w') :
    wpList P ops Q (o :: rest) a W := by
  subst hn
  obtain ⟨v', w', hrun, h2, h3, _⟩ := run_extend W t o.type e base z bytes ht hinf hzs v xs hown lo hi A c ys hr h1 hbytes hby hbase
  refine wpList_step fun K hK => ?_
  rw [if_pos hw]
  unfold Oper.wp execOp
  simp only [ho, resolve, invoke, builtin, Sem.run_bind, Sem.run_pure, Result.andThen_ok, List.map_toArray, List.map_cons, List.map_nil, hs, hx, hrun]
  exact hK _ _ (h v' w' h2 ((Below.refl base W).grown h3 hbase (fun k hk => (World.ownsRow.lt hown k hk).1)) h3)

theorem bools_oneCell (xs : List Bool) : ∀ u ∈ xs.map Value.bool, u.oneCell' = true := by
  intro u hu
  obtain ⟨b, _, rfl⟩ := List.mem_map.1 hu
  rfl
theorem strings_oneCell (xs : List ByteArray) : ∀ u ∈ xs.map Value.string, u.oneCell' = true := by
  intro u hu
  obtain ⟨b, _, rfl⟩ := List.mem_map.1 hu
  rfl
theorem set_at {α : Type} (l ys : List α) (k : Nat) (u : α) (hl : l.length = k) (hk : k < ys.length) : (l ++ ys.drop k).set k u = (l ++ [u]) ++ ys.drop (k + 1) := by
  subst hl
  rw [List.set_append_right _ _ (Nat.le_refl _), Nat.sub_self, List.drop_eq_getElem_cons hk, List.set_cons_zero, List.append_assoc]
  rfl
theorem own_at {w : World} {base : Nat} {e : TypeId} {A : Option Addr} {n c : Nat} {ys : List Value} (h : Own w base e (.slice A n c) ys) {k : Nat} (hk : k < ys.length) :
    ∃ g, A = some ⟨g, 0, none⟩ ∧ base ≤ g ∧ w.cell? ⟨g, k, none⟩ = some ys[k] ∧ w.frozen? ⟨g, k, none⟩ = false ∧ ∀ u, Own (w.setCell ⟨g, k, none⟩ u) base e (.slice A n c) (ys.set k u) ∧ w.grownBy (w.setCell ⟨g, k, none⟩ u) (some g) := by
  have h' := h
  rcases h.2 with ⟨hv, h0⟩ | ⟨g, cap, cur, hv, hb, hg, hc, hm, hs, ht⟩
  · omega
  · simp only [Value.slice.injEq] at hv
    obtain ⟨rfl, rfl, rfl⟩ := hv
    refine ⟨g, rfl, hb, ?_, World.ownsRow.frozenAt (w := w) h' k, fun u => ?_⟩
    · rw [World.ownsRow.cellAt (w := w) h' k (by omega), List.getElem?_eq_getElem hk]
    · have := World.ownsRow.stored (w := w) h' k u
      refine ⟨?_, this.2⟩
      unfold Own
      rw [List.length_set]
      exact this.1

/-- a value that is a slice of these elements, wherever it lies -/
def RowV (w : World) (v : Value) (xs : List Value) : Prop := ∃ A c, v = .slice A xs.length c ∧ xs.length ≤ c ∧ RowAt w 0 w.heap.size A xs
theorem Own.rowV {w : World} {base : Nat} {e : TypeId} {v : Value} {xs : List Value} (h : Own w base e v xs) : RowV w v xs := by
  obtain ⟨A, c, rfl, hc, _⟩ := h.form
  exact ⟨A, c, rfl, hc, h.row.more (Nat.zero_le _) (Nat.le_refl _)⟩
theorem RowV.below {w w' : World} {v : Value} {xs : List Value} (h : RowV w v xs) (hb : Below w.heap.size w w') : RowV w' v xs := by
  obtain ⟨A, c, rfl, hc, h1⟩ := h
  exact ⟨A, c, rfl, hc, (h1.below hb).more (Nat.le_refl _) hb.size⟩
theorem RowV.drewN {w : World} {v : Value} {xs : List Value} (h : RowV w v xs) (k : Nat) : RowV (w.drewN k) v xs := h
end Go.Proofs.YtdlhjnihmkbagaaDoor
