/- Words for rows of a call's own: one element more; kept while other memory turns; read and written. Conditions: none. -/
import Derived.Test.YtdlhjnihmkbagaaDoorMem
import Derived.Maps.AppendAt
namespace Go.Proofs.YtdlhjnihmkbagaaDoor
open Go.RowKit

/-- a row of the call's own, from block base on; elements of one cell -/
def Own (w : World) (base : Nat) (e : TypeId) (v : Value) (xs : List Value) : Prop := w.ownsRow base e 1 v xs.length xs

theorem Own.below {w w' : World} {base : Nat} {e : TypeId} {v : Value} {xs : List Value} (h : Own w base e v xs) (hb : Below w.heap.size w w') : Own w' base e v xs :=
  World.ownsRow.kept (row := none) h ⟨hb.os, hb.tape, hb.output, hb.size, fun i hi _ => hb.block i hi⟩ (by cases v.ownBlock <;> simp)
theorem Own.alloc {w : World} {base : Nat} {e : TypeId} {v : Value} {xs : List Value} (h : Own w base e v xs) (o : Obj) : Own (w.alloc o) base e v xs := World.ownsRow.alloc h o
theorem Own.le {w : World} {base base' : Nat} {e : TypeId} {v : Value} {xs : List Value} (h : Own w base e v xs) (hb : base' ≤ base) : Own w base' e v xs := by
  refine ⟨h.1, ?_⟩
  rcases h.2 with h2 | ⟨g, cap, cur, hv, hg, r⟩
  · exact .inl h2
  · exact .inr ⟨g, cap, cur, hv, by omega, r⟩
theorem Own.empty (w : World) (base : Nat) (e : TypeId) (cs : Array Value) (hc : cs.size = 0) (hb : base ≤ w.heap.size) : Own (w.alloc (.cells cs e)) base e (.slice (some ⟨w.heap.size, 0, none⟩) 0 0) [] :=
  World.ownsRow_made w cs 0 hb (Nat.zero_le _) (by rw [hc, Nat.zero_mul])
theorem Own.none (w : World) (base : Nat) (e : TypeId) : Own w base e (.slice none 0 0) [] := World.ownsRow_nil w base e 1

/-- the value is a slice; its cells read -/
theorem Own.form {w : World} {base : Nat} {e : TypeId} {v : Value} {xs : List Value} (h : Own w base e v xs) : ∃ A c, v = .slice A xs.length c ∧ xs.length ≤ c ∧ xs.length ≤ maxLen := by
  rcases h.2 with ⟨rfl, h0⟩ | ⟨g, cap, cur, rfl, _, _, hc, hm, _, _⟩
  · exact ⟨.none, 0, by rw [h0], by omega, by omega⟩
  · exact ⟨_, cap, rfl, hc, by omega⟩

/-- where the elements of a slice lie: cell by cell, below block B -/
def RowAt (w : World) (lo hi : Nat) (A : Option Addr) (xs : List Value) : Prop :=
  xs ≠ [] → ∃ b o, A = some ⟨b, o, Option.none⟩ ∧ lo ≤ b ∧ b < hi ∧ ∀ i (h : i < xs.length), w.cell? ⟨b, o + i, Option.none⟩ = some xs[i]
theorem RowAt.below {w w' : World} {lo hi : Nat} {A : Option Addr} {xs : List Value} (h : RowAt w lo hi A xs) (hb : Below hi w w') : RowAt w' lo hi A xs := fun hn => by
  obtain ⟨b, o, rfl, h1, hlt, hc⟩ := h hn
  exact ⟨b, o, rfl, h1, hlt, fun i hi => (hb.cell (p := ⟨b, o + i, Option.none⟩) hlt).trans (hc i hi)⟩
theorem RowAt.more {w : World} {lo hi lo' hi' : Nat} {A : Option Addr} {xs : List Value} (h : RowAt w lo hi A xs) (hl : lo' ≤ lo) (hh : hi ≤ hi') : RowAt w lo' hi' A xs := fun hn => by
  obtain ⟨b, o, rfl, h1, hlt, hc⟩ := h hn
  exact ⟨b, o, rfl, by omega, by omega, hc⟩
theorem RowAt.at_ {w : World} {lo hi : Nat} {A : Option Addr} {xs : List Value} (h : RowAt w lo hi A xs) {i : Nat} (hi' : i < xs.length) : ∃ b o, A = some ⟨b, o, Option.none⟩ ∧ lo ≤ b ∧ b < hi ∧ w.cell? ⟨b, o + i, Option.none⟩ = some xs[i] := by
  obtain ⟨b, o, rfl, h1, h2, hc⟩ := h (by rintro rfl; simp at hi')
  exact ⟨b, o, rfl, h1, h2, hc i hi'⟩
theorem Own.row {w : World} {base : Nat} {e : TypeId} {A : Option Addr} {n c : Nat} {xs : List Value} (h : Own w base e (.slice A n c) xs) : RowAt w base w.heap.size A xs := fun hn => by
  have hlen : 0 < xs.length := List.length_pos_iff.2 hn
  have h' := h
  rcases h.2 with ⟨hv, h0⟩ | ⟨g, cap, cur, hv, hb, hg, hc, hm, hs, ht⟩
  · omega
  · simp only [Value.slice.injEq] at hv
    obtain ⟨rfl, rfl, rfl⟩ := hv
    have hlt : g < w.heap.size := (World.ownsRow.lt h g rfl).2
    refine ⟨g, 0, rfl, hb, hlt, fun i hi => ?_⟩
    rw [Nat.zero_add, World.ownsRow.cellAt (w := w) h' i (by omega), List.getElem?_eq_getElem hi]

/-- append of one new element onto a row of the call's own -/
theorem wpList_push {P : Program} {ops : Array Oper} {rest : List Oper} {o : Oper} {a : Act} {Q : Exit → Act → World → Prop} (W : World) (hgd : o.guard = Option.none) (s x : Operand) (t : TypeId)
    (ho : o.op = .call { callee := .builtin .append, args := #[s, x], argTypes := #[t, t] }) (base : Nat) (e : TypeId) (z : Value) (bytes : Nat) (ht : P.underlying t = some (.slice e))
    (hinf : (P.info? e).map (fun i => (i.zero, i.size, i.bytes)) = some (some z, 1, bytes)) (hzs : z.cells.size = 1)
    (v : Value) (xs : List Value) (u : Value) (g : Nat) (hs : a.eval s = v) (hx : a.eval x = .slice (some ⟨g, 0, Option.none⟩) 1 1) (hg : g = W.heap.size) (hown : Own W base e v xs) (h1 : u.oneCell' = true)
    (hbytes : (xs.length + 1) * bytes ≤ 140737488355328) (hby : 0 < bytes) (hbase : base ≤ W.heap.size)
    (h : ∀ v' w', Own w' base e v' (xs ++ [u]) → Below base W w' → W.grownBy w' v.ownBlock → (v'.ownBlock = v.ownBlock ∨ ∃ g, v'.ownBlock = some g ∧ W.heap.size ≤ g) → wpList P ops Q rest (a.put o.dst v') w') :
    wpList P ops Q (o :: rest) a (W.alloc (.cells #[u] e)) := by
  subst hg
  obtain ⟨i, hi, hz0, hz1, hz2⟩ := info_parts hinf
  have hlen : xs.length + 1 ≤ maxLen := by
    have : (xs.length + 1) * 1 ≤ (xs.length + 1) * bytes := Nat.mul_le_mul_left _ hby
    unfold maxLen; omega
  refine wpList_plain hgd fun K hK => ?_
  have hcells := cell_one_new W u e
  obtain ⟨v', w', hrun, h2, h3, _, h5⟩ := run_append_own_at (P := P) (W.alloc (.cells #[u] e)) base t o.type e i z 1 bytes ht hi hz0 hz1 hz2 hzs (by omega) v xs.length xs (World.ownsRow.alloc hown _) ⟨W.heap.size, 0, Option.none⟩ 1 1 [u] (by simp) hcells (by simpa using h1) hlen hbytes (by simp; omega)
  unfold Oper.wp execOp
  simp only [ho, resolve, invoke, builtin, Sem.run_bind, Sem.run_pure, Result.andThen_ok, List.map_toArray, List.map_cons, List.map_nil, hs, hx, hrun]
  have hgr : W.grownBy w' v.ownBlock := (World.grownBy_alloc W _ _).trans h3
  refine hK _ _ (h v' w' ?_ ?_ hgr ?_)
  · unfold Own
    rw [List.length_append]
    exact h2
  · exact (Below.refl base W).grown hgr hbase (fun k hk => (World.ownsRow.lt hown k hk).1)
  · rcases h5 with h5 | h5
    · exact .inl h5
    · exact .inr ⟨_, h5, by simp⟩
end Go.Proofs.YtdlhjnihmkbagaaDoor
