/- Words for rows of pairs of a call's own: one pair more; kept while other rows grow; read. Conditions: none. -/
import Derived.Test.YtdlhjnihmkbagaaDoorRow2
namespace Go.Proofs.YtdlhjnihmkbagaaDoor
open Go.RowKit

def cells2 (xs : List (Value × Value)) : List Value := xs.flatMap fun m => [m.1, m.2]
theorem cells2_length (ms : List (Value × Value)) : (cells2 ms).length = ms.length * 2 := by
  induction ms with
  | nil => rfl
  | cons m ms ih => simp only [cells2, List.flatMap_cons, List.length_append, List.length_cons, List.length_nil] at ih ⊢; omega
theorem cells2_append (a b : List (Value × Value)) : cells2 (a ++ b) = cells2 a ++ cells2 b := by simp [cells2]
theorem cells2_get (ms : List (Value × Value)) : ∀ i (h : i < ms.length), (cells2 ms)[i * 2]? = some ms[i].1 ∧ (cells2 ms)[i * 2 + 1]? = some ms[i].2 := by
  induction ms with
  | nil => intro i h; simp at h
  | cons m ms ih =>
    intro i h
    cases i with
    | zero => simp [cells2]
    | succ i =>
      have := ih i (by simpa using h)
      simp only [cells2, List.flatMap_cons, List.getElem_cons_succ] at this ⊢
      rw [show (i + 1) * 2 = i * 2 + 2 by omega]
      simpa using this

/-- where pairs lie -/
def PAt (w : World) (lo hi : Nat) (A : Option Addr) (ms : List (Value × Value)) : Prop :=
  ms ≠ [] → ∃ b o, A = some ⟨b, o, none⟩ ∧ lo ≤ b ∧ b < hi ∧ ∀ i (h : i < ms.length), w.cell? ⟨b, o + i * 2, none⟩ = some ms[i].1 ∧ w.cell? ⟨b, o + i * 2 + 1, none⟩ = some ms[i].2
theorem PAt.below {w w' : World} {lo hi : Nat} {A : Option Addr} {ms : List (Value × Value)} (h : PAt w lo hi A ms) (hb : Below hi w w') : PAt w' lo hi A ms := fun hn => by
  obtain ⟨b, o, rfl, h1, hlt, hc⟩ := h hn
  exact ⟨b, o, rfl, h1, hlt, fun i hi => ⟨(hb.cell (p := ⟨b, o + i * 2, none⟩) hlt).trans (hc i hi).1, (hb.cell (p := ⟨b, o + i * 2 + 1, none⟩) hlt).trans (hc i hi).2⟩⟩
theorem PAt.more {w : World} {lo hi lo' hi' : Nat} {A : Option Addr} {ms : List (Value × Value)} (h : PAt w lo hi A ms) (hl : lo' ≤ lo) (hh : hi ≤ hi') : PAt w lo' hi' A ms := fun hn => by
  obtain ⟨b, o, rfl, h1, hlt, hc⟩ := h hn
  exact ⟨b, o, rfl, by omega, by omega, hc⟩
theorem PAt.at_ {w : World} {lo hi : Nat} {A : Option Addr} {ms : List (Value × Value)} (h : PAt w lo hi A ms) {i : Nat} (hi' : i < ms.length) : ∃ b o, A = some ⟨b, o, none⟩ ∧ lo ≤ b ∧ b < hi ∧ w.cell? ⟨b, o + i * 2, none⟩ = some ms[i].1 ∧ w.cell? ⟨b, o + i * 2 + 1, none⟩ = some ms[i].2 := by
  obtain ⟨b, o, rfl, h1, h2, hc⟩ := h (by rintro rfl; simp at hi')
  exact ⟨b, o, rfl, h1, h2, hc i hi'⟩

theorem PAt.grown {w w' : World} {lo hi : Nat} {A : Option Addr} {ms : List (Value × Value)} {row : Option Nat} (h : PAt w lo hi A ms) (hg : w.grownBy w' row) (hne : ∀ g, row = some g → g < lo ∨ hi ≤ g) (hh : hi ≤ w.heap.size) : PAt w' lo hi A ms := fun hn => by
  obtain ⟨b, o, rfl, h1, hlt, hc⟩ := h hn
  have hb : w'.heap[b]? = w.heap[b]? := hg.block b (by omega) (fun e => by have := hne b e.symm; omega)
  exact ⟨b, o, rfl, h1, hlt, fun i hi => ⟨(World.cell?_of_block hb).trans (hc i hi).1, (World.cell?_of_block hb).trans (hc i hi).2⟩⟩
def OwnP (w : World) (base : Nat) (e : TypeId) (v : Value) (ms : List (Value × Value)) : Prop := w.ownsRow base e 2 v ms.length (cells2 ms)
theorem OwnP.below {w w' : World} {base : Nat} {e : TypeId} {v : Value} {ms : List (Value × Value)} (h : OwnP w base e v ms) (hb : Below w.heap.size w w') : OwnP w' base e v ms :=
  World.ownsRow.kept (row := none) h ⟨hb.os, hb.tape, hb.output, hb.size, fun i hi _ => hb.block i hi⟩ (by cases v.ownBlock <;> simp)
theorem OwnP.grown {w w' : World} {base : Nat} {e : TypeId} {v : Value} {ms : List (Value × Value)} {row : Option Nat} (h : OwnP w base e v ms) (hg : w.grownBy w' row) (hne : v.ownBlock = none ∨ v.ownBlock ≠ row) : OwnP w' base e v ms := World.ownsRow.kept h hg hne
theorem OwnP.alloc {w : World} {base : Nat} {e : TypeId} {v : Value} {ms : List (Value × Value)} (h : OwnP w base e v ms) (o : Obj) : OwnP (w.alloc o) base e v ms := World.ownsRow.alloc h o
theorem OwnP.form {w : World} {base : Nat} {e : TypeId} {v : Value} {ms : List (Value × Value)} (h : OwnP w base e v ms) : ∃ A c, v = .slice A ms.length c ∧ ms.length ≤ c := by
  rcases h.2 with ⟨rfl, h0⟩ | ⟨g, cap, cur, rfl, _, _, hc, hm, _, _⟩
  · exact ⟨none, 0, by rw [h0], by omega⟩
  · exact ⟨_, cap, rfl, hc⟩
theorem OwnP.pat {w : World} {base : Nat} {e : TypeId} {A : Option Addr} {n c : Nat} {ms : List (Value × Value)} (h : OwnP w base e (.slice A n c) ms) : PAt w base w.heap.size A ms := fun hn => by
  have hlen : 0 < ms.length := List.length_pos_iff.2 hn
  have h' := h
  rcases h.2 with ⟨hv, h0⟩ | ⟨g, cap, cur, hv, hb, hg, hc, hm, hs, ht⟩
  · omega
  · simp only [Value.slice.injEq] at hv
    obtain ⟨rfl, rfl, rfl⟩ := hv
    have hlt : g < w.heap.size := (World.ownsRow.lt h g rfl).2
    refine ⟨g, 0, rfl, hb, hlt, fun i hi => ?_⟩
    have hi2 := cells2_get ms i hi
    rw [Nat.zero_add]
    exact ⟨by rw [World.ownsRow.cellAt (w := w) h' (i * 2) (by omega), hi2.1], by rw [World.ownsRow.cellAt (w := w) h' (i * 2 + 1) (by omega), hi2.2]⟩
theorem OwnP.empty (w : World) (base : Nat) (e : TypeId) (cs : Array Value) (hc : cs.size = 0) (hb : base ≤ w.heap.size) : OwnP (w.alloc (.cells cs e)) base e (.slice (some ⟨w.heap.size, 0, none⟩) 0 0) [] :=
  World.ownsRow_made w cs 0 hb (Nat.zero_le _) (by rw [hc, Nat.zero_mul])

theorem wpList_pushP {P : Program} {ops : Array Oper} {rest : List Oper} {o : Oper} {a : Act} {Q : Exit → Act → World → Prop} (W : World) (hw : Region.wanted o (yielded ops a.tmps) = true) (s x : Operand) (t : TypeId)
    (ho : o.op = .call { callee := .builtin .append, args := #[s, x], argTypes := #[t, t] }) (base : Nat) (e : TypeId) (z : Value) (bytes : Nat) (ht : P.underlying t = some (.slice e))
    (hinf : (P.info? e).map (fun i => (i.zero, i.size, i.bytes)) = some (some z, 2, bytes)) (hzs : z.cells.size = 2) (hby : 0 < bytes)
    (v : Value) (ms : List (Value × Value)) (m1 m2 : Value) (h1 : m1.oneCell' = true) (h2 : m2.oneCell' = true) (g : Nat) (hs : a.eval s = v) (hx : a.eval x = .slice (some ⟨g, 0, none⟩) 1 1) (hg : g = W.heap.size) (hown : OwnP W base e v ms) (hbytes : (ms.length + 1) * bytes ≤ 140737488355328) (hbase : base ≤ W.heap.size)
    (h : ∀ v' w', OwnP w' base e v' (ms ++ [(m1, m2)]) → Below base W w' → W.grownBy w' v.ownBlock → (v'.ownBlock = v.ownBlock ∨ v'.ownBlock = some (W.heap.size + 1)) → wpList P ops Q rest (a.put o.dst v') w') :
    wpList P ops Q (o :: rest) a (W.alloc (.cells #[m1, m2] e)) := by
  subst hg
  obtain ⟨i, hi', hz0, hz1, hz2⟩ := info_parts hinf
  have hcells : ∀ j u, (cells2 [(m1, m2)])[j]? = some u → (W.alloc (.cells #[m1, m2] e)).cell? ((⟨W.heap.size, 0, none⟩ : Addr).add j) = some u := by
    intro j u hu
    rw [Go.WideShapes.add_plain, Nat.zero_add]
    match j, hu with
    | 0, hu => simp [cells2] at hu; subst hu; simp [World.cell?, World.alloc, -World.alloc_eq]
    | 1, hu => simp [cells2] at hu; subst hu; simp [World.cell?, World.alloc, -World.alloc_eq]
    | j + 2, hu => simp [cells2] at hu
  have hone : ∀ u ∈ cells2 [(m1, m2)], u.oneCell' = true := by
    intro u hu
    simp only [cells2, List.flatMap_cons, List.flatMap_nil, List.append_nil, List.mem_cons, List.not_mem_nil, or_false] at hu
    rcases hu with rfl | rfl
    · exact h1
    · exact h2
  have hlen : ms.length + 1 ≤ maxLen := by
    have : (ms.length + 1) * 1 ≤ (ms.length + 1) * bytes := Nat.mul_le_mul_left _ hby
    unfold maxLen; omega
  obtain ⟨v', w', hrun, h3, h4, _, h5⟩ := run_append_own_at (P := P) (W.alloc (.cells #[m1, m2] e)) base t o.type e i z 2 bytes ht hi' hz0 hz1 hz2 hzs (by omega) v ms.length (cells2 ms) (World.ownsRow.alloc hown _) ⟨W.heap.size, 0, none⟩ 1 1 (cells2 [(m1, m2)]) (by simp [cells2]) hcells hone hlen hbytes (by simp; omega)
  have hgr : W.grownBy w' v.ownBlock := (World.grownBy_alloc W _ _).trans h4
  refine wpList_step fun K hK => ?_
  rw [if_pos hw]
  unfold Oper.wp execOp
  simp only [ho, resolve, invoke, builtin, Sem.run_bind, Sem.run_pure, Result.andThen_ok, List.map_toArray, List.map_cons, List.map_nil, hs, hx, hrun]
  refine hK _ _ (h v' w' ?_ ((Below.refl base W).grown hgr hbase (fun k hk => (World.ownsRow.lt hown k hk).1)) hgr ?_)
  · unfold OwnP
    rw [List.length_append, cells2_append]
    exact h3
  · rcases h5 with h5 | h5
    · exact .inl h5
    · exact .inr (by rw [h5]; simp)
end Go.Proofs.YtdlhjnihmkbagaaDoor
