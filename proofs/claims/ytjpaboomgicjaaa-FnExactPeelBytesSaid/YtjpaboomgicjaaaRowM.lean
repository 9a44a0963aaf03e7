/- Words for rows of marks of a call's own: one mark more; kept while other rows grow; read. Conditions: none. -/
import Derived.Test.YtjpaboomgicjaaaRow2
import Derived.Test.YtjpaboomgicjaaaPeel
namespace Go.Proofs.Ytjpaboomgicjaaa
open Go.RowKit

def mcells (ms : List Mb) : List Value := ms.flatMap fun m => [.bool m.1, .string m.2]
theorem mcells_length (ms : List Mb) : (mcells ms).length = ms.length * 2 := by
  induction ms with
  | nil => rfl
  | cons m ms ih => simp only [mcells, List.flatMap_cons, List.length_append, List.length_cons, List.length_nil] at ih ⊢; omega
theorem mcells_append (a b : List Mb) : mcells (a ++ b) = mcells a ++ mcells b := by simp [mcells]
theorem mcells_get (ms : List Mb) : ∀ i (h : i < ms.length), (mcells ms)[i * 2]? = some (.bool ms[i].1) ∧ (mcells ms)[i * 2 + 1]? = some (.string ms[i].2) := by
  induction ms with
  | nil => intro i h; simp at h
  | cons m ms ih =>
    intro i h
    cases i with
    | zero => simp [mcells]
    | succ i =>
      have := ih i (by simpa using h)
      simp only [mcells, List.flatMap_cons, List.getElem_cons_succ] at this ⊢
      rw [show (i + 1) * 2 = i * 2 + 2 by omega]
      simpa using this
theorem mcells_oneCell (ms : List Mb) : ∀ u ∈ mcells ms, u.oneCell' = true := by
  intro u hu
  obtain ⟨m, _, hm⟩ := List.mem_flatMap.1 hu
  simp only [List.mem_cons, List.not_mem_nil, or_false] at hm
  rcases hm with rfl | rfl <;> rfl

def OwnM (w : World) (base : Nat) (e : TypeId) (v : Value) (ms : List Mb) : Prop := w.ownsRow base e 2 v ms.length (mcells ms)
theorem OwnM.below {w w' : World} {base : Nat} {e : TypeId} {v : Value} {ms : List Mb} (h : OwnM w base e v ms) (hb : Below w.heap.size w w') : OwnM w' base e v ms :=
  World.ownsRow.kept (row := none) h ⟨hb.os, hb.tape, hb.output, hb.size, fun i hi _ => hb.block i hi⟩ (by cases v.ownBlock <;> simp)
theorem OwnM.form {w : World} {base : Nat} {e : TypeId} {v : Value} {ms : List Mb} (h : OwnM w base e v ms) : ∃ A c, v = .slice A ms.length c ∧ ms.length ≤ c := by
  rcases h.2 with ⟨rfl, h0⟩ | ⟨g, cap, cur, rfl, _, _, hc, hm, _, _⟩
  · exact ⟨none, 0, by rw [h0], by omega⟩
  · exact ⟨_, cap, rfl, hc⟩
theorem OwnM.mat {w : World} {base : Nat} {e : TypeId} {A : Option Addr} {n c : Nat} {ms : List Mb} (h : OwnM w base e (.slice A n c) ms) : MAt w base w.heap.size A ms := fun hn => by
  have hlen : 0 < ms.length := List.length_pos_iff.2 hn
  have h' := h
  rcases h.2 with ⟨hv, h0⟩ | ⟨g, cap, cur, hv, hb, hg, hc, hm, hs, ht⟩
  · omega
  · simp only [Value.slice.injEq] at hv
    obtain ⟨rfl, rfl, rfl⟩ := hv
    have hlt : g < w.heap.size := (World.ownsRow.lt h g rfl).2
    refine ⟨g, 0, rfl, hb, hlt, fun i hi => ?_⟩
    have hi2 := mcells_get ms i hi
    rw [Nat.zero_add]
    exact ⟨by rw [World.ownsRow.cellAt (w := w) h' (i * 2) (by omega), hi2.1], by rw [World.ownsRow.cellAt (w := w) h' (i * 2 + 1) (by omega), hi2.2]⟩
theorem OwnM.none_ (w : World) (base : Nat) (e : TypeId) : OwnM w base e (.slice none 0 0) [] := World.ownsRow_nil w base e 2
theorem OwnM.empty (w : World) (base : Nat) (e : TypeId) (cs : Array Value) (hc : cs.size = 0) (hb : base ≤ w.heap.size) : OwnM (w.alloc (.cells cs e)) base e (.slice (some ⟨w.heap.size, 0, none⟩) 0 0) [] :=
  World.ownsRow_made w cs 0 hb (Nat.zero_le _) (by rw [hc, Nat.zero_mul])

/-- append of one new mark -/
theorem run_pushM {P : Program} (W : World) (t ty e : TypeId) (base : Nat) (z : Value) (ht : P.underlying t = some (.slice e)) (hinf : (P.info? e).map (fun i => (i.zero, i.size, i.bytes)) = some (some z, 2, 24)) (hzs : z.cells.size = 2)
    (v : Value) (ms : List Mb) (m : Mb) (hown : OwnM W base e v ms) (hbytes : (ms.length + 1) * 24 ≤ 140737488355328) (hbase : base ≤ W.heap.size) :
    ∃ v' w', (Builtin.append_ #[t, t] ty #[v, .slice (some ⟨W.heap.size, 0, none⟩) 1 1]).run P (W.alloc (.cells #[.bool m.1, .string m.2] e)) = .ok v' w' ∧ OwnM w' base e v' (ms ++ [m]) ∧ W.grownBy w' v.ownBlock ∧ (v'.ownBlock = v.ownBlock ∨ v'.ownBlock = some (W.heap.size + 1)) := by
  obtain ⟨i, hi', hz0, hz1, hz2⟩ := info_parts hinf
  have hcells : ∀ j u, (mcells [m])[j]? = some u → (W.alloc (.cells #[.bool m.1, .string m.2] e)).cell? ((⟨W.heap.size, 0, none⟩ : Addr).add j) = some u := by
    intro j u hu
    rw [Go.WideShapes.add_plain, Nat.zero_add]
    match j, hu with
    | 0, hu => simp [mcells] at hu; subst hu; simp [World.cell?, World.alloc, -World.alloc_eq]
    | 1, hu => simp [mcells] at hu; subst hu; simp [World.cell?, World.alloc, -World.alloc_eq]
    | j + 2, hu => simp [mcells] at hu
  obtain ⟨v', w', hrun, h2, h3, _, h5⟩ := run_append_own_at (P := P) (W.alloc (.cells #[.bool m.1, .string m.2] e)) base t ty e i z 2 24 ht hi' hz0 hz1 hz2 hzs (by omega) v ms.length (mcells ms) (World.ownsRow.alloc hown _) ⟨W.heap.size, 0, none⟩ 1 1 (mcells [m]) (by simp [mcells]) hcells (mcells_oneCell [m]) (by unfold maxLen; omega) hbytes (by simp; omega)
  refine ⟨v', w', hrun, ?_, (World.grownBy_alloc W _ _).trans h3, ?_⟩
  · unfold OwnM
    rw [List.length_append, mcells_append]
    exact h2
  · rcases h5 with h5 | h5
    · exact .inl h5
    · exact .inr (by rw [h5]; simp)

theorem wpList_pushM {P : Program} {ops : Array Oper} {rest : List Oper} {o : Oper} {a : Act} {Q : Exit → Act → World → Prop} (W : World) (hw : Region.wanted o (yielded ops a.tmps) = true) (s x : Operand) (t : TypeId)
    (ho : o.op = .call { callee := .builtin .append, args := #[s, x], argTypes := #[t, t] }) (base : Nat) (e : TypeId) (z : Value) (ht : P.underlying t = some (.slice e))
    (hinf : (P.info? e).map (fun i => (i.zero, i.size, i.bytes)) = some (some z, 2, 24)) (hzs : z.cells.size = 2)
    (v : Value) (ms : List Mb) (m : Mb) (g : Nat) (hs : a.eval s = v) (hx : a.eval x = .slice (some ⟨g, 0, none⟩) 1 1) (hg : g = W.heap.size) (hown : OwnM W base e v ms) (hbytes : (ms.length + 1) * 24 ≤ 140737488355328) (hbase : base ≤ W.heap.size)
    (h : ∀ v' w', OwnM w' base e v' (ms ++ [m]) → Below base W w' → W.grownBy w' v.ownBlock → (v'.ownBlock = v.ownBlock ∨ v'.ownBlock = some (W.heap.size + 1)) → wpList P ops Q rest (a.put o.dst v') w') :
    wpList P ops Q (o :: rest) a (W.alloc (.cells #[.bool m.1, .string m.2] e)) := by
  subst hg
  obtain ⟨v', w', hrun, h2, h3, h5⟩ := run_pushM W t o.type e base z ht hinf hzs v ms m hown hbytes hbase
  refine wpList_step fun K hK => ?_
  rw [if_pos hw]
  unfold Oper.wp execOp
  simp only [ho, resolve, invoke, builtin, Sem.run_bind, Sem.run_pure, Result.andThen_ok, List.map_toArray, List.map_cons, List.map_nil, hs, hx, hrun]
  exact hK _ _ (h v' w' h2 ((Below.refl base W).grown h3 hbase (fun k hk => (World.ownsRow.lt hown k hk).1)) h3 h5)

theorem info_mark : (Try.prog.info? 42).map (fun i => (i.zero, i.size, i.bytes)) = some (some (.agg #[.bool false, .string ByteArray.empty]), 2, 24) := by kernel_rfl
end Go.Proofs.Ytjpaboomgicjaaa
