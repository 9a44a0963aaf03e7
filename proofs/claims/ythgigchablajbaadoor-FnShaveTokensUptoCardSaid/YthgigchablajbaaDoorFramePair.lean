/- Arguments that are slices of structs of two fields, opened. Conditions: none. -/
import Derived.Test.YthgigchablajbaaDoorFrame
namespace Go.Proofs.YthgigchablajbaaDoor
open Go.ChangeShapes Go.WideShapes Go.ChangeAt Go.RowKit Go.Deep
open Go.ChangeMaps (open_string shut_string)

section
variable {H : Type} {enc : TypeId × Value → H} {P : Program}

/-- a slice of structs of two fields of one cell each, opened: n elements, each with its two cells -/
theorem open_pairs {W : World} {base b0 : Nat} {r : Reach} {t e : TypeId} {f0 f1 : Field} {v : Value} {d : DataW H} {ps : List MemPlace} (ht : P.underlying t = some (.slice e)) (he : P.underlying e = some (.struct #[f0, f1]))
    (ho : f0.offset = 0 ∧ f1.offset = 1) (hc : P.cellsOf e = 2 ∧ P.cellsOf f0.type = 1 ∧ P.cellsOf f1.type = 1) (hval : Value.okWide P W r b0 t v) (hd : DataW.Trod enc P W base (fun _ => true) true t v d ps) :
    (v = .slice none 0 0 ∧ d = .nil) ∨ ∃ (a : Addr) (len cap : Nat) (X Y : Nat → Value) (DX DY : Nat → DataW H × List MemPlace), v = .slice (some a) len cap ∧ len ≤ cap ∧ cap ≤ maxLen ∧
      d = .slice ((List.range len).map fun i => .agg [(DX i).1, (DY i).1]) ((List.range (cap - len)).map fun j => .agg [(DX (len + j)).1, (DY (len + j)).1]) ∧
      ∀ i, i < cap → W.cell? (a.add (i * 2)) = some (X i) ∧ W.cell? (a.add (i * 2 + 1)) = some (Y i) ∧ (∃ m, DataW.trod enc P W base (fun _ => true) true m f0.type [X i] = some (DX i)) ∧ ∃ m, DataW.trod enc P W base (fun _ => true) true m f1.type [Y i] = some (DY i) := by
  obtain ⟨a0, len0, cap0, rfl⟩ := okWide_slice ht hval
  obtain ⟨fuel, hf⟩ := hd
  rcases open_slice ht hf with ⟨h1, h2⟩ | ⟨a, len, cap, m, n, D, Pl, hcs, hb, hl, hm, hmm, hx, hi⟩
  · left
    simp only [Value.cells, List.cons.injEq, and_true] at h1
    simp only [Prod.mk.injEq] at h2
    exact ⟨by simpa using h1, h2.1⟩
  · right
    simp only [if_true] at hmm
    subst hmm
    simp only [Prod.mk.injEq] at hx
    have each : ∀ i, i < m → ∃ q : (Value × Value) × ((DataW H × List MemPlace) × (DataW H × List MemPlace)), D i = .agg [q.2.1.1, q.2.2.1] ∧ W.cell? (a.add (i * 2)) = some q.1.1 ∧ W.cell? (a.add (i * 2 + 1)) = some q.1.2 ∧ (∃ m, DataW.trod enc P W base (fun _ => true) true m f0.type [q.1.1] = some q.2.1) ∧ ∃ m, DataW.trod enc P W base (fun _ => true) true m f1.type [q.1.2] = some q.2.2 := by
      intro i hi'
      obtain ⟨cs, h1, h2⟩ := hi i hi'
      rw [hc.1] at h1
      obtain ⟨y0, y1, n', h3, h4, h5, h6⟩ := trod_struct2 he h2
      obtain ⟨_, hlen, hat⟩ := World.cells?_some h1
      rw [ho.1, hc.2.1] at h5
      rw [ho.2, hc.2.2] at h6
      match cs, hlen with
      | [x, y], _ =>
        simp only [Prod.mk.injEq] at h3
        refine ⟨((x, y), (y0, y1)), h3.1, ?_, ?_, ⟨n', by simpa using h5⟩, ⟨n', by simpa using h6⟩⟩
        · have := hat 0 (by omega)
          rw [add_add] at this
          simpa using this
        · have := hat 1 (by omega)
          rw [add_add] at this
          simpa using this
    obtain ⟨Q, hQ⟩ := choose_lt each
    refine ⟨a, len, m, fun i => (Q i).1.1, fun i => (Q i).1.2, fun i => (Q i).2.1, fun i => (Q i).2.2, by simpa [Value.cells] using hcs, hl, hm, ?_, fun i hi' => (hQ i hi').2⟩
    rw [hx.1, List.map_congr_left (fun i hi' => (hQ i (by have := List.mem_range.1 hi'; omega)).1), List.map_congr_left (fun j hj => (hQ (len + j) (by have := List.mem_range.1 hj; omega)).1)]

theorem weightsAll_mem {e : TypeId} {d : DataW H} {l : List (DataW H)} (h : d ∈ l) : ∀ n ∈ d.weights P e, n ∈ DataW.weightsAll P e l := by
  induction l with
  | nil => cases h
  | cons x r ih =>
    intro n hn
    simp only [DataW.weightsAll, List.mem_append]
    rcases List.mem_cons.1 h with rfl | h'
    · exact .inl hn
    · exact .inr (ih h' n hn)
end
end Go.Proofs.YthgigchablajbaaDoor
