/- Arguments that are slices of marks, opened: their cells, their sizes, and how much they hold in all. Conditions: none. -/
import Derived.Test.YtjpaboomgicjaaaFrame
import Derived.Test.YtjpaboomgicjaaaPeel
namespace Go.Proofs.Ytjpaboomgicjaaa
open Go.ChangeShapes Go.WideShapes Go.ChangeAt Go.RowKit Go.Deep
open Go.ChangeMaps (open_string shut_string)

section
variable {H : Type} {enc : TypeId × Value → H} {P : Program}

/-- a slice of structs of two fields of one cell each, opened: n elements, each with its two cells -/
theorem open_pairs {W : World} {base b0 : Nat} {r : Reach} {t e : TypeId} {f0 f1 : Field} {v : Value} {d : DataW H} {ps : List MemPlace} (ht : P.underlying t = some (.slice e)) (he : P.underlying e = some (.struct #[f0, f1]))
    (ho : f0.offset = 0 ∧ f1.offset = 1) (hc : P.cellsOf e = 2 ∧ P.cellsOf f0.type = 1 ∧ P.cellsOf f1.type = 1) (hval : Value.okWide P W r b0 t v) (hd : DataW.Trod enc P W base (fun _ => true) true t v d ps) :
    (v = .slice none 0 0 ∧ d = .nil) ∨ ∃ (a : Addr) (len cap : Nat) (X Y : Nat → Value) (DX DY : Nat → DataW H × List MemPlace), v = .slice (some a) len cap ∧ len ≤ cap ∧ cap ≤ maxLen ∧
      d = .slice ((List.range len).map fun i => .agg [(DX i).1, (DY i).1]) ((List.range (cap - len)).map fun j => .agg [(DX (len + j)).1, (DY (len + j)).1]) ∧
      ∀ i, i < cap → W.cell? (a.add (i * 2)) = some (X i) ∧ W.cell? (a.add (i * 2 + 1)) = some (Y i) ∧ (∃ m, DataW.trod enc P W base (fun _ => true) true m f0.type [X i] = some (DX i)) ∧ ∃ m, DataW.trod enc P W base (fun _ => true) true m f1.type [Y i] = some (DY i) := by
  obtain ⟨a0, len0, cap0, rfl⟩ := okWide_slice ht hval
  obtain ⟨fuel, hf⟩ := hd
  rcases open_slice ht hf with ⟨h1, h2⟩ | ⟨a, len, cap, m, n, D, Pl, hcs, hb, hl, hm, hmm, hx, hi⟩
  · left
    simp only [Value.cells, List.cons.injEq, and_true] at h1
    simp only [Prod.mk.injEq] at h2
    exact ⟨by simpa using h1, h2.1⟩
  · right
    simp only [if_true] at hmm
    subst hmm
    simp only [Prod.mk.injEq] at hx
    have each : ∀ i, i < m → ∃ q : (Value × Value) × ((DataW H × List MemPlace) × (DataW H × List MemPlace)), D i = .agg [q.2.1.1, q.2.2.1] ∧ W.cell? (a.add (i * 2)) = some q.1.1 ∧ W.cell? (a.add (i * 2 + 1)) = some q.1.2 ∧ (∃ m, DataW.trod enc P W base (fun _ => true) true m f0.type [q.1.1] = some q.2.1) ∧ ∃ m, DataW.trod enc P W base (fun _ => true) true m f1.type [q.1.2] = some q.2.2 := by
      intro i hi'
      obtain ⟨cs, h1, h2⟩ := hi i hi'
      rw [hc.1] at h1
      obtain ⟨y0, y1, n', h3, h4, h5, h6⟩ := trod_struct2 he h2
      obtain ⟨_, hlen, hat⟩ := World.cells?_some h1
      rw [ho.1, hc.2.1] at h5
      rw [ho.2, hc.2.2] at h6
      match cs, hlen with
      | [x, y], _ =>
        simp only [Prod.mk.injEq] at h3
        refine ⟨((x, y), (y0, y1)), h3.1, ?_, ?_, ⟨n', by simpa using h5⟩, ⟨n', by simpa using h6⟩⟩
        · have := hat 0 (by omega)
          rw [add_add] at this
          simpa using this
        · have := hat 1 (by omega)
          rw [add_add] at this
          simpa using this
    obtain ⟨Q, hQ⟩ := choose_lt each
    refine ⟨a, len, m, fun i => (Q i).1.1, fun i => (Q i).1.2, fun i => (Q i).2.1, fun i => (Q i).2.2, by simpa [Value.cells] using hcs, hl, hm, ?_, fun i hi' => (hQ i hi').2⟩
    rw [hx.1, List.map_congr_left (fun i hi' => (hQ i (by have := List.mem_range.1 hi'; omega)).1), List.map_congr_left (fun j hj => (hQ (len + j) (by have := List.mem_range.1 hj; omega)).1)]

/-- what a walk is told of an argument of marks -/
def MArg (W : World) (A : Option Addr) (n c : Nat) (L : List Mb) : Prop :=
  n = L.length ∧ n ≤ c ∧ n * 24 ≤ 140737488351232 ∧ (∀ m ∈ L, m.2.size ≤ 140737488351232) ∧ MAt W 0 W.heap.size A L
/-- how much they hold -/
def bulkM (L : List Mb) : Nat := (L.map fun m => m.2.size + 1).sum

theorem weightsAll_mem {e : TypeId} {d : DataW H} {l : List (DataW H)} (h : d ∈ l) : ∀ n ∈ d.weights P e, n ∈ DataW.weightsAll P e l := by
  induction l with
  | nil => cases h
  | cons x r ih =>
    intro n hn
    simp only [DataW.weightsAll, List.mem_append]
    rcases List.mem_cons.1 h with rfl | h'
    · exact .inl hn
    · exact .inr (ih h' n hn)

theorem pairs_marks {W : World} {base b0 : Nat} {r : Reach} {t e : TypeId} {f0 f1 : Field} {v : Value} {d : DataW H} {ps : List MemPlace} (ht : P.underlying t = some (.slice e)) (he : P.underlying e = some (.struct #[f0, f1]))
    (hb : P.underlying f0.type = some .bool) (hs : P.underlying f1.type = some .string) (ho : f0.offset = 0 ∧ f1.offset = 1) (hc : P.cellsOf e = 2 ∧ P.cellsOf f0.type = 1 ∧ P.cellsOf f1.type = 1)
    (hval : Value.okWide P W r b0 t v) (hd : DataW.Trod enc P W base (fun _ => true) true t v d ps) :
    ∃ (A : Option Addr) (n c : Nat) (L S : List Mb), v = .slice A n c ∧ n = L.length ∧ n ≤ c ∧ MAt W 0 W.heap.size A L ∧ (d = .nil ∧ L = [] ∧ S = [] ∨ d = .slice (L.map fun m => .agg [.lit (.bool m.1), .lit (.string m.2.data.toList)]) (S.map fun m => .agg [.lit (.bool m.1), .lit (.string m.2.data.toList)])) := by
  rcases open_pairs ht he ho hc hval hd with ⟨rfl, rfl⟩ | ⟨a, len, cap, X, Y, DX, DY, rfl, hl, hm, rfl, hi⟩
  · exact ⟨none, 0, 0, [], [], rfl, rfl, Nat.le_refl _, fun h => absurd rfl h, .inl ⟨rfl, rfl, rfl⟩⟩
  · have each : ∀ i, i < cap → ∃ m : Mb, X i = .bool m.1 ∧ Y i = .string m.2 ∧ (DX i).1 = .lit (.bool m.1) ∧ (DY i).1 = .lit (.string m.2.data.toList) := by
      intro i hi'
      obtain ⟨_, _, ⟨m0, h0⟩, ⟨m1, h1⟩⟩ := hi i hi'
      obtain ⟨b, e1, e2⟩ := DataW.trod_bool hb h0
      obtain ⟨s, e3, e4, _⟩ := DataW.trod_string hs h1
      refine ⟨(b, s), by simpa using e1, by simpa using e3, by rw [e2], by rw [e4]⟩
    obtain ⟨M, hM⟩ := choose_lt each
    refine ⟨some a, len, cap, (List.range len).map M, (List.range (cap - len)).map fun j => M (len + j), rfl, by simp, hl, ?_, .inr ?_⟩
    · intro hne
      have hpos : 0 < len := by
        rcases Nat.eq_zero_or_pos len with h | h
        · subst h; exact absurd rfl hne
        · exact h
      obtain ⟨b, o, s⟩ := a
      have h0 := (hi 0 (by omega)).1
      obtain rfl : s = none := by simpa [Addr.add] using World.cell?_spot h0
      have hblk : b < W.heap.size := by
        rw [add_plain] at h0
        rcases Nat.lt_or_ge b W.heap.size with h | h
        · exact h
        · simp [World.cell?, Array.getElem?_eq_none h] at h0
      refine ⟨b, o, rfl, Nat.zero_le _, hblk, fun i hi' => ?_⟩
      simp only [List.length_map, List.length_range] at hi'
      have hic := hi i (by omega)
      have hMi := hM i (by omega)
      rw [add_plain, add_plain, ← Nat.add_assoc] at hic
      simp only [List.getElem_map, List.getElem_range]
      rw [← hMi.1, ← hMi.2.1]
      exact ⟨hic.1, hic.2.1⟩
    · rw [List.map_map, List.map_map, List.map_congr_left (fun i hi' => by rw [(hM i (by have := List.mem_range.1 hi'; omega)).2.2.1, (hM i (by have := List.mem_range.1 hi'; omega)).2.2.2]),
        List.map_congr_left (l := List.range (cap - len)) (fun j hj => by rw [(hM (len + j) (by have := List.mem_range.1 hj; omega)).2.2.1, (hM (len + j) (by have := List.mem_range.1 hj; omega)).2.2.2])]
      rfl
end

theorem open_marks {H : Type} {enc : TypeId × Value → H} {P : Program} {W : World} {base b0 : Nat} {r : Reach} {t e : TypeId} {f0 f1 : Field} {v : Value} {d : DataW H} {ps : List MemPlace} (ht : P.underlying t = some (.slice e)) (he : P.underlying e = some (.struct #[f0, f1]))
    (hb : P.underlying f0.type = some .bool) (hs : P.underlying f1.type = some .string) (ho : f0.offset = 0 ∧ f1.offset = 1) (hc : P.cellsOf e = 2 ∧ P.cellsOf f0.type = 1 ∧ P.cellsOf f1.type = 1) (hby : P.bytesOf e = 24)
    (hval : Value.okWide P W r b0 t v) (hd : DataW.Trod enc P W base (fun _ => true) true t v d ps) (hw : ∀ n ∈ d.weights P t, n ≤ 140737488351232) : ∃ (A : Option Addr) (n c : Nat) (L : List Mb), v = .slice A n c ∧ MArg W A n c L := by
  obtain ⟨A, n, c, L, S, rfl, hn, hnc, hm, hdd⟩ := pairs_marks ht he hb hs ho hc hval hd
  refine ⟨A, n, c, L, rfl, hn, hnc, ?_, ?_, hm⟩
  · rcases hdd with ⟨_, rfl, _⟩ | rfl
    · simp at hn; omega
    · have := hw ((L.length + S.length) * 24) (by simp [DataW.weights, ht, hby])
      omega
  · rcases hdd with ⟨_, rfl, _⟩ | rfl
    · simp
    · intro m hm'
      rw [Lib.size_eq]
      refine hw _ ?_
      simp only [DataW.weights, ht, List.mem_cons, List.mem_append]
      refine .inr (.inl (weightsAll_mem (d := .agg [.lit (.bool m.1), .lit (.string m.2.data.toList)]) (List.mem_map.2 ⟨m, hm', rfl⟩) _ ?_))
      simp [DataW.weights, he, DataW.weightsEach]
end Go.Proofs.Ytjpaboomgicjaaa
