/- Arguments that are slices of texts, opened: their cells, their sizes, and how much they hold in all. Conditions: none. -/
import Derived.Test.YtkglbkgbgajbkaaDoorFrame
import Derived.Test.YtkglbkgbgajbkaaDoorTexts
namespace Go.Proofs.YtkglbkgbgajbkaaDoor
open Go.ChangeShapes Go.WideShapes Go.ChangeAt Go.RowKit Go.Deep

/-- what a walk is told of an argument of texts -/
def TArg (W : World) (A : Option Addr) (n c : Nat) (L : List (List UInt8)) : Prop :=
  n = L.length ∧ n ≤ c ∧ n * 16 ≤ 140737488351232 ∧ (∀ x ∈ L, x.length ≤ 140737488351232) ∧ RowAt W 0 W.heap.size A (texts L)
/-- how much they hold -/
def bulkT (L : List (List UInt8)) : Nat := (L.map fun x => x.length + 1).sum

theorem weightsAllT {H : Type} {P : Program} {e : TypeId} {d : DataW H} {l : List (DataW H)} (h : d ∈ l) : ∀ n ∈ d.weights P e, n ∈ DataW.weightsAll P e l := by
  induction l with
  | nil => cases h
  | cons x r ih =>
    intro n hn
    simp only [DataW.weightsAll, List.mem_append]
    rcases List.mem_cons.1 h with rfl | h'
    · exact .inl hn
    · exact .inr (ih h' n hn)

theorem texts_open {H : Type} {enc : TypeId × Value → H} {P : Program} {W : World} {base b0 : Nat} {r : Reach} {t e : TypeId} {v : Value} {d : DataW H} {ps : List MemPlace} (ht : P.underlying t = some (.slice e)) (he : P.underlying e = some .string) (hc : P.cellsOf e = 1)
    (hval : Value.okWide P W r b0 t v) (hd : DataW.Trod enc P W base (fun _ => true) true t v d ps) :
    ∃ (A : Option Addr) (n c : Nat) (L S : List (List UInt8)), v = .slice A n c ∧ n = L.length ∧ n ≤ c ∧ RowAt W 0 W.heap.size A (texts L) ∧ (d = .nil ∧ L = [] ∧ S = [] ∨ d = .slice (L.map fun x => .lit (.string x)) (S.map fun x => .lit (.string x))) := by
  obtain ⟨a0, len0, cap0, rfl⟩ := okWide_slice ht hval
  obtain ⟨fuel, hf⟩ := hd
  rcases open_strs ht he hc hf with ⟨h1, h2⟩ | ⟨a, len, cap, m, Sx, hcs, hb, hl, hm, hmm, hx, hi⟩
  · simp only [Value.cells, List.cons.injEq, and_true] at h1
    simp only [Prod.mk.injEq] at h2
    have h1' : Value.slice a0 len0 cap0 = .slice none 0 0 := by simpa using h1
    exact ⟨none, 0, 0, [], [], by rw [h1'], rfl, Nat.le_refl _, fun h => absurd rfl h, .inl ⟨h2.1, rfl, rfl⟩⟩
  · have hcs' : Value.slice a0 len0 cap0 = .slice (some a) len cap := by simpa [Value.cells] using hcs
    simp only [if_true] at hmm
    subst hmm
    simp only [Prod.mk.injEq] at hx
    refine ⟨some a, len, m, (List.range len).map fun i => (Sx i).data.toList, (List.range (m - len)).map fun j => (Sx (len + j)).data.toList, by rw [hcs'], by simp, hl, ?_, .inr (by rw [hx.1, List.map_map, List.map_map]; rfl)⟩
    intro hne
    have hpos : 0 < len := by
      rcases Nat.eq_zero_or_pos len with h | h
      · subst h; exact absurd rfl hne
      · exact h
    obtain ⟨b, o, s⟩ := a
    have h0 := (hi 0 (by omega)).1
    obtain rfl : s = none := by simpa [Addr.add] using World.cell?_spot h0
    have hblk : b < W.heap.size := by
      rw [add_plain] at h0
      rcases Nat.lt_or_ge b W.heap.size with h | h
      · exact h
      · simp [World.cell?, Array.getElem?_eq_none h] at h0
    refine ⟨b, o, rfl, Nat.zero_le _, hblk, fun i hi' => ?_⟩
    simp only [texts, List.length_map, List.length_range] at hi'
    have hic := (hi i (by omega)).1
    rw [add_plain] at hic
    simp only [texts, List.getElem_map, List.getElem_range]
    rw [hic]
    unfold txt
    rw [Lib.mk_data]
theorem open_texts {H : Type} {enc : TypeId × Value → H} {P : Program} {W : World} {base b0 : Nat} {r : Reach} {t e : TypeId} {v : Value} {d : DataW H} {ps : List MemPlace} (ht : P.underlying t = some (.slice e)) (he : P.underlying e = some .string) (hc : P.cellsOf e = 1) (hby : P.bytesOf e = 16)
    (hval : Value.okWide P W r b0 t v) (hd : DataW.Trod enc P W base (fun _ => true) true t v d ps) (hw : ∀ n ∈ d.weights P t, n ≤ 140737488351232) : ∃ (A : Option Addr) (n c : Nat) (L : List (List UInt8)), v = .slice A n c ∧ TArg W A n c L := by
  obtain ⟨A, n, c, L, S, rfl, hn, hnc, hm, hdd⟩ := texts_open ht he hc hval hd
  refine ⟨A, n, c, L, rfl, hn, hnc, ?_, ?_, hm⟩
  · rcases hdd with ⟨_, rfl, _⟩ | rfl
    · simp at hn; omega
    · have := hw ((L.length + S.length) * 16) (by simp [DataW.weights, ht, hby])
      omega
  · rcases hdd with ⟨_, rfl, _⟩ | rfl
    · simp
    · intro x hx
      refine hw _ ?_
      simp only [DataW.weights, ht, List.mem_cons, List.mem_append]
      refine .inr (.inl (weightsAllT (d := .lit (.string x)) (List.mem_map.2 ⟨x, hx, rfl⟩) _ ?_))
      simp [DataW.weights]
end Go.Proofs.YtkglbkgbgajbkaaDoor
