/- Arguments that are slices of steps, opened: their cells, their sizes, and how much they hold in all. Conditions: none. -/
import Derived.Test.YthgigchablajbaaDoorFramePair
import Derived.Test.YthgigchablajbaaDoorPair
import Derived.Test.YthgigchablajbaaDoorShaveSteps
namespace Go.Proofs.YthgigchablajbaaDoor
open Go.ChangeShapes Go.WideShapes Go.ChangeAt Go.RowKit Go.Deep
open Go.ChangeMaps (open_string shut_string)

def stV (x : St) : Value × Value := (.int .i64 x.1, .string (txt x.2))
/-- what a walk is told of an argument of steps -/
def QArg (W : World) (A : Option Addr) (n c : Nat) (L : List St) : Prop :=
  n = L.length ∧ n ≤ c ∧ n * 24 ≤ 140737488351232 ∧ (∀ x ∈ L, x.2.length ≤ 140737488351232 ∧ -9223372036854775808 ≤ x.1 ∧ x.1 ≤ 9223372036854775807) ∧ PAt W 0 W.heap.size A (L.map stV)
/-- how much they hold -/
def bulkQ (L : List St) : Nat := (L.map fun x => x.2.length + 1).sum
section
variable {H : Type} {enc : TypeId × Value → H} {P : Program}
theorem pairs_steps {W : World} {base b0 : Nat} {r : Reach} {t e : TypeId} {f0 f1 : Field} {v : Value} {d : DataW H} {ps : List MemPlace} (ht : P.underlying t = some (.slice e)) (he : P.underlying e = some (.struct #[f0, f1]))
    (hb : P.underlying f0.type = some (.int .i64)) (hs : P.underlying f1.type = some .string) (ho : f0.offset = 0 ∧ f1.offset = 1) (hc : P.cellsOf e = 2 ∧ P.cellsOf f0.type = 1 ∧ P.cellsOf f1.type = 1)
    (hval : Value.okWide P W r b0 t v) (hd : DataW.Trod enc P W base (fun _ => true) true t v d ps) :
    ∃ (A : Option Addr) (n c : Nat) (L S : List St), v = .slice A n c ∧ n = L.length ∧ n ≤ c ∧ (∀ x ∈ L, -9223372036854775808 ≤ x.1 ∧ x.1 ≤ 9223372036854775807) ∧ PAt W 0 W.heap.size A (L.map stV) ∧ (d = .nil ∧ L = [] ∧ S = [] ∨ d = .slice (L.map fun m => .agg [.lit (.int .i64 m.1), .lit (.string m.2)]) (S.map fun m => .agg [.lit (.int .i64 m.1), .lit (.string m.2)])) := by
  rcases open_pairs ht he ho hc hval hd with ⟨rfl, rfl⟩ | ⟨a, len, cap, X, Y, DX, DY, rfl, hl, hm, rfl, hi⟩
  · exact ⟨none, 0, 0, [], [], rfl, rfl, Nat.le_refl _, by simp, fun h => absurd rfl h, .inl ⟨rfl, rfl, rfl⟩⟩
  · have each : ∀ i, i < cap → ∃ m : St, X i = .int .i64 m.1 ∧ Y i = .string (txt m.2) ∧ (DX i).1 = .lit (.int .i64 m.1) ∧ (DY i).1 = .lit (.string m.2) ∧ -9223372036854775808 ≤ m.1 ∧ m.1 ≤ 9223372036854775807 := by
      intro i hi'
      obtain ⟨_, _, ⟨m0, h0⟩, ⟨m1, h1⟩⟩ := hi i hi'
      obtain ⟨b, e1, e2, hw⟩ := DataW.trod_int hb h0
      obtain ⟨s, e3, e4, _⟩ := DataW.trod_string hs h1
      have hw' : -9223372036854775808 ≤ b ∧ b ≤ 9223372036854775807 := by simpa [Lit.wf, IntKind.min, IntKind.max, IntKind.signed, IntKind.bits] using hw
      exact ⟨(b, s.data.toList), by simpa using e1, by show Y i = .string (txt s.data.toList); rw [show txt s.data.toList = s from Lib.mk_data s]; simpa using e3, by rw [e2], by rw [e4], hw'.1, hw'.2⟩
    obtain ⟨M, hM⟩ := choose_lt each
    refine ⟨some a, len, cap, (List.range len).map M, (List.range (cap - len)).map fun j => M (len + j), rfl, by simp, hl, ?_, ?_, .inr ?_⟩
    · intro x hx
      obtain ⟨i, hi', rfl⟩ := List.mem_map.1 hx
      have := hM i (by have := List.mem_range.1 hi'; omega)
      exact ⟨this.2.2.2.2.1, this.2.2.2.2.2⟩
    · intro hne
      have hpos : 0 < len := by
        rcases Nat.eq_zero_or_pos len with h | h
        · subst h; exact absurd rfl hne
        · exact h
      obtain ⟨b, o, s⟩ := a
      have h0 := (hi 0 (by omega)).1
      obtain rfl : s = none := by simpa [Addr.add] using World.cell?_spot h0
      have hblk : b < W.heap.size := by
        rw [add_plain] at h0
        rcases Nat.lt_or_ge b W.heap.size with h | h
        · exact h
        · simp [World.cell?, Array.getElem?_eq_none h] at h0
      refine ⟨b, o, rfl, Nat.zero_le _, hblk, fun i hi' => ?_⟩
      simp only [List.length_map, List.length_range] at hi'
      have hic := hi i (by omega)
      have hMi := hM i (by omega)
      rw [add_plain, add_plain, ← Nat.add_assoc] at hic
      simp only [List.getElem_map, List.getElem_range, stV]
      rw [← hMi.1, ← hMi.2.1]
      exact ⟨hic.1, hic.2.1⟩
    · rw [List.map_map, List.map_map, List.map_congr_left (fun i hi' => by rw [(hM i (by have := List.mem_range.1 hi'; omega)).2.2.1, (hM i (by have := List.mem_range.1 hi'; omega)).2.2.2.1]),
        List.map_congr_left (l := List.range (cap - len)) (fun j hj => by rw [(hM (len + j) (by have := List.mem_range.1 hj; omega)).2.2.1, (hM (len + j) (by have := List.mem_range.1 hj; omega)).2.2.2.1])]
      rfl
end
theorem open_steps {H : Type} {enc : TypeId × Value → H} {P : Program} {W : World} {base b0 : Nat} {r : Reach} {t e : TypeId} {f0 f1 : Field} {v : Value} {d : DataW H} {ps : List MemPlace} (ht : P.underlying t = some (.slice e)) (he : P.underlying e = some (.struct #[f0, f1]))
    (hb : P.underlying f0.type = some (.int .i64)) (hs : P.underlying f1.type = some .string) (ho : f0.offset = 0 ∧ f1.offset = 1) (hc : P.cellsOf e = 2 ∧ P.cellsOf f0.type = 1 ∧ P.cellsOf f1.type = 1) (hby : P.bytesOf e = 24)
    (hval : Value.okWide P W r b0 t v) (hd : DataW.Trod enc P W base (fun _ => true) true t v d ps) (hw : ∀ n ∈ d.weights P t, n ≤ 140737488351232) : ∃ (A : Option Addr) (n c : Nat) (L : List St), v = .slice A n c ∧ QArg W A n c L := by
  obtain ⟨A, n, c, L, S, rfl, hn, hnc, hi, hm, hdd⟩ := pairs_steps ht he hb hs ho hc hval hd
  refine ⟨A, n, c, L, rfl, hn, hnc, ?_, ?_, hm⟩
  · rcases hdd with ⟨_, rfl, _⟩ | rfl
    · simp at hn; omega
    · have := hw ((L.length + S.length) * 24) (by simp [DataW.weights, ht, hby])
      omega
  · intro m hm'
    refine ⟨?_, hi m hm'⟩
    rcases hdd with ⟨_, rfl, _⟩ | rfl
    · cases hm'
    · refine hw _ ?_
      simp only [DataW.weights, ht, List.mem_cons, List.mem_append]
      refine .inr (.inl (weightsAll_mem (d := .agg [.lit (.int .i64 m.1), .lit (.string m.2)]) (List.mem_map.2 ⟨m, hm', rfl⟩) _ ?_))
      simp [DataW.weights, he, DataW.weightsEach]
end Go.Proofs.YthgigchablajbaaDoor
