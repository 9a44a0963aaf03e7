/- Words for values that are byte slices, and the conversion of a string into one. Conditions: none. -/
import Derived.Test.YtdlhjnihmkbagaaDoorMem
import Derived.Shelf.Spec.BytesTrimFunc
namespace Go.Proofs.YtdlhjnihmkbagaaDoor
open Go.RowKit
set_option linter.unusedVariables false

/-- a value that is a slice of these bytes, within blocks below B -/
def BV (w : World) (lo B : Nat) (v : Value) (s : ByteArray) : Prop :=
  (∃ b o c, v = .slice (some ⟨b, o, none⟩) s.size c ∧ s.size ≤ c ∧ (lo ≤ b ∧ b < B) ∧ BytesAt s b o w) ∨ (v = .slice none 0 0 ∧ s.size = 0)
theorem BV.below {w w' : World} {lo B : Nat} {v : Value} {s : ByteArray} (h : BV w lo B v s) (hb : Below B w w') : BV w' lo B v s := by
  rcases h with ⟨b, o, c, rfl, h1, h2, h3⟩ | h
  · exact .inl ⟨b, o, c, rfl, h1, h2, fun j hj => (hb.cell (p := ⟨b, o + j, none⟩) h2.2).trans (h3 j hj)⟩
  · exact .inr h
theorem BV.more {w : World} {lo B B' : Nat} {v : Value} {s : ByteArray} (h : BV w lo B v s) (hB : B ≤ B') : BV w lo B' v s := by
  rcases h with ⟨b, o, c, rfl, h1, h2, h3⟩ | h
  · exact .inl ⟨b, o, c, rfl, h1, ⟨h2.1, by omega⟩, h3⟩
  · exact .inr h
theorem get!_toList (s : ByteArray) (j : Nat) (hj : j < s.data.toList.length) : s.get! j = s.data.toList[j] := by
  rw [← Lib.getD_get!, List.getD_eq_getElem?_getD, List.getElem?_eq_getElem hj, Option.getD_some]
theorem bytesAt_of {s : ByteArray} {b o : Nat} {w : World} (h : ∀ i (hi : i < s.data.toList.length), w.cell? ⟨b, o + i, none⟩ = some (.int .u8 (s.data.toList[i].toNat : Int))) : BytesAt s b o w := fun j hj => by
  rw [Lib.size_eq] at hj
  rw [h j hj, get!_toList s j hj]
theorem BV.bat {w : World} {lo B : Nat} {v : Value} {s : ByteArray} (h : BV w lo B v s) : ∃ p c, v = .slice p s.size c ∧ s.size ≤ c ∧ BAt w B p s.data.toList := by
  rcases h with ⟨b, o, c, rfl, h1, h2, h3⟩ | ⟨rfl, h⟩
  · exact ⟨_, c, rfl, h1, fun _ => ⟨b, o, rfl, h2.2, fun i hi => by rw [h3 i (by rw [Lib.size_eq]; exact hi), get!_toList s i hi]⟩⟩
  · refine ⟨none, 0, by rw [h], by omega, fun hn => absurd (List.eq_nil_of_length_eq_zero (by rw [← Lib.size_eq]; exact h)) hn⟩

/-- a string turned into bytes: new memory that holds them -/
theorem wpList_toBV {P : Program} {ops : Array Oper} {rest : List Oper} {o : Oper} {a : Act} {Q : Exit → Act → World → Prop} (w : World) (hgd : o.guard = none) (x : Operand) (src dst e : TypeId)
    (ho : o.op = .convert src dst x) {u : TypeDesc} (hs : P.underlying src = some u) (hd : P.underlying dst = some (.slice e)) (he : P.underlying e = some (.int .u8)) (s : ByteArray) (hx : a.eval x = .string s)
    (h : ∀ (v : Value) (w' : World), BV w' w.heap.size (w.heap.size + 1) v s → Below w.heap.size w w' → w.heap.size + 1 ≤ w'.heap.size → wpList P ops Q rest (a.put o.dst v) w') :
    wpList P ops Q (o :: rest) a w := by
  refine wpList_plain hgd fun K hK => ?_
  have hrun := Lib.run_convert_string_bytes (P := P) w src dst e s hs hd he
  unfold Oper.wp
  simp [execOp, ho, hx, hrun, Result.andThen]
  refine hK _ _ (h _ _ (.inl ⟨w.heap.size, 0, _, rfl, grownCap_ge w _ _ _, ⟨Nat.le_refl _, by omega⟩, bytesAt_of fun i hi => ?_⟩) (below_bytes w e s) (by rw [Lib.bytesWorld_size]; omega))
  rw [Nat.zero_add, Lib.bytesWorld_cell w e s i (by rw [Lib.size_eq]; exact hi)]
  simp only [List.getD, List.getElem?_eq_getElem hi, Option.getD_some]
theorem BV.grown {w w' : World} {lo B : Nat} {v : Value} {s : ByteArray} {row : Option Nat} (h : BV w lo B v s) (hg : w.grownBy w' row) (hne : ∀ g, row = some g → g < lo ∨ B ≤ g) (hh : B ≤ w.heap.size) : BV w' lo B v s := by
  rcases h with ⟨b, o, c, rfl, h1, h2, h3⟩ | h
  · have hb : w'.heap[b]? = w.heap[b]? := hg.block b (by omega) (fun e => by have := hne b e.symm; omega)
    exact .inl ⟨b, o, c, rfl, h1, h2, fun j hj => (World.cell?_of_block hb).trans (h3 j hj)⟩
  · exact .inr h
theorem BV.form {w : World} {lo B : Nat} {v : Value} {s : ByteArray} (h : BV w lo B v s) : ∃ p c, v = .slice p s.size c ∧ s.size ≤ c := by
  obtain ⟨p, c, h1, h2, _⟩ := h.bat
  exact ⟨p, c, h1, h2⟩
theorem wpList_toBL {P : Program} {ops : Array Oper} {rest : List Oper} {o : Oper} {a : Act} {Q : Exit → Act → World → Prop} (w : World) (hgd : o.guard = none) (x : Operand) (src dst e : TypeId)
    (ho : o.op = .convert src dst x) {u : TypeDesc} (hs : P.underlying src = some u) (hd : P.underlying dst = some (.slice e)) (he : P.underlying e = some (.int .u8)) (s : ByteArray) (hx : a.eval x = .string s)
    (h : ∀ (c : Nat) (w' : World), s.size ≤ c → BytesAt s w.heap.size 0 w' → Below w.heap.size w w' → w.heap.size + 1 ≤ w'.heap.size → wpList P ops Q rest (a.put o.dst (.slice (some ⟨w.heap.size, 0, none⟩) s.size c)) w') :
    wpList P ops Q (o :: rest) a w := by
  refine wpList_plain hgd fun K hK => ?_
  have hrun := Lib.run_convert_string_bytes (P := P) w src dst e s hs hd he
  unfold Oper.wp
  simp [execOp, ho, hx, hrun, Result.andThen]
  refine hK _ _ (h _ _ (grownCap_ge w _ _ _) (bytesAt_of fun i hi => ?_) (below_bytes w e s) (by rw [Lib.bytesWorld_size]; omega))
  rw [Nat.zero_add, Lib.bytesWorld_cell w e s i (by rw [Lib.size_eq]; exact hi)]
  simp only [List.getD, List.getElem?_eq_getElem hi, Option.getD_some]
end Go.Proofs.YtdlhjnihmkbagaaDoor
