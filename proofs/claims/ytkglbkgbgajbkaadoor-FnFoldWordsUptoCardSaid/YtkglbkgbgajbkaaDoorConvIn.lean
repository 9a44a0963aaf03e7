/- The two conversions between strings and byte slices as steps of a walk inside a fence. Conditions: none. -/
import Derived.Test.YtkglbkgbgajbkaaDoorBV
import Derived.Test.YtkglbkgbgajbkaaDoorRangeMem
namespace Go.Proofs.YtkglbkgbgajbkaaDoor
open Go.RowKit
set_option linter.unusedVariables false

theorem wpListIn_toBL {F : Fence} {nF : Nat} {P : Program} {ops : Array Oper} {rest : List Oper} {o : Oper} {a : Act} {Q : Exit → Act → World → Prop} (w : World) (hgd : o.guard = none) (x : Operand) (src dst e : TypeId)
    (ho : o.op = .convert src dst x) {u : TypeDesc} (hs : P.underlying src = some u) (hd : P.underlying dst = some (.slice e)) (he : P.underlying e = some (.int .u8)) (s : ByteArray) (hx : a.eval x = .string s)
    (h : ∀ (c : Nat) (w' : World), s.size ≤ c → BytesAt s w.heap.size 0 w' → Below w.heap.size w w' → w.heap.size + 1 ≤ w'.heap.size → wpListIn F nF P ops Q rest (a.put o.dst (.slice (some ⟨w.heap.size, 0, none⟩) s.size c)) w') :
    wpListIn F nF P ops Q (o :: rest) a w := by
  refine wpListIn_plain hgd fun K hK => ?_
  have hrun := Lib.run_convert_string_bytes (P := P) w src dst e s hs hd he
  unfold Oper.wpIn
  refine ⟨by simp [Oper.about, ho], ?_⟩
  rw [Oper.semAt_plain F _ _ (by rw [ho]; intro c hc'; cases hc')]
  simp [execOp, ho, hx, hrun, Result.andThen]
  refine hK _ _ (h _ _ (grownCap_ge w _ _ _) (bytesAt_of fun i hi => ?_) (below_bytes w e s) (by rw [Lib.bytesWorld_size]; omega))
  rw [Nat.zero_add, Lib.bytesWorld_cell w e s i (by rw [Lib.size_eq]; exact hi)]
  simp only [List.getD, List.getElem?_eq_getElem hi, Option.getD_some]
theorem wpListIn_toString {F : Fence} {nF : Nat} {P : Program} {ops : Array Oper} {rest : List Oper} {o : Oper} {a : Act} {Q : Exit → Act → World → Prop} (w : World) (hgd : o.guard = none) (x : Operand) (src dst e : TypeId)
    (ho : o.op = .convert src dst x) (hs : P.underlying src = some (.slice e)) (he : P.underlying e = some (.int .u8)) (hd : P.underlying dst = some .string) (p : Option Addr) (n c B : Nat) (l : List UInt8)
    (hx : a.eval x = .slice p n c) (hn : n = l.length) (hb : BAt w B p l)
    (h : ∀ s : ByteArray, Hid (s.data.toList = l) → wpListIn F nF P ops Q rest (a.put o.dst (.string s)) w) :
    wpListIn F nF P ops Q (o :: rest) a w := by
  refine wpListIn_plain hgd fun K hK => ?_
  have hrun : ∃ s : ByteArray, s.data.toList = l ∧ (convert src dst (.slice p n c)).run P w = .ok (.string s) w := by
    subst hn
    by_cases hl : l = []
    · subst hl
      cases p with
      | none => exact ⟨ByteArray.empty, rfl, run_convert_bytes_nil w src e hs he _ c dst hd⟩
      | some ad => exact ⟨_, rfl, run_convert_bytes_back (P := P) w src dst e ad c [] hs he hd (fun j hj => absurd hj (by simp))⟩
    · obtain ⟨b, o', rfl, _, hc⟩ := hb hl
      refine ⟨_, rfl, run_convert_bytes_back (P := P) w src dst e ⟨b, o', none⟩ c l hs he hd (fun j hj => ?_)⟩
      rw [Go.WideShapes.add_plain]
      exact hc j hj
  obtain ⟨s, hsl, hr⟩ := hrun
  unfold Oper.wpIn
  refine ⟨by simp [Oper.about, ho], ?_⟩
  rw [Oper.semAt_plain F _ _ (by rw [ho]; intro c hc'; cases hc')]
  simp [execOp, ho, hx, hr, Result.andThen]
  exact hK _ _ (h s hsl)
end Go.Proofs.YtkglbkgbgajbkaaDoor
