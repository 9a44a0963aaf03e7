/- The bound of the second form: what it gives of each argument. Conditions: none. -/
import Derived.Test.YtdlhjnihmkbagaaDoorFrame
namespace Go.Proofs.YtdlhjnihmkbagaaDoor
open Go.ChangeShapes Go.WideShapes Go.ChangeAt Go.RowKit Go.Deep
open Go.ChangeMaps (open_string shut_string)
section
variable {H : Type} {enc : TypeId × Value → H} {P : Program}
theorem bulk_le {l : List (DataW H)} (hk : Rows.uptoSmall H l = true) : Rows.uptoBulkAll l ≤ 1048576 := of_decide_eq_true hk
theorem bulk_mem {d : DataW H} {l : List (DataW H)} (h : d ∈ l) : Rows.uptoBulk d ≤ Rows.uptoBulkAll l := by
  induction l with
  | nil => cases h
  | cons x r ih =>
    simp only [Rows.uptoBulkAll]
    rcases List.mem_cons.1 h with rfl | h'
    · omega
    · have := ih h'; omega
theorem bulk_at {l : List (DataW H)} {j : Nat} {d : DataW H} (h : Rows.uptoBulkAll l ≤ 1048576) (hd : l[j]? = some d) : Rows.uptoBulk d ≤ 1048576 :=
  Nat.le_trans (bulk_mem (List.mem_of_getElem? hd)) h
theorem open_strU {W : World} {base b0 : Nat} {sp : Nat → Bool} {held : Bool} {r : Reach} {t : TypeId} {v : Value} {d : DataW H} {ps : List MemPlace} (ht : P.underlying t = some .string) (hval : Value.okWide P W r b0 t v) (hd : DataW.Trod enc P W base sp held t v d ps)
    (hw : Rows.uptoBulk d ≤ 1048576) : ∃ s : ByteArray, v = .string s ∧ d = .lit (.string s.data.toList) ∧ ps = [] ∧ s.size ≤ 1048576 := by
  obtain ⟨s, rfl, rfl, rfl, _⟩ := open_string ht hval hd
  refine ⟨s, rfl, rfl, rfl, ?_⟩
  rw [Lib.size_eq]
  simp only [Rows.uptoBulk] at hw
  omega
end
end Go.Proofs.YtdlhjnihmkbagaaDoor
