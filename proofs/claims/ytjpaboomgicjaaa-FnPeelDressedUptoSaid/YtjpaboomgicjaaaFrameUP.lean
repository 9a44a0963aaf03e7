/- The bound of the second form at an argument of marks. Conditions: none. -/
import Derived.Test.YtjpaboomgicjaaaFrameU
import Derived.Test.YtjpaboomgicjaaaFrameP
namespace Go.Proofs.Ytjpaboomgicjaaa
open Go.ChangeShapes Go.WideShapes Go.ChangeAt Go.RowKit Go.Deep

def MArgU (W : World) (A : Option Addr) (n c : Nat) (L : List Mb) : Prop := MArg W A n c L ∧ bulkM L ≤ 1048576
theorem bulkM_mem {m : Mb} {L : List Mb} (h : m ∈ L) : m.2.size + 1 ≤ bulkM L := by
  induction L with
  | nil => cases h
  | cons x r ih =>
    simp only [bulkM, List.map_cons, List.sum_cons] at ih ⊢
    rcases List.mem_cons.1 h with rfl | h'
    · omega
    · have := ih h'; omega
theorem bulkM_len (L : List Mb) : L.length ≤ bulkM L := by
  induction L with
  | nil => exact Nat.zero_le _
  | cons x r ih => simp only [bulkM, List.map_cons, List.sum_cons, List.length_cons] at ih ⊢; omega
theorem bulk_marks {H : Type} (L : List Mb) : bulkM L ≤ Rows.uptoBulkAll (L.map fun m => (DataW.agg [.lit (.bool m.1), .lit (.string m.2.data.toList)] : DataW H)) := by
  induction L with
  | nil => exact Nat.zero_le _
  | cons x r ih =>
    simp only [bulkM, List.map_cons, List.sum_cons, Rows.uptoBulkAll, Rows.uptoBulk] at ih ⊢
    rw [Lib.size_eq]
    omega
theorem open_marksU {H : Type} {enc : TypeId × Value → H} {P : Program} {W : World} {base b0 : Nat} {r : Reach} {t e : TypeId} {f0 f1 : Field} {v : Value} {d : DataW H} {ps : List MemPlace} (ht : P.underlying t = some (.slice e)) (he : P.underlying e = some (.struct #[f0, f1]))
    (hb : P.underlying f0.type = some .bool) (hs : P.underlying f1.type = some .string) (ho : f0.offset = 0 ∧ f1.offset = 1) (hc : P.cellsOf e = 2 ∧ P.cellsOf f0.type = 1 ∧ P.cellsOf f1.type = 1) (_hby : P.bytesOf e = 24)
    (hval : Value.okWide P W r b0 t v) (hd : DataW.Trod enc P W base (fun _ => true) true t v d ps) (hw : Rows.uptoBulk d ≤ 1048576) : ∃ (A : Option Addr) (n c : Nat) (L : List Mb), v = .slice A n c ∧ MArgU W A n c L := by
  obtain ⟨A, n, c, L, S, rfl, hn, hnc, hm, hdd⟩ := pairs_marks ht he hb hs ho hc hval hd
  have hbulk : bulkM L ≤ 1048576 := by
    rcases hdd with ⟨_, rfl, _⟩ | rfl
    · exact Nat.zero_le _
    · have := bulk_marks (H := H) L
      simp only [Rows.uptoBulk] at hw
      omega
  have hl := bulkM_len L
  refine ⟨A, n, c, L, rfl, ⟨hn, hnc, by omega, fun m hm' => ?_, hm⟩, hbulk⟩
  have := bulkM_mem hm'
  omega
end Go.Proofs.Ytjpaboomgicjaaa
