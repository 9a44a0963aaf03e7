/- The bound of the second form at an argument of steps. Conditions: none. -/
import Derived.Test.YthgigchablajbaaDoorFrameU
import Derived.Test.YthgigchablajbaaDoorFrameQ
namespace Go.Proofs.YthgigchablajbaaDoor
open Go.ChangeShapes Go.WideShapes Go.ChangeAt Go.RowKit Go.Deep

def QArgU (W : World) (A : Option Addr) (n c : Nat) (L : List St) : Prop := QArg W A n c L ∧ bulkQ L ≤ 1048576
theorem bulkQ_mem {m : St} {L : List St} (h : m ∈ L) : m.2.length + 1 ≤ bulkQ L := by
  induction L with
  | nil => cases h
  | cons x r ih =>
    simp only [bulkQ, List.map_cons, List.sum_cons] at ih ⊢
    rcases List.mem_cons.1 h with rfl | h'
    · omega
    · have := ih h'; omega
theorem bulkQ_len (L : List St) : L.length ≤ bulkQ L := by
  induction L with
  | nil => exact Nat.zero_le _
  | cons x r ih => simp only [bulkQ, List.map_cons, List.sum_cons, List.length_cons] at ih ⊢; omega
theorem bulk_steps {H : Type} (L : List St) : bulkQ L ≤ Rows.uptoBulkAll (L.map fun m => (DataW.agg [.lit (.int .i64 m.1), .lit (.string m.2)] : DataW H)) := by
  induction L with
  | nil => exact Nat.zero_le _
  | cons x r ih =>
    simp only [bulkQ, List.map_cons, List.sum_cons, Rows.uptoBulkAll, Rows.uptoBulk] at ih ⊢
    omega
theorem open_stepsU {H : Type} {enc : TypeId × Value → H} {P : Program} {W : World} {base b0 : Nat} {r : Reach} {t e : TypeId} {f0 f1 : Field} {v : Value} {d : DataW H} {ps : List MemPlace} (ht : P.underlying t = some (.slice e)) (he : P.underlying e = some (.struct #[f0, f1]))
    (hb : P.underlying f0.type = some (.int .i64)) (hs : P.underlying f1.type = some .string) (ho : f0.offset = 0 ∧ f1.offset = 1) (hc : P.cellsOf e = 2 ∧ P.cellsOf f0.type = 1 ∧ P.cellsOf f1.type = 1) (_hby : P.bytesOf e = 24)
    (hval : Value.okWide P W r b0 t v) (hd : DataW.Trod enc P W base (fun _ => true) true t v d ps) (hw : Rows.uptoBulk d ≤ 1048576) : ∃ (A : Option Addr) (n c : Nat) (L : List St), v = .slice A n c ∧ QArgU W A n c L := by
  obtain ⟨A, n, c, L, S, rfl, hn, hnc, hi, hm, hdd⟩ := pairs_steps ht he hb hs ho hc hval hd
  have hbulk : bulkQ L ≤ 1048576 := by
    rcases hdd with ⟨_, rfl, _⟩ | rfl
    · exact Nat.zero_le _
    · have := bulk_steps (H := H) L
      simp only [Rows.uptoBulk] at hw
      omega
  have hl := bulkQ_len L
  refine ⟨A, n, c, L, rfl, ⟨hn, hnc, by omega, fun m hm' => ?_, hm⟩, hbulk⟩
  have := bulkQ_mem hm'
  exact ⟨by omega, hi m hm'⟩
end Go.Proofs.YthgigchablajbaaDoor
