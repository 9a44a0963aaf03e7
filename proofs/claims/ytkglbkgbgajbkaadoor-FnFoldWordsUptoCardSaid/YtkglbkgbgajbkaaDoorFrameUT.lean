/- The bound of the second form at an argument of texts. Conditions: none. -/
import Derived.Test.YtkglbkgbgajbkaaDoorFrameU
import Derived.Test.YtkglbkgbgajbkaaDoorFrameT
namespace Go.Proofs.YtkglbkgbgajbkaaDoor
open Go.ChangeShapes Go.WideShapes Go.ChangeAt Go.RowKit Go.Deep

def TArgU (W : World) (A : Option Addr) (n c : Nat) (L : List (List UInt8)) : Prop := TArg W A n c L ∧ bulkT L ≤ 1048576
theorem bulkT_mem {x : List UInt8} {L : List (List UInt8)} (h : x ∈ L) : x.length + 1 ≤ bulkT L := by
  induction L with
  | nil => cases h
  | cons y r ih =>
    simp only [bulkT, List.map_cons, List.sum_cons] at ih ⊢
    rcases List.mem_cons.1 h with rfl | h'
    · omega
    · have := ih h'; omega
theorem bulkT_len (L : List (List UInt8)) : L.length ≤ bulkT L := by
  induction L with
  | nil => exact Nat.zero_le _
  | cons x r ih => simp only [bulkT, List.map_cons, List.sum_cons, List.length_cons] at ih ⊢; omega
theorem bulk_texts {H : Type} (L : List (List UInt8)) : bulkT L ≤ Rows.uptoBulkAll (L.map fun x => (DataW.lit (.string x) : DataW H)) := by
  induction L with
  | nil => exact Nat.zero_le _
  | cons x r ih =>
    simp only [bulkT, List.map_cons, List.sum_cons, Rows.uptoBulkAll, Rows.uptoBulk] at ih ⊢
    omega
theorem open_textsU {H : Type} {enc : TypeId × Value → H} {P : Program} {W : World} {base b0 : Nat} {r : Reach} {t e : TypeId} {v : Value} {d : DataW H} {ps : List MemPlace} (ht : P.underlying t = some (.slice e)) (he : P.underlying e = some .string) (hc : P.cellsOf e = 1) (_hby : P.bytesOf e = 16)
    (hval : Value.okWide P W r b0 t v) (hd : DataW.Trod enc P W base (fun _ => true) true t v d ps) (hw : Rows.uptoBulk d ≤ 1048576) : ∃ (A : Option Addr) (n c : Nat) (L : List (List UInt8)), v = .slice A n c ∧ TArgU W A n c L := by
  obtain ⟨A, n, c, L, S, rfl, hn, hnc, hm, hdd⟩ := texts_open ht he hc hval hd
  have hbulk : bulkT L ≤ 1048576 := by
    rcases hdd with ⟨_, rfl, _⟩ | rfl
    · exact Nat.zero_le _
    · have := bulk_texts (H := H) L
      simp only [Rows.uptoBulk] at hw
      omega
  have hl := bulkT_len L
  refine ⟨A, n, c, L, rfl, ⟨hn, hnc, by omega, fun x hx => ?_, hm⟩, hbulk⟩
  have := bulkT_mem hx
  omega
end Go.Proofs.YtkglbkgbgajbkaaDoor
