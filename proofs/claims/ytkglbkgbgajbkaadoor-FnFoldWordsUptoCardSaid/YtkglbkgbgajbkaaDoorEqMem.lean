/- Words for the walks of EqualFold: the tables stay; the first piece of a text; low bytes. Conditions: none. -/
import Derived.Test.YtkglbkgbgajbkaaDoorSimple
import Derived.Test.YtkglbkgbgajbkaaDoorEqPlain
import Derived.Test.YtkglbkgbgajbkaaDoorFieldsIt
import Derived.Test.YtkglbkgbgajbkaaDoorTabs
namespace Go.Proofs.YtkglbkgbgajbkaaDoor
open Go.RowKit Go.Lib

theorem AsciiVar.below {w w' : World} (h : AsciiVar w) (hb : Below w.heap.size w w') : AsciiVar w' := fun r hr => (hb.cell (p := ⟨1, r, none⟩) (cell_lt (h r hr))).trans (h r hr)
theorem OrbVar.below {w w' : World} (h : OrbVar w) (hb : Below w.heap.size w w') : OrbVar w' := by
  obtain ⟨R, o, cap, h1, h2⟩ := h
  refine ⟨R, o, cap, (hb.cell (p := ⟨2, 0, none⟩) (cell_lt h1)).trans h1, fun i hi => ?_⟩
  have h3 := h2 i hi
  exact ⟨(hb.cell (p := ⟨R, o + i * 2, none⟩) (cell_lt h3.1)).trans h3.1, (hb.cell (p := ⟨R, o + i * 2 + 1, none⟩) (cell_lt h3.2)).trans h3.2⟩
theorem caseVar_below {g : Nat} {w w' : World} (h : CaseVar g caseA w) (hb : Below w.heap.size w w') : CaseVar g caseA w' := by
  obtain ⟨R, o, cap, h1, h2⟩ := h
  refine ⟨R, o, cap, (hb.cell (p := ⟨g, 0, none⟩) (cell_lt h1)).trans h1, fun i hi => ?_⟩
  obtain ⟨a, b, c, d, e⟩ := h2 i hi
  exact ⟨(hb.cell (p := ⟨R, o + i * 5, none⟩) (cell_lt a)).trans a, (hb.cell (p := ⟨R, o + i * 5 + 1, none⟩) (cell_lt b)).trans b, (hb.cell (p := ⟨R, o + i * 5 + 2, none⟩) (cell_lt c)).trans c, (hb.cell (p := ⟨R, o + i * 5 + 3, none⟩) (cell_lt d)).trans d, (hb.cell (p := ⟨R, o + i * 5 + 4, none⟩) (cell_lt e)).trans e⟩
theorem FoldVars.below {w w' : World} (h : FoldVars w) (hb : Below w.heap.size w w') : FoldVars w' := ⟨h.1.below hb, h.2.1.below hb, caseVar_below h.2.2 hb⟩
theorem FoldVars.drewN {w : World} (h : FoldVars w) (q : Nat) : FoldVars (w.drewN q) := h
theorem decodeS_any (s : ByteArray) (w : World) (hT : Tabs w) :
    Calls Tryd.prog 19 #[.string s] w fun e w' => e = .returned (.tuple #[.int .i32 (Lib.decodeGo s).1, .int .i64 (Lib.decodeGo s).2]) ∧ Below w.heap.size w w' := Tryd.utf8_DecodeRuneInString s w hT
theorem or_low {x y : Nat} (h : ¬ 128 ≤ (x ||| y)) : x < 128 ∧ y < 128 := by
  have h1 : x ≤ x ||| y := Nat.left_le_or
  have h2 : y ≤ x ||| y := Nat.right_le_or
  omega
theorem foldB_low {x y : Nat} (hx : x < 128) (hy : y < 128) : foldB x y = decide (x = y ∨ (65 ≤ x ∧ x ≤ 90 ∧ y = x + 32) ∨ (65 ≤ y ∧ y ≤ 90 ∧ x = y + 32)) := by
  rcases Nat.lt_trichotomy x y with h | h | h
  · rw [fold_ascii h hy, decide_eq_decide]; omega
  · subst h; rw [foldB_refl]; simp
  · rw [foldB_symm, fold_ascii h hx, decide_eq_decide]; omega
theorem extract_tail (s : ByteArray) (i : Nat) : (s.extract i s.size).data.toList = s.data.toList.drop i := by
  rw [Lib.extract_data, List.take_of_length_le (by rw [List.length_drop, ← Lib.size_eq]; omega)]
theorem tail_size (s : ByteArray) (i : Nat) : (s.extract i s.size).size ≤ s.size := by rw [Lib.size_eq, extract_tail, List.length_drop, ← Lib.size_eq]; omega
theorem tail_get (s : ByteArray) (k j : Nat) (h : k + j < s.size) : s.get! (k + j) = (s.extract k s.size).get! j := by
  have h1 : k + j < s.data.toList.length := by rw [← Lib.size_eq]; exact h
  have h2 : j < (s.extract k s.size).data.toList.length := by rw [extract_tail, List.length_drop, ← Lib.size_eq]; omega
  rw [← Lib.getD_get!, ← Lib.getD_get!, List.getD_eq_getElem?_getD, List.getD_eq_getElem?_getD, List.getElem?_eq_getElem h1, List.getElem?_eq_getElem h2]
  simp only [Option.getD_some]
  simp only [extract_tail, List.getElem_drop]
/-- the first piece of a text that is not empty -/
theorem dec_first {s : ByteArray} (h : 0 < s.size) : ∃ q Q, pcsB s = q :: Q ∧ decodeGo s = (q.1, q.2.length) ∧ q.2.length ≤ s.size ∧ 1 ≤ q.2.length ∧ q.1 ≤ 1114111 ∧ pcsB (s.extract q.2.length s.size) = Q := by
  cases hp : pcsB s with
  | nil => exact absurd ((pcsB_nil_iff s).1 hp) (by omega)
  | cons q Q =>
    have hN : Norm (q :: Q) := by rw [← hp]; exact norm_pcsB s
    have h1 := decode_at (A := []) (by rw [hp]; rfl)
    rw [flat_nil, List.length_nil] at h1
    have e0 : s.extract 0 s.size = s := by
      rw [← Lib.mk_data (s.extract 0 s.size), extract_tail, List.drop_zero, Lib.mk_data]
    rw [e0] at h1
    have h2 := mid_le (s := s) (D := []) (q := q) (P := Q) (by rw [hp]; rfl)
    rw [flat_nil, List.length_nil] at h2
    refine ⟨q, Q, rfl, h1, by omega, (pc_len hN).1, pcs_rune q (by show q ∈ pcsB s; rw [hp]; simp), ?_⟩
    have hl : s.data.toList = q.2 ++ flat Q := by
      have := flat_pcsB s
      rw [hp, flat_cons] at this
      exact this.symm
    unfold pcsB
    rw [extract_tail, hl, List.drop_left]
    exact hN.right (P := [q])
theorem sfold_lt {r : Nat} (h : r < 2147483648) : sfold r < 2147483648 := by
  by_cases ha : r < 128
  · rw [sfold_ascii ha]; have := asciiF_le ha; omega
  · unfold sfold
    rw [Nat.ble_eq_true_of_le (by omega), cond_true]
    split
    · rename_i t ht
      unfold orb at ht
      by_cases hm : ∃ i, ∃ hi : i < orbitT.length, orbitT[i].1 = r
      · obtain ⟨i, hi, hr⟩ := hm
        have e : lookO r orbitT = some orbitT[i].2 := lookO_at hi hr fun j hj => by have := orbit_lt hi hj; omega
        rw [e] at ht
        cases ht
        have := (orbit_le hi).2
        omega
      · rw [lookO_none_of fun x hx e => hm (by obtain ⟨i, hi, rfl⟩ := List.mem_iff_getElem.1 hx; exact ⟨i, hi, e⟩)] at ht
        cases ht
    · split
      · rename_i x hx
        obtain ⟨hm, h1, h2⟩ := lookR_some (T := caseT) hx
        have b1 := rowFold_bounds hm h1 h2 1 (by omega)
        have b0 := rowFold_bounds hm h1 h2 0 (by omega)
        unfold rowFold
        split <;> omega
      · exact h
end Go.Proofs.YtkglbkgbgajbkaaDoor
