/- Contracts of spec.Words and spec.WordsBytes: the words of each text of a list, in new memory. Conditions: texts of at most 2 to the 20 bytes. -/
import Derived.Test.YtdlhjnihmkbagaaDoorWordsMem
import Derived.Test.YtdlhjnihmkbagaaDoorFieldsSp
namespace Go.Proofs.YtdlhjnihmkbagaaDoor
open Go.RowKit
set_option linter.unusedVariables false

set_option maxRecDepth 100000 in
set_option maxHeartbeats 3200000 in
theorem spec_words (A : Option Addr) (n c : Nat) (L : List (List UInt8)) (w : World) (hn : Hid (n = L.length)) (hnl : n ≤ 4398046511104) (hf : Hid (∀ x ∈ L, x.length ≤ 1048576)) (hr : RowAt w 0 w.heap.size A (texts L)) :
    Calls Tryd.prog 17 #[.slice A n c] w (RowsPost (L.map wordsOf) w) := by
  have Hr := Lib.hid hr; clear hr
  go_enter Tryd.func17, Tryd.ntmps17
  go_wp2_with fail
  go_loopw [3, 9] (fun v i wr => ∃ (k : Nat), k ≤ n ∧ i = .int .i64 k ∧ WIs w v ((L.take k).map wordsOf) wr) (fun _ i _ => n - (intOf i).toNat)
  case atStart => exact ⟨0, Nat.zero_le _, rfl, [], Own.empty w _ _ _ rfl (Nat.le_refl _), Rows.nil _ _ _, (Below.refl _ _).alloc (Nat.le_refl _) _⟩
  case round =>
    obtain ⟨k, hk, rfl, vs, hown, hrows, hbw⟩ := hrel
    have hz := hbw.size
    by_cases hlt : k < n
    · have hk' : k < L.length := by rw [← hn.out]; exact hlt
      obtain ⟨ba, oa, rfl, _, hba, hcell⟩ := Hr.out.at_ (i := k) (by rw [texts_length]; exact hk')
      replace hcell := (hbw.cell (p := ⟨ba, oa + k, none⟩) hba).trans hcell
      have hst := wordsAll_take L k hk'
      have hxl := hf.out _ (List.getElem_mem hk')
      have hvl : vs.length ≤ n := by rw [hrows.1, List.length_map, List.length_map, List.length_take]; omega
      obtain ⟨x, hx⟩ : ∃ x, x = L[k] := ⟨_, rfl⟩
      rw [show (texts L)[k]'(by rw [texts_length]; exact hk') = .string (txt L[k]) by simp [texts], ← hx] at hcell
      rw [← hx] at hst hxl
      have Hst := Lib.hid hst
      clear hst hx hk'
      have hxs : (txt x).size ≤ 4398046511104 := by rw [txt_len]; omega
      go_wp2_with fail
      (with_reducible refine (fields_space (txt x) _ _ hxs).mono ?_); rintro e w1 ⟨u, rfl, ho1, hb1⟩
      rw [txt_data] at ho1
      have hz1 := hb1.size
      have hO1 := hown.below hb1
      have Hrows := Lib.hid hrows; have Hown := Lib.hid hown
      obtain ⟨A5, c5, rfl, hc5, _⟩ := ho1.form
      generalize (texts (wordsOf x)).length = m at hc5 ho1
      clear hrows hown
      go_wp2_with (at_builtin; refine wpList_push w1 rfl (.tmp 13) (.tmp 16) 24 rfl w.heap.size 22 _ 24 Tryd.underlying24 info_strings rfl _ _ (.slice A5 m c5) _ rfl rfl rfl hO1 rfl (by omega) (by omega) (by omega) ?_; intro v4 w4 hown4 hbw4 hgr4 hat4)
      have hrn := Hrows.out.push Hown.out hb1 ho1 hz hgr4 hat4
      have hbn : Below w.heap.size w w4 := (hbw.trans (hb1.mono hz)).trans hbw4
      go_roundw
      case rel => exact ⟨k + 1, by omega, by go_num, _, hown4, by rw [Hst.out, List.map_append]; exact hrn, hbn⟩
      case measure => simp [intOf]; omega
    · have hkn : k = n := by omega
      rw [hkn, List.take_of_length_le (by rw [← hn.out]; exact Nat.le_refl _)] at hrows
      clear hkn
      go_wp2_with fail
      go_ret
      exact ⟨_, _, rfl, hown, hrows, hbw⟩
theorem spec_wordsB (A : Option Addr) (n c : Nat) (L : List (List UInt8)) (w : World) (hn : Hid (n = L.length)) (hnl : n ≤ 4398046511104) (hf : Hid (∀ x ∈ L, x.length ≤ 1048576)) (hr : RowAt w 0 w.heap.size A (texts L)) :
    Calls Tryd.prog 9 #[.slice A n c] w (RowsPost (L.map wordsOf) w) := by
  have Hr := Lib.hid hr; clear hr
  go_enter Tryd.func9, Tryd.ntmps9
  go_wp2_with fail
  (with_reducible refine (spec_words A n c L _ hn hnl hf Hr.out).mono ?_); rintro e w1 ⟨v, vs, rfl, h1, h2, hb⟩
  go_wp2_with fail
  go_ret
  exact ⟨v, vs, rfl, h1, h2, hb⟩
end Go.Proofs.YtdlhjnihmkbagaaDoor
