/- Contract of impl.Words: the words of each text of a list, in new memory. Conditions: texts of at most 2 to the 22 bytes; the tables of white space. -/
import Derived.Test.YtdlhjnihmkbagaaDoorWordsMem
import Derived.Test.YtdlhjnihmkbagaaDoorTabsW
namespace Go.Proofs.YtdlhjnihmkbagaaDoor
open Go.RowKit Go.Shelf
set_option linter.unusedVariables false

/-- the inner loop's word: the words lie within blocks .. hi, the row that grows apart from them -/
def InIs (wr : World) (F : List (List UInt8)) (A : Option Addr) (hi j : Nat) (v : Value) (wx : World) : Prop :=
  Own wx wr.heap.size 9 v (texts (F.take j)) ∧ Below wr.heap.size wr wx ∧ RowAt wx (wr.heap.size + 1) hi A (texts F) ∧ hi ≤ wx.heap.size ∧ ∀ g, v.ownBlock = some g → g < wr.heap.size + 1 ∨ hi ≤ g
theorem InIs.push {wr : World} {F : List (List UInt8)} {A : Option Addr} {hi j : Nat} {v v' : Value} {wx w' : World} {x : List UInt8} (h : InIs wr F A hi j v wx) (hj : F.take (j + 1) = F.take j ++ [x]) (ho : Own w' wr.heap.size 9 v' (texts (F.take j) ++ [.string (txt x)])) (hb : Below wr.heap.size wx w') (hg : wx.grownBy w' v.ownBlock) (hat : v'.ownBlock = v.ownBlock ∨ ∃ g, v'.ownBlock = some g ∧ wx.heap.size ≤ g) : InIs wr F A hi (j + 1) v' w' := by
  obtain ⟨h1, h2, h3, h4, h5⟩ := h
  refine ⟨by rw [hj]; unfold texts; rw [List.map_append]; exact ho, h2.trans hb, h3.grown hg h5 h4, Nat.le_trans h4 hg.size, fun g hg' => ?_⟩
  rcases hat with e | ⟨g', e, hge⟩
  · exact h5 g (e ▸ hg')
  · rw [e] at hg'
    injection hg' with hg'
    omega
theorem info_stringsSpan : (Tryd.prog.info? (Tryd.lays157_ren.t 154)).map (fun i => (i.zero, i.size, i.bytes)) = some (some (.agg #[.int .i64 0, .int .i64 0]), 2, 16) := by kernel_rfl
theorem fields_any (x : List UInt8) (w : World) (hx : x.length ≤ 4194304) (hT : TabsT w) :
    Calls Tryd.prog 29 #[.string (txt x)] w fun e w' => ∃ A, e = .returned (.slice (some ⟨A, 0, none⟩) (wordsOf x).length (wordsOf x).length) ∧ w.heap.size ≤ A ∧ Own w' w.heap.size 9 (.slice (some ⟨A, 0, none⟩) (wordsOf x).length (wordsOf x).length) (texts (wordsOf x)) ∧ Below w.heap.size w w' := by
  have h := Any.strings_Fields_any Tryd.lays157 info_string info_stringsSpan gS (txt x) w (by rw [txt_len]; omega) hT.2 hT.1
  rw [txt_data, wordsOf_fields] at h
  refine h.mono fun e w' ⟨A, h1, h2, h3, h4⟩ => ⟨A, h1, h2, ?_, h4⟩
  unfold Own
  rw [texts_length]
  exact h3

set_option maxRecDepth 100000 in
set_option maxHeartbeats 3200000 in
theorem impl_words (A : Option Addr) (n c : Nat) (L : List (List UInt8)) (w : World) (hn : Hid (n = L.length)) (hnl : n ≤ 4398046511104) (hf : Hid (∀ x ∈ L, x.length ≤ 4194304)) (hr : RowAt w 0 w.heap.size A (texts L)) (hT : TabsT w) :
    Calls Tryd.prog 18 #[.slice A n c] w (RowsPost (L.map wordsOf) w) := by
  have Hr := Lib.hid hr; clear hr
  go_enter Tryd.func18, Tryd.ntmps18
  go_wp2_with fail
  go_loopw [3, 12] (fun v i wr => ∃ (k : Nat), k ≤ n ∧ i = .int .i64 k ∧ WIs w v ((L.take k).map wordsOf) wr) (fun _ i _ => n - (intOf i).toNat)
  case atStart => exact ⟨0, Nat.zero_le _, rfl, [], Own.empty w _ _ _ rfl (Nat.le_refl _), Rows.nil _ _ _, (Below.refl _ _).alloc (Nat.le_refl _) _⟩
  case round =>
    obtain ⟨k, hk, rfl, vs, hown, hrows, hbw⟩ := hrel
    have hz := hbw.size
    by_cases hlt : k < n
    · have hk' : k < L.length := by rw [← hn.out]; exact hlt
      obtain ⟨ba, oa, rfl, _, hba, hcell⟩ := Hr.out.at_ (i := k) (by rw [texts_length]; exact hk')
      replace hcell := (hbw.cell (p := ⟨ba, oa + k, none⟩) hba).trans hcell
      have hst := wordsAll_take L k hk'
      have hxl := hf.out _ (List.getElem_mem hk')
      have hvl : vs.length ≤ n := by rw [hrows.1, List.length_map, List.length_map, List.length_take]; omega
      obtain ⟨x, hx⟩ : ∃ x, x = L[k] := ⟨_, rfl⟩
      rw [show (texts L)[k]'(by rw [texts_length]; exact hk') = .string (txt L[k]) by simp [texts], ← hx] at hcell
      rw [← hx] at hst hxl
      have Hst := Lib.hid hst
      clear hst hx hk'
      have hml := wordsOf_len x
      obtain ⟨F, hF⟩ : ∃ F, F = wordsOf x := ⟨_, rfl⟩
      have hfa := fields_any x (wr.alloc (.cells #[] 9)) hxl ((hT.below hbw).below ((Below.refl _ _).alloc (Nat.le_refl _) _))
      rw [← hF] at hfa hml Hst
      have Hfa := Lib.hid hfa
      clear hfa hF
      obtain ⟨m, hm⟩ : ∃ m, m = F.length := ⟨_, rfl⟩
      rw [← hm] at Hfa hml
      have Hm := Lib.hid hm; clear hm
      have hO0 : Own (wr.alloc (.cells #[] 9)) wr.heap.size 9 (.slice (some ⟨wr.heap.size, 0, none⟩) 0 0) (texts (F.take 0)) := Own.empty wr _ _ _ rfl (Nat.le_refl _)
      go_wp2_with fail
      (with_reducible refine Hfa.out.mono ?_); rintro e w1 ⟨AF, rfl, hAF, hoF, hb1⟩
      have hz1 := hb1.size
      rw [World.size_alloc] at hAF hz1 hoF
      have hI0 : InIs wr F (some ⟨AF, 0, none⟩) w1.heap.size 0 (.slice (some ⟨wr.heap.size, 0, none⟩) 0 0) w1 :=
        ⟨hO0.below hb1, ((Below.refl _ _).alloc (Nat.le_refl _) _).trans (hb1.mono (by simp)), hoF.row, Nat.le_refl _, fun g hg => by simp only [Value.ownBlock, Option.some.injEq] at hg; omega⟩
      obtain ⟨hi, hhi⟩ : ∃ hi, hi = w1.heap.size := ⟨_, rfl⟩
      rw [← hhi] at hI0
      clear hO0 hoF hb1 hz1 hhi
      go_wp2_with fail
      obtain ⟨wo, rfl⟩ : ∃ wo, wo = wr := ⟨_, rfl⟩
      go_loopw [6, 20] (fun v i wr => ∃ (j : Nat), j ≤ m ∧ i = .int .i64 j ∧ InIs wo F (some ⟨AF, 0, none⟩) hi j v wr) (fun _ i _ => m - (intOf i).toNat)
      case atStart => exact ⟨0, Nat.zero_le _, rfl, hI0⟩
      case round =>
        clear hI0
        obtain ⟨j, hj, rfl, hI⟩ := hrel
        by_cases hjm : j < m
        · have hj' : j < F.length := by rw [← Hm.out]; exact hjm
          have hI' := hI
          obtain ⟨q1, q2, q3, q4, q5⟩ := hI'
          obtain ⟨b, o, hA, _, hbl, hc⟩ := q3.at_ (i := j) (by rw [texts_length]; exact hj')
          simp only [Option.some.injEq, Addr.mk.injEq, and_true] at hA
          obtain ⟨rfl, rfl⟩ := hA
          rw [Nat.zero_add] at hc
          have hnx : F.take (j + 1) = F.take j ++ [F[j]] := List.take_succ_eq_append_getElem hj'
          rw [show (texts F)[j]'(by rw [texts_length]; exact hj') = .string (txt F[j]) by simp [texts]] at hc
          generalize F[j] = y at hnx hc
          have hFl : (F.take j).length ≤ m := by rw [List.length_take, ← Hm.out]; omega
          have hzx := q2.size
          have Hnx := Lib.hid hnx; have HI := Lib.hid hI
          clear hnx q3 q4 q5 hj' hI
          go_wp2_with (at_builtin; refine wpList_push wr rfl (.tmp 24) (.tmp 26) 22 rfl wo.heap.size 9 _ 16 Tryd.underlying22 info_string rfl _ _ (.string (txt y)) _ rfl rfl rfl q1 rfl (by rw [texts_length]; omega) (by omega) (by omega) ?_; intro v4 w4 hown4 hbw4 hgr4 hat4)
          have hIn := HI.out.push Hnx.out hown4 hbw4 hgr4 hat4
          go_roundw
          case rel => exact ⟨j + 1, by omega, by go_num, hIn⟩
          case measure => simp [intOf]; omega
        · have hjm' : j = m := by omega
          obtain ⟨q1, q2, q3, q4, q5⟩ := hI
          rw [hjm', List.take_of_length_le (by rw [← Hm.out]; exact Nat.le_refl _)] at q1
          obtain ⟨A5, c5, rfl, hc5, _⟩ := q1.form
          rw [texts_length, ← Hm.out] at q1 hc5 ⊢
          have hzx := q2.size
          have hO2 := hown.below q2
          have Hrows := Lib.hid hrows; have Hown := Lib.hid hown
          clear hjm' q3 q4 q5 hrows hown
          go_wp2_with (at_builtin; refine wpList_push wr rfl (.tmp 29) (.tmp 31) 24 rfl w.heap.size 22 _ 24 Tryd.underlying24 info_strings rfl _ _ (.slice A5 m c5) _ rfl rfl rfl hO2 rfl (by omega) (by omega) (by omega) ?_; intro v4 w4 hown4 hbw4 hgr4 hat4)
          have hrn := Hrows.out.push Hown.out q2 q1 hz hgr4 hat4
          have hbn : Below w.heap.size w w4 := (hbw.trans (q2.mono hz)).trans hbw4
          go_roundw
          case rel => exact ⟨k + 1, by omega, by go_num, _, hown4, by rw [Hst.out, List.map_append]; exact hrn, hbn⟩
          case measure => simp [intOf]; omega
    · have hkn : k = n := by omega
      rw [hkn, List.take_of_length_le (by rw [← hn.out]; exact Nat.le_refl _)] at hrows
      clear hkn
      go_wp2_with fail
      go_ret
      exact ⟨_, _, rfl, hown, hrows, hbw⟩
end Go.Proofs.YtdlhjnihmkbagaaDoor
