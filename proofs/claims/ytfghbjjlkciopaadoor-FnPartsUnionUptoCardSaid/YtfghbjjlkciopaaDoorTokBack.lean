/- Contracts of spec.TokensBack and impl.TokensBack: the parts between code points of the set from the last one to the first one, in new memory. Conditions: a text and a set of at most 2 to the 42 bytes; the tables of utf8. -/
import Derived.Test.YtfghbjjlkciopaaDoorFields
import Derived.Test.YtfghbjjlkciopaaDoorTokBackPlain
import Derived.Test.YtfghbjjlkciopaaDoorTabs
import Derived.Test.YtfghbjjlkciopaaDoorMarked
namespace Go.Proofs.YtfghbjjlkciopaaDoor
open Go.RowKit
set_option linter.unusedVariables false

theorem in_trimR (set s : ByteArray) (b : Nat) (w : World) (hs : s.size ≤ 4398046511104) (hT : Tabs w) (hc : w.cell? ⟨b, 0, none⟩ = some (.string set)) :
    Calls Tryd.prog 46 #[.string s, .func (.func 56) #[] #[.pointer (some ⟨b, 0, none⟩)]] w fun e w' => e = .returned (.string (Lib.trimRightF (inSet set) s)) ∧ Below w.heap.size w w' :=
  Tryd.strings_TrimRightFunc_grows _ _ (enters_of Tryd.func56 (by kernel_rfl) rfl) (inSet set) s w (by omega) hT (in_pred set b w hc)
theorem notIn_trimR (set s : ByteArray) (b : Nat) (w : World) (hs : s.size ≤ 4398046511104) (hT : Tabs w) (hc : w.cell? ⟨b, 0, none⟩ = some (.string set)) :
    Calls Tryd.prog 46 #[.string s, .func (.func 58) #[] #[.pointer (some ⟨b, 0, none⟩)]] w fun e w' => e = .returned (.string (Lib.trimRightF (fun x => !inSet set x) s)) ∧ Below w.heap.size w w' :=
  Tryd.strings_TrimRightFunc_grows _ _ (enters_of Tryd.func58 (by kernel_rfl) rfl) (fun x => !inSet set x) s w (by omega) hT (notIn_pred set b w hc)

set_option maxHeartbeats 1600000 in
theorem impl_tokensBack (s set : ByteArray) (w : World) (hs : s.size ≤ 4398046511104) (hT : Tabs w) :
    Calls Tryd.prog 26 #[.string s, .string set] w (TextsPost ((segs (inSet set) (pcsB s)).map flat).reverse w) := by
  go_enter Tryd.func26, Tryd.ntmps26
  go_wp2_with fail
  (with_reducible refine (in_made set _).mono ?_); rintro e w0 ⟨b0, rfl, hc0, hb0⟩
  go_wp2_with fail
  (with_reducible refine (in_trimR set s b0 _ hs (hT.below (((Below.refl _ _).alloc (Nat.le_refl _) _).trans (hb0.mono (by simp)))) hc0).mono ?_); rintro e w1 ⟨rfl, hb1⟩
  go_wp2_with fail
  go_loopw [5, 6] (fun v r wr => ∃ (T : List (List UInt8)) (rest : ByteArray), r = .string rest ∧ Hid (TokBIs (inSet set) s T rest) ∧ Own wr w.heap.size 9 v (texts T) ∧ Below w.heap.size w wr) (fun _ r _ => match r with | .string x => x.size | _ => 0)
  case atStart => exact ⟨[], _, rfl, TokBIs.start _ _, ((Own.empty w _ _ _ rfl (Nat.le_refl _)).below hb0).below hb1, (((Below.refl _ _).alloc (Nat.le_refl _) _).trans (hb0.mono (by simp))).trans (hb1.mono (by have := hb0.size; simp at this; omega))⟩
  case round =>
    obtain ⟨T, rest, rfl, htok, hown, hbw⟩ := hrel
    have hsz : rest.size + T.length ≤ s.size := htok.out.2.2
    have hzw := hbw.size
    by_cases hlt : 0 < rest.size
    · obtain ⟨hnext, hless⟩ := htok.out.next hlt
      have Hnext := Lib.hid hnext
      have Hless := Lib.hid hless
      clear hnext hless
      go_wp2_with fail
      (with_reducible refine (notIn_made set _).mono ?_); rintro e w2 ⟨b2, rfl, hc2, hb2⟩
      go_wp2_with fail
      (with_reducible refine (notIn_trimR set rest b2 _ (by omega) (hT.below (hbw.trans (hb2.mono hzw))) hc2).mono ?_); rintro e w3 ⟨rfl, hb3⟩
      go_wp2_with fail
      (with_reducible refine (Tryd.strings_TrimPrefix rest _ _).mono ?_); rintro e w3 ⟨rfl, rfl⟩
      go_wp2_with (at_builtin; refine wpList_push w3 rfl (.tmp 20) (.tmp 24) 22 rfl w.heap.size 9 _ 16 Tryd.underlying22 info_string rfl _ _ (.string _) _ rfl rfl rfl ((hown.below hb2).below hb3) rfl (by rw [texts_length]; omega) (by omega) (by have := hb2.size; have := hb3.size; omega) ?_; intro v4 w4 hown4 hbw4 hgr4 hat4)
      clear hgr4 hat4
      have hB4 : Below w.heap.size w w4 := ((hbw.trans (hb2.mono hzw)).trans (hb3.mono (by have := hb2.size; omega))).trans hbw4
      (with_reducible refine (in_made set _).mono ?_); rintro e w5 ⟨b5, rfl, hc5, hb5⟩
      go_wp2_with fail
      (with_reducible refine (in_trimR set _ b5 _ (by have := trimRightF_size (fun x => !inSet set x) rest; omega) (hT.below (hB4.trans (hb5.mono hB4.size))) hc5).mono ?_); rintro e w6 ⟨rfl, hb6⟩
      go_wp2_with fail
      have hz4 := hB4.size
      have hz5 := hb5.size
      go_roundw
      case rel => exact ⟨_, _, rfl, Hnext, by unfold texts; rw [List.map_append]; exact (hown4.below hb5).below hb6, (hB4.trans (hb5.mono hz4)).trans (hb6.mono (by omega))⟩
      case measure => exact Hless.out
    · go_wp2_with fail
      go_ret
      rw [htok.out.end_ hlt] at hown
      exact ⟨_, rfl, hown, hbw⟩

set_option maxHeartbeats 1600000 in
theorem spec_tokensBack (s set : ByteArray) (w : World) (hs : s.size ≤ 4398046511104) (hset : set.size ≤ 4398046511104) :
    Calls Tryd.prog 25 #[.string s, .string set] w (TextsPost ((segs (inSet set) (pcsB s)).map flat).reverse w) := by
  have hnl := segs_size (inSet set) s
  obtain ⟨l, hl⟩ : ∃ l, l = (segs (inSet set) (pcsB s)).map flat := ⟨_, rfl⟩
  have hn : l.length ≤ 4398046511104 := by rw [hl, List.length_map]; omega
  have Hl := Lib.hid hl; clear hl hnl
  go_enter Tryd.func25, Tryd.ntmps25
  go_wp2_with fail
  (with_reducible refine (fields_set s set _ hs hset).mono ?_); rintro e w1 ⟨v, rfl, hown, hb⟩
  rw [← Hl.out] at hown ⊢
  obtain ⟨A, c, rfl, hc, _⟩ := hown.form
  rw [texts_length] at hc
  rw [texts_length]
  have hr0 := hown.row
  have hz1 := hb.size
  simp only [World.size_alloc] at hr0 hz1
  have hn0 : Hid (l.length = l.length) := rfl
  obtain ⟨n, hnn⟩ : ∃ n, n = l.length := ⟨_, rfl⟩
  rw [← hnn] at hc hn ⊢
  have Hn := Lib.hid hnn
  clear hnn hn0
  go_wp2_with fail
  go_loopw [5, 7] (fun v i wr => ∃ k : Nat, k ≤ n ∧ i = .int .i64 ((k : Int) - 1) ∧ Own wr w.heap.size 9 v (texts (l.drop k).reverse) ∧ RowAt wr (w.heap.size + 1) w1.heap.size A (texts l) ∧ Below w.heap.size w wr ∧ w1.heap.size ≤ wr.heap.size ∧ ∀ g, v.ownBlock = some g → g < w.heap.size + 1 ∨ w1.heap.size ≤ g) (fun _ i _ => (intOf i + 1).toNat)
  case atStart => exact ⟨n, Nat.le_refl _, rfl, by rw [List.drop_of_length_le (by rw [Hn.out]; exact Nat.le_refl _)]; exact (Own.empty w _ _ _ rfl (Nat.le_refl _)).below hb, hr0, ((Below.refl _ _).alloc (Nat.le_refl _) _).trans (hb.mono (by simp)), Nat.le_refl _, fun g hg => by simp [Value.ownBlock] at hg; omega⟩
  case round =>
    obtain ⟨k, hk, rfl, ho, hr, hbw, hzr, hgv⟩ := hrel
    have hzw := hbw.size
    by_cases hlt : 0 < k
    · obtain ⟨j, rfl⟩ : ∃ j, k = j + 1 := ⟨k - 1, by omega⟩
      have hj : j < l.length := by rw [← Hn.out]; omega
      obtain ⟨b, o, rfl, hb1, hb2, hcell⟩ := hr.at_ (i := j) (by rw [texts_length]; exact hj)
      obtain ⟨x, hx⟩ : ∃ x, x = l[j] := ⟨_, rfl⟩
      rw [show (texts l)[j]'(by rw [texts_length]; exact hj) = .string (txt l[j]) by simp [texts], ← hx] at hcell
      have hst : (l.drop j).reverse = (l.drop (j + 1)).reverse ++ [x] := by rw [List.drop_eq_getElem_cons hj, List.reverse_cons, hx]
      have Hst := Lib.hid hst
      have hlen : ((l.drop (j + 1)).reverse).length ≤ n := by rw [List.length_reverse, List.length_drop, ← Hn.out]; omega
      clear hst hx
      rw [show ((j + 1 : Nat) : Int) - 1 = (j : Int) by omega]
      go_wp2_with (at_builtin; refine wpList_push wr rfl (.tmp 19) (.tmp 24) 22 rfl w.heap.size 9 _ 16 Tryd.underlying22 info_string rfl _ _ (.string (txt x)) _ rfl rfl rfl ho rfl (by rw [texts_length]; omega) (by omega) (by omega) ?_; intro v4 w4 hown4 hbw4 hgr4 hat4)
      have hz4 := hgr4.size
      go_roundw
      case rel => exact ⟨j, by omega, by go_num, by rw [Hst.out]; unfold texts; rw [List.map_append]; exact hown4, hr.grown hgr4 hgv hzr, hbw.trans hbw4, by omega, fun g hg => by rcases hat4 with e | ⟨g', e, hg'⟩ <;> rw [e] at hg <;> first | exact hgv g hg | (injection hg with hg; omega)⟩
      case measure => simp [intOf]
    · have hk0 : k = 0 := by omega
      subst hk0
      rw [List.drop_zero, Hl.out] at ho
      go_wp2_with fail
      go_ret
      exact ⟨_, rfl, ho, hbw⟩
end Go.Proofs.YtfghbjjlkciopaaDoor
