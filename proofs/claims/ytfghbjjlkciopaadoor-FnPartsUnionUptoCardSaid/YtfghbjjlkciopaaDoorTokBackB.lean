/- Contract of impl.TokensBackBytes: the parts between code points of the set, in new memory. Conditions: a text of at most 2 to the 42 bytes; the tables of utf8. -/
import Derived.Test.YtfghbjjlkciopaaDoorTokBack
import Derived.Test.YtfghbjjlkciopaaDoorTrimB
namespace Go.Proofs.YtfghbjjlkciopaaDoor
open Go.RowKit
set_option linter.unusedVariables false

theorem in_trimRB (set s : ByteArray) (v : Value) (b lo B : Nat) (w : World) (hs : s.size ≤ 4398046511104) (hv : BV w lo B v s) (hT : Tabs w) (hc : w.cell? ⟨b, 0, none⟩ = some (.string set)) (hB : B ≤ w.heap.size) :
    Calls Tryd.prog 48 #[v, .func (.func 56) #[] #[.pointer (some ⟨b, 0, none⟩)]] w fun e w' => ∃ v', e = .returned v' ∧ BV w' lo B v' (Lib.trimRightF (inSet set) s) ∧ Below w.heap.size w w' :=
  trimRB (enters_of Tryd.func56 (by kernel_rfl) rfl) (inSet set) s v lo B w hs hv hT (in_pred set b w hc) hB
theorem notIn_trimRB (set s : ByteArray) (v : Value) (b lo B : Nat) (w : World) (hs : s.size ≤ 4398046511104) (hv : BV w lo B v s) (hT : Tabs w) (hc : w.cell? ⟨b, 0, none⟩ = some (.string set)) (hB : B ≤ w.heap.size) :
    Calls Tryd.prog 48 #[v, .func (.func 58) #[] #[.pointer (some ⟨b, 0, none⟩)]] w fun e w' => ∃ v', e = .returned v' ∧ BV w' lo B v' (Lib.trimRightF (fun x => !inSet set x) s) ∧ Below w.heap.size w w' :=
  trimRB (enters_of Tryd.func58 (by kernel_rfl) rfl) (fun x => !inSet set x) s v lo B w hs hv hT (notIn_pred set b w hc) hB

theorem txt_ofB {s : ByteArray} {l : List UInt8} (h : s.data.toList = l) : s = txt l := by
  rw [← Lib.mk_data s, h]; rfl
set_option maxHeartbeats 1600000 in
theorem impl_tokensBackB (s set : ByteArray) (w : World) (hs : s.size ≤ 4398046511104) (hT : Tabs w) :
    Calls Tryd.prog 28 #[.string s, .string set] w (TextsPost ((segs (inSet set) (pcsB s)).map flat).reverse w) := by
  go_enter Tryd.func28, Tryd.ntmps28
  go_wp2_with ((with_reducible refine wpList_toBV _ (o := ⟨some 10, _, _, _, _, _⟩) rfl _ _ _ 5 rfl Tryd.underlying9 Tryd.underlying45 Tryd.underlying5 s rfl ?_); intro vb wb hbv hbb hzb)
  have hwb : Below w.heap.size w wb := ((Below.refl _ _).alloc (Nat.le_refl _) _).trans (hbb.mono (by simp))
  simp only [World.size_alloc] at hbv hzb
  (with_reducible refine (in_made set _).mono ?_); rintro e w0 ⟨b0, rfl, hc0, hb0⟩
  have hz0 := hb0.size
  have hw0 := hwb.trans (hb0.mono hwb.size)
  go_wp2_with fail
  (with_reducible refine (in_trimRB set s vb b0 (w.heap.size + 1) (w.heap.size + 1 + 1) _ hs (hbv.below (hb0.mono hzb)) (hT.below hw0) hc0 (by omega)).mono ?_); rintro e w1 ⟨v1, rfl, hv1, hb1⟩
  have hz1 := hb1.size
  have hw1 := hw0.trans (hb1.mono hw0.size)
  go_wp2_with fail
  go_loopw [5, 6] (fun v r wr => ∃ (T : List (List UInt8)) (rest : ByteArray), BV wr (w.heap.size + 1) (w.heap.size + 1 + 1) r rest ∧ Hid (TokBIs (inSet set) s T rest) ∧ Own wr w.heap.size 9 v (texts T) ∧ Below w.heap.size w wr ∧ w.heap.size + 1 + 1 ≤ wr.heap.size ∧ ∀ g, v.ownBlock = some g → g < w.heap.size + 1 ∨ w.heap.size + 1 + 1 ≤ g) (fun _ r _ => match r with | .slice _ n _ => n | _ => 0)
  case atStart => exact ⟨[], _, hv1, TokBIs.start _ _, (((Own.empty w _ _ _ rfl (Nat.le_refl _)).below hbb).below hb0).below hb1, hw1, by omega, fun g hg => by simp [Value.ownBlock] at hg; omega⟩
  case round =>
    obtain ⟨T, rest, hbr, htok, hown, hbw, hzr, hgv⟩ := hrel
    obtain ⟨pr, cr, rfl, hcr⟩ := hbr.form
    have hsz : rest.size + T.length ≤ s.size := htok.out.2.2
    have hzw := hbw.size
    by_cases hlt : 0 < rest.size
    · obtain ⟨hnext, hless⟩ := htok.out.next hlt
      have Hnext := Lib.hid hnext
      have Hless := Lib.hid hless
      clear hnext hless
      go_wp2_with fail
      (with_reducible refine (notIn_made set _).mono ?_); rintro e w2 ⟨b2, rfl, hc2, hb2⟩
      have hz2 := hb2.size
      have hw2 := hbw.trans (hb2.mono hzw)
      go_wp2_with fail
      (with_reducible refine (notIn_trimRB set rest _ b2 (w.heap.size + 1) (w.heap.size + 1 + 1) _ (by omega) (hbr.below (hb2.mono hzr)) (hT.below hw2) hc2 (by omega)).mono ?_); rintro e w3 ⟨v3, rfl, hv3, hb3⟩
      have hz3 := hb3.size
      have hw3 := hw2.trans (hb3.mono hw2.size)
      have hbr3 := (hbr.below (hb2.mono hzr)).below (hb3.mono (by omega))
      go_wp2_with fail
      (with_reducible refine (trimPrefixB rest _ _ _ (w.heap.size + 1) (w.heap.size + 1 + 1) _ (by omega) hbr3 hv3).mono ?_); rintro e w3 ⟨rfl, p4, n4, c4, rfl, hn4, hc4, hb4⟩
      obtain ⟨p3, c3, rfl, hc3⟩ := hv3.form
      go_wp2_with (first
        | ((with_reducible refine wpList_toString _ (o := ⟨some 25, _, _, _, _, _⟩) rfl _ _ _ 5 rfl Tryd.underlying45 Tryd.underlying5 Tryd.underlying9 p4 n4 c4 _ _ rfl hn4.out hb4 ?_); intro tk htk)
        | (at_builtin; refine wpList_push w3 rfl (.tmp 21) (.tmp 26) 22 rfl w.heap.size 9 _ 16 Tryd.underlying22 info_string rfl _ _ (.string tk) _ rfl rfl rfl ((hown.below hb2).below hb3) rfl (by rw [texts_length]; omega) (by omega) (by omega) ?_; intro v5 w5 hown5 hbw5 hgr5 hat5))
      have hv5 := hv3.grown hgr5 hgv (by omega)
      have hB5 : Below w.heap.size w w5 := hw3.trans hbw5
      have hz5 := hgr5.size
      have hg5 : ∀ g, v5.ownBlock = some g → g < w.heap.size + 1 ∨ w.heap.size + 1 + 1 ≤ g := fun g hg => by
        rcases hat5 with e | ⟨g', e, hg'⟩ <;> rw [e] at hg
        · exact hgv g hg
        · injection hg with hg; omega
      clear hgr5 hat5
      have hsz3 := trimRightF_size (fun x => !inSet set x) rest
      (with_reducible refine (in_made set _).mono ?_); rintro e w6 ⟨b6, rfl, hc6, hb6⟩
      have hz6 := hb6.size
      have hB6 := hB5.trans (hb6.mono hB5.size)
      go_wp2_with fail
      (with_reducible refine (in_trimRB set _ _ b6 (w.heap.size + 1) (w.heap.size + 1 + 1) _ (by omega) (hv5.below (hb6.mono (by omega))) (hT.below hB6) hc6 (by omega)).mono ?_); rintro e w7 ⟨v7, rfl, hv7, hb7⟩
      have hz7 := hb7.size
      obtain ⟨p7, c7, rfl, hc7⟩ := hv7.form
      go_wp2_with fail
      go_roundw
      case rel => exact ⟨_, _, hv7, Hnext, by unfold texts; rw [List.map_append]; simp only [List.map_cons, List.map_nil]; rw [← txt_ofB htk.out]; exact (hown5.below hb6).below hb7, hB6.trans (hb7.mono hB6.size), by omega, hg5⟩
      case measure => exact Hless.out
    · go_wp2_with fail
      go_ret
      rw [htok.out.end_ hlt] at hown
      exact ⟨_, rfl, hown, hbw⟩
theorem spec_tokensBackB (s set : ByteArray) (w : World) (hs : s.size ≤ 4398046511104) (hset : set.size ≤ 4398046511104) :
    Calls Tryd.prog 27 #[.string s, .string set] w (TextsPost ((segs (inSet set) (pcsB s)).map flat).reverse w) := by
  go_enter Tryd.func27, Tryd.ntmps27
  go_wp2_with fail
  (with_reducible refine (spec_tokensBack s set _ hs hset).mono ?_); rintro e w1 ⟨v, rfl, hown, hb⟩
  go_wp2_with fail
  go_ret
  exact ⟨v, rfl, hown, hb⟩
end Go.Proofs.YtfghbjjlkciopaaDoor
