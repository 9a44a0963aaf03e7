/- Contracts of spec.Tokens and impl.Tokens: the parts between code points of the set, in new memory. Conditions: a text and a set of at most 2 to the 42 bytes. -/
import Derived.Test.YtfghbjjlkciopaaDoorFields
import Derived.Test.YtfghbjjlkciopaaDoorTokPlain
import Derived.Test.YtfghbjjlkciopaaDoorShelf
namespace Go.Proofs.YtfghbjjlkciopaaDoor
open Go.RowKit
set_option linter.unusedVariables false

theorem spec_tokens (s set : ByteArray) (w : World) (hs : s.size ≤ 4398046511104) (hset : set.size ≤ 4398046511104) :
    Calls Tryd.prog 33 #[.string s, .string set] w (TextsPost ((segs (inSet set) (pcsB s)).map flat) w) := by
  go_enter Tryd.func33, Tryd.ntmps33
  go_wp2_with fail
  (with_reducible refine (fields_set s set _ hs hset).mono ?_); rintro e w1 ⟨v, rfl, hown, hb⟩
  go_wp2_with fail
  go_ret
  exact ⟨v, rfl, hown, hb⟩

theorem in_trimL (set s : ByteArray) (b : Nat) (w : World) (hc : w.cell? ⟨b, 0, none⟩ = some (.string set)) :
    Calls Tryd.prog 50 #[.string s, .func (.func 56) #[] #[.pointer (some ⟨b, 0, none⟩)]] w fun e w' => e = .returned (.string (Lib.trimLeftF (inSet set) s)) ∧ Below w.heap.size w w' :=
  Tryd.strings_TrimLeftFunc_grows _ _ (enters_of Tryd.func56 (by kernel_rfl) rfl) (inSet set) s w (in_pred set b w hc)
theorem notIn_trimL (set s : ByteArray) (b : Nat) (w : World) (hc : w.cell? ⟨b, 0, none⟩ = some (.string set)) :
    Calls Tryd.prog 50 #[.string s, .func (.func 58) #[] #[.pointer (some ⟨b, 0, none⟩)]] w fun e w' => e = .returned (.string (Lib.trimLeftF (fun x => !inSet set x) s)) ∧ Below w.heap.size w w' :=
  Tryd.strings_TrimLeftFunc_grows _ _ (enters_of Tryd.func58 (by kernel_rfl) rfl) (fun x => !inSet set x) s w (notIn_pred set b w hc)

set_option maxHeartbeats 1600000 in
theorem impl_tokens (s set : ByteArray) (w : World) (hs : s.size ≤ 4398046511104) :
    Calls Tryd.prog 31 #[.string s, .string set] w (TextsPost ((segs (inSet set) (pcsB s)).map flat) w) := by
  go_enter Tryd.func31, Tryd.ntmps31
  go_wp2_with fail
  (with_reducible refine (in_made set _).mono ?_); rintro e w0 ⟨b0, rfl, hc0, hb0⟩
  go_wp2_with fail
  (with_reducible refine (in_trimL set s b0 _ hc0).mono ?_); rintro e w1 ⟨rfl, hb1⟩
  go_wp2_with fail
  go_loopw [5, 6] (fun v r wr => ∃ (T : List (List UInt8)) (rest : ByteArray), r = .string rest ∧ Hid (TokIs (inSet set) s T rest) ∧ Own wr w.heap.size 9 v (texts T) ∧ Below w.heap.size w wr) (fun _ r _ => match r with | .string x => x.size | _ => 0)
  case atStart => exact ⟨[], _, rfl, TokIs.start _ _, ((Own.empty w _ _ _ rfl (Nat.le_refl _)).below hb0).below hb1, (((Below.refl _ _).alloc (Nat.le_refl _) _).trans (hb0.mono (by simp))).trans (hb1.mono (by have := hb0.size; simp at this; omega))⟩
  case round =>
    obtain ⟨T, rest, rfl, htok, hown, hbw⟩ := hrel
    have hsz : rest.size + T.length ≤ s.size := htok.out.2.2
    have hzw := hbw.size
    by_cases hlt : 0 < rest.size
    · obtain ⟨hnext, hless⟩ := htok.out.next hlt
      have Hnext := Lib.hid hnext
      have Hless := Lib.hid hless
      clear hnext hless
      go_wp2_with fail
      (with_reducible refine (notIn_made set _).mono ?_); rintro e w2 ⟨b2, rfl, hc2, hb2⟩
      go_wp2_with fail
      (with_reducible refine (notIn_trimL set rest b2 _ hc2).mono ?_); rintro e w3 ⟨rfl, hb3⟩
      go_wp2_with fail
      (with_reducible refine (Tryd.strings_TrimSuffix rest _ _ (by omega)).mono ?_); rintro e w3 ⟨rfl, rfl⟩
      go_wp2_with (at_builtin; refine wpList_push w3 rfl (.tmp 20) (.tmp 24) 22 rfl w.heap.size 9 _ 16 Tryd.underlying22 info_string rfl _ _ (.string _) _ rfl rfl rfl ((hown.below hb2).below hb3) rfl (by rw [texts_length]; omega) (by omega) (by have := hb2.size; have := hb3.size; omega) ?_; intro v4 w4 hown4 hbw4 hgr4 hat4)
      clear hgr4 hat4
      have hB4 : Below w.heap.size w w4 := ((hbw.trans (hb2.mono hzw)).trans (hb3.mono (by have := hb2.size; omega))).trans hbw4
      (with_reducible refine (in_made set _).mono ?_); rintro e w5 ⟨b5, rfl, hc5, hb5⟩
      go_wp2_with fail
      (with_reducible refine (in_trimL set _ b5 _ hc5).mono ?_); rintro e w6 ⟨rfl, hb6⟩
      go_wp2_with fail
      have hz4 := hB4.size
      have hz5 := hb5.size
      go_roundw
      case rel => exact ⟨_, _, rfl, Hnext, by unfold texts; rw [List.map_append]; exact (hown4.below hb5).below hb6, (hB4.trans (hb5.mono hz4)).trans (hb6.mono (by omega))⟩
      case measure => exact Hless.out
    · go_wp2_with fail
      go_ret
      rw [htok.out.end_ hlt] at hown
      exact ⟨_, rfl, hown, hbw⟩
end Go.Proofs.YtfghbjjlkciopaaDoor
