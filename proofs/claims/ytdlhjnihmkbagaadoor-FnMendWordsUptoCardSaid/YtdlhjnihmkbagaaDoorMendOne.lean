/- Contract of impl.Mend: the texts of a list, with a replacement for each run of bytes that are no UTF-8. Conditions: what comes out of a text is at most 2 to the 46 bytes; the tables of utf8. -/
import Derived.Test.YtdlhjnihmkbagaaDoorMendS
import Derived.Test.YtdlhjnihmkbagaaDoorTexts
import Derived.Test.YtdlhjnihmkbagaaDoorPartsPlain
namespace Go.Proofs.YtdlhjnihmkbagaaDoor
open Go.RowKit
set_option linter.unusedVariables false

/-- every text of the list, and how long it comes out -/
def Fits (rep : ByteArray) (L : List (List UInt8)) : Prop := ∀ x ∈ L, x.length + runs false (pcs x) * rep.size ≤ 70368744177664
theorem fits_small {rep : ByteArray} {x : List UInt8} {N : Nat} (h : x.length + x.length * rep.size ≤ N) : x.length + runs false (pcs x) * rep.size ≤ N := by
  have : runs false (pcs x) * rep.size ≤ x.length * rep.size := Nat.mul_le_mul_right _ (runs_len x)
  omega

set_option maxRecDepth 100000 in
set_option maxHeartbeats 1600000 in
theorem impl_mend (A : Option Addr) (n c : Nat) (L : List (List UInt8)) (rep : ByteArray) (w : World) (hn : Hid (n = L.length)) (hnl : n ≤ 4398046511104) (hf : Hid (Fits rep L)) (hrl : rep.size ≤ 1048576) (hr : RowAt w 0 w.heap.size A (texts L)) (hT : Tabs w) :
    Calls Tryd.prog 23 #[.slice A n c, .string rep] w (TextsPost (L.map (mended rep.data.toList)) w) := by
  have Hr := Lib.hid hr; clear hr
  go_enter Tryd.func23, Tryd.ntmps23
  go_wp2_with fail
  go_loopw [5, 11] (fun v i wr => ∃ (k : Nat), k ≤ n ∧ i = .int .i64 k ∧ Own wr w.heap.size 9 v (texts ((L.take k).map (mended rep.data.toList))) ∧ Below w.heap.size w wr) (fun _ i _ => n - (intOf i).toNat)
  case atStart => exact ⟨0, Nat.zero_le _, rfl, Own.empty w _ _ _ rfl (Nat.le_refl _), (Below.refl _ _).alloc (Nat.le_refl _) _⟩
  case round =>
    obtain ⟨k, hk, rfl, hown, hbw⟩ := hrel
    have hz := hbw.size
    by_cases hlt : k < n
    · have hk' : k < L.length := by rw [← hn.out]; exact hlt
      obtain ⟨ba, oa, rfl, _, hba, hcell⟩ := Hr.out.at_ (i := k) (by rw [texts_length]; exact hk')
      replace hcell := (hbw.cell (p := ⟨ba, oa + k, none⟩) hba).trans hcell
      have hst : (L.take (k + 1)).map (mended rep.data.toList) = (L.take k).map (mended rep.data.toList) ++ [mended rep.data.toList L[k]] := by rw [List.take_succ_eq_append_getElem hk', List.map_append]; rfl
      have hfit := hf.out _ (List.getElem_mem hk')
      have hlen : ((L.take k).map (mended rep.data.toList)).length ≤ n := by rw [List.length_map, List.length_take]; omega
      obtain ⟨x, hx⟩ : ∃ x, x = L[k] := ⟨_, rfl⟩
      rw [show (texts L)[k]'(by rw [texts_length]; exact hk') = .string (txt L[k]) by simp [texts], ← hx] at hcell
      rw [← hx] at hst hfit
      have Hst := Lib.hid hst
      clear hst hx hk'
      obtain ⟨T, hT0⟩ : ∃ T, T = (L.take k).map (mended rep.data.toList) := ⟨_, rfl⟩
      rw [← hT0] at hown hlen
      have HT0 := Lib.hid hT0; clear hT0
      have hxs : (txt x).size + runs false (pcsB (txt x)) * rep.size ≤ 70368744177664 := hfit
      have hxl : (txt x).size ≤ 70368744177664 := by omega
      have Hxs := Lib.hid hxs; clear hxs hfit
      go_wp2_with fail
      (with_reducible refine (toValidS (txt x) rep _ Hxs.out (by omega) (hT.below hbw)).mono ?_); rintro e w1 ⟨rfl, hb1⟩
      have hz1 := hb1.size
      go_wp2_with (at_builtin; refine wpList_push w1 rfl (.tmp 15) (.tmp 19) 22 rfl w.heap.size 9 _ 16 Tryd.underlying22 info_string rfl _ _ (.string (txt (mended rep.data.toList x))) _ rfl rfl rfl (hown.below hb1) rfl (by rw [texts_length]; omega) (by omega) (by omega) ?_; intro v4 w4 hown4 hbw4 hgr4 hat4)
      have hfin : Below w.heap.size w w4 := (hbw.trans (hb1.mono hz)).trans hbw4

      go_roundw
      case rel => exact ⟨k + 1, by omega, by go_num, by rw [Hst.out, ← HT0.out]; unfold texts; rw [List.map_append]; exact hown4, hfin⟩
      case measure => simp [intOf]; omega
    · have hkn : k = n := by omega
      rw [hkn, List.take_of_length_le (by rw [← hn.out]; exact Nat.le_refl _)] at hown
      clear hkn
      go_wp2_with fail
      go_ret
      exact ⟨_, rfl, hown, hbw⟩
end Go.Proofs.YtdlhjnihmkbagaaDoor
