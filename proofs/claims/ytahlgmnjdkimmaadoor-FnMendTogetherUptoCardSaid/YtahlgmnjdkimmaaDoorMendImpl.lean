/- Contracts of impl.Mend, MendAll, MendBytes, MendAllBytes and of the reference's: the texts of a list, each or all together, with a replacement for each run of bytes that are no UTF-8. Conditions: what comes out of a text is at most 2 to the 46 bytes; the tables of utf8. -/
import Derived.Test.YtahlgmnjdkimmaaDoorMendS
import Derived.Test.YtahlgmnjdkimmaaDoorMendB
import Derived.Test.YtahlgmnjdkimmaaDoorSpecMend
import Derived.Test.YtahlgmnjdkimmaaDoorPartsPlain
namespace Go.Proofs.YtahlgmnjdkimmaaDoor
open Go.RowKit
set_option linter.unusedVariables false

theorem own_nil {w : World} {base : Nat} {e : TypeId} {v : Value} {l : List UInt8} (h : Own w base e v (bytesV l)) : ∃ A c, v = .slice A l.length c ∧ BAt w w.heap.size A l := by
  obtain ⟨A, c, rfl, hc, _⟩ := h.form
  rw [bytesV_length] at h hc ⊢
  exact ⟨A, c, rfl, own_bat h⟩
theorem flatten_snoc (L : List (List UInt8)) (k : Nat) (hk : k < L.length) : (L.take (k + 1)).flatten = (L.take k).flatten ++ L[k] := by
  rw [List.take_succ_eq_append_getElem hk, List.flatten_append]
  simp only [List.flatten_cons, List.flatten_nil, List.append_nil]
theorem flatten_le (L : List (List UInt8)) (k : Nat) : (L.take k).flatten.length ≤ L.flatten.length := by
  have : L.flatten = (L.take k).flatten ++ (L.drop k).flatten := by rw [← List.flatten_append, List.take_append_drop]
  rw [this, List.length_append]; omega
/-- every text of the list, and how long it comes out -/
def Fits (rep : ByteArray) (L : List (List UInt8)) : Prop := ∀ x ∈ L, x.length + runs false (pcs x) * rep.size ≤ 70368744177664
theorem fits_small {rep : ByteArray} {x : List UInt8} {N : Nat} (h : x.length + x.length * rep.size ≤ N) : x.length + runs false (pcs x) * rep.size ≤ N := by
  have : runs false (pcs x) * rep.size ≤ x.length * rep.size := Nat.mul_le_mul_right _ (runs_len x)
  omega

set_option maxRecDepth 100000 in
set_option maxHeartbeats 1600000 in
theorem spec_mend (A : Option Addr) (n c : Nat) (L : List (List UInt8)) (rep : ByteArray) (w : World) (hn : Hid (n = L.length)) (hnl : n ≤ 4398046511104) (hf : Hid (∀ x ∈ L, x.length ≤ 1048576)) (hrl : rep.size ≤ 1048576) (hr : RowAt w 0 w.heap.size A (texts L)) :
    Calls Tryd.prog 20 #[.slice A n c, .string rep] w (TextsPost (L.map (mended rep.data.toList)) w) := by
  have Hr := Lib.hid hr; clear hr
  go_enter Tryd.func20, Tryd.ntmps20
  go_wp2_with fail
  go_loopw [5, 11] (fun v i wr => ∃ (k : Nat), k ≤ n ∧ i = .int .i64 k ∧ Own wr w.heap.size 9 v (texts ((L.take k).map (mended rep.data.toList))) ∧ Below w.heap.size w wr) (fun _ i _ => n - (intOf i).toNat)
  case atStart => exact ⟨0, Nat.zero_le _, rfl, Own.empty w _ _ _ rfl (Nat.le_refl _), (Below.refl _ _).alloc (Nat.le_refl _) _⟩
  case round =>
    obtain ⟨k, hk, rfl, hown, hbw⟩ := hrel
    have hz := hbw.size
    by_cases hlt : k < n
    · have hk' : k < L.length := by rw [← hn.out]; exact hlt
      obtain ⟨ba, oa, rfl, _, hba, hcell⟩ := Hr.out.at_ (i := k) (by rw [texts_length]; exact hk')
      replace hcell := (hbw.cell (p := ⟨ba, oa + k, none⟩) hba).trans hcell
      have hst : (L.take (k + 1)).map (mended rep.data.toList) = (L.take k).map (mended rep.data.toList) ++ [mended rep.data.toList L[k]] := by rw [List.take_succ_eq_append_getElem hk', List.map_append]; rfl
      have hfit := hf.out _ (List.getElem_mem hk')
      have hlen : ((L.take k).map (mended rep.data.toList)).length ≤ n := by rw [List.length_map, List.length_take]; omega
      obtain ⟨x, hx⟩ : ∃ x, x = L[k] := ⟨_, rfl⟩
      rw [show (texts L)[k]'(by rw [texts_length]; exact hk') = .string (txt L[k]) by simp [texts], ← hx] at hcell
      rw [← hx] at hst hfit
      have Hst := Lib.hid hst
      clear hst hx hk'
      obtain ⟨T, hT0⟩ : ∃ T, T = (L.take k).map (mended rep.data.toList) := ⟨_, rfl⟩
      rw [← hT0] at hown hlen
      have HT0 := Lib.hid hT0; clear hT0
      have hxl : (txt x).size ≤ 1048576 := hfit
      clear hfit
      go_wp2_with fail
      (with_reducible refine (spec_mended (txt x) rep _ (by omega) hrl).mono ?_); rintro e w1 ⟨rfl, hb1⟩
      have hz1 := hb1.size
      go_wp2_with (at_builtin; refine wpList_push w1 rfl (.tmp 15) (.tmp 19) 22 rfl w.heap.size 9 _ 16 Tryd.underlying22 info_string rfl _ _ (.string (txt (mended rep.data.toList x))) _ rfl rfl rfl (hown.below hb1) rfl (by rw [texts_length]; omega) (by omega) (by omega) ?_; intro v4 w4 hown4 hbw4 hgr4 hat4)
      have hfin : Below w.heap.size w w4 := (hbw.trans (hb1.mono hz)).trans hbw4

      go_roundw
      case rel => exact ⟨k + 1, by omega, by go_num, by rw [Hst.out, ← HT0.out]; unfold texts; rw [List.map_append]; exact hown4, hfin⟩
      case measure => simp [intOf]; omega
    · have hkn : k = n := by omega
      rw [hkn, List.take_of_length_le (by rw [← hn.out]; exact Nat.le_refl _)] at hown
      clear hkn
      go_wp2_with fail
      go_ret
      exact ⟨_, rfl, hown, hbw⟩

set_option maxRecDepth 100000 in
set_option maxHeartbeats 1600000 in
theorem impl_mend (A : Option Addr) (n c : Nat) (L : List (List UInt8)) (rep : ByteArray) (w : World) (hn : Hid (n = L.length)) (hnl : n ≤ 4398046511104) (hf : Hid (Fits rep L)) (hrl : rep.size ≤ 1048576) (hr : RowAt w 0 w.heap.size A (texts L)) (hT : Tabs w) :
    Calls Tryd.prog 21 #[.slice A n c, .string rep] w (TextsPost (L.map (mended rep.data.toList)) w) := by
  have Hr := Lib.hid hr; clear hr
  go_enter Tryd.func21, Tryd.ntmps21
  go_wp2_with fail
  go_loopw [5, 11] (fun v i wr => ∃ (k : Nat), k ≤ n ∧ i = .int .i64 k ∧ Own wr w.heap.size 9 v (texts ((L.take k).map (mended rep.data.toList))) ∧ Below w.heap.size w wr) (fun _ i _ => n - (intOf i).toNat)
  case atStart => exact ⟨0, Nat.zero_le _, rfl, Own.empty w _ _ _ rfl (Nat.le_refl _), (Below.refl _ _).alloc (Nat.le_refl _) _⟩
  case round =>
    obtain ⟨k, hk, rfl, hown, hbw⟩ := hrel
    have hz := hbw.size
    by_cases hlt : k < n
    · have hk' : k < L.length := by rw [← hn.out]; exact hlt
      obtain ⟨ba, oa, rfl, _, hba, hcell⟩ := Hr.out.at_ (i := k) (by rw [texts_length]; exact hk')
      replace hcell := (hbw.cell (p := ⟨ba, oa + k, none⟩) hba).trans hcell
      have hst : (L.take (k + 1)).map (mended rep.data.toList) = (L.take k).map (mended rep.data.toList) ++ [mended rep.data.toList L[k]] := by rw [List.take_succ_eq_append_getElem hk', List.map_append]; rfl
      have hfit := hf.out _ (List.getElem_mem hk')
      have hlen : ((L.take k).map (mended rep.data.toList)).length ≤ n := by rw [List.length_map, List.length_take]; omega
      obtain ⟨x, hx⟩ : ∃ x, x = L[k] := ⟨_, rfl⟩
      rw [show (texts L)[k]'(by rw [texts_length]; exact hk') = .string (txt L[k]) by simp [texts], ← hx] at hcell
      rw [← hx] at hst hfit
      have Hst := Lib.hid hst
      clear hst hx hk'
      obtain ⟨T, hT0⟩ : ∃ T, T = (L.take k).map (mended rep.data.toList) := ⟨_, rfl⟩
      rw [← hT0] at hown hlen
      have HT0 := Lib.hid hT0; clear hT0
      have hxs : (txt x).size + runs false (pcsB (txt x)) * rep.size ≤ 70368744177664 := hfit
      have hxl : (txt x).size ≤ 70368744177664 := by omega
      have Hxs := Lib.hid hxs; clear hxs hfit
      go_wp2_with fail
      (with_reducible refine (toValidS (txt x) rep _ Hxs.out (by omega) (hT.below hbw)).mono ?_); rintro e w1 ⟨rfl, hb1⟩
      have hz1 := hb1.size
      go_wp2_with (at_builtin; refine wpList_push w1 rfl (.tmp 15) (.tmp 19) 22 rfl w.heap.size 9 _ 16 Tryd.underlying22 info_string rfl _ _ (.string (txt (mended rep.data.toList x))) _ rfl rfl rfl (hown.below hb1) rfl (by rw [texts_length]; omega) (by omega) (by omega) ?_; intro v4 w4 hown4 hbw4 hgr4 hat4)
      have hfin : Below w.heap.size w w4 := (hbw.trans (hb1.mono hz)).trans hbw4

      go_roundw
      case rel => exact ⟨k + 1, by omega, by go_num, by rw [Hst.out, ← HT0.out]; unfold texts; rw [List.map_append]; exact hown4, hfin⟩
      case measure => simp [intOf]; omega
    · have hkn : k = n := by omega
      rw [hkn, List.take_of_length_le (by rw [← hn.out]; exact Nat.le_refl _)] at hown
      clear hkn
      go_wp2_with fail
      go_ret
      exact ⟨_, rfl, hown, hbw⟩

set_option maxRecDepth 100000 in
set_option maxHeartbeats 1600000 in
theorem impl_mendB (A : Option Addr) (n c : Nat) (L : List (List UInt8)) (rep : ByteArray) (w : World) (hn : Hid (n = L.length)) (hnl : n ≤ 4398046511104) (hf : Hid (Fits rep L)) (hrl : rep.size ≤ 1048576) (hr : RowAt w 0 w.heap.size A (texts L)) (hT : Tabs w) :
    Calls Tryd.prog 17 #[.slice A n c, .string rep] w (TextsPost (L.map (mended rep.data.toList)) w) := by
  have Hr := Lib.hid hr; clear hr
  go_enter Tryd.func17, Tryd.ntmps17
  go_wp2_with fail
  go_loopw [5, 11] (fun v i wr => ∃ (k : Nat), k ≤ n ∧ i = .int .i64 k ∧ Own wr w.heap.size 9 v (texts ((L.take k).map (mended rep.data.toList))) ∧ Below w.heap.size w wr) (fun _ i _ => n - (intOf i).toNat)
  case atStart => exact ⟨0, Nat.zero_le _, rfl, Own.empty w _ _ _ rfl (Nat.le_refl _), (Below.refl _ _).alloc (Nat.le_refl _) _⟩
  case round =>
    obtain ⟨k, hk, rfl, hown, hbw⟩ := hrel
    have hz := hbw.size
    by_cases hlt : k < n
    · have hk' : k < L.length := by rw [← hn.out]; exact hlt
      obtain ⟨ba, oa, rfl, _, hba, hcell⟩ := Hr.out.at_ (i := k) (by rw [texts_length]; exact hk')
      replace hcell := (hbw.cell (p := ⟨ba, oa + k, none⟩) hba).trans hcell
      have hst : (L.take (k + 1)).map (mended rep.data.toList) = (L.take k).map (mended rep.data.toList) ++ [mended rep.data.toList L[k]] := by rw [List.take_succ_eq_append_getElem hk', List.map_append]; rfl
      have hfit := hf.out _ (List.getElem_mem hk')
      have hlen : ((L.take k).map (mended rep.data.toList)).length ≤ n := by rw [List.length_map, List.length_take]; omega
      obtain ⟨x, hx⟩ : ∃ x, x = L[k] := ⟨_, rfl⟩
      rw [show (texts L)[k]'(by rw [texts_length]; exact hk') = .string (txt L[k]) by simp [texts], ← hx] at hcell
      rw [← hx] at hst hfit
      have Hst := Lib.hid hst
      clear hst hx hk'
      obtain ⟨T, hT0⟩ : ∃ T, T = (L.take k).map (mended rep.data.toList) := ⟨_, rfl⟩
      rw [← hT0] at hown hlen
      have HT0 := Lib.hid hT0; clear hT0
      have hxs : (txt x).size + runs false (pcsB (txt x)) * rep.size ≤ 70368744177664 := hfit
      have hxl : (txt x).size ≤ 70368744177664 := by omega
      have Hxs := Lib.hid hxs; clear hxs hfit
      go_wp2_with (first
        | ((with_reducible refine wpList_toBL _ (o := ⟨some 17, _, _, _, _, _⟩) rfl _ _ _ 5 rfl Tryd.underlying9 Tryd.underlying31 Tryd.underlying5 (txt x) rfl ?_); intro c1 wb1 hc1 hbat1 hbb1 hzb1)
        | ((with_reducible refine wpList_toBL _ (o := ⟨some 19, _, _, _, _, _⟩) rfl _ _ _ 5 rfl Tryd.underlying9 Tryd.underlying31 Tryd.underlying5 rep rfl ?_); intro c2 wb2 hc2 hbat2 hbb2 hzb2))
      have hbb := hbb1.trans (hbb2.mono hbb1.size)
      have hB2 := hbw.trans (hbb.mono hz)
      have hat1 : BytesAt (txt x) wr.heap.size 0 wb2 := fun j hj => (hbb2.cell (p := ⟨wr.heap.size, 0 + j, none⟩) (by show wr.heap.size < _; omega)).trans (hbat1 j hj)
      have Hat1 := Lib.hid hat1; have Hat2 := Lib.hid hbat2
      clear hat1 hbat2 hbat1
      (with_reducible refine (toValidB (txt x) rep wr.heap.size c1 wb1.heap.size c2 _ Hxs.out (by omega) hc1 hc2 Hat1.out Hat2.out (by omega) (by omega) (hT.below hB2)).mono ?_); rintro e w1 ⟨v1, rfl, h1, hb1⟩
      have hz1 := hb1.size
      obtain ⟨A1, c1', rfl, hbat⟩ := own_nil h1
      rw [txt_data] at hbat ⊢
      have hb := hbb.trans (hb1.mono hbb.size)
      clear h1
      go_wp2_with (first
        | ((with_reducible refine wpList_toString _ (o := ⟨some 21, _, _, _, _, _⟩) rfl _ _ _ 5 rfl Tryd.underlying31 Tryd.underlying5 Tryd.underlying9 _ (mended rep.data.toList x).length _ _ (mended rep.data.toList x) rfl rfl hbat ?_); intro z hz'; obtain rfl : z = txt (mended rep.data.toList x) := by rw [← Lib.mk_data z, hz'.out]; rfl)
        | (at_builtin; refine wpList_push w1 rfl (.tmp 15) (.tmp 22) 22 rfl w.heap.size 9 _ 16 Tryd.underlying22 info_string rfl _ _ (.string (txt (mended rep.data.toList x))) _ rfl rfl rfl (hown.below hb) rfl (by rw [texts_length]; omega) (by omega) (by omega) ?_; intro v4 w4 hown4 hbw4 hgr4 hat4))
      have hfin : Below w.heap.size w w4 := (hbw.trans (hb.mono hz)).trans hbw4

      go_roundw
      case rel => exact ⟨k + 1, by omega, by go_num, by rw [Hst.out, ← HT0.out]; unfold texts; rw [List.map_append]; exact hown4, hfin⟩
      case measure => simp [intOf]; omega
    · have hkn : k = n := by omega
      rw [hkn, List.take_of_length_le (by rw [← hn.out]; exact Nat.le_refl _)] at hown
      clear hkn
      go_wp2_with fail
      go_ret
      exact ⟨_, rfl, hown, hbw⟩

set_option maxRecDepth 100000 in
set_option maxHeartbeats 1600000 in
theorem impl_mendAll (A : Option Addr) (n c : Nat) (L : List (List UInt8)) (rep : ByteArray) (w : World) (hn : Hid (n = L.length)) (hnl : n ≤ 4398046511104) (hf : L.flatten.length + runs false (pcs L.flatten) * rep.size ≤ 70368744177664) (hrl : rep.size ≤ 1048576) (hr : RowAt w 0 w.heap.size A (texts L)) (hT : Tabs w) :
    Calls Tryd.prog 23 #[.slice A n c, .string rep] w fun e w' => e = .returned (.string (txt (mended rep.data.toList L.flatten))) ∧ Below w.heap.size w w' := by
  have Hr := Lib.hid hr; clear hr
  have hfl : L.flatten.length ≤ 70368744177664 := by omega
  have Hf := Lib.hid hf; have Hfl := Lib.hid hfl; clear hf hfl
  go_enter Tryd.func23, Tryd.ntmps23
  go_wp2_with fail
  go_loop [5, 10] (fun v i => ∃ (k : Nat), k ≤ n ∧ i = .int .i64 k ∧ v = .string (txt (L.take k).flatten)) (fun _ i => n - (intOf i).toNat)
  case atStart => exact ⟨0, Nat.zero_le _, rfl, rfl⟩
  case round =>
    obtain ⟨k, hk, rfl, rfl⟩ := hrel
    by_cases hlt : k < n
    · have hk' : k < L.length := by rw [← hn.out]; exact hlt
      obtain ⟨ba, oa, rfl, _, hba, hcell⟩ := Hr.out.at_ (i := k) (by rw [texts_length]; exact hk')
      have hst := flatten_snoc L k hk'
      have hle := flatten_le L (k + 1)
      obtain ⟨x, hx⟩ : ∃ x, x = L[k] := ⟨_, rfl⟩
      rw [show (texts L)[k]'(by rw [texts_length]; exact hk') = .string (txt L[k]) by simp [texts], ← hx] at hcell
      rw [← hx] at hst
      obtain ⟨y, hy⟩ : ∃ y, y = (L.take k).flatten := ⟨_, rfl⟩
      rw [← hy] at hst ⊢
      rw [hst, List.length_append] at hle
      have hsum : (txt y).size + (txt x).size ≤ 9223372036854775807 := by
        have := Hfl.out
        show y.length + x.length ≤ _
        omega
      have Hst := Lib.hid hst
      clear hst hx hy hk' hle
      go_wp2_with fail
      go_round
      case rel => exact ⟨k + 1, by omega, by go_num, by rw [Hst.out]; exact congrArg Value.string (txt_append y x)⟩
      case measure => simp [intOf]; omega
    · have hkn : k = n := by omega
      rw [hkn, List.take_of_length_le (by rw [← hn.out]; exact Nat.le_refl _)]
      clear hkn
      obtain ⟨y, hy⟩ : ∃ y, y = L.flatten := ⟨_, rfl⟩
      rw [← hy] at Hf Hfl ⊢
      have Hy := Lib.hid hy; clear hy
      have hys : (txt y).size + runs false (pcsB (txt y)) * rep.size ≤ 70368744177664 := Hf.out
      have hyl : (txt y).size ≤ 70368744177664 := Hfl.out
      have Hys := Lib.hid hys; clear hys
      go_wp2_with fail
      (with_reducible refine (toValidS (txt y) rep _ Hys.out (by omega) hT).mono ?_); rintro e w1 ⟨rfl, hb1⟩
      go_wp2_with fail
      go_ret
      exact ⟨by rw [← Hy.out]; rfl, hb1⟩

set_option maxRecDepth 100000 in
set_option maxHeartbeats 1600000 in
theorem impl_mendAllB (A : Option Addr) (n c : Nat) (L : List (List UInt8)) (rep : ByteArray) (w : World) (hn : Hid (n = L.length)) (hnl : n ≤ 4398046511104) (hf : L.flatten.length + runs false (pcs L.flatten) * rep.size ≤ 70368744177664) (hrl : rep.size ≤ 1048576) (hr : RowAt w 0 w.heap.size A (texts L)) (hT : Tabs w) :
    Calls Tryd.prog 14 #[.slice A n c, .string rep] w fun e w' => e = .returned (.string (txt (mended rep.data.toList L.flatten))) ∧ Below w.heap.size w w' := by
  have Hr := Lib.hid hr; clear hr
  have hfl : L.flatten.length ≤ 70368744177664 := by omega
  have Hf := Lib.hid hf; have Hfl := Lib.hid hfl; clear hf hfl
  go_enter Tryd.func14, Tryd.ntmps14
  go_wp2_with fail
  go_loop [5, 10] (fun v i => ∃ (k : Nat), k ≤ n ∧ i = .int .i64 k ∧ v = .string (txt (L.take k).flatten)) (fun _ i => n - (intOf i).toNat)
  case atStart => exact ⟨0, Nat.zero_le _, rfl, rfl⟩
  case round =>
    obtain ⟨k, hk, rfl, rfl⟩ := hrel
    by_cases hlt : k < n
    · have hk' : k < L.length := by rw [← hn.out]; exact hlt
      obtain ⟨ba, oa, rfl, _, hba, hcell⟩ := Hr.out.at_ (i := k) (by rw [texts_length]; exact hk')
      have hst := flatten_snoc L k hk'
      have hle := flatten_le L (k + 1)
      obtain ⟨x, hx⟩ : ∃ x, x = L[k] := ⟨_, rfl⟩
      rw [show (texts L)[k]'(by rw [texts_length]; exact hk') = .string (txt L[k]) by simp [texts], ← hx] at hcell
      rw [← hx] at hst
      obtain ⟨y, hy⟩ : ∃ y, y = (L.take k).flatten := ⟨_, rfl⟩
      rw [← hy] at hst ⊢
      rw [hst, List.length_append] at hle
      have hsum : (txt y).size + (txt x).size ≤ 9223372036854775807 := by
        have := Hfl.out
        show y.length + x.length ≤ _
        omega
      have Hst := Lib.hid hst
      clear hst hx hy hk' hle
      go_wp2_with fail
      go_round
      case rel => exact ⟨k + 1, by omega, by go_num, by rw [Hst.out]; exact congrArg Value.string (txt_append y x)⟩
      case measure => simp [intOf]; omega
    · have hkn : k = n := by omega
      rw [hkn, List.take_of_length_le (by rw [← hn.out]; exact Nat.le_refl _)]
      clear hkn
      obtain ⟨y, hy⟩ : ∃ y, y = L.flatten := ⟨_, rfl⟩
      rw [← hy] at Hf Hfl ⊢
      have Hy := Lib.hid hy; clear hy
      have hys : (txt y).size + runs false (pcsB (txt y)) * rep.size ≤ 70368744177664 := Hf.out
      have hyl : (txt y).size ≤ 70368744177664 := Hfl.out
      have Hys := Lib.hid hys; clear hys
      go_wp2_with (first
        | ((with_reducible refine wpList_toBL _ (o := ⟨some 19, _, _, _, _, _⟩) rfl _ _ _ 5 rfl Tryd.underlying9 Tryd.underlying31 Tryd.underlying5 (txt y) rfl ?_); intro c1 wb1 hc1 hbat1 hbb1 hzb1)
        | ((with_reducible refine wpList_toBL _ (o := ⟨some 21, _, _, _, _, _⟩) rfl _ _ _ 5 rfl Tryd.underlying9 Tryd.underlying31 Tryd.underlying5 rep rfl ?_); intro c2 wb2 hc2 hbat2 hbb2 hzb2))
      have hbb := hbb1.trans (hbb2.mono hbb1.size)
      have hat1 : BytesAt (txt y) w.heap.size 0 wb2 := fun j hj => (hbb2.cell (p := ⟨w.heap.size, 0 + j, none⟩) (by show w.heap.size < _; omega)).trans (hbat1 j hj)
      have Hat1 := Lib.hid hat1; have Hat2 := Lib.hid hbat2
      clear hat1 hbat2 hbat1
      (with_reducible refine (toValidB (txt y) rep w.heap.size c1 wb1.heap.size c2 _ Hys.out (by omega) hc1 hc2 Hat1.out Hat2.out (by omega) (by omega) (hT.below hbb)).mono ?_); rintro e w1 ⟨v1, rfl, h1, hb1⟩
      obtain ⟨A1, c1', rfl, hbat⟩ := own_nil h1
      rw [txt_data] at hbat ⊢
      have hb := hbb.trans (hb1.mono hbb.size)
      clear h1
      go_wp2_with ((with_reducible refine wpList_toString _ (o := ⟨some 23, _, _, _, _, _⟩) rfl _ _ _ 5 rfl Tryd.underlying31 Tryd.underlying5 Tryd.underlying9 _ (mended rep.data.toList y).length _ _ (mended rep.data.toList y) rfl rfl hbat ?_); intro z hz'; obtain rfl : z = txt (mended rep.data.toList y) := by rw [← Lib.mk_data z, hz'.out]; rfl)
      go_ret
      exact ⟨by rw [← Hy.out]; rfl, hb⟩

theorem spec_mendB (A : Option Addr) (n c : Nat) (L : List (List UInt8)) (rep : ByteArray) (w : World) (hn : Hid (n = L.length)) (hnl : n ≤ 4398046511104) (hf : Hid (∀ x ∈ L, x.length ≤ 1048576)) (hrl : rep.size ≤ 1048576) (hr : RowAt w 0 w.heap.size A (texts L)) :
    Calls Tryd.prog 16 #[.slice A n c, .string rep] w (TextsPost (L.map (mended rep.data.toList)) w) := by
  have Hr := Lib.hid hr; clear hr
  go_enter Tryd.func16, Tryd.ntmps16
  go_wp2_with fail
  (with_reducible refine (spec_mend A n c L rep _ hn hnl hf hrl Hr.out).mono ?_); rintro e w1 ⟨v, rfl, hown, hb⟩
  go_wp2_with fail
  go_ret
  exact ⟨v, rfl, hown, hb⟩
theorem jn_nil (L : List (List UInt8)) : jn [] L = L.flatten := by
  cases L with
  | nil => rfl
  | cons x r =>
    show x ++ r.flatMap ([] ++ ·) = x ++ r.flatten
    congr 1
    induction r with
    | nil => rfl
    | cons y r ih => rw [List.flatMap_cons, List.flatten_cons, ih]; rfl
theorem spec_mendAll (A : Option Addr) (n c : Nat) (L : List (List UInt8)) (rep : ByteArray) (w : World) (hn : Hid (n = L.length)) (hnl : n ≤ 4398046511104) (hnc : n ≤ c) (hf : L.flatten.length ≤ 1048576) (hrl : rep.size ≤ 1048576) (hr : RowAt w 0 w.heap.size A (texts L)) :
    Calls Tryd.prog 22 #[.slice A n c, .string rep] w fun e w' => e = .returned (.string (txt (mended rep.data.toList L.flatten))) ∧ Below w.heap.size w w' := by
  have hj := joined_any (.slice A n c) L ⟨#[]⟩ w (by rw [← hn.out]; exact hnl) (by decide) (by rw [show (⟨#[]⟩ : ByteArray).data.toList = [] from rfl, jn_nil]; omega) ⟨A, c, by rw [texts_length, ← hn.out], by rw [texts_length, ← hn.out]; exact hnc, hr⟩
  rw [show (⟨#[]⟩ : ByteArray).data.toList = [] from rfl, jn_nil] at hj
  have Hj := Lib.hid hj; have Hr := Lib.hid hr; clear hj hr
  obtain ⟨y, hy⟩ : ∃ y, y = L.flatten := ⟨_, rfl⟩
  rw [← hy] at hf Hj ⊢
  clear hy
  have hys : (txt y).size ≤ 1048576 := hf
  go_enter Tryd.func22, Tryd.ntmps22
  go_wp2_with fail
  (with_reducible refine Hj.out.mono ?_); rintro e w' ⟨rfl, rfl⟩
  go_wp2_with fail
  (with_reducible refine (spec_mended (txt y) rep _ (by omega) hrl).mono ?_); rintro e w1 ⟨rfl, hb⟩
  go_wp2_with fail
  go_ret
  exact ⟨rfl, hb⟩
theorem spec_mendAllB (A : Option Addr) (n c : Nat) (L : List (List UInt8)) (rep : ByteArray) (w : World) (hn : Hid (n = L.length)) (hnl : n ≤ 4398046511104) (hnc : n ≤ c) (hf : L.flatten.length ≤ 1048576) (hrl : rep.size ≤ 1048576) (hr : RowAt w 0 w.heap.size A (texts L)) :
    Calls Tryd.prog 12 #[.slice A n c, .string rep] w fun e w' => e = .returned (.string (txt (mended rep.data.toList L.flatten))) ∧ Below w.heap.size w w' := by
  have Hr := Lib.hid hr; clear hr
  go_enter Tryd.func12, Tryd.ntmps12
  go_wp2_with fail
  (with_reducible refine (spec_mendAll A n c L rep _ hn hnl hnc hf hrl Hr.out).mono ?_); rintro e w1 ⟨rfl, hb⟩
  go_wp2_with fail
  go_ret
  exact ⟨rfl, hb⟩

end Go.Proofs.YtahlgmnjdkimmaaDoor
