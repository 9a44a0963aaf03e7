/- Contracts of laws.szStringS and laws.toStringS. Conditions: the reach of the rows. -/
import Derived.Test.YtdlhjnihmkbagaaDoorExS
import Derived.Test.YtdlhjnihmkbagaaDoorFrameT
namespace Go.Proofs.YtdlhjnihmkbagaaDoor
open Go.RowKit
set_option linter.unusedVariables false

theorem RowAt.drewN {w : World} {lo hi : Nat} {A : Option Addr} {xs : List Value} (h : RowAt w lo hi A xs) (k : Nat) : RowAt (w.drewN k) lo hi A xs := h
/-- what is left of the measure: nothing is said where it is below 0 -/
def SzTPost (left : Int) (L : List (List UInt8)) (w : World) (e : Ending) (w' : World) : Prop :=
  (∃ r : Int, e = .returned (.int .i64 r) ∧ (0 ≤ r → (bulkT L : Int) ≤ left)) ∧ w = w'
theorem bulkT_take (L : List (List UInt8)) (k : Nat) (h : k < L.length) : bulkT (L.take (k + 1)) = bulkT (L.take k) + (L[k].length + 1) := by
  unfold bulkT
  rw [List.take_succ_eq_append_getElem h, List.map_append, List.sum_append]; simp

set_option maxHeartbeats 400000 in
theorem szStringS_any (A : Option Addr) (n c : Nat) (L : List (List UInt8)) (w : World) (hn : n = L.length) (hn16 : n * 16 ≤ 140737488351232) (hsz : ∀ x ∈ L, x.length ≤ 140737488351232) (hm : RowAt w 0 w.heap.size A (texts L)) :
    Calls Tryd.prog 8 #[.slice A n c, .int .i64 1048576] w (SzTPost 1048576 L w) := by
  have Hn := Lib.hid hn; have Hsz := Lib.hid hsz; clear hn hsz
  by_cases hbig : 1048576 < n
  · go_enter Tryd.func8, Tryd.ntmps8
    go_wp2
    go_ret
    exact ⟨⟨-1, rfl, fun h => absurd h (by omega)⟩, rfl⟩
  · go_enter Tryd.func8, Tryd.ntmps8
    go_wp2
    go_loop [1, 5] (fun l i => ∃ (k : Nat) (left : Int), k ≤ n ∧ i = .int .i64 k ∧ l = .int .i64 left ∧ 0 ≤ left ∧ left ≤ 1048576 ∧ Hid (left + bulkT (L.take k) + (n - k) = 1048576)) (fun _ i => n - (intOf i).toNat)
    case atStart => exact ⟨0, _, Nat.zero_le _, rfl, rfl, by omega, by omega, by show _ = _; simp [bulkT]⟩
    case round =>
      obtain ⟨k, left, hk, rfl, rfl, hl0, hl1, hsum⟩ := hrel
      by_cases hlt : k < n
      · have hk' : k < L.length := by rw [← Hn.out]; exact hlt
        obtain ⟨b, o, rfl, _, hbl, hcell⟩ := hm.at_ (i := k) (by rw [texts_length]; exact hk')
        have htq := Hsz.out _ (List.getElem_mem hk')
        have hsn := bulkT_take L k hk'
        obtain ⟨q, hq⟩ : ∃ q, q = L[k] := ⟨_, rfl⟩
        rw [show (texts L)[k]'(by rw [texts_length]; exact hk') = .string (txt L[k]) by simp [texts], ← hq] at hcell
        rw [← hq] at htq hsn
        have Hsn := Lib.hid hsn; clear hsn hq hk'
        have hqs : (txt q).size = q.length := rfl
        have hqs2 : (txt q).size ≤ 140737488351232 := by rw [hqs]; exact htq
        have Hqs := Lib.hid hqs; clear hqs
        by_cases hr0 : left < ((txt q).size : Int)
        · go_wp2
          go_ret
          exact ⟨⟨-1, rfl, fun h => absurd h (by omega)⟩, rfl⟩
        · go_wp2
          go_round
          case rel => exact ⟨k + 1, left - ((txt q).size : Int), by omega, by go_num, rfl, by omega, by omega, by show _ = _; rw [Hsn.out]; have := hsum.out; rw [Hqs.out]; omega⟩
          case measure => simp [intOf]; omega
      · have hkn : k = n := by omega
        subst hkn
        go_wp2
        go_ret
        have h := hsum.out
        rw [List.take_of_length_le (Nat.le_of_eq Hn.out.symm)] at h
        exact ⟨⟨left, rfl, fun _ => by omega⟩, rfl⟩

set_option maxHeartbeats 400000 in
theorem toStringS_any (A : Option Addr) (n c : Nat) (L : List (List UInt8)) (w : World) (hn : n = L.length) (hn16 : n * 16 ≤ 140737488351232) (hm : RowAt w 0 w.heap.size A (texts L)) :
    Calls Tryd.prog 10 #[.slice A n c] w fun e w' => ∃ g, e = .returned (.slice (some ⟨g, 0, none⟩) n n) ∧ Own w' w.heap.size 9 (.slice (some ⟨g, 0, none⟩) n n) (texts L) ∧ Below w.heap.size w w' := by
  have Hn := Lib.hid hn; clear hn
  obtain ⟨i0, hi0, hz0, hz1, hz2⟩ := info_parts info_string
  go_enter Tryd.func10, Tryd.ntmps10
  go_wp2_with (at_make; refine wpList_make_full _ rfl _ _ _ rfl w.heap.size 9 i0 _ 1 Tryd.underlying22 hi0 hz0 hz1 .i64 .i64 _ _ n rfl rfl rfl rfl (by rw [hz2]; omega) (by unfold maxLen; omega) (Nat.le_refl _) ?_; intro w1 hown1 hgr1)
  have hb1 : Below w.heap.size w w1 := (Below.refl _ _).grown hgr1 (Nat.le_refl _) (by simp)
  clear hgr1 hi0 hz0 hz1 hz2
  go_loopw [4] (fun i wr => ∃ (k : Nat) (ys : List Value), k ≤ n ∧ i = .int .i64 k ∧ wr.ownsRow w.heap.size 9 1 (.slice (some ⟨w.heap.size, 0, none⟩) n n) n ys ∧ Hid (ys.take k = (texts L).take k) ∧ Below w.heap.size w wr) (fun i _ => n - (intOf i).toNat)
  case atStart => exact ⟨0, _, Nat.zero_le _, rfl, hown1, by show _ = _; simp, hb1⟩
  case round =>
    obtain ⟨k, ys, hk, rfl, hown, htk, hbw⟩ := hrel
    have hz := hbw.size
    by_cases hlt : k < n
    · have hk' : k < (texts L).length := by rw [texts_length, ← Hn.out]; exact hlt
      obtain ⟨b, o, rfl, _, hbl, hc1⟩ := (hm.below hbw).at_ hk'
      have hlk : k < L.length := by rw [texts_length] at hk'; exact hk'
      have hq0 : (texts L)[k] = .string (txt L[k]) := by simp [texts]
      obtain ⟨q, hq⟩ : ∃ q, q = L[k] := ⟨_, rfl⟩
      rw [hq0, ← hq] at hc1
      rw [← hq] at hq0
      have Hq := Lib.hid hq0; clear hq hq0 hlk
      have hyl := hown.1
      have hcell1 := hown.cellAt k (by omega)
      rw [List.getElem?_eq_getElem (by omega)] at hcell1
      generalize ys[k]'(by omega) = old1 at hcell1
      have hfr1 := hown.frozenAt k
      have HO := Lib.hid hown; clear hown
      have Hyl := Lib.hid hyl; clear hyl
      go_wp2
      have ho2 := (HO.out.stored k (.string (txt q))).1
      have hfin := hbw.setCell (p := ⟨w.heap.size, k, none⟩) (Nat.le_refl _) (.string (txt q))
      go_roundw
      case rel => exact ⟨k + 1, _, by omega, by go_num, ho2, by
        show _ = _
        have hy := Hyl.out
        rw [List.take_succ_eq_append_getElem (by simp; omega), List.take_succ_eq_append_getElem hk', List.getElem_set_self, List.take_set_of_le (Nat.le_refl _), htk.out, Hq.out], hfin⟩
      case measure => simp [intOf]; omega
    · have hkn : k = n := by omega
      subst hkn
      go_wp2
      go_ret
      refine ⟨w.heap.size, rfl, ?_, hbw⟩
      have h := htk.out
      have hl := hown.1
      rw [List.take_of_length_le (by omega), List.take_of_length_le (by rw [texts_length, ← Hn.out]; exact Nat.le_refl _)] at h
      subst h
      unfold Own
      rw [texts_length, ← Hn.out]
      exact hown
end Go.Proofs.YtdlhjnihmkbagaaDoor
