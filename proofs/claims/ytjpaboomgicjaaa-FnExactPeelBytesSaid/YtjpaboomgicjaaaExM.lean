/- Contracts of laws.szMarkS, laws.toMarkS, laws.eqMarkS and laws.markMarkS. Conditions: the reach of the rows. -/
import Derived.Test.YtjpaboomgicjaaaExB
import Derived.Test.YtjpaboomgicjaaaRowM
import Derived.Test.YtjpaboomgicjaaaFrameP
import Derived.Deep.RegionHeld3
namespace Go.Proofs.Ytjpaboomgicjaaa
open Go.RowKit
set_option linter.unusedVariables false

theorem szMark_any (b : Bool) (t : ByteArray) (left : Int) (w : World) (h0 : 0 ≤ left) (hl : left ≤ 1048576) (ht : t.size ≤ 140737488351232) :
    Calls Try.prog 38 #[.agg #[.bool b, .string t], .int .i64 left] w fun e w' => (∃ r : Int, e = .returned (.int .i64 r) ∧ (r = -1 ∨ (0 ≤ r ∧ r + t.size = left))) ∧ Below w.heap.size w w' := by
  go_enter Try.func38, Try.ntmps38
  go_wp2
  · go_ret
    exact ⟨⟨-1, rfl, .inl rfl⟩, (Below.refl _ _).alloc (Nat.le_refl _) _⟩
  · go_ret
    exact ⟨⟨_, rfl, .inr ⟨by omega, by omega⟩⟩, (Below.refl _ _).alloc (Nat.le_refl _) _⟩

/-- what is left of the measure: nothing is said where it is below 0 -/
def SzPost (left : Int) (L : List Mb) (w : World) (e : Ending) (w' : World) : Prop :=
  (∃ r : Int, e = .returned (.int .i64 r) ∧ (0 ≤ r → (bulkM L : Int) ≤ left)) ∧ Below w.heap.size w w'
theorem bulkM_take (L : List Mb) (k : Nat) (h : k < L.length) : bulkM (L.take (k + 1)) = bulkM (L.take k) + (L[k].2.size + 1) := by
  unfold bulkM
  rw [List.take_succ_eq_append_getElem h, List.map_append, List.sum_append]; simp

set_option maxHeartbeats 400000 in
theorem szMarkS_any (A : Option Addr) (n c : Nat) (L : List Mb) (w : World) (hn : n = L.length) (hn24 : n * 24 ≤ 140737488351232) (hsz : ∀ m ∈ L, m.2.size ≤ 140737488351232) (hm : MAt w 0 w.heap.size A L) :
    Calls Try.prog 16 #[.slice A n c, .int .i64 1048576] w (SzPost 1048576 L w) := by
  have Hn := Lib.hid hn; have Hsz := Lib.hid hsz; clear hn hsz
  by_cases hbig : 1048576 < n
  · go_enter Try.func16, Try.ntmps16
    go_wp2
    go_ret
    exact ⟨⟨-1, rfl, fun h => absurd h (by omega)⟩, Below.refl _ _⟩
  · go_enter Try.func16, Try.ntmps16
    go_wp2
    go_loopw [1, 5] (fun l i wr => ∃ (k : Nat) (left : Int), k ≤ n ∧ i = .int .i64 k ∧ l = .int .i64 left ∧ 0 ≤ left ∧ left ≤ 1048576 ∧ Hid (left + bulkM (L.take k) + (n - k) = 1048576) ∧ Below w.heap.size w wr) (fun _ i _ => n - (intOf i).toNat)
    case atStart => exact ⟨0, _, Nat.zero_le _, rfl, rfl, by omega, by omega, by show _ = _; simp [bulkM], Below.refl _ _⟩
    case round =>
      obtain ⟨k, left, hk, rfl, rfl, hl0, hl1, hsum, hbw⟩ := hrel
      have hz := hbw.size
      by_cases hlt : k < n
      · have hk' : k < L.length := by rw [← Hn.out]; exact hlt
        obtain ⟨b, o, rfl, _, hbl, hc1, hc2⟩ := (hm.below hbw).at_ hk'
        have htq := Hsz.out _ (List.getElem_mem hk')
        have hsn := bulkM_take L k hk'
        obtain ⟨q, hq⟩ : ∃ q : Mb, q = L[k] := ⟨_, rfl⟩
        rw [← hq] at hc1 hc2 htq hsn
        have Hsn := Lib.hid hsn; clear hsn hq
        obtain ⟨bq, tq⟩ := q
        simp only at hc1 hc2 htq
        go_wp2_with fail
        (with_reducible refine (szMark_any bq tq left _ hl0 hl1 htq).mono ?_); rintro e w1 ⟨⟨r, rfl, hr⟩, hb1⟩
        by_cases hr0 : r < 0
        · clear hr
          go_wp2
          go_ret
          exact ⟨⟨-1, rfl, fun h => absurd h (by omega)⟩, hbw.trans (hb1.mono hz)⟩
        · have hr1 : r ≤ left := by omega
          have hrs : r + tq.size = left := by omega
          have Hrs := Lib.hid hrs; clear hr hrs
          go_wp2
          go_roundw
          case rel => exact ⟨k + 1, r, by omega, by go_num, rfl, by omega, by omega, by show _ = _; rw [Hsn.out]; have := hsum.out; have := Hrs.out; omega, hbw.trans (hb1.mono hz)⟩
          case measure => simp [intOf]; omega
      · have hkn : k = n := by omega
        subst hkn
        go_wp2
        go_ret
        have h := hsum.out
        rw [List.take_of_length_le (Nat.le_of_eq Hn.out.symm)] at h
        exact ⟨⟨left, rfl, fun _ => by omega⟩, hbw⟩

theorem OwnRow.below2 {w w' : World} {base : Nat} {e : TypeId} {v : Value} {n : Nat} {xs : List Value} (h : w.ownsRow base e 2 v n xs) (hb : Below w.heap.size w w') : w'.ownsRow base e 2 v n xs :=
  World.ownsRow.kept (row := none) h ⟨hb.os, hb.tape, hb.output, hb.size, fun i hi _ => hb.block i hi⟩ (by cases v.ownBlock <;> simp)
theorem mcells_next {L : List Mb} {k : Nat} {ys : List Value} {bq : Bool} {tq : ByteArray} (hk : k < L.length) (hq : Hid ((bq, tq) = L[k])) (ht : Hid (ys.take (k * 2) = mcells (L.take k))) (hl : k * 2 + 1 < ys.length) :
    Hid (((ys.set (k * 2) (.bool bq)).set (k * 2 + 1) (.string tq)).take ((k + 1) * 2) = mcells (L.take (k + 1))) := by
  show _ = _
  rw [List.take_succ_eq_append_getElem hk, mcells_append, ← hq.out, ← ht.out]
  rw [show (k + 1) * 2 = k * 2 + 1 + 1 by omega, List.take_succ_eq_append_getElem (by simp; omega), List.take_succ_eq_append_getElem (by simp; omega)]
  rw [List.getElem_set_self, List.take_set_of_le (by omega), List.take_set_of_le (by omega), List.getElem_set_ne (by omega), List.getElem_set_self, List.append_assoc]
  rfl
theorem toMark_any (b : Bool) (t : ByteArray) (w : World) :
    Calls Try.prog 39 #[.agg #[.bool b, .string t]] w fun e w' => e = .returned (.agg #[.bool b, .string t]) ∧ Below w.heap.size w w' := by
  go_enter Try.func39, Try.ntmps39
  go_wp2
  exact bodyPost_ret (v := .agg #[.bool b, .string t]) (by simp [results, Try.results39, go_sem]) rfl ⟨rfl, (((Below.refl _ _).alloc (Nat.le_refl _) _).alloc (by simp) _).alloc (by simp; omega) _⟩

set_option maxHeartbeats 400000 in
theorem toMarkS_any (A : Option Addr) (n c : Nat) (L : List Mb) (w : World) (hn : n = L.length) (hn24 : n * 24 ≤ 140737488351232) (hm : MAt w 0 w.heap.size A L) :
    Calls Try.prog 18 #[.slice A n c] w fun e w' => ∃ g, e = .returned (.slice (some ⟨g, 0, none⟩) n n) ∧ OwnM w' w.heap.size 42 (.slice (some ⟨g, 0, none⟩) n n) L ∧ Below w.heap.size w w' := by
  have Hn := Lib.hid hn; clear hn
  obtain ⟨i0, hi0, hz0, hz1, hz2⟩ := info_parts info_mark
  go_enter Try.func18, Try.ntmps18
  go_wp2_with (at_make; refine wpList_make_full _ rfl _ _ _ rfl w.heap.size 42 i0 _ 2 Try.underlying27 hi0 hz0 hz1 .i64 .i64 _ _ n rfl rfl rfl rfl (by rw [hz2]; omega) (by unfold maxLen; omega) (Nat.le_refl _) ?_; intro w1 hown1 hgr1)
  have hb1 : Below w.heap.size w w1 := (Below.refl _ _).grown hgr1 (Nat.le_refl _) (by simp)
  clear hgr1 hi0 hz0 hz1 hz2
  go_loopw [4] (fun i wr => ∃ (k : Nat) (ys : List Value), k ≤ n ∧ i = .int .i64 k ∧ wr.ownsRow w.heap.size 42 2 (.slice (some ⟨w.heap.size, 0, none⟩) n n) n ys ∧ Hid (ys.take (k * 2) = mcells (L.take k)) ∧ Below w.heap.size w wr) (fun i _ => n - (intOf i).toNat)
  case atStart => exact ⟨0, _, Nat.zero_le _, rfl, hown1, by show _ = _; simp [mcells], hb1⟩
  case round =>
    obtain ⟨k, ys, hk, rfl, hown, htk, hbw⟩ := hrel
    have hz := hbw.size
    by_cases hlt : k < n
    · have hk' : k < L.length := by rw [← Hn.out]; exact hlt
      obtain ⟨b, o, rfl, _, hbl, hc1, hc2⟩ := (hm.below hbw).at_ hk'
      obtain ⟨q, hq⟩ : ∃ q : Mb, q = L[k] := ⟨_, rfl⟩
      rw [← hq] at hc1 hc2
      have Hq := Lib.hid hq; clear hq
      obtain ⟨bq, tq⟩ := q
      simp only at hc1 hc2
      have hyl := hown.1
      have hcell1 := hown.cellAt (k * 2) (by omega)
      have hcell2 := hown.cellAt (k * 2 + 1) (by omega)
      rw [List.getElem?_eq_getElem (by omega)] at hcell1 hcell2
      generalize ys[k * 2]'(by omega) = old1 at hcell1
      generalize ys[k * 2 + 1]'(by omega) = old2 at hcell2
      have hfr1 := hown.frozenAt (k * 2)
      have hfr2 := hown.frozenAt (k * 2 + 1)
      have hglt := (World.ownsRow.lt hown w.heap.size rfl).2
      have HO := Lib.hid hown; clear hown
      have Hyl := Lib.hid hyl; clear hyl
      go_wp2_with fail
      (with_reducible refine (toMark_any bq tq _).mono ?_); rintro e w2 ⟨rfl, hb2⟩
      have hs1 := (hb2.cell (p := ⟨w.heap.size, k * 2, none⟩) hglt).trans hcell1
      have hs2 := (hb2.cell (p := ⟨w.heap.size, k * 2 + 1, none⟩) hglt).trans hcell2
      have hf1 := (hb2.frozen (p := ⟨w.heap.size, k * 2, none⟩) hglt).trans hfr1
      have hf2 := (hb2.frozen (p := ⟨w.heap.size, k * 2 + 1, none⟩) hglt).trans hfr2
      clear hcell1 hcell2 hfr1 hfr2 hc1 hc2
      go_wp2
      have ho1 := OwnRow.below2 HO.out hb2
      have ho2 := ((ho1.stored (k * 2) (.bool bq)).1.stored (k * 2 + 1) (.string tq)).1
      have hfin := ((hbw.trans (hb2.mono hz)).setCell (p := ⟨w.heap.size, k * 2, none⟩) (Nat.le_refl _) (.bool bq)).setCell (p := ⟨w.heap.size, k * 2 + 1, none⟩) (Nat.le_refl _) (.string tq)
      go_roundw
      case rel => exact ⟨k + 1, _, by omega, by go_num, ho2, mcells_next hk' Hq htk (by have := Hyl.out; omega), hfin⟩
      case measure => simp [intOf]; omega
    · have hkn : k = n := by omega
      subst hkn
      go_wp2
      go_ret
      refine ⟨w.heap.size, rfl, ?_, hbw⟩
      have h := htk.out
      have hl := hown.1
      rw [List.take_of_length_le (Nat.le_of_eq hl), List.take_of_length_le (Nat.le_of_eq Hn.out.symm)] at h
      subst h
      unfold OwnM
      rw [← Hn.out]
      exact hown
end Go.Proofs.Ytjpaboomgicjaaa
