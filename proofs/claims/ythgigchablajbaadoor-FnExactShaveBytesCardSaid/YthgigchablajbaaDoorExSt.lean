/- Contracts of laws.szStepS, laws.toStepS and laws.eqStepS. Conditions: the reach of the rows. -/
import Derived.Test.YthgigchablajbaaDoorFrameUQ
import Derived.Test.YthgigchablajbaaDoorMarked
import Derived.Deep.QuietTactic
import Derived.BigQuiet
import Derived.RegionTactic
import Derived.ChangeAlike
import Derived.Deep.RegionHeld3
namespace Go.Proofs.YthgigchablajbaaDoor
open Go.RowKit
set_option linter.unusedVariables false

theorem info_step : (Tryd.prog.info? 27).map (fun i => (i.zero, i.size, i.bytes)) = some (some (.agg #[.int .i64 0, .string ByteArray.empty]), 2, 24) := by kernel_rfl

theorem szStep_any (b : Int) (t : ByteArray) (left : Int) (w : World) (h0 : 0 ≤ left) (hl : left ≤ 1048576) (ht : t.size ≤ 140737488351232) :
    Calls Tryd.prog 37 #[.agg #[.int .i64 b, .string t], .int .i64 left] w fun e w' => (∃ r : Int, e = .returned (.int .i64 r) ∧ (r = -1 ∨ (0 ≤ r ∧ r + t.size = left))) ∧ Below w.heap.size w w' := by
  go_enter Tryd.func37, Tryd.ntmps37
  go_wp2
  · go_ret
    exact ⟨⟨-1, rfl, .inl rfl⟩, (Below.refl _ _).alloc (Nat.le_refl _) _⟩
  · go_ret
    exact ⟨⟨_, rfl, .inr ⟨by omega, by omega⟩⟩, (Below.refl _ _).alloc (Nat.le_refl _) _⟩

/-- what is left of the measure: nothing is said where it is below 0 -/
def SzPost (left : Int) (L : List St) (w : World) (e : Ending) (w' : World) : Prop :=
  (∃ r : Int, e = .returned (.int .i64 r) ∧ (0 ≤ r → (bulkQ L : Int) ≤ left)) ∧ Below w.heap.size w w'
theorem bulkQ_take (L : List St) (k : Nat) (h : k < L.length) : bulkQ (L.take (k + 1)) = bulkQ (L.take k) + (L[k].2.length + 1) := by
  unfold bulkQ
  rw [List.take_succ_eq_append_getElem h, List.map_append, List.sum_append]; simp

set_option maxHeartbeats 400000 in
theorem szStepS_any (A : Option Addr) (n c : Nat) (L : List St) (w : World) (hn : n = L.length) (hn24 : n * 24 ≤ 140737488351232) (hsz : ∀ m ∈ L, m.2.length ≤ 140737488351232) (hm : PAt w 0 w.heap.size A (L.map stV)) :
    Calls Tryd.prog 14 #[.slice A n c, .int .i64 1048576] w (SzPost 1048576 L w) := by
  have Hn := Lib.hid hn; have Hsz := Lib.hid hsz; clear hn hsz
  by_cases hbig : 1048576 < n
  · go_enter Tryd.func14, Tryd.ntmps14
    go_wp2
    go_ret
    exact ⟨⟨-1, rfl, fun h => absurd h (by omega)⟩, Below.refl _ _⟩
  · go_enter Tryd.func14, Tryd.ntmps14
    go_wp2
    go_loopw [1, 5] (fun l i wr => ∃ (k : Nat) (left : Int), k ≤ n ∧ i = .int .i64 k ∧ l = .int .i64 left ∧ 0 ≤ left ∧ left ≤ 1048576 ∧ Hid (left + bulkQ (L.take k) + (n - k) = 1048576) ∧ Below w.heap.size w wr) (fun _ i _ => n - (intOf i).toNat)
    case atStart => exact ⟨0, _, Nat.zero_le _, rfl, rfl, by omega, by omega, by show _ = _; simp [bulkQ], Below.refl _ _⟩
    case round =>
      obtain ⟨k, left, hk, rfl, rfl, hl0, hl1, hsum, hbw⟩ := hrel
      have hz := hbw.size
      by_cases hlt : k < n
      · have hk' : k < L.length := by rw [← Hn.out]; exact hlt
        obtain ⟨b, o, rfl, _, hbl, hc1, hc2⟩ := (hm.below hbw).at_ (i := k) (by rw [List.length_map]; exact hk')
        have htq := Hsz.out _ (List.getElem_mem hk')
        have hsn := bulkQ_take L k hk'
        obtain ⟨q, hq⟩ : ∃ q : St, q = L[k] := ⟨_, rfl⟩
        rw [List.getElem_map, ← hq] at hc1 hc2
        rw [← hq] at htq hsn
        have Hsn := Lib.hid hsn; clear hsn hq
        obtain ⟨bq, tq⟩ := q
        simp only [stV] at hc1 hc2 htq
        have hts : (txt tq).size ≤ 140737488351232 := htq
        go_wp2_with fail
        (with_reducible refine (szStep_any bq (txt tq) left _ hl0 hl1 hts).mono ?_); rintro e w1 ⟨⟨r, rfl, hr⟩, hb1⟩
        by_cases hr0 : r < 0
        · clear hr
          go_wp2
          go_ret
          exact ⟨⟨-1, rfl, fun h => absurd h (by omega)⟩, hbw.trans (hb1.mono hz)⟩
        · have hr1 : r ≤ left := by omega
          have hrs : r + (tq.length : Int) = left := by have e : (txt tq).size = tq.length := rfl; omega
          have Hrs := Lib.hid hrs; clear hr hrs
          go_wp2
          go_roundw
          case rel => exact ⟨k + 1, r, by omega, by go_num, rfl, by omega, by omega, by show _ = _; rw [Hsn.out]; have := hsum.out; have := Hrs.out; omega, hbw.trans (hb1.mono hz)⟩
          case measure => simp [intOf]; omega
      · have hkn : k = n := by omega
        subst hkn
        go_wp2
        go_ret
        have h := hsum.out
        rw [List.take_of_length_le (Nat.le_of_eq Hn.out.symm)] at h
        exact ⟨⟨left, rfl, fun _ => by omega⟩, hbw⟩

theorem ownRow_below2 {w w' : World} {base : Nat} {e : TypeId} {v : Value} {n : Nat} {xs : List Value} (h : w.ownsRow base e 2 v n xs) (hb : Below w.heap.size w w') : w'.ownsRow base e 2 v n xs :=
  World.ownsRow.kept (row := none) h ⟨hb.os, hb.tape, hb.output, hb.size, fun i hi _ => hb.block i hi⟩ (by cases v.ownBlock <;> simp)
theorem cells2_next {L : List (Value × Value)} {k : Nat} {ys : List Value} {x y : Value} (hk : k < L.length) (hq : Hid ((x, y) = L[k])) (ht : Hid (ys.take (k * 2) = cells2 (L.take k))) (hl : k * 2 + 1 < ys.length) :
    Hid (((ys.set (k * 2) x).set (k * 2 + 1) y).take ((k + 1) * 2) = cells2 (L.take (k + 1))) := by
  show _ = _
  rw [List.take_succ_eq_append_getElem hk, cells2_append, ← hq.out, ← ht.out]
  rw [show (k + 1) * 2 = k * 2 + 1 + 1 by omega, List.take_succ_eq_append_getElem (by simp; omega), List.take_succ_eq_append_getElem (by simp; omega)]
  rw [List.getElem_set_self, List.take_set_of_le (by omega), List.take_set_of_le (by omega), List.getElem_set_ne (by omega), List.getElem_set_self, List.append_assoc]
  rfl
theorem toStep_any (b : Int) (t : ByteArray) (w : World) :
    Calls Tryd.prog 39 #[.agg #[.int .i64 b, .string t]] w fun e w' => e = .returned (.agg #[.int .i64 b, .string t]) ∧ Below w.heap.size w w' := by
  go_enter Tryd.func39, Tryd.ntmps39
  go_wp2
  exact bodyPost_ret (v := .agg #[.int .i64 b, .string t]) (by simp [results, Tryd.results39, go_sem]) rfl ⟨rfl, (((Below.refl _ _).alloc (Nat.le_refl _) _).alloc (by simp) _).alloc (by simp; omega) _⟩

set_option maxHeartbeats 400000 in
theorem toStepS_any (A : Option Addr) (n c : Nat) (L : List St) (w : World) (hn : n = L.length) (hn24 : n * 24 ≤ 140737488351232) (hm : PAt w 0 w.heap.size A (L.map stV)) :
    Calls Tryd.prog 16 #[.slice A n c] w fun e w' => ∃ g, e = .returned (.slice (some ⟨g, 0, none⟩) n n) ∧ OwnP w' w.heap.size 27 (.slice (some ⟨g, 0, none⟩) n n) (L.map stV) ∧ Below w.heap.size w w' := by
  have Hn := Lib.hid hn; clear hn
  obtain ⟨i0, hi0, hz0, hz1, hz2⟩ := info_parts info_step
  go_enter Tryd.func16, Tryd.ntmps16
  go_wp2_with (at_make; refine wpList_make_full _ rfl _ _ _ rfl w.heap.size 27 i0 _ 2 Tryd.underlying22 hi0 hz0 hz1 .i64 .i64 _ _ n rfl rfl rfl rfl (by rw [hz2]; omega) (by unfold maxLen; omega) (Nat.le_refl _) ?_; intro w1 hown1 hgr1)
  have hb1 : Below w.heap.size w w1 := (Below.refl _ _).grown hgr1 (Nat.le_refl _) (by simp)
  clear hgr1 hi0 hz0 hz1 hz2
  go_loopw [4] (fun i wr => ∃ (k : Nat) (ys : List Value), k ≤ n ∧ i = .int .i64 k ∧ wr.ownsRow w.heap.size 27 2 (.slice (some ⟨w.heap.size, 0, none⟩) n n) n ys ∧ Hid (ys.take (k * 2) = cells2 ((L.map stV).take k)) ∧ Below w.heap.size w wr) (fun i _ => n - (intOf i).toNat)
  case atStart => exact ⟨0, _, Nat.zero_le _, rfl, hown1, by show _ = _; simp [cells2], hb1⟩
  case round =>
    obtain ⟨k, ys, hk, rfl, hown, htk, hbw⟩ := hrel
    have hz := hbw.size
    by_cases hlt : k < n
    · have hk' : k < L.length := by rw [← Hn.out]; exact hlt
      have hk2 : k < (L.map stV).length := by rw [List.length_map]; exact hk'
      obtain ⟨b, o, rfl, _, hbl, hc1, hc2⟩ := (hm.below hbw).at_ (i := k) hk2
      have hq0 : (L.map stV)[k]'hk2 = stV L[k] := List.getElem_map ..
      obtain ⟨q, hq⟩ : ∃ q : St, q = L[k] := ⟨_, rfl⟩
      rw [hq0, ← hq] at hc1 hc2
      rw [← hq] at hq0
      obtain ⟨bq, tq⟩ := q
      have Hq : Hid ((Value.int .i64 bq, Value.string (txt tq)) = (L.map stV)[k]'hk2) := hq0.symm
      clear hq hq0
      simp only [stV] at hc1 hc2
      have hyl := hown.1
      have hcell1 := hown.cellAt (k * 2) (by omega)
      have hcell2 := hown.cellAt (k * 2 + 1) (by omega)
      rw [List.getElem?_eq_getElem (by omega)] at hcell1 hcell2
      generalize ys[k * 2]'(by omega) = old1 at hcell1
      generalize ys[k * 2 + 1]'(by omega) = old2 at hcell2
      have hfr1 := hown.frozenAt (k * 2)
      have hfr2 := hown.frozenAt (k * 2 + 1)
      have hglt := (World.ownsRow.lt hown w.heap.size rfl).2
      have HO := Lib.hid hown; clear hown
      have Hyl := Lib.hid hyl; clear hyl
      go_wp2_with fail
      (with_reducible refine (toStep_any bq (txt tq) _).mono ?_); rintro e w2 ⟨rfl, hb2⟩
      have hs1 := (hb2.cell (p := ⟨w.heap.size, k * 2, none⟩) hglt).trans hcell1
      have hs2 := (hb2.cell (p := ⟨w.heap.size, k * 2 + 1, none⟩) hglt).trans hcell2
      have hf1 := (hb2.frozen (p := ⟨w.heap.size, k * 2, none⟩) hglt).trans hfr1
      have hf2 := (hb2.frozen (p := ⟨w.heap.size, k * 2 + 1, none⟩) hglt).trans hfr2
      clear hcell1 hcell2 hfr1 hfr2 hc1 hc2
      go_wp2
      have ho1 := ownRow_below2 HO.out hb2
      have ho2 := ((ho1.stored (k * 2) (.int .i64 bq)).1.stored (k * 2 + 1) (.string (txt tq))).1
      have hfin := ((hbw.trans (hb2.mono hz)).setCell (p := ⟨w.heap.size, k * 2, none⟩) (Nat.le_refl _) (.int .i64 bq)).setCell (p := ⟨w.heap.size, k * 2 + 1, none⟩) (Nat.le_refl _) (.string (txt tq))
      go_roundw
      case rel => exact ⟨k + 1, _, by omega, by go_num, ho2, cells2_next hk2 Hq htk (by have := Hyl.out; omega), hfin⟩
      case measure => simp [intOf]; omega
    · have hkn : k = n := by omega
      subst hkn
      go_wp2
      go_ret
      refine ⟨w.heap.size, rfl, ?_, hbw⟩
      have h := htk.out
      have hl := hown.1
      rw [List.take_of_length_le (Nat.le_of_eq hl), List.take_of_length_le (by rw [List.length_map]; exact Nat.le_of_eq Hn.out.symm)] at h
      subst h
      unfold OwnP
      rw [List.length_map, ← Hn.out]
      exact hown

theorem eqStep_true (b : Int) (t : ByteArray) (w : World) :
    Calls Tryd.prog 40 #[.agg #[.int .i64 b, .string t], .agg #[.int .i64 b, .string t]] w fun e w' => e = .returned (.bool true) ∧ Below w.heap.size w w' := by
  go_enter Tryd.func40, Tryd.ntmps40
  go_wp2
  go_ret
  exact ⟨rfl, ((Below.refl _ _).alloc (Nat.le_refl _) _).alloc (by simp) _⟩

theorem keep4 {B b o b' o' : Nat} {w w' : World} {x y x' y' : Value} (hb : Below B w w') (hg : b < B) (hg' : b' < B) (h : w.cell? ⟨b, o, none⟩ = some x ∧ w.cell? ⟨b, o + 1, none⟩ = some y ∧ w.cell? ⟨b', o', none⟩ = some x' ∧ w.cell? ⟨b', o' + 1, none⟩ = some y') :
    w'.cell? ⟨b, o, none⟩ = some x ∧ w'.cell? ⟨b, o + 1, none⟩ = some y ∧ w'.cell? ⟨b', o', none⟩ = some x' ∧ w'.cell? ⟨b', o' + 1, none⟩ = some y' :=
  ⟨(hb.cell (p := ⟨b, o, none⟩) hg).trans h.1, (hb.cell (p := ⟨b, o + 1, none⟩) hg).trans h.2.1, (hb.cell (p := ⟨b', o', none⟩) hg').trans h.2.2.1, (hb.cell (p := ⟨b', o' + 1, none⟩) hg').trans h.2.2.2⟩

set_option maxHeartbeats 800000 in
theorem eqStepS_true (A A' : Option Addr) (n c c' : Nat) (L : List St) (w : World) (hn : n = L.length) (hnb : n ≤ 140737488355328) (h1 : PAt w 0 w.heap.size A (L.map stV)) (h2 : PAt w 0 w.heap.size A' (L.map stV)) :
    Calls Tryd.prog 17 #[.slice A n c, .slice A' n c'] w fun e w' => e = .returned (.bool true) ∧ Below w.heap.size w w' := by
  have Hn := Lib.hid hn; clear hn
  have H1 := Lib.hid h1; clear h1
  have H2 := Lib.hid h2; clear h2
  go_enter Tryd.func17, Tryd.ntmps17
  go_wp2
  go_loopw [5] (fun i wr => ∃ k : Nat, k ≤ n ∧ i = .int .i64 k ∧ Below w.heap.size w wr) (fun i _ => n - (intOf i).toNat)
  case atStart => exact ⟨0, Nat.zero_le _, rfl, Below.refl _ _⟩
  case round =>
    obtain ⟨k, hk, rfl, hbw⟩ := hrel
    have hz := hbw.size
    by_cases hlt : k < n
    · have hk' : k < (L.map stV).length := by rw [List.length_map, ← Hn.out]; exact hlt
      obtain ⟨b, o, rfl, _, hbl, hc1, hc2⟩ := (H1.out.below hbw).at_ hk'
      obtain ⟨b', o', rfl, _, hbl', hc3, hc4⟩ := (H2.out.below hbw).at_ hk'
      rw [List.getElem_map] at hc1 hc2 hc3 hc4
      generalize L[k]'(by rw [List.length_map] at hk'; exact hk') = q at hc1 hc2 hc3 hc4
      obtain ⟨bq, tq⟩ := q
      simp only [stV] at hc1 hc2 hc3 hc4
      have hi1 : (0 : Int) ≤ (k : Int) := by omega
      have hi2 : (k : Int) < (n : Int) := by omega
      clear hk'
      go_wp2_with fail
      go_region_held3 (fun w' => w'.cell? ⟨b, o + k * 2, none⟩ = some (.int .i64 bq) ∧ w'.cell? ⟨b, o + k * 2 + 1, none⟩ = some (.string (txt tq)) ∧ w'.cell? ⟨b', o' + k * 2, none⟩ = some (.int .i64 bq) ∧ w'.cell? ⟨b', o' + k * 2 + 1, none⟩ = some (.string (txt tq)))
        (first
          | go_keep
          | (go_split_ands
             exact keep4 hb2 (by simp; omega) (by simp; omega) ⟨by assumption, by assumption, by assumption, by assumption⟩))
        (first
          | (go_at_call 40; refine (eqStep_true bq (txt tq) _).mono ?_; rintro e w2 ⟨rfl, hb2⟩))
      go_wp2
      go_roundw
      case rel => exact ⟨k + 1, by omega, by go_num, hbw.drew.trans (hb2.mono (by simp; omega))⟩
      case measure => simp [intOf]; omega
    · go_wp2
      go_ret
      exact ⟨rfl, hbw⟩
end Go.Proofs.YthgigchablajbaaDoor
