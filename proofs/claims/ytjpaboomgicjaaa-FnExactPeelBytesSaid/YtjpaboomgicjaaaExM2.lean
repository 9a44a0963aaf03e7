/- Contracts of laws.eqMarkS and laws.markMarkS. Conditions: the reach of the rows. -/
import Derived.Test.YtjpaboomgicjaaaExM
namespace Go.Proofs.Ytjpaboomgicjaaa
open Go.RowKit
set_option linter.unusedVariables false

theorem eqMark_true (b : Bool) (t : ByteArray) (w : World) :
    Calls Try.prog 42 #[.agg #[.bool b, .string t], .agg #[.bool b, .string t]] w fun e w' => e = .returned (.bool true) ∧ Below w.heap.size w w' := by
  go_enter Try.func42, Try.ntmps42
  go_wp2
  go_ret
  exact ⟨rfl, ((Below.refl _ _).alloc (Nat.le_refl _) _).alloc (by simp) _⟩

theorem keep4 {B b o b' o' : Nat} {w w' : World} {x y x' y' : Value} (hb : Below B w w') (hg : b < B) (hg' : b' < B) (h : w.cell? ⟨b, o, none⟩ = some x ∧ w.cell? ⟨b, o + 1, none⟩ = some y ∧ w.cell? ⟨b', o', none⟩ = some x' ∧ w.cell? ⟨b', o' + 1, none⟩ = some y') :
    w'.cell? ⟨b, o, none⟩ = some x ∧ w'.cell? ⟨b, o + 1, none⟩ = some y ∧ w'.cell? ⟨b', o', none⟩ = some x' ∧ w'.cell? ⟨b', o' + 1, none⟩ = some y' :=
  ⟨(hb.cell (p := ⟨b, o, none⟩) hg).trans h.1, (hb.cell (p := ⟨b, o + 1, none⟩) hg).trans h.2.1, (hb.cell (p := ⟨b', o', none⟩) hg').trans h.2.2.1, (hb.cell (p := ⟨b', o' + 1, none⟩) hg').trans h.2.2.2⟩

set_option maxHeartbeats 800000 in
theorem eqMarkS_true (A A' : Option Addr) (n c c' : Nat) (L : List Mb) (w : World) (hn : n = L.length) (hnb : n ≤ 140737488355328) (h1 : MAt w 0 w.heap.size A L) (h2 : MAt w 0 w.heap.size A' L) :
    Calls Try.prog 21 #[.slice A n c, .slice A' n c'] w fun e w' => e = .returned (.bool true) ∧ Below w.heap.size w w' := by
  have Hn := Lib.hid hn; clear hn
  have H1 := Lib.hid h1; clear h1
  have H2 := Lib.hid h2; clear h2
  go_enter Try.func21, Try.ntmps21
  go_wp2
  go_loopw [5] (fun i wr => ∃ k : Nat, k ≤ n ∧ i = .int .i64 k ∧ Below w.heap.size w wr) (fun i _ => n - (intOf i).toNat)
  case atStart => exact ⟨0, Nat.zero_le _, rfl, Below.refl _ _⟩
  case round =>
    obtain ⟨k, hk, rfl, hbw⟩ := hrel
    have hz := hbw.size
    by_cases hlt : k < n
    · have hk' : k < L.length := by rw [← Hn.out]; exact hlt
      obtain ⟨b, o, rfl, _, hbl, hc1, hc2⟩ := (H1.out.below hbw).at_ hk'
      obtain ⟨b', o', rfl, _, hbl', hc3, hc4⟩ := (H2.out.below hbw).at_ hk'
      generalize L[k] = q at hc1 hc2 hc3 hc4
      obtain ⟨bq, tq⟩ := q
      simp only at hc1 hc2 hc3 hc4
      have hi1 : (0 : Int) ≤ (k : Int) := by omega
      have hi2 : (k : Int) < (n : Int) := by omega
      clear hk'
      go_wp2_with fail
      go_region_held3 (fun w' => w'.cell? ⟨b, o + k * 2, none⟩ = some (.bool bq) ∧ w'.cell? ⟨b, o + k * 2 + 1, none⟩ = some (.string tq) ∧ w'.cell? ⟨b', o' + k * 2, none⟩ = some (.bool bq) ∧ w'.cell? ⟨b', o' + k * 2 + 1, none⟩ = some (.string tq))
        (first
          | go_keep
          | (go_split_ands
             exact keep4 hb2 (by simp; omega) (by simp; omega) ⟨by assumption, by assumption, by assumption, by assumption⟩))
        (first
          | (go_at_call 42; refine (eqMark_true bq tq _).mono ?_; rintro e w2 ⟨rfl, hb2⟩))
      go_wp2
      go_roundw
      case rel => exact ⟨k + 1, by omega, by go_num, hbw.drew.trans (hb2.mono (by simp; omega))⟩
      case measure => simp [intOf]; omega
    · go_wp2
      go_ret
      exact ⟨rfl, hbw⟩

theorem markText_int (z : Int) (k : Nat) (w : World) (hz : z = (k : Int)) (h0 : 0 < k) (hk : k ≤ 1099511627776) :
    Calls Try.prog 43 #[.int .i64 z] w fun e w' => e = .returned (.string (mtext k)) ∧ Below w.heap.size w w' := by
  subst hz
  exact markText_any k w h0 hk
theorem grown_below {w wr w1 : World} {row : Option Nat} (h : w.grownBy wr row) (hb : Below wr.heap.size wr w1) : w.grownBy w1 row :=
  h.trans ⟨hb.os, hb.tape, hb.output, hb.size, fun i hi _ => hb.block i hi⟩

set_option maxHeartbeats 800000 in
theorem markMarkS_any (g n base : Nat) (xs : List Value) (w : World) (hown : w.ownsRow base 42 2 (.slice (some ⟨g, 0, none⟩) n n) n xs) (hn : n ≤ 1073741824) :
    Calls Try.prog 22 #[.slice (some ⟨g, 0, none⟩) n n, .int .i64 1] w fun e w' => (∃ r : Nat, e = .returned (.int .i64 r)) ∧ w.grownBy w' (some g) := by
  go_enter Try.func22, Try.ntmps22
  go_wp2
  go_loopw [1, 5] (fun q i wr => ∃ (k q' : Nat) (ys : List Value), k ≤ n ∧ i = .int .i64 k ∧ q = .int .i64 q' ∧ 0 < q' ∧ q' ≤ 1 + 2 * k ∧ wr.ownsRow base 42 2 (.slice (some ⟨g, 0, none⟩) n n) n ys ∧ w.grownBy wr (some g)) (fun _ i _ => n - (intOf i).toNat)
  case atStart => exact ⟨0, 1, xs, Nat.zero_le _, rfl, rfl, by omega, by omega, hown, World.grownBy.refl w _⟩
  case round =>
    obtain ⟨k, q, ys, hk, rfl, rfl, hq0, hq1, ho, hgr⟩ := hrel
    by_cases hlt : k < n
    · have hyl := ho.1
      have hcell1 := ho.cellAt (k * 2) (by omega)
      have hcell2 := ho.cellAt (k * 2 + 1) (by omega)
      rw [List.getElem?_eq_getElem (by omega)] at hcell1 hcell2
      generalize ys[k * 2]'(by omega) = old1 at hcell1
      generalize ys[k * 2 + 1]'(by omega) = old2 at hcell2
      have hfr1 := ho.frozenAt (k * 2)
      have hfr2 := ho.frozenAt (k * 2 + 1)
      have hglt := (World.ownsRow.lt ho g rfl).2
      have HO := Lib.hid ho; clear ho
      clear hyl
      go_wp2_with fail
      (with_reducible refine (markText_int _ (q + 1) _ (by omega) (by omega) (by omega)).mono ?_); rintro e w2 ⟨rfl, hb2⟩
      have ho1 := OwnRow.below2 (HO.out.stored (k * 2) (.bool ((q : Int) % 3 == 0))).1 hb2
      have hcell3 := ho1.cellAt (k * 2 + 1) (by omega)
      have hlen3 := ho1.1
      rw [List.getElem?_eq_getElem (by omega)] at hcell3
      have hfr3 := ho1.frozenAt (k * 2 + 1)
      generalize (List.set ys (k * 2) (Value.bool ((q : Int) % 3 == 0)))[k * 2 + 1]'(by omega) = old3 at hcell3
      have HO1 := Lib.hid ho1; clear ho1 hlen3 hcell1 hcell2 hfr1 hfr2
      have hgr2 := grown_below (hgr.trans (HO.out.stored (k * 2) (.bool ((q : Int) % 3 == 0))).2) hb2
      have hst := HO1.out.stored (k * 2 + 1) (.string (mtext (q + 1)))
      have Hst := Lib.hid hst; clear hst
      generalize mtext (q + 1) = tx at *
      go_wp2
      go_roundw
      case rel => exact ⟨k + 1, q + 2, _, by omega, by go_num, by go_num, by omega, by omega, Hst.out.1, hgr2.trans Hst.out.2⟩
      case measure => simp [intOf]; omega
    · go_wp2
      go_ret
      exact ⟨⟨q, rfl⟩, hgr⟩
end Go.Proofs.Ytjpaboomgicjaaa
