/- Contracts of laws.markStringS, laws.heldStringS and laws.eqStringS. Conditions: the reach of the rows. -/
import Derived.Test.YtdlhjnihmkbagaaDoorText
import Derived.Test.YtdlhjnihmkbagaaDoorMarked
import Derived.Deep.QuietTactic
import Derived.BigQuiet
import Derived.RegionTactic
import Derived.ChangeAlike
import Derived.Deep.RegionHeld3
namespace Go.Proofs.YtdlhjnihmkbagaaDoor
open Go.RowKit
set_option linter.unusedVariables false

theorem cell_lt' {w : World} {b o : Nat} {v : Value} (h : w.cell? ⟨b, o, none⟩ = some v) : b < w.heap.size := by
  rcases Nat.lt_or_ge b w.heap.size with hl | hl
  · exact hl
  · simp [World.cell?, Array.getElem?_eq_none hl] at h
def tm (q : Nat) : Value := .string (mtext q)
def tms (k0 n : Nat) : List Value := (List.range n).map fun i => tm (k0 + i)
theorem tms_succ (k0 n : Nat) : tms k0 (n + 1) = tms k0 n ++ [tm (k0 + n)] := by simp [tms, List.range_succ]
theorem tms_length (k0 n : Nat) : (tms k0 n).length = n := by simp [tms]
theorem tms_get (k0 n i : Nat) (h : i < (tms k0 n).length) : (tms k0 n)[i] = tm (k0 + i) := by simp [tms]

set_option maxHeartbeats 400000 in
theorem markStringS_any (v : Value) (xs : List Value) (k0 base : Nat) (w : World) (hown : Own w base 9 v xs) (h0k : 0 < k0) (hn : xs.length + k0 ≤ 1099511627776) :
    Calls Tryd.prog 14 #[v, .int .i64 k0] w fun e w' => e = .returned (.int .i64 ((k0 + xs.length : Nat) : Int)) ∧ Own w' base 9 v (tms k0 xs.length) ∧ w.grownBy w' v.ownBlock := by
  obtain ⟨A, c, rfl, hc, _⟩ := hown.form
  obtain ⟨n, hnn⟩ : ∃ n, n = xs.length := ⟨_, rfl⟩
  rw [← hnn] at hn ⊢ hown
  have Hn := Lib.hid hnn; clear hnn hc
  have h0 := MarkedIs.zero (M := tm) (k0 := k0) hown
  clear hown
  go_enter Tryd.func14, Tryd.ntmps14
  go_wp2
  go_loopw [1, 5] (fun q i wr => ∃ (k q' : Nat), k ≤ n ∧ i = .int .i64 k ∧ q = .int .i64 q' ∧ Hid (q' = k0 + k) ∧ MarkedIs w base 9 (.slice A n c) xs tm k0 k wr) (fun _ i _ => n - (intOf i).toNat)
  case atStart => exact ⟨0, k0, Nat.zero_le _, rfl, rfl, rfl, h0⟩
  case round =>
    obtain ⟨k, q, hk, rfl, rfl, hq, hmk⟩ := hrel
    have hql : q ≤ 1099511627776 := by rw [hq.out]; omega
    by_cases hlt : k < n
    · have hk' : k < xs.length := by rw [← Hn.out]; exact hlt
      obtain ⟨g, old, rfl, hbg, hcell, hfr⟩ := hmk.at_ hk'
      have hql1 : 0 < q := by rw [hq.out]; omega
      have hg1 := cell_lt' hcell
      go_wp2_with fail
      (with_reducible refine (markText_any q _ hql1 hql).mono ?_); rintro e w1 ⟨rfl, hb1⟩
      have hcell1 := (hb1.cell (p := ⟨g, k, none⟩) hg1).trans hcell
      have hfr1 := (hb1.frozen (p := ⟨g, k, none⟩) hg1).trans hfr
      go_wp2_with fail
      have hn' := hmk.next hk' hb1
      rw [← hq.out] at hn'
      unfold tm at hn'
      go_roundw
      case rel => exact ⟨k + 1, q + 1, by omega, by go_num, by go_num, by rw [Hid, hq.out]; omega, hn'⟩
      case measure => simp [intOf]; omega
    · have hkn : k = n := by omega
      subst hkn
      go_wp2
      go_ret
      have h2 := hmk.1
      rw [List.drop_of_length_le (Nat.le_of_eq Hn.out.symm), List.append_nil] at h2
      exact ⟨by rw [hq.out]; rfl, h2, hmk.2⟩

set_option maxHeartbeats 400000 in
theorem heldStringS_any (v : Value) (n k0 : Nat) (w : World) (hrow : RowV w v (tms k0 n)) (h0k : 0 < k0) (hn : n + k0 ≤ 1099511627776) :
    Calls Tryd.prog 27 #[v, .int .i64 k0] w fun e w' => e = .returned (.int .i64 ((k0 + n : Nat) : Int)) ∧ Below w.heap.size w w' := by
  obtain ⟨A, c, rfl, hc, hr⟩ := hrow
  rw [tms_length]
  have Hr := Lib.hid hr; clear hr hc
  go_enter Tryd.func27, Tryd.ntmps27
  go_wp2
  go_loopw [1, 5] (fun q i wr => ∃ (k q' : Nat), k ≤ n ∧ i = .int .i64 k ∧ q = .int .i64 q' ∧ Hid (q' = k0 + k) ∧ Below w.heap.size w wr) (fun _ i _ => n - (intOf i).toNat)
  case atStart => exact ⟨0, k0, Nat.zero_le _, rfl, rfl, rfl, Below.refl _ _⟩
  case round =>
    obtain ⟨k, q, hk, rfl, rfl, hq, hbw⟩ := hrel
    have hql : q ≤ 1099511627776 := by rw [hq.out]; omega
    by_cases hlt : k < n
    · obtain ⟨b, o, rfl, _, _, hcell0⟩ := Hr.out.at_ (i := k) (by rw [tms_length]; exact hlt)
      rw [tms_get, ← hq.out] at hcell0
      unfold tm at hcell0
      have hcell := (hbw.cell (p := ⟨b, o + k, none⟩) (cell_lt' hcell0)).trans hcell0
      clear hcell0
      have hql1 : 0 < q := by rw [hq.out]; omega
      have hg1 := cell_lt' hcell
      have hi1 : (0 : Int) ≤ (k : Int) := by omega
      have hi2 : (k : Int) < (n : Int) := by omega
      go_wp2_with fail
      go_region_held3 (fun w' => w'.cell? ⟨b, o + k, none⟩ = some (.string (mtext q)))
        (first
          | go_keep
          | (go_split_ands
             exact (hb1.cell (p := ⟨b, o + k, none⟩) (by simp; omega)).trans (by assumption)))
        (first
          | (go_at_call 26; refine (markText_any q _ hql1 hql).mono ?_; rintro e w1 ⟨rfl, hb1⟩))
      go_wp2
      go_roundw
      case rel => exact ⟨k + 1, q + 1, by omega, by go_num, by go_num, by rw [Hid, hq.out]; omega, hbw.drew.trans (hb1.mono hbw.size)⟩
      case measure => simp [intOf]; omega
    · have hkn : k = n := by omega
      subst hkn
      go_wp2
      go_ret
      exact ⟨by rw [hq.out]; rfl, hbw⟩

set_option maxHeartbeats 400000 in
/-- two rows that hold the same: the answer is true -/
theorem eqStringS_true (A A' : Option Addr) (n c c' lo hi : Nat) (xs : List ByteArray) (w : World) (hn : n = xs.length) (hnb : n ≤ 140737488355328) (h1 : RowAt w lo hi A (xs.map Value.string)) (h2 : RowAt w lo hi A' (xs.map Value.string)) :
    Calls Tryd.prog 13 #[.slice A n c, .slice A' n c'] w fun e w' => e = .returned (.bool true) ∧ ∃ m, w' = w.drewN m := by
  have Hn := Lib.hid hn; clear hn
  have H1 := Lib.hid h1; clear h1
  have H2 := Lib.hid h2; clear h2
  go_enter Tryd.func13, Tryd.ntmps13
  go_wp2
  go_loopw [5] (fun i wr => ∃ k m : Nat, k ≤ n ∧ i = .int .i64 k ∧ wr = w.drewN m) (fun i _ => n - (intOf i).toNat)
  case atStart => exact ⟨0, 0, Nat.zero_le _, rfl, rfl⟩
  case round =>
    obtain ⟨k, m, hk, rfl, rfl⟩ := hrel
    by_cases hlt : k < n
    · have hk' : k < (xs.map Value.string).length := by rw [List.length_map, ← Hn.out]; exact hlt
      obtain ⟨b, o, rfl, _, _, hc1⟩ := H1.out.at_ hk'
      obtain ⟨b', o', rfl, _, _, hc2⟩ := H2.out.at_ hk'
      rw [List.getElem_map] at hc1 hc2
      generalize xs[k]'(by rw [List.length_map] at hk'; exact hk') = u at hc1 hc2
      clear hk'
      have hi1 : (0 : Int) ≤ (k : Int) := by omega
      have hi2 : (k : Int) < (n : Int) := by omega
      go_wp2
      go_quiet (fail)
      go_wp2
      go_roundw
      case rel => exact ⟨k + 1, _, by omega, by go_num, by first | rfl | (simp only [World.drewN_drewN]; rfl)⟩
      case measure => simp [intOf]; omega
    · go_wp2
      go_ret
      exact ⟨rfl, m, rfl⟩

theorem eqStringS_v (v v' : Value) (xs : List ByteArray) (w : World) (hnb : xs.length ≤ 140737488355328) (h1 : RowV w v (xs.map Value.string)) (h2 : RowV w v' (xs.map Value.string)) :
    Calls Tryd.prog 13 #[v, v'] w fun e w' => e = .returned (.bool true) ∧ ∃ m, w' = w.drewN m := by
  obtain ⟨A, c, rfl, _, h1⟩ := h1
  obtain ⟨A', c', rfl, _, h2⟩ := h2
  exact eqStringS_true A A' _ c c' 0 w.heap.size xs w (by rw [List.length_map]) (by rw [List.length_map]; exact hnb) h1 h2

theorem markStringS_1 (v : Value) (xs : List Value) (n base : Nat) (w : World) (hown : Own w base 9 v xs) (hl : xs.length = n) (hn : n + 1 ≤ 1099511627776) :
    Calls Tryd.prog 14 #[v, .int .i64 1] w fun e w' => e = .returned (.int .i64 ((n + 1 : Nat) : Int)) ∧ Own w' base 9 v (tms 1 n) ∧ w.grownBy w' v.ownBlock := by
  subst hl
  have h := markStringS_any v xs 1 base w hown (by omega) (by omega)
  rw [Nat.add_comm] at h
  exact h
theorem heldStringS_1 (v : Value) (n : Nat) (w : World) (hrow : RowV w v (tms 1 n)) (hn : n + 1 ≤ 1099511627776) :
    Calls Tryd.prog 27 #[v, .int .i64 1] w fun e w' => e = .returned (.int .i64 ((n + 1 : Nat) : Int)) ∧ Below w.heap.size w w' := by
  have h := heldStringS_any v n 1 w hrow (by omega) (by omega)
  rw [Nat.add_comm] at h
  exact h
/-- the texts of a list of byte lists -/
theorem eqTexts_v (v v' : Value) (l : List (List UInt8)) (w : World) (hnb : l.length ≤ 140737488355328) (h1 : RowV w v (l.map fun x => .string ⟨x.toArray⟩)) (h2 : RowV w v' (l.map fun x => .string ⟨x.toArray⟩)) :
    Calls Tryd.prog 13 #[v, v'] w fun e w' => e = .returned (.bool true) ∧ ∃ m, w' = w.drewN m :=
  eqStringS_v v v' (l.map fun x => ⟨x.toArray⟩) w (by rw [List.length_map]; exact hnb) (by rw [List.map_map]; exact h1) (by rw [List.map_map]; exact h2)
end Go.Proofs.YtdlhjnihmkbagaaDoor
