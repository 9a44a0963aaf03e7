/- Contracts of laws.markBoolS, laws.heldBoolS and laws.eqBoolS. Conditions: the reach of the rows. -/
import Derived.Test.YtjpaboomgicjaaaSame
import Derived.Test.YtjpaboomgicjaaaText
namespace Go.Proofs.Ytjpaboomgicjaaa
open Go.RowKit
set_option linter.unusedVariables false

theorem set_at {α : Type} (l ys : List α) (k : Nat) (u : α) (hl : l.length = k) (hk : k < ys.length) : (l ++ ys.drop k).set k u = (l ++ [u]) ++ ys.drop (k + 1) := by
  subst hl
  rw [List.set_append_right _ _ (Nat.le_refl _), Nat.sub_self, List.drop_eq_getElem_cons hk, List.set_cons_zero, List.append_assoc]
  rfl
theorem own_at {w : World} {base : Nat} {e : TypeId} {A : Option Addr} {n c : Nat} {ys : List Value} (h : Own w base e (.slice A n c) ys) {k : Nat} (hk : k < ys.length) :
    ∃ g, A = some ⟨g, 0, none⟩ ∧ base ≤ g ∧ w.cell? ⟨g, k, none⟩ = some ys[k] ∧ w.frozen? ⟨g, k, none⟩ = false ∧ ∀ u, Own (w.setCell ⟨g, k, none⟩ u) base e (.slice A n c) (ys.set k u) ∧ w.grownBy (w.setCell ⟨g, k, none⟩ u) (some g) := by
  have h' := h
  rcases h.2 with ⟨hv, h0⟩ | ⟨g, cap, cur, hv, hb, hg, hc, hm, hs, ht⟩
  · omega
  · simp only [Value.slice.injEq] at hv
    obtain ⟨rfl, rfl, rfl⟩ := hv
    refine ⟨g, rfl, hb, ?_, World.ownsRow.frozenAt (w := w) h' k, fun u => ?_⟩
    · rw [World.ownsRow.cellAt (w := w) h' k (by omega), List.getElem?_eq_getElem hk]
    · have := World.ownsRow.stored (w := w) h' k u
      refine ⟨?_, this.2⟩
      unfold Own
      rw [List.length_set]
      exact this.1

def bm (q : Nat) : Value := .bool ((q : Int) % 3 == 0)
def bms (k0 n : Nat) : List Value := (List.range n).map fun i => bm (k0 + i)
theorem bms_succ (k0 n : Nat) : bms k0 (n + 1) = bms k0 n ++ [bm (k0 + n)] := by simp [bms, List.range_succ]
theorem bms_length (k0 n : Nat) : (bms k0 n).length = n := by simp [bms]
theorem bms_get (k0 n i : Nat) (h : i < (bms k0 n).length) : (bms k0 n)[i] = bm (k0 + i) := by simp [bms]

def MarkedIs (w : World) (base : Nat) (e : TypeId) (v : Value) (xs : List Value) (M : Nat → Value) (k0 k : Nat) (wr : World) : Prop :=
  Own wr base e v (((List.range k).map fun i => M (k0 + i)) ++ xs.drop k) ∧ w.grownBy wr v.ownBlock
theorem MarkedIs.zero {w : World} {base : Nat} {e : TypeId} {v : Value} {xs : List Value} {M : Nat → Value} {k0 : Nat} (h : Own w base e v xs) : MarkedIs w base e v xs M k0 0 w := ⟨h, World.grownBy.refl w _⟩
theorem marked_len {xs : List Value} {M : Nat → Value} {k0 k : Nat} (hk : k ≤ xs.length) : (((List.range k).map fun i => M (k0 + i)) ++ xs.drop k).length = xs.length := by simp; omega
theorem marked_step {xs : List Value} {M : Nat → Value} {k0 k : Nat} (hk : k < xs.length) : (((List.range k).map fun i => M (k0 + i)) ++ xs.drop k).set k (M (k0 + k)) = ((List.range (k + 1)).map fun i => M (k0 + i)) ++ xs.drop (k + 1) := by
  rw [set_at _ _ _ _ (by simp) hk, List.range_succ, List.map_append]; rfl
theorem MarkedIs.at_ {w : World} {base : Nat} {e : TypeId} {A : Option Addr} {n c : Nat} {xs : List Value} {M : Nat → Value} {k0 k : Nat} {wr : World} (h : MarkedIs w base e (.slice A n c) xs M k0 k wr) (hk : k < xs.length) :
    ∃ g old, A = some ⟨g, 0, none⟩ ∧ base ≤ g ∧ wr.cell? ⟨g, k, none⟩ = some old ∧ wr.frozen? ⟨g, k, none⟩ = false := by
  obtain ⟨g, rfl, hb, hc, hf, _⟩ := own_at h.1 (k := k) (by rw [marked_len (by omega)]; exact hk)
  exact ⟨g, _, rfl, hb, hc, hf⟩
/-- the next mark is written into a world that is as this one below, or this one itself -/
theorem MarkedIs.next {w : World} {base g : Nat} {e : TypeId} {n c : Nat} {xs : List Value} {M : Nat → Value} {k0 k : Nat} {wr w1 : World} (h : MarkedIs w base e (.slice (some ⟨g, 0, none⟩) n c) xs M k0 k wr) (hk : k < xs.length) (hb : Below wr.heap.size wr w1) :
    MarkedIs w base e (.slice (some ⟨g, 0, none⟩) n c) xs M k0 (k + 1) (w1.setCell ⟨g, k, none⟩ (M (k0 + k))) := by
  have h1 := h.1.below hb
  obtain ⟨g', hg, _, _, _, hu⟩ := own_at h1 (k := k) (by rw [marked_len (by omega)]; exact hk)
  injection hg with hg
  injection hg with hg
  subst hg
  obtain ⟨ho, hgr⟩ := hu (M (k0 + k))
  rw [marked_step hk] at ho
  refine ⟨ho, (h.2.trans ?_).trans hgr⟩
  exact ⟨hb.os, hb.tape, hb.output, hb.size, fun i hi _ => hb.block i hi⟩

set_option maxHeartbeats 400000 in
theorem markBoolS_any (v : Value) (xs : List Value) (k0 base : Nat) (w : World) (hown : Own w base 4 v xs) (hn : xs.length + k0 ≤ 140737488355328) :
    Calls Try.prog 23 #[v, .int .i64 k0] w fun e w' => e = .returned (.int .i64 ((k0 + xs.length : Nat) : Int)) ∧ Own w' base 4 v (bms k0 xs.length) ∧ w.grownBy w' v.ownBlock := by
  obtain ⟨A, c, rfl, hc, _⟩ := hown.form
  obtain ⟨n, hnn⟩ : ∃ n, n = xs.length := ⟨_, rfl⟩
  rw [← hnn] at hn ⊢ hown
  have Hn := Lib.hid hnn; clear hnn hc
  have h0 := MarkedIs.zero (M := bm) (k0 := k0) hown
  clear hown
  go_enter Try.func23, Try.ntmps23
  go_wp2
  go_loopw [1, 5] (fun q i wr => ∃ (k q' : Nat), k ≤ n ∧ i = .int .i64 k ∧ q = .int .i64 q' ∧ Hid (q' = k0 + k) ∧ MarkedIs w base 4 (.slice A n c) xs bm k0 k wr) (fun _ i _ => n - (intOf i).toNat)
  case atStart => exact ⟨0, k0, Nat.zero_le _, rfl, rfl, rfl, h0⟩
  case round =>
    obtain ⟨k, q, hk, rfl, rfl, hq, hmk⟩ := hrel
    have hql : q ≤ 140737488355328 := by rw [hq.out]; omega
    by_cases hlt : k < n
    · have hk' : k < xs.length := by rw [← Hn.out]; exact hlt
      obtain ⟨g, old, rfl, hbg, hcell, hfr⟩ := hmk.at_ hk'
      go_wp2
      have hn' := hmk.next hk' (Below.refl _ _)
      rw [← hq.out] at hn'
      go_roundw
      case rel => exact ⟨k + 1, q + 1, by omega, by go_num, by go_num, by rw [Hid, hq.out]; omega, hn'⟩
      case measure => simp [intOf]; omega
    · have hkn : k = n := by omega
      subst hkn
      go_wp2
      go_ret
      have h2 := hmk.1
      rw [List.drop_of_length_le (Nat.le_of_eq Hn.out.symm), List.append_nil] at h2
      exact ⟨by rw [hq.out]; rfl, h2, hmk.2⟩

set_option maxHeartbeats 400000 in
theorem heldBoolS_any (v : Value) (n k0 : Nat) (w : World) (hrow : RowV w v (bms k0 n)) (hn : n + k0 ≤ 140737488355328) :
    Calls Try.prog 24 #[v, .int .i64 k0] w fun e w' => e = .returned (.int .i64 ((k0 + n : Nat) : Int)) ∧ w = w' := by
  obtain ⟨A, c, rfl, hc, hr⟩ := hrow
  rw [bms_length]
  have Hr := Lib.hid hr; clear hr hc
  go_enter Try.func24, Try.ntmps24
  go_wp2
  go_loop [1, 5] (fun q i => ∃ (k q' : Nat), k ≤ n ∧ i = .int .i64 k ∧ q = .int .i64 q' ∧ Hid (q' = k0 + k)) (fun _ i => n - (intOf i).toNat)
  case atStart => exact ⟨0, k0, Nat.zero_le _, rfl, rfl, rfl⟩
  case round =>
    obtain ⟨k, q, hk, rfl, rfl, hq⟩ := hrel
    have hql : q ≤ 140737488355328 := by rw [hq.out]; omega
    by_cases hlt : k < n
    · obtain ⟨b, o, rfl, _, _, hcell⟩ := Hr.out.at_ (i := k) (by rw [bms_length]; exact hlt)
      rw [bms_get, ← hq.out] at hcell
      unfold bm at hcell
      go_wp2
      go_round
      case rel => exact ⟨k + 1, q + 1, by omega, by go_num, by go_num, by rw [Hid, hq.out]; omega⟩
      case measure => simp [intOf]; omega
    · have hkn : k = n := by omega
      subst hkn
      go_wp2
      go_ret
      exact ⟨by rw [hq.out]; rfl, rfl⟩

set_option maxHeartbeats 400000 in
/-- two rows that hold the same: the answer is true -/
theorem eqBoolS_true (A A' : Option Addr) (n c c' lo hi : Nat) (xs : List Bool) (w : World) (hn : n = xs.length) (hnb : n ≤ 140737488355328) (h1 : RowAt w lo hi A (xs.map Value.bool)) (h2 : RowAt w lo hi A' (xs.map Value.bool)) :
    Calls Try.prog 20 #[.slice A n c, .slice A' n c'] w fun e w' => e = .returned (.bool true) ∧ ∃ m, w' = w.drewN m := by
  have Hn := Lib.hid hn; clear hn
  have H1 := Lib.hid h1; clear h1
  have H2 := Lib.hid h2; clear h2
  go_enter Try.func20, Try.ntmps20
  go_wp2
  go_loopw [5] (fun i wr => ∃ k m : Nat, k ≤ n ∧ i = .int .i64 k ∧ wr = w.drewN m) (fun i _ => n - (intOf i).toNat)
  case atStart => exact ⟨0, 0, Nat.zero_le _, rfl, rfl⟩
  case round =>
    obtain ⟨k, m, hk, rfl, rfl⟩ := hrel
    by_cases hlt : k < n
    · have hk' : k < (xs.map Value.bool).length := by rw [List.length_map, ← Hn.out]; exact hlt
      obtain ⟨b, o, rfl, _, _, hc1⟩ := H1.out.at_ hk'
      obtain ⟨b', o', rfl, _, _, hc2⟩ := H2.out.at_ hk'
      rw [List.getElem_map] at hc1 hc2
      generalize xs[k]'(by rw [List.length_map] at hk'; exact hk') = u at hc1 hc2
      clear hk'
      have hi1 : (0 : Int) ≤ (k : Int) := by omega
      have hi2 : (k : Int) < (n : Int) := by omega
      go_wp2
      go_quiet (fail)
      go_wp2
      go_roundw
      case rel => exact ⟨k + 1, _, by omega, by go_num, by first | rfl | (simp only [World.drewN_drewN]; rfl)⟩
      case measure => simp [intOf]; omega
    · go_wp2
      go_ret
      exact ⟨rfl, m, rfl⟩

theorem eqBoolS_v (v v' : Value) (xs : List Bool) (w : World) (hnb : xs.length ≤ 140737488355328) (h1 : RowV w v (xs.map Value.bool)) (h2 : RowV w v' (xs.map Value.bool)) :
    Calls Try.prog 20 #[v, v'] w fun e w' => e = .returned (.bool true) ∧ ∃ m, w' = w.drewN m := by
  obtain ⟨A, c, rfl, _, h1⟩ := h1
  obtain ⟨A', c', rfl, _, h2⟩ := h2
  exact eqBoolS_true A A' _ c c' 0 w.heap.size xs w (by rw [List.length_map]) (by rw [List.length_map]; exact hnb) h1 h2

theorem markBoolS_1 (v : Value) (xs : List Value) (n base : Nat) (w : World) (hown : Own w base 4 v xs) (hl : xs.length = n) (hn : n + 1 ≤ 140737488355328) :
    Calls Try.prog 23 #[v, .int .i64 1] w fun e w' => e = .returned (.int .i64 ((n + 1 : Nat) : Int)) ∧ Own w' base 4 v (bms 1 n) ∧ w.grownBy w' v.ownBlock := by
  subst hl
  have h := markBoolS_any v xs 1 base w hown (by omega)
  rw [Nat.add_comm] at h
  exact h
theorem heldBoolS_1 (v : Value) (n : Nat) (w : World) (hrow : RowV w v (bms 1 n)) (hn : n + 1 ≤ 140737488355328) :
    Calls Try.prog 24 #[v, .int .i64 1] w fun e w' => e = .returned (.int .i64 ((n + 1 : Nat) : Int)) ∧ w = w' := by
  have h := heldBoolS_any v n 1 w hrow (by omega)
  rw [Nat.add_comm] at h
  exact h
end Go.Proofs.Ytjpaboomgicjaaa
