/- Contracts of laws.markStringSS, laws.heldStringSS and laws.eqStringSS. Conditions: the reach of the rows. -/
import Derived.Test.YtdlhjnihmkbagaaDoorExS
import Derived.Test.YtdlhjnihmkbagaaDoorRows1
namespace Go.Proofs.YtdlhjnihmkbagaaDoor
open Go.RowKit
set_option linter.unusedVariables false

def tmsR : Nat → List (List Value) → List (List Value)
  | _, [] => []
  | k, xs :: L => tms k xs.length :: tmsR (k + xs.length) L
def tot (L : List (List Value)) : Nat := (L.map List.length).sum
theorem tot_cons (xs : List Value) (L : List (List Value)) : tot (xs :: L) = xs.length + tot L := by simp [tot]
theorem tmsR_length : ∀ (k : Nat) (L : List (List Value)), (tmsR k L).length = L.length
  | _, [] => rfl
  | k, xs :: L => by simp [tmsR, tmsR_length _ L]
theorem tmsR_snoc : ∀ (k : Nat) (L : List (List Value)) (xs : List Value), tmsR k (L ++ [xs]) = tmsR k L ++ [tms (k + tot L) xs.length]
  | k, [], xs => by simp [tmsR, tot]
  | k, ys :: L, xs => by
    simp only [List.cons_append, tmsR, tmsR_snoc (k + ys.length) L xs, tot_cons, Nat.add_assoc]
theorem tmsR_get : ∀ (k : Nat) (L : List (List Value)) (i : Nat) (h : i < L.length), (tmsR k L)[i]? = some (tms (k + tot (L.take i)) L[i].length)
  | k, ys :: L, 0, h => by simp [tmsR, tot]
  | k, ys :: L, i + 1, h => by
    have h' : i < L.length := by simpa using h
    simp only [tmsR, List.getElem?_cons_succ, List.getElem_cons_succ, List.take_succ_cons, tot_cons]
    rw [tmsR_get (k + ys.length) L i h', Nat.add_assoc]
  | _, [], i, h => by simp at h
theorem tot_take (L : List (List Value)) (k : Nat) (h : k < L.length) : tot (L.take (k + 1)) = tot (L.take k) + L[k].length := by
  unfold tot
  rw [List.take_succ_eq_append_getElem h, List.map_append, List.sum_append]; simp
theorem tot_le (L : List (List Value)) (k : Nat) : tot (L.take k) ≤ tot L := by
  have h := congrArg (fun l : List (List Value) => (l.map List.length).sum) (List.take_append_drop k L)
  simp only [List.map_append, List.sum_append] at h
  unfold tot
  omega

set_option maxHeartbeats 800000 in
theorem markStringSS_any (v : Value) (vs : List Value) (L : List (List Value)) (k0 base : Nat) (w : World) (hown : Own w base 22 v vs) (hrows : Rows w base v.ownBlock vs L) (h0k : 0 < k0) (hn : tot L + k0 ≤ 1099511627776) (hbase : base ≤ w.heap.size) :
    Calls Tryd.prog 15 #[v, .int .i64 k0] w fun e w' => e = .returned (.int .i64 ((k0 + tot L : Nat) : Int)) ∧ Own w' base 22 v vs ∧ Rows w' base v.ownBlock vs (tmsR k0 L) ∧ Below base w w' := by
  have hvl := hrows.1
  obtain ⟨A, c, rfl, hc, hml⟩ := hown.form
  obtain ⟨n, hnn⟩ : ∃ n, n = L.length := ⟨_, rfl⟩
  rw [hvl, ← hnn] at hown hc hml hrows ⊢
  have hnm : n ≤ maxLen := hml
  have Hn := Lib.hid hnn; have Hvl := Lib.hid hvl; clear hnn hvl hc hml
  unfold maxLen at hnm
  go_enter Tryd.func15, Tryd.ntmps15
  go_wp2
  go_loopw [1, 5] (fun q i wr => ∃ (k q' : Nat), k ≤ n ∧ i = .int .i64 k ∧ q = .int .i64 q' ∧ Hid (q' = k0 + tot (L.take k)) ∧ Own wr base 22 (.slice A n c) vs ∧ Rows wr base (Value.slice A n c).ownBlock vs (tmsR k0 (L.take k) ++ L.drop k) ∧ Below base w wr) (fun _ i _ => n - (intOf i).toNat)
  case atStart => exact ⟨0, k0, Nat.zero_le _, rfl, rfl, by show _ = _; simp [tot], hown, by simpa [tmsR] using hrows, Below.refl _ _⟩
  case round =>
    clear hown hrows
    obtain ⟨k, q, hk, rfl, rfl, hq, hown, hrows, hbw⟩ := hrel
    have hz := hbw.size
    by_cases hlt : k < n
    · have hk' : k < L.length := by rw [← Hn.out]; exact hlt
      have hkv : k < vs.length := by rw [Hvl.out]; exact hk'
      obtain ⟨ba, oa, rfl, _, hba, hcell⟩ := hown.row.at_ (i := k) hkv
      have hu : vs[k]? = some vs[k] := List.getElem?_eq_getElem hkv
      generalize vs[k] = u at hcell hu
      have htl : (tmsR k0 (L.take k)).length = k := by rw [tmsR_length, List.length_take]; omega
      have hxk : (tmsR k0 (L.take k) ++ L.drop k)[k]? = some L[k] := by
        rw [List.getElem?_append_right (by omega), htl, Nat.sub_self, List.getElem?_drop, Nat.add_zero, List.getElem?_eq_getElem hk']
      have hnx : (tmsR k0 (L.take k) ++ L.drop k).set k (tms q L[k].length) = tmsR k0 (L.take (k + 1)) ++ L.drop (k + 1) := by
        rw [set_at _ _ _ _ htl hk', List.take_succ_eq_append_getElem hk', tmsR_snoc, hq.out]
      have hto := tot_take L k hk'
      have hle := tot_le L (k + 1)
      have hqs := hq.out
      obtain ⟨xs, hxs⟩ : ∃ xs, xs = L[k] := ⟨_, rfl⟩
      rw [← hxs] at hxk hnx hto
      have Hto := Lib.hid hto; have Hnx := Lib.hid hnx
      have hq1 : 0 < q := by omega
      have hq2 : xs.length + q ≤ 1099511627776 := by omega
      have hown1 := (hrows.2 k u xs hu hxk).1
      clear hqs hxs hto hnx hle htl hkv hk'
      go_wp2_with fail
      (with_reducible refine (markStringS_any u xs q base _ hown1 hq1 hq2).mono ?_); rintro e w1 ⟨rfl, ho1, hg1⟩
      have hr1 := hrows.mark hu hxk hg1 ho1
      have hO1 := hrows.outerKept hown hu hg1
      have hb1 : Below base w w1 := hbw.grown hg1 (by omega) (fun g hg => (World.ownsRow.lt hown1 g hg).1)
      rw [Hnx.out] at hr1
      go_wp2_with fail
      go_roundw
      case rel => exact ⟨k + 1, q + xs.length, by omega, by go_num, by first | rfl | go_num, by rw [Hid, hq.out, Hto.out]; omega, hO1, hr1, hb1⟩
      case measure => simp [intOf]; omega
    · have hkn : k = n := by omega
      subst hkn
      rw [List.take_of_length_le (Nat.le_of_eq Hn.out.symm), List.drop_of_length_le (Nat.le_of_eq Hn.out.symm), List.append_nil] at hrows
      have hqe := hq.out
      rw [List.take_of_length_le (Nat.le_of_eq Hn.out.symm)] at hqe
      have Hqe := Lib.hid hqe; clear hqe
      go_wp2
      go_ret
      exact ⟨by rw [Hqe.out]; rfl, hown, hrows, hbw⟩

set_option maxHeartbeats 800000 in
theorem heldStringSS_any (v : Value) (L : List (List Value)) (k0 : Nat) (w : World) (hrow : RowsV w v (tmsR k0 L)) (h0k : 0 < k0) (hn : tot L + k0 ≤ 1099511627776) (hnl : L.length ≤ 140737488355328) :
    Calls Tryd.prog 16 #[v, .int .i64 k0] w fun e w' => e = .returned (.int .i64 ((k0 + tot L : Nat) : Int)) ∧ Below w.heap.size w w' := by
  obtain ⟨A, c, vs, rfl, hc, hr, hvl, hin⟩ := hrow.open_
  rw [tmsR_length] at hvl ⊢
  obtain ⟨n, hnn⟩ : ∃ n, n = L.length := ⟨_, rfl⟩
  rw [← hnn] at hvl hnl ⊢
  have Hn := Lib.hid hnn; have Hr := Lib.hid hr; have Hvl := Lib.hid hvl; have Hin := Lib.hid hin; clear hr hc hnn hvl hin
  go_enter Tryd.func16, Tryd.ntmps16
  go_wp2
  go_loopw [1, 5] (fun q i wr => ∃ (k q' : Nat), k ≤ n ∧ i = .int .i64 k ∧ q = .int .i64 q' ∧ Hid (q' = k0 + tot (L.take k)) ∧ Below w.heap.size w wr) (fun _ i _ => n - (intOf i).toNat)
  case atStart => exact ⟨0, k0, Nat.zero_le _, rfl, rfl, by show _ = _; simp [tot], Below.refl _ _⟩
  case round =>
    obtain ⟨k, q, hk, rfl, rfl, hq, hbw⟩ := hrel
    have hz := hbw.size
    by_cases hlt : k < n
    · have hk' : k < L.length := by rw [← Hn.out]; exact hlt
      have hkv : k < vs.length := by rw [Hvl.out]; exact hlt
      obtain ⟨b, o, rfl, _, hbl, hcell0⟩ := Hr.out.at_ (i := k) hkv
      have hrv := Hin.out k hkv (by rw [tmsR_length]; exact hk')
      have hg := tmsR_get k0 L k hk'
      rw [List.getElem?_eq_getElem (by rw [tmsR_length]; exact hk')] at hg
      injection hg with hg
      rw [hg, ← hq.out] at hrv
      generalize vs[k] = u at hcell0 hrv
      have hcell := (hbw.cell (p := ⟨b, o + k, none⟩) hbl).trans hcell0
      have hto := tot_take L k hk'
      have hle := tot_le L (k + 1)
      have hqs := hq.out
      obtain ⟨m, hm⟩ : ∃ m, m = L[k].length := ⟨_, rfl⟩
      rw [← hm] at hrv hto
      have Hto := Lib.hid hto
      have hq1 : 0 < q := by omega
      have hq2 : m + q ≤ 1099511627776 := by omega
      have hneg : ¬ ((q + m : Nat) : Int) < 0 := by omega
      clear hcell0 hg hm hto hle hqs hk' hkv
      have hrv' := hrv.below hbw
      go_wp2_with fail
      (with_reducible refine (heldStringS_any u m q _ hrv' hq1 hq2).mono ?_); rintro e w1 ⟨rfl, hb1⟩
      go_wp2_with fail
      go_roundw
      case rel => exact ⟨k + 1, q + m, by omega, by go_num, by first | rfl | go_num, by rw [Hid, hq.out, Hto.out]; omega, hbw.trans (hb1.mono hz)⟩
      case measure => simp [intOf]; omega
    · have hkn : k = n := by omega
      subst hkn
      have hqe := hq.out
      rw [List.take_of_length_le (Nat.le_of_eq Hn.out.symm)] at hqe
      have Hqe := Lib.hid hqe; clear hqe
      go_wp2
      go_ret
      exact ⟨by rw [Hqe.out]; rfl, hbw⟩

set_option maxHeartbeats 800000 in
/-- rows of rows that hold the same: the answer is true -/
theorem eqStringSS_v (v v' : Value) (L : List (List (List UInt8))) (w : World) (hnb : L.length ≤ 140737488355328) (hlb : ∀ l ∈ L, l.length ≤ 140737488355328) (h1 : RowsV w v (L.map texts)) (h2 : RowsV w v' (L.map texts)) :
    Calls Tryd.prog 12 #[v, v'] w fun e w' => e = .returned (.bool true) ∧ ∃ m, w' = w.drewN m := by
  obtain ⟨A, c, vs, rfl, hc, hr, hvl, hin⟩ := h1.open_
  obtain ⟨A', c', vs', rfl, hc', hr', hvl', hin'⟩ := h2.open_
  rw [List.length_map] at hvl hvl' ⊢
  obtain ⟨n, hnn⟩ : ∃ n, n = L.length := ⟨_, rfl⟩
  rw [← hnn] at hvl hvl' hnb ⊢
  have Hn := Lib.hid hnn; have Hr := Lib.hid hr; have Hvl := Lib.hid hvl; have Hin := Lib.hid hin
  have Hr' := Lib.hid hr'; have Hvl' := Lib.hid hvl'; have Hin' := Lib.hid hin'; have Hlb := Lib.hid hlb
  clear hr hc hnn hvl hin hr' hc' hvl' hin' hlb
  go_enter Tryd.func12, Tryd.ntmps12
  go_wp2
  go_loopw [5] (fun i wr => ∃ k m : Nat, k ≤ n ∧ i = .int .i64 k ∧ wr = w.drewN m) (fun i _ => n - (intOf i).toNat)
  case atStart => exact ⟨0, 0, Nat.zero_le _, rfl, rfl⟩
  case round =>
    obtain ⟨k, m, hk, rfl, rfl⟩ := hrel
    by_cases hlt : k < n
    · have hk' : k < L.length := by rw [← Hn.out]; exact hlt
      have hkv : k < vs.length := by rw [Hvl.out]; exact hlt
      have hkv' : k < vs'.length := by rw [Hvl'.out]; exact hlt
      obtain ⟨b, o, rfl, _, _, hc1⟩ := Hr.out.at_ (i := k) hkv
      obtain ⟨b', o', rfl, _, _, hc2⟩ := Hr'.out.at_ (i := k) hkv'
      have hv1 := Hin.out k hkv (by rw [List.length_map]; exact hk')
      have hv2 := Hin'.out k hkv' (by rw [List.length_map]; exact hk')
      rw [List.getElem_map] at hv1 hv2
      have hlk := Hlb.out _ (List.getElem_mem hk')
      generalize L[k] = l at hv1 hv2 hlk
      generalize vs[k] = u at hc1 hv1
      generalize vs'[k] = u' at hc2 hv2
      have hi1 : (0 : Int) ≤ (k : Int) := by omega
      have hi2 : (k : Int) < (n : Int) := by omega
      have HC := Lib.hid (fun j => eqTexts_v u u' l (w.drewN j) hlk (hv1.drewN j) (hv2.drewN j))
      clear hv1 hv2 hk' hkv hkv'
      go_wp2
      go_quiet (first | (go_at_call 13; refine (HC.out _).mono ?_; rintro _ _ ⟨rfl, q, rfl⟩; exact ⟨rfl, _, by rw [World.drewN_drewN, Nat.add_assoc]⟩))
      go_wp2
      go_roundw
      case rel => exact ⟨k + 1, _, by omega, by go_num, by first | rfl | (simp only [World.drewN_drewN]; rfl)⟩
      case measure => simp [intOf]; omega
    · go_wp2
      go_ret
      exact ⟨rfl, m, rfl⟩
end Go.Proofs.YtdlhjnihmkbagaaDoor
