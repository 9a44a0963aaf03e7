/- The walk of the law FnWordsBoth: it returns true; old memory as it was. Conditions: an argument of a bulk of at most 2 to the 20; the tables of the row. -/
import Derived.Test.YtdlhjnihmkbagaaDoorWords
import Derived.Test.YtdlhjnihmkbagaaDoorWordsB
import Derived.Test.YtdlhjnihmkbagaaDoorSameT
import Derived.Test.YtdlhjnihmkbagaaDoorFrameUT
namespace Go.Proofs.YtdlhjnihmkbagaaDoor
open Go.RowKit
set_option linter.unusedVariables false

theorem rows_form {w : World} {v : Value} {L : List (List (List UInt8))} {n : Nat} (h : RowsV w v (L.map texts)) (hn : L.length = n) :
    ∃ A c vs, v = .slice A n c ∧ n ≤ c ∧ Hid (RowAt w 0 w.heap.size A vs) ∧ Hid (vs.length = n) ∧ Hid (∀ (i : Nat) (hi : i < vs.length) (hl : i < L.length), RowV w vs[i] (texts L[i])) := by
  obtain ⟨A, c, vs, rfl, hc, hr, hvl, hin⟩ := h.open_
  have e : (L.map texts).length = n := by rw [List.length_map, hn]
  rw [e] at hc hvl ⊢
  refine ⟨A, c, vs, rfl, hc, hr, hvl, fun i hi hl => ?_⟩
  have := hin i hi (by rw [List.length_map]; exact hl)
  rwa [List.getElem_map] at this

set_option maxRecDepth 100000 in
set_option maxHeartbeats 1600000 in
theorem fnWordsBoth_walk {w : World} (A : Option Addr) (n c : Nat) (L : List (List UInt8)) (hm : TArgU w A n c L) (hT : TabsA w) :
    Calls Tryd.prog 5 #[.slice A n c] w fun e w' => e = .returned (.bool true) ∧ Below w.heap.size w w' := by
  obtain ⟨⟨hn, hnc, hn16, hsz, hat⟩, hbk⟩ := hm
  have Hn := Lib.hid hn
  have hnl : n ≤ 1048576 := by have := bulkT_len L; rw [← hn] at this; omega
  have HLm : Hid (∀ x ∈ L, x.length ≤ 4194304) := Lib.hid (fun x hx => by have := bulkT_mem hx; omega)
  have Hat := Lib.hid hat
  obtain ⟨hTS, hTB⟩ := hT
  have hTT := hTS.t
  obtain ⟨l, hl⟩ : ∃ l, l = L.map wordsOf := ⟨_, rfl⟩
  have hll : l.length = n := by rw [hl, List.length_map, hn]
  have HLl : Hid (∀ y ∈ l, y.length ≤ 140737488355328) := Lib.hid (fun y hy => by
    rw [hl] at hy
    obtain ⟨x, hx, rfl⟩ := List.mem_map.1 hy
    have h1 := HLm.out x hx
    have h2 := wordsOf_len x
    omega)
  have Hl := Lib.hid hl; have Hll := Lib.hid hll
  clear hn hsz hbk hat hl hll
  go_enter Tryd.func5, Tryd.ntmps5
  go_wp2_with fail
  (with_reducible refine (impl_words A n c L _ Hn (by omega) HLm Hat.out hTT).mono ?_); rintro e w1 ⟨v1, vs1, rfl, h1, k1, hb1⟩
  rw [← Hl.out] at k1
  have r1 := k1.rowsV h1
  go_wp2_with fail
  (with_reducible refine (impl_wordsB A n c L _ Hn (by omega) HLm ((Hat.out.below hb1).more (Nat.le_refl _) hb1.size) (hTB.below hb1)).mono ?_); rintro e w2 ⟨v2, vs2, rfl, h2, k2, hb2⟩
  rw [← Hl.out] at k2
  have hB2 := hb1.trans (hb2.mono hb1.size)
  obtain ⟨A1, c1, us1, rfl, hc1, R1, V1, I1⟩ := rows_form (r1.below hb2) Hll.out
  obtain ⟨A2, c2, us2, rfl, hc2, R2, V2, I2⟩ := rows_form (k2.rowsV h2) Hll.out
  clear h1 h2 k1 k2 r1
  go_wp2_with fail
  go_loopw [24] (fun i wr => ∃ k m : Nat, k ≤ n ∧ i = .int .i64 k ∧ wr = w2.drewN m) (fun i _ => n - (intOf i).toNat)
  case atStart => exact ⟨0, 0, Nat.zero_le _, rfl, rfl⟩
  case round =>
    obtain ⟨k, m, hk, rfl, rfl⟩ := hrel
    by_cases hlt : k < n
    · have hk' : k < l.length := by rw [Hll.out]; exact hlt
      have hkv : k < us1.length := by rw [V1.out]; exact hlt
      have hkv' : k < us2.length := by rw [V2.out]; exact hlt
      obtain ⟨b, o, rfl, _, _, hx1⟩ := R1.out.at_ (i := k) hkv
      obtain ⟨b', o', rfl, _, _, hx2⟩ := R2.out.at_ (i := k) hkv'
      have hv1 := I1.out k hkv hk'
      have hv2 := I2.out k hkv' hk'
      have hlk := HLl.out _ (List.getElem_mem hk')
      generalize l[k] = t at hv1 hv2 hlk
      generalize us1[k] = u at hx1 hv1
      generalize us2[k] = u' at hx2 hv2
      have hi1 : (0 : Int) ≤ (k : Int) := by omega
      have hi2 : (k : Int) < (n : Int) := by omega
      have HC := Lib.hid (fun j => sameTexts_t u u' t (w2.drewN j) hlk (hv1.drewN j) (hv2.drewN j))
      clear hv1 hv2 hk' hkv hkv'
      go_wp2
      go_quiet (first | (go_at_call 19; refine (HC.out _).mono ?_; rintro _ _ ⟨rfl, q, rfl⟩; exact ⟨rfl, _, by rw [World.drewN_drewN, Nat.add_assoc]⟩))
      go_wp2
      go_roundw
      case rel => exact ⟨k + 1, _, by omega, by go_num, by first | rfl | (simp only [World.drewN_drewN]; rfl)⟩
      case measure => simp [intOf]; omega
    · go_wp2_with fail
      go_ret
      exact ⟨rfl, below_drewN' hB2 m⟩
end Go.Proofs.YtdlhjnihmkbagaaDoor
