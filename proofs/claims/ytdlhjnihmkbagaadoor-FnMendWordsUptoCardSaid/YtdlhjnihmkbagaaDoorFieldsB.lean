/- Contract of bytes.FieldsFunc at the test of a set: slices of the argument's own bytes, the parts between code points of the set. Conditions: a text of at most 2 to the 41 bytes; the tables of utf8. -/
import Derived.Test.YtdlhjnihmkbagaaDoorSpans
import Derived.Test.YtdlhjnihmkbagaaDoorDecB
import Derived.Test.YtdlhjnihmkbagaaDoorSetIn
import Derived.Test.YtdlhjnihmkbagaaDoorTokPlain
import Derived.Test.YtdlhjnihmkbagaaDoorPair
namespace Go.Proofs.YtdlhjnihmkbagaaDoor
open Go.RowKit
set_option linter.unusedVariables false

def spV (p : Nat × Nat) : Value × Value := (.int .i64 (p.1 : Int), .int .i64 (p.2 : Int))
theorem info_span : (Tryd.prog.info? 72).map (fun i => (i.zero, i.size, i.bytes)) = some (some (.agg #[.int .i64 0, .int .i64 0]), 2, 16) := by kernel_rfl
theorem info_bytes : (Tryd.prog.info? 43).map (fun i => (i.zero, i.size, i.bytes)) = some (some (.slice none 0 0), 1, 24) := by kernel_rfl
def FieldsBPost (p : Nat → Bool) (s : ByteArray) (b o : Nat) (w : World) (e : Ending) (w' : World) : Prop :=
  ∃ (v : Value) (sp : List (Nat × Nat)), e = .returned v ∧ Own w' w.heap.size 43 v (sp.map (cutV b o)) ∧ Hid (sp.map (spanOf s) = (segs p (pcsB s)).map flat ∧ ∀ q ∈ sp, q.1 < q.2 ∧ q.2 ≤ s.size) ∧ Below w.heap.size w w'

set_option maxRecDepth 100000 in
set_option maxHeartbeats 1600000 in
theorem fieldsFuncB (s set : ByteArray) (b o c b3 : Nat) (w : World) (hs : s.size ≤ 2199023255552) (hc : s.size ≤ c) (hat : BytesAt s b o w) (hb3 : w.cell? ⟨b3, 0, none⟩ = some (.string set)) (hT : Tabs w) (hbl : b < w.heap.size) :
    Calls Tryd.prog 32 #[.slice (some ⟨b, o, none⟩) s.size c, .func (.func 45) #[] #[.pointer (some ⟨b3, 0, none⟩)]] w (FieldsBPost (inSet set) s b o w) := by
  obtain ⟨i0, hi0, hz0, hz1, hz2⟩ := info_parts info_span
  have h3 := cell_lt hb3
  have Hat := Lib.hid hat; clear hat
  go_enter Tryd.func32, Tryd.ntmps32
  go_wp2_with (at_make; refine wpList_make_own _ rfl _ _ _ rfl w.heap.size 72 i0 _ 2 Tryd.underlying70 hi0 hz0 hz1 .i64 .i64 _ 32 rfl rfl rfl (by rw [hz2]; omega) (by unfold maxLen; omega) (Nat.le_refl _) ?_; intro w1 hown1 hgr1)
  have hb1 : Below w.heap.size w w1 := (Below.refl _ _).grown hgr1 (Nat.le_refl _) (by simp)
  clear hgr1 hi0 hz0 hz1 hz2
  go_loopw [5, 6, 7] (fun v st iv wr => ∃ (sp : List (Nat × Nat)) (a : Int) (i : Nat), st = .int .i64 a ∧ iv = .int .i64 i ∧ Hid (SpIs (inSet set) s sp a i) ∧ OwnP wr w.heap.size 72 v (sp.map spV) ∧ Below w.heap.size w wr) (fun _ _ iv _ => s.size - (intOf iv).toNat)
  case atStart => exact ⟨[], -1, 0, rfl, rfl, SpIs.start _ _, hown1, hb1⟩
  case round =>
    obtain ⟨sp, a, i, rfl, rfl, hF, hown, hbw⟩ := hrel
    obtain ⟨hil, hst⟩ := hF.out.1.le
    have hcnt := hF.out.count
    have hz := hbw.size
    by_cases hlt : i < s.size
    · obtain ⟨q, hd, hru, hq1, hq2, hA, hB, hC, hD⟩ := hF.out.more hlt
      obtain ⟨r, bs⟩ := q
      simp only at hd hru hq1 hq2 hA hB hC hD
      have Hd := Lib.hid hd; have HA := Lib.hid hA; have HB := Lib.hid hB; have HC := Lib.hid hC; have HD := Lib.hid hD
      clear hd hA hB hC hD
      have hat1 : BytesAt s b o wr := fun j hj => (hbw.cell (p := ⟨b, o + j, none⟩) hbl).trans (Hat.out j hj)
      have hc3 := (hbw.cell (p := ⟨b3, 0, none⟩) h3).trans hb3
      have hic : ¬ (i : Int) = (c : Int) := by omega
      have hic2 : ¬ i = c := by omega
      have Hat1 := Lib.hid hat1; clear hat1
      have hdec := decodeB_any (s.extract i s.size) b (o + i) (c - i) wr (hT.below hbw) (Hat1.out.tail _)
      rw [tail_len, Hd.out] at hdec
      have Hdec := Lib.hid hdec; clear hdec
      go_wp2_with fail
      (with_reducible refine Hdec.out.mono ?_); rintro e w2 ⟨rfl, hb2⟩
      have hB2 := hbw.trans (hb2.mono hz)
      have hd3 := (hb2.cell (p := ⟨b3, 0, none⟩) (cell_lt hc3)).trans hc3
      go_wp2_with fail
      (with_reducible refine (in_any set b3 r _ hd3).mono ?_)
      have hz2 := hb2.size
      cases hin : inSet set r with
      | true =>
        rintro e w3 ⟨rfl, hb3'⟩
        have hB3 := hB2.trans (hb3'.mono (by omega))
        have hz3 := hB3.size
        have hown3 := (hown.below hb2).below hb3'
        rcases hst with rfl | ⟨k, rfl, hki⟩
        · have Hn := Lib.hid (HA.out hin rfl)
          go_wp2_with fail
          go_roundw
          case rel => exact ⟨sp, -1, i + bs.length, rfl, by go_num, Hn, hown3, hB3⟩
          case measure => simp [intOf]; omega
        · have Hn := Lib.hid (HB.out hin k rfl)
          go_wp2_with (at_builtin; refine wpList_pushP _ rfl (.tmp 30) (.tmp 34) 70 rfl w.heap.size 72 _ 16 Tryd.underlying70 info_span rfl (by omega) _ (sp.map spV) (.int .i64 (k : Int)) (.int .i64 (i : Int)) rfl rfl _ rfl rfl rfl hown3 (by rw [List.length_map]; omega) (by omega) ?_; intro v4 w4 hown4 hbw4 hgr4 hat4)
          go_roundw
          case rel => exact ⟨sp ++ [(k, i)], -1, i + bs.length, rfl, by go_num, Hn, by rw [List.map_append]; exact hown4, hB3.trans hbw4⟩
          case measure => simp [intOf]; omega
      | false =>
        rintro e w3 ⟨rfl, hb3'⟩
        have hB3 := hB2.trans (hb3'.mono (by omega))
        have hz3 := hB3.size
        have hown3 := (hown.below hb2).below hb3'
        rcases hst with rfl | ⟨k, rfl, hki⟩
        · have Hn := Lib.hid (HC.out hin rfl)
          go_wp2_with fail
          go_roundw
          case rel => exact ⟨sp, i, i + bs.length, rfl, by go_num, Hn, hown3, hB3⟩
          case measure => simp [intOf]; omega
        · have Hn := Lib.hid (HD.out hin k rfl)
          go_wp2_with fail
          go_roundw
          case rel => exact ⟨sp, k, i + bs.length, rfl, by go_num, Hn, hown3, hB3⟩
          case measure => simp [intOf]; omega
    · obtain ⟨hE1, hE2⟩ := hF.out.last hlt
      have hval := hF.out.2
      have HE1 := Lib.hid hE1; have HE2 := Lib.hid hE2; have Hval := Lib.hid hval
      clear hE1 hE2 hval
      obtain ⟨j0, hj0, hy0, hy1, hy2⟩ := info_parts info_bytes
      rcases hst with rfl | ⟨k, rfl, hki⟩
      · have He := Lib.hid (HE1.out rfl)
        have hspl : sp.length ≤ 2199023255552 := by omega
        obtain ⟨n, hn⟩ : ∃ n, n = sp.length := ⟨_, rfl⟩
        obtain ⟨A5, c5, rfl, hc5⟩ := hown.form
        rw [List.length_map, ← hn] at hc5 ⊢
        rw [List.length_map, ← hn] at hown
        have hnl : n ≤ 2199023255552 := by rw [hn]; exact hspl
        have hpat := hown.pat
        have Hn := Lib.hid hn; clear hn hown
        obtain ⟨G, hG⟩ : ∃ G, G = wr.heap.size := ⟨_, rfl⟩
        have hGz : w.heap.size ≤ G := by omega
        go_wp2_with (at_make; refine wpList_make_full _ rfl _ _ _ rfl w.heap.size 43 j0 _ 1 Tryd.underlying49 hj0 hy0 hy1 .i64 .i64 _ _ n rfl rfl rfl rfl (by rw [hy2]; omega) (by unfold maxLen; omega) (by omega) ?_; intro w5 hown5 hgr5)
        have hb5 : Below wr.heap.size wr w5 := (Below.refl _ _).grown hgr5 (Nat.le_refl _) (by simp)
        have hB5 := hbw.trans (hb5.mono (by omega))
        replace hpat := hpat.below hb5
        rw [← hG] at hown5 hpat ⊢
        clear hgr5 hj0 hy0 hy1 hy2 hb5 hG
        go_loopw [56] (fun i wx => ∃ (k : Nat) (ys : List Value), k ≤ n ∧ i = .int .i64 k ∧ wx.ownsRow w.heap.size 43 1 (.slice (some ⟨G, 0, none⟩) n n) n ys ∧ Hid (ys.take k = (sp.map (cutV b o)).take k) ∧ PAt wx w.heap.size G A5 (sp.map spV) ∧ Below w.heap.size w wx) (fun i _ => n - (intOf i).toNat)
        case atStart => exact ⟨0, _, Nat.zero_le _, rfl, hown5, by show _ = _; simp, hpat, hB5⟩
        case round =>
          obtain ⟨j, ys, hj, rfl, hown, htk, hpt, hbx⟩ := hrel
          have hzw := hbx.size
          have hGlt := (World.ownsRow.lt hown G rfl).2
          by_cases hjn : j < n
          · have hj' : j < sp.length := by rw [← Hn.out]; exact hjn
            obtain ⟨bp, op, rfl, _, hbp, hc1, hc2⟩ := hpt.at_ (i := j) (by rw [List.length_map]; exact hj')
            rw [List.getElem_map] at hc1 hc2
            have hv := Hval.out _ (List.getElem_mem hj')
            have hcv : (sp.map (cutV b o)).take (j + 1) = (sp.map (cutV b o)).take j ++ [cutV b o sp[j]] := by
              rw [List.take_succ_eq_append_getElem (by rw [List.length_map]; exact hj'), List.getElem_map]
            obtain ⟨q, hq⟩ : ∃ q, q = sp[j] := ⟨_, rfl⟩
            rw [← hq] at hc1 hc2 hv hcv
            have Hcv := Lib.hid hcv
            clear hq hj' hcv
            obtain ⟨q1, q2⟩ := q
            simp only [spV] at hc1 hc2 hv
            have hyl := hown.1
            have hcell1 := hown.cellAt j (by omega)
            rw [List.getElem?_eq_getElem (by omega)] at hcell1
            generalize ys[j]'(by omega) = old1 at hcell1
            have hfr1 := hown.frozenAt j
            have hv1 := hv.1
            have hv2 := hv.2
            have hcell2 := (World.cell?_alloc_lt wr (.cells #[.int .i64 (q1 : Int), .int .i64 (q2 : Int)] 72) ⟨G, j, none⟩ hGlt).trans hcell1
            have hfr2 := (World.frozen?_alloc_old wr (.cells #[.int .i64 (q1 : Int), .int .i64 (q2 : Int)] 72) ⟨G, j, none⟩ (by show G ≠ _; omega)).trans hfr1
            have hs2 := hown.stored j (cutV b o (q1, q2))
            have hzs := hs2.2.size
            have hpt2 := (hpt.grown hs2.2 (fun g hg => by injection hg with hg; omega) (by omega)).below ((Below.refl _ _).alloc (by omega) (.cells #[.int .i64 (q1 : Int), .int .i64 (q2 : Int)] 72))
            have hbx2 := (hbx.setCell (p := ⟨G, j, none⟩) hGz (cutV b o (q1, q2))).alloc (by omega) (.cells #[.int .i64 (q1 : Int), .int .i64 (q2 : Int)] 72)
            have own2 := hs2.1.alloc (.cells #[.int .i64 (q1 : Int), .int .i64 (q2 : Int)] 72)
            have HO := Lib.hid own2; have Hpt2 := Lib.hid hpt2; have Hbx2 := Lib.hid hbx2
            have Hyl := Lib.hid hyl; clear hyl
            clear hv hown own2 hs2 hcell1 hfr1 hpt2 hbx2 hzs
            unfold cutV at HO Hpt2 Hbx2
            simp only at HO Hpt2 Hbx2
            go_wp2
            go_roundw
            case rel => exact ⟨j + 1, _, by omega, by go_num, HO.out, by
              show _ = _
              have hy := Hyl.out
              rw [List.take_succ_eq_append_getElem (by simp; omega), Hcv.out, List.getElem_set_self, List.take_set_of_le (Nat.le_refl _), htk.out]
              rfl, Hpt2.out, Hbx2.out⟩
            case measure => simp [intOf]; omega
          · have hkn : j = n := by omega
            subst hkn
            go_wp2
            go_ret
            have h := htk.out
            have hl := hown.1
            rw [List.take_of_length_le (by omega), List.take_of_length_le (by rw [List.length_map, ← Hn.out]; exact Nat.le_refl _)] at h
            subst h
            refine ⟨_, sp, rfl, ?_, ⟨He.out, Hval.out⟩, hbx⟩
            unfold Own
            rw [List.length_map, ← Hn.out]
            exact hown
      · obtain ⟨he, hks⟩ := HE2.out k rfl
        have hval2 : ∀ q ∈ sp ++ [(k, s.size)], q.1 < q.2 ∧ q.2 ≤ s.size := fun q hq => by
          rcases List.mem_append.1 hq with h | h
          · exact Hval.out q h
          · rw [List.mem_singleton] at h; subst h; exact ⟨hks, Nat.le_refl _⟩
        have hcnt2 : (sp ++ [(k, s.size)]).length ≤ 2199023255552 := by
          have h1 := congrArg List.length he
          rw [List.length_map, List.length_map] at h1
          have h2 := segs_size (inSet set) s
          omega
        have He := Lib.hid he; have HVal2 := Lib.hid hval2; have Hcnt2 := Lib.hid hcnt2
        clear he hval2 hcnt2 HE1 HE2 Hval
        go_wp2_with (first
          | (at_builtin
             refine wpList_pushP _ rfl (.tmp 44) (.tmp 49) 70 rfl w.heap.size 72 _ 16 Tryd.underlying70 info_span rfl (by omega) _ (sp.map spV) (.int .i64 (k : Int)) (.int .i64 (s.size : Int)) rfl rfl _ rfl rfl rfl hown (by rw [List.length_map]; omega) (by omega) ?_
             intro v4 w4 hown4 hbw4 hgr4 hat4
             rw [show sp.map spV ++ [(.int .i64 (k : Int), .int .i64 (s.size : Int))] = (sp ++ [(k, s.size)]).map spV by rw [List.map_append]; rfl] at hown4
             have hB4 := hbw.trans hbw4
             have hz4 := hB4.size
             have hspl0 := Hcnt2.out
             clear hgr4 hat4 hown hbw4
             have hown := hown4
             generalize sp ++ [(k, s.size)] = sp at hown He HVal2 hspl0
             have Hval := HVal2
             have hspl : sp.length ≤ 2199023255552 := hspl0
             clear hspl0 HVal2 hown4 Hcnt2
             obtain ⟨n, hn⟩ : ∃ n, n = sp.length := ⟨_, rfl⟩
             obtain ⟨A5, c5, rfl, hc5⟩ := hown.form
             rw [List.length_map, ← hn] at hc5 ⊢
             rw [List.length_map, ← hn] at hown
             have hnl : n ≤ 2199023255552 := by rw [hn]; exact hspl
             have hpat := hown.pat
             have Hn := Lib.hid hn; clear hn hown
             obtain ⟨G, hG⟩ : ∃ G, G = w4.heap.size := ⟨_, rfl⟩
             have hGz : w.heap.size ≤ G := by omega)
          | (at_make; refine wpList_make_full _ rfl _ _ _ rfl w.heap.size 43 j0 _ 1 Tryd.underlying49 hj0 hy0 hy1 .i64 .i64 _ _ n rfl rfl rfl rfl (by rw [hy2]; omega) (by unfold maxLen; omega) (by omega) ?_; intro w5 hown5 hgr5))
        have hb5 : Below w4.heap.size w4 w5 := (Below.refl _ _).grown hgr5 (Nat.le_refl _) (by simp)
        have hB5 := hB4.trans (hb5.mono (by omega))
        replace hpat := hpat.below hb5
        rw [← hG] at hown5 hpat ⊢
        clear hgr5 hj0 hy0 hy1 hy2 hb5 hG
        go_loopw [56] (fun i wx => ∃ (k : Nat) (ys : List Value), k ≤ n ∧ i = .int .i64 k ∧ wx.ownsRow w.heap.size 43 1 (.slice (some ⟨G, 0, none⟩) n n) n ys ∧ Hid (ys.take k = (sp.map (cutV b o)).take k) ∧ PAt wx w.heap.size G A5 (sp.map spV) ∧ Below w.heap.size w wx) (fun i _ => n - (intOf i).toNat)
        case atStart => exact ⟨0, _, Nat.zero_le _, rfl, hown5, by show _ = _; simp, hpat, hB5⟩
        case round =>
          obtain ⟨j, ys, hj, rfl, hown, htk, hpt, hbx⟩ := hrel
          have hzw := hbx.size
          have hGlt := (World.ownsRow.lt hown G rfl).2
          by_cases hjn : j < n
          · have hj' : j < sp.length := by rw [← Hn.out]; exact hjn
            obtain ⟨bp, op, rfl, _, hbp, hc1, hc2⟩ := hpt.at_ (i := j) (by rw [List.length_map]; exact hj')
            rw [List.getElem_map] at hc1 hc2
            have hv := Hval.out _ (List.getElem_mem hj')
            have hcv : (sp.map (cutV b o)).take (j + 1) = (sp.map (cutV b o)).take j ++ [cutV b o sp[j]] := by
              rw [List.take_succ_eq_append_getElem (by rw [List.length_map]; exact hj'), List.getElem_map]
            obtain ⟨q, hq⟩ : ∃ q, q = sp[j] := ⟨_, rfl⟩
            rw [← hq] at hc1 hc2 hv hcv
            have Hcv := Lib.hid hcv
            clear hq hj' hcv
            obtain ⟨q1, q2⟩ := q
            simp only [spV] at hc1 hc2 hv
            have hyl := hown.1
            have hcell1 := hown.cellAt j (by omega)
            rw [List.getElem?_eq_getElem (by omega)] at hcell1
            generalize ys[j]'(by omega) = old1 at hcell1
            have hfr1 := hown.frozenAt j
            have hv1 := hv.1
            have hv2 := hv.2
            have hcell2 := (World.cell?_alloc_lt wr (.cells #[.int .i64 (q1 : Int), .int .i64 (q2 : Int)] 72) ⟨G, j, none⟩ hGlt).trans hcell1
            have hfr2 := (World.frozen?_alloc_old wr (.cells #[.int .i64 (q1 : Int), .int .i64 (q2 : Int)] 72) ⟨G, j, none⟩ (by show G ≠ _; omega)).trans hfr1
            have hs2 := hown.stored j (cutV b o (q1, q2))
            have hzs := hs2.2.size
            have hpt2 := (hpt.grown hs2.2 (fun g hg => by injection hg with hg; omega) (by omega)).below ((Below.refl _ _).alloc (by omega) (.cells #[.int .i64 (q1 : Int), .int .i64 (q2 : Int)] 72))
            have hbx2 := (hbx.setCell (p := ⟨G, j, none⟩) hGz (cutV b o (q1, q2))).alloc (by omega) (.cells #[.int .i64 (q1 : Int), .int .i64 (q2 : Int)] 72)
            have own2 := hs2.1.alloc (.cells #[.int .i64 (q1 : Int), .int .i64 (q2 : Int)] 72)
            have HO := Lib.hid own2; have Hpt2 := Lib.hid hpt2; have Hbx2 := Lib.hid hbx2
            have Hyl := Lib.hid hyl; clear hyl
            clear hv hown own2 hs2 hcell1 hfr1 hpt2 hbx2 hzs
            unfold cutV at HO Hpt2 Hbx2
            simp only at HO Hpt2 Hbx2
            go_wp2
            go_roundw
            case rel => exact ⟨j + 1, _, by omega, by go_num, HO.out, by
              show _ = _
              have hy := Hyl.out
              rw [List.take_succ_eq_append_getElem (by simp; omega), Hcv.out, List.getElem_set_self, List.take_set_of_le (Nat.le_refl _), htk.out]
              rfl, Hpt2.out, Hbx2.out⟩
            case measure => simp [intOf]; omega
          · have hkn : j = n := by omega
            subst hkn
            go_wp2
            go_ret
            have h := htk.out
            have hl := hown.1
            rw [List.take_of_length_le (by omega), List.take_of_length_le (by rw [List.length_map, ← Hn.out]; exact Nat.le_refl _)] at h
            subst h
            refine ⟨_, sp, rfl, ?_, ⟨He.out, Hval.out⟩, hbx⟩
            unfold Own
            rw [List.length_map, ← Hn.out]
            exact hown
end Go.Proofs.YtdlhjnihmkbagaaDoor
