/- Contract of impl.Parts: parts of parts, set by set, in new memory. Conditions: a text of at most 2 to the 42 bytes; the tables of utf8. -/
import Derived.Test.YthgigchablajbaaDoorPartsMem
import Derived.Test.YthgigchablajbaaDoorPartsPlain
namespace Go.Proofs.YthgigchablajbaaDoor
open Go.RowKit Go.Shelf
set_option linter.unusedVariables false
attribute [local go_sem] Oper.semAt_some

set_option maxRecDepth 100000 in
set_option maxHeartbeats 3200000 in
theorem impl_parts (s : ByteArray) (A : Option Addr) (n c : Nat) (L : List (List UInt8)) (w : World) (hn : Hid (n = L.length)) (hnl : n ≤ 4398046511104) (hr : RowAt w 0 w.heap.size A (texts L)) (hs : s.size ≤ 2199023255552) (hT : Tabs w) :
    Calls Tryd.prog 19 #[.string s, .slice A n c] w (TextsPost (partsOf (L.map txt) s.data.toList) w) := by
  have Hr := Lib.hid hr; clear hr
  obtain ⟨n9, h9⟩ : ∃ n9 : Nat, 9 ≤ n9 := ⟨9, Nat.le_refl _⟩
  refine (callsIn_wide (n := n9)).1 ?_
  refine callsIn_of_wp_marks Tryd.func19 rfl trivial ?_ rfl
  simp only [Tryd.ntmps19, List.size_toArray, List.length_cons, List.length_nil, Nat.reduceAdd, Nat.reduceSub, Array.replicate_succ, Array.replicate_zero, List.push_toArray, List.append_toArray, List.nil_append, List.cons_append]
  gi_wp2_with fail
  refine wpIn_loop (fun a wr => ∃ (k : Nat) (v : Value) (Ds : List Nat) (u7 u8 u10 u17 u18 u19 u20 u21 u22 u23 u24 u25 u26 u27 u28 u29 u30 u36 u37 u38 : Value), (k ≤ n ∧ Own wr w.heap.size 9 v (texts (partsOf ((L.take k).map txt) s.data.toList)) ∧ DOk w.heap.size Ds wr ∧ Below w.heap.size w wr) ∧ a = { tmps := #[.string s, .slice A n c, undef, undef, .slice none 0 0, v, undef, u7, u8, undef, u10, undef, .string s, .slice (some ⟨w.heap.size, 0, none⟩) 1 1, .slice A n c, .int .i64 n, .int .i64 (k : Int), u17, u18, u19, u20, u21, u22, u23, u24, u25, u26, u27, u28, u29, u30, undef, undef, undef, undef, undef, u36, u37, u38, undef], defers := Ds.map mkD }) (fun a _ => n - (intOf (a.tmps.getD 16 undef)).toNat) ?_ ?_
  · refine ⟨0, _, [], undef, undef, undef, undef, undef, undef, undef, undef, undef, undef, undef, undef, undef, undef, undef, undef, undef, undef, undef, undef, ⟨Nat.zero_le _, ?_, ⟨List.nodup_nil, fun D hD => by cases hD⟩, (Below.refl _ _).alloc (Nat.le_refl _) _⟩, rfl⟩
    have := World.ownsRow_lit (base := w.heap.size) (e := 9) (size := 1) w #[.string s] 1 (Nat.le_refl _) (by unfold maxLen; omega) (by simp)
    simpa [Own, texts, partsOf, txt, Lib.mk_data] using this
  · rintro a wr ⟨k, v, Ds, u7, u8, u10, u17, u18, u19, u20, u21, u22, u23, u24, u25, u26, u27, u28, u29, u30, u36, u37, u38, ⟨hk, hown, hdo, hbw⟩, rfl⟩
    have hz := hbw.size
    obtain ⟨hpb, hpl⟩ := partsOf_bound ((L.take k).map txt) s.data.toList
    rw [← Lib.size_eq] at hpb hpl
    by_cases hlt : k < n
    · have hk' : k < L.length := by rw [← hn.out]; exact hlt
      obtain ⟨ba, oa, rfl, _, hba, hcell⟩ := Hr.out.at_ (i := k) (by rw [texts_length]; exact hk')
      replace hcell := (hbw.cell (p := ⟨ba, oa + k, none⟩) hba).trans hcell
      have hst : (L.take (k + 1)).map txt = (L.take k).map txt ++ [txt L[k]] := by rw [List.take_succ_eq_append_getElem hk', List.map_append]; rfl
      obtain ⟨S, hS⟩ : ∃ S, S = L[k] := ⟨_, rfl⟩
      rw [show (texts L)[k]'(by rw [texts_length]; exact hk') = .string (txt L[k]) by simp [texts], ← hS] at hcell
      rw [← hS] at hst
      have Hst := Lib.hid hst
      clear hst hS hk'
      obtain ⟨out, hout⟩ : ∃ out, out = partsOf ((L.take k).map txt) s.data.toList := ⟨_, rfl⟩
      rw [← hout] at hown hpb hpl
      have Hout := Lib.hid hout; clear hout
      obtain ⟨m, hm⟩ : ∃ m, m = out.length := ⟨_, rfl⟩
      obtain ⟨Ao, co, rfl, hco, _⟩ := hown.form
      rw [texts_length, ← hm] at hown hco ⊢
      rw [← hm] at hpb
      have Hm := Lib.hid hm; clear hm
      obtain ⟨i0, hi0, hz0, hz1, hz2⟩ := info_parts info_string
      obtain ⟨B, hB⟩ : ∃ B, B = wr.heap.size + 1 := ⟨_, rfl⟩
      have hBw : w.heap.size ≤ B := by omega
      have hP0 : PIs w B (.slice Ao m co) out Ds [] [] ((wr.alloc (.cells #[] 9)).alloc (.cells #[.slice (some ⟨wr.heap.size, 0, none⟩) 0 0] 29)) := by
        have hw0 : Below wr.heap.size wr ((wr.alloc (.cells #[] 9)).alloc (.cells #[.slice (some ⟨wr.heap.size, 0, none⟩) 0 0] 29)) := ((Below.refl _ _).alloc (Nat.le_refl _) _).alloc (by simp) _
        refine ⟨_, by rw [hB]; have := Boxed.new (wr.alloc (.cells #[] 9)) 29 (.slice (some ⟨wr.heap.size, 0, none⟩) 0 0); rwa [World.size_alloc] at this, (Own.empty wr _ _ _ rfl hz).alloc _, hown.below hw0, ?_, hdo.below hw0, hbw.trans (hw0.mono hz)⟩
        intro g hg
        simp only [Value.ownBlock, Option.some.injEq] at hg
        subst hg
        refine ⟨fun e => ?_, by simp⟩
        have := (World.ownsRow.lt hown _ e).2
        omega
      have HB := Lib.hid hB; clear hown hdo
      gi_wp2_with fail
      rw [← HB.out]
      clear hB
      refine wpIn_loop (fun a wx => ∃ (j : Nat) (Ds : List Nat) (u10 u17 u18 u19 u20 u24 u25 u26 u27 u28 u29 u30 u36 u37 u38 : Value), (j ≤ m ∧ PIs w B (.slice Ao m co) out Ds [] (partStep (txt S) (out.take j)) wx) ∧ a = { tmps := #[.string s, .slice (some ⟨ba, oa, none⟩) n c, undef, undef, .slice none 0 0, .slice Ao m co, undef, .string (txt S), .pointer (some ⟨B, 0, none⟩), undef, u10, undef, .string s, .slice (some ⟨w.heap.size, 0, none⟩) 1 1, .slice (some ⟨ba, oa, none⟩) n c, .int .i64 n, .int .i64 (k : Int), u17, u18, u19, u20, .slice Ao m co, .int .i64 m, .int .i64 (j : Int), u24, u25, u26, u27, u28, u29, u30, undef, undef, undef, undef, undef, u36, u37, u38, undef], defers := Ds.map mkD }) (fun a _ => m - (intOf (a.tmps.getD 23 undef)).toNat) ?_ ?_
      · exact ⟨0, Ds, _, _, _, _, _, _, _, _, _, _, _, _, _, _, _, ⟨Nat.zero_le _, hP0⟩, rfl⟩
      · clear hP0
        rintro a wx ⟨j, Ds', u10, u17, u18, u19, u20, u24, u25, u26, u27, u28, u29, u30, u36, u37, u38, ⟨hj, hP⟩, rfl⟩
        by_cases hjm : j < m
        · have hj' : j < out.length := by rw [← Hm.out]; exact hjm
          have hP' := hP
          obtain ⟨v2, q1, q2, q3, q4, q5, q6⟩ := hP'
          obtain ⟨bo, oo, rfl, _, hbo, hpc⟩ := q3.row.at_ (i := j) (by rw [texts_length]; exact hj')
          have hnext := partStep_take (txt S) out j hj'
          obtain ⟨part, hpart⟩ : ∃ part, part = out[j] := ⟨_, rfl⟩
          rw [show (texts out)[j]'(by rw [texts_length]; exact hj') = .string (txt out[j]) by simp [texts], ← hpart] at hpc
          rw [← hpart] at hnext
          have hpartl : part.length ≤ s.size := by
            have := mem_len_sum (l := out) (x := part) (by rw [hpart]; exact List.getElem_mem hj')
            unfold lens at hpl
            omega
          have hTl := (partStep_bound (txt S) (out.take j)).1
          have hTl2 := lens_take out j
          obtain ⟨T, hT0⟩ : ∃ T, T = partStep (txt S) (out.take j) := ⟨_, rfl⟩
          rw [← hT0] at hP hnext hTl
          have Hnext := Lib.hid hnext
          have hcb := cutBy_bound (txt S) part
          clear hnext hpart hT0 q1 q2 q3 q4 hj'
          gi_wp2_with fail
          (with_reducible refine enter_wide (in_here (txt S) _) ?_); rintro e w1 ⟨rfl, hc3, hb1⟩
          gi_wp2_with fail
          (with_reducible refine enter_wide (ffs_made (txt part) wx.heap.size _) ?_); rintro e w2 ⟨rfl, ⟨hc1, hc2⟩, hb2⟩
          have hz1' := hb1.size
          have hb12 := hb1.trans (hb2.mono hz1')
          have hz2' := hb12.size
          have l1 := cell_lt hc1
          have l2 := cell_lt hc2
          have l3 : wx.heap.size < w1.heap.size := cell_lt hc3
          have hP2 : PIs w B (.slice (some ⟨bo, oo, none⟩) m co) out Ds' [w1.heap.size, w1.heap.size + 1, wx.heap.size] T w2 := (hP.avoid (fun b hb => by simp only [List.mem_cons, List.not_mem_nil, or_false] at hb; omega)).below hb12
          have hit : ItCells (txt part) (txt S) w1.heap.size (w1.heap.size + 1) wx.heap.size w2 := ⟨hc1, hc2, (hb2.cell (p := ⟨wx.heap.size, 0, none⟩) l3).trans hc3, hT.below (q6.trans (hb12.mono q6.size))⟩
          have hBx : B < wx.heap.size := by
            obtain ⟨_, q1, _⟩ := hP
            exact q1.lt
          gi_wp2_with fail
          have hDlt : ∀ D ∈ Ds', D < w2.heap.size := fun D hD => by
            have := q5.lt D hD
            omega
          refine wpIn_rangeFunc_ownF (F := Fence.wide) rfl (by omega) (gf := 58) (lb := #[.pointer (some ⟨w1.heap.size, 0, none⟩), .pointer (some ⟨w1.heap.size + 1, 0, none⟩)]) rfl trivial (enters_of Tryd.func58 (by kernel_rfl) rfl)
            (ffs_stops (n9 - 1) w1.heap.size (w1.heap.size + 1) wx.heap.size (txt part) (txt S) (by show part.length ≤ _; omega) w2 hit)
            (fun h k x => k (h x))
            (fun W l o o' hl ho hc hw hi => hi.keep hT (belowK_b (w := w2) (by have := q6.size; omega) W l o o' hl ho hc hw) (fun b hb => World.putObj_heap_other (by simp only [List.mem_cons, List.not_mem_nil, or_false] at hb; omega)))
            (Below.refl _ _) (fun _ => rfl)
            (fun pre W => PIs w B (.slice (some ⟨bo, oo, none⟩) m co) out Ds' [w1.heap.size, w1.heap.size + 1, wx.heap.size] (T ++ pre) W ∧ w2.heap.size ≤ W.heap.size)
            (fun _ _ _ => False)
            (OwnFrom.and (PIs.own (by have := q6.size; omega) hDlt T) (fun s A B row hs hg hr => Nat.le_trans hs hg.size))
            (fun _ _ _ _ _ hs _ _ => hs)
            ⟨by rw [List.append_nil]; exact hP2, Nat.le_refl _⟩
            (fun x => { tmps := #[.string s, .slice (some ⟨ba, oa, none⟩) n c, undef, undef, .slice none 0 0, .slice (some ⟨bo, oo, none⟩) m co, undef, .string (txt S), .pointer (some ⟨B, 0, none⟩), undef, .string (txt part), .string (txt x), .string s, .slice (some ⟨w.heap.size, 0, none⟩) 1 1, .slice (some ⟨ba, oa, none⟩) n c, .int .i64 n, .int .i64 k, u17, u18, u19, u20, .slice (some ⟨bo, oo, none⟩) m co, .int .i64 m, .int .i64 j, .bool true, .pointer (some ⟨bo, oo + j, none⟩), .string (txt part), .string (txt part), .string (txt S), .func (.func 43) #[] #[.pointer (some ⟨wx.heap.size, 0, none⟩)], .func (.func 58) #[] #[.pointer (some ⟨w1.heap.size, 0, none⟩), .pointer (some ⟨w1.heap.size + 1, 0, none⟩)], .string (txt x), undef, undef, undef, undef, u36, u37, u38, undef], defers := [] }) ?assign ?body ?done ?stop
          case assign =>
            intro l x W K hK
            gi_wp2
            exact hK
          case body =>
            rintro l pre x W ⟨⟨v2, hv, h2, h3, h4, h5, h6⟩, hsz⟩ hlen
            have hc := hv.cell
            have hlen2 : pre.length < (cutBy (txt S) part).length := hlen
            have hTp : (T ++ pre).length + 1 ≤ 4398046511104 := by rw [List.length_append]; omega
            have hrow : W.ownsRow w.heap.size 9 1 v2 (T ++ pre).length (texts (T ++ pre)) := by
              have := h2
              unfold Own at this
              rwa [texts_length] at this
            generalize hTT : T ++ pre = T1 at hrow h2 hTp ⊢
            have HTT := Lib.hid hTT
            clear hTT hlen hlen2
            have hcap : ∀ b ∈ [w1.heap.size, w1.heap.size + 1, wx.heap.size], b < W.heap.size := fun b hb => by
              simp only [List.mem_cons, List.not_mem_nil, or_false] at hb; omega
            have Hcap := Lib.hid hcap; have H4 := Lib.hid h4
            clear hcap h4
            gi_wp2_with (gi_at_builtin; refine wpListIn_append_own_at _ rfl _ _ 29 rfl w.heap.size 9 i0 (.string ByteArray.empty) 1 16 Tryd.underlying29 hi0 hz0 hz1 hz2 rfl (by decide) _ _ _ rfl (hrow.alloc _) ⟨W.heap.size, 0, none⟩ 1 1 [.string (txt x)] rfl rfl (cell_one_new _ _ _) (by simp [Value.oneCell']) (by unfold maxLen; omega) (by omega) (by have := h6.size; simp; omega) ?_; intro v' w1' hown' hgrow _ hat; obtain ⟨g', cap', rfl⟩ := ownsRow_succ hown'; obtain ⟨p1, p2, p3, p4, p5⟩ := PIs.push hv h2 h3 H4.out h5 h6 hBw Hcap.out hown' hgrow (by rw [World.size_alloc] at hat; exact hat); have hc1' := p1.cell; have hf1' := p1.frozen)
            refine ⟨p3, fun hi => hi.keep hT p4 (fun b hb => p5 b hb (by simp only [List.mem_cons, List.not_mem_nil, or_false] at hb; omega)), ?_, ?_⟩
            · rw [← List.append_assoc, HTT.out]; exact p2
            · exact Nat.le_trans hsz p3.size
          case done =>
            rintro D ys W hD rfl ⟨hPd, hsz⟩ hK
            have hnd : D ∉ Ds' := fun hm => by
              have := hDlt D hm
              omega
            have hPn := (hPd.mark hK (by have := q6.size; omega) hnd).free
            have e1 : T ++ (segs (inSet (txt S)) (pcsB (txt part))).map flat = partStep (txt S) (out.take (j + 1)) := Hnext.out.symm
            rw [e1] at hPn
            have HPn := Lib.hid hPn
            clear hPn hPd e1 hK
            gi_wp2_with fail
            exact ⟨⟨j + 1, D :: Ds', _, _, _, _, _, _, _, _, _, _, _, _, _, _, _, ⟨by omega, HPn.out⟩, by go_num⟩, by simp [intOf]; omega⟩
          case stop =>
            rintro D c pre W _ _ h _
            exact h.elim
        · have hjm' : j = m := by omega
          rw [hjm', List.take_of_length_le (by rw [← Hm.out]; exact Nat.le_refl _)] at hP
          obtain ⟨v2, q1, q2, q3, q4, q5, q6⟩ := hP
          have hc := q1.cell
          rw [Hout.out, ← partsOf_snoc, ← Hst.out] at q2
          have Q2 := Lib.hid q2
          clear q1 q2 q3 q4 hjm'
          gi_wp2_with fail
          exact ⟨⟨k + 1, v2, Ds', _, _, _, _, _, _, _, _, _, _, _, _, _, _, _, _, _, _, _, _, ⟨by omega, Q2.out, q5, q6⟩, by go_num⟩, by simp [intOf]; omega⟩
    · have hkn : k = n := by omega
      rw [hkn, List.take_of_length_le (by rw [← hn.out]; exact Nat.le_refl _)] at hown
      clear hpb hpl hkn
      gi_wp2_with fail
      refine leaves_marks (base := w.heap.size) (fun W => Own W w.heap.size 9 v (texts (partsOf (L.map txt) s.data.toList)) ∧ Below w.heap.size w W) ?_ ?_ Ds wr hdo ⟨hown, hbw⟩
      · rintro W D ⟨x1, x2⟩ hD hK
        refine ⟨ownsRow_putObj x1 _ hK rfl, x2.trans (belowK_b (w := w) (Nat.le_refl _) W D _ _ hD hK rfl rfl)⟩
      · rintro W ⟨x1, x2⟩
        exact ⟨_, results_tmp rfl _ _ _, v, rfl, x1, x2⟩
end Go.Proofs.YthgigchablajbaaDoor
