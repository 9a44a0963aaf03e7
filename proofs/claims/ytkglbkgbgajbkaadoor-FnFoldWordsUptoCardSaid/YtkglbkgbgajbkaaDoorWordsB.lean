/- Contract of impl.WordsBytes: the words of each text of a list, in new memory. Conditions: texts of at most 2 to the 22 bytes; the tables of utf8 and of white space. -/
import Derived.Test.YtkglbkgbgajbkaaDoorWordsMem
import Derived.Test.YtkglbkgbgajbkaaDoorSeqB
import Derived.Test.YtkglbkgbgajbkaaDoorConvIn
namespace Go.Proofs.YtkglbkgbgajbkaaDoor
open Go.RowKit Go.Shelf
set_option linter.unusedVariables false
attribute [local go_sem] Oper.semAt_some

theorem Rows.putObj {W : World} {base : Nat} {ob : Option Nat} {vs : List Value} {L : List (List Value)} (h : Rows W base ob vs L) {D : Nat} {o : Obj} (hD : W.heap[D]? = some o) (ho : o.isCells = false) (o' : Obj) : Rows (W.putObj D o') base ob vs L :=
  h.block fun i u g hu hg => by
    have hi : i < L.length := by rw [← h.1]; exact (List.getElem?_eq_some_iff.1 hu).1
    have hne : g ≠ D := fun e => by
      subst e
      rcases not_own (h.2 i u _ hu (List.getElem?_eq_getElem hi)).1 hD ho with h' | h'
      · rw [h'] at hg; cases hg
      · exact h' hg
    exact World.putObj_heap_other (by omega)
/-- the words that have come, in their box; the bytes are as they were -/
def SeqJ (wr w2 : World) (B b1 bb : Nat) (s : ByteArray) (pre : List {q : Nat × Nat // q.1 < q.2 ∧ q.2 ≤ s.size}) (W : World) : Prop :=
  PIs wr B (.slice none 0 0) [] [] [b1, bb] (pre.map fun q => spanOf s q.1) W ∧ w2.heap.size ≤ W.heap.size ∧ W.heap[bb]? = w2.heap[bb]?
theorem SeqJ.own {wr w2 : World} {B b1 bb : Nat} {s : ByteArray} (hw : wr.heap.size ≤ w2.heap.size) (hb : bb < w2.heap.size) : OwnFrom w2.heap.size (SeqJ wr w2 B b1 bb s) := by
  rintro pre W W' row ⟨h1, h2, h3⟩ hg hr
  have h0 : PIs wr B (.slice none 0 0) [] [] [b1, bb] ([] ++ pre.map fun q => spanOf s q.1) W := by rw [List.nil_append]; exact h1
  have ho := PIs.own (w := wr) (B := B) (vo := .slice none 0 0) (out := []) (Ds := []) (av := [b1, bb]) (B0 := w2.heap.size) hw (fun D hD => by cases hD) []
  have h : PIs wr B (.slice none 0 0) [] [] [b1, bb] ([] ++ pre.map fun q => spanOf s q.1) W' := ho _ W W' row h0 hg hr
  rw [List.nil_append] at h
  exact ⟨h, Nat.le_trans h2 hg.size, (hg.block bb (by omega) (fun e => by have := (hr bb e.symm).1; omega)).trans h3⟩
theorem span_bat' {s : ByteArray} {b : Nat} {W : World} (h : BytesAt s b 0 W) (hb : b < W.heap.size) (q : {q : Nat × Nat // q.1 < q.2 ∧ q.2 ≤ s.size}) : BAt W W.heap.size (some ⟨b, q.1.1, none⟩) (spanOf s q.1) ∧ (spanOf s q.1).length = q.1.2 - q.1.1 := by
  have := span_bat h hb q.2
  rwa [Nat.zero_add] at this

set_option maxRecDepth 100000 in
set_option maxHeartbeats 1600000 in
theorem impl_wordsB (A : Option Addr) (n c : Nat) (L : List (List UInt8)) (w : World) (hn : Hid (n = L.length)) (hnl : n ≤ 4398046511104) (hf : Hid (∀ x ∈ L, x.length ≤ 4194304)) (hr : RowAt w 0 w.heap.size A (texts L)) (hT : TabsB w) :
    Calls Tryd.prog 15 #[.slice A n c] w (RowsPost (L.map wordsOf) w) := by
  have Hr := Lib.hid hr; clear hr
  obtain ⟨n9, h9⟩ : ∃ n9 : Nat, 9 ≤ n9 := ⟨9, Nat.le_refl _⟩
  refine (callsIn_wide (n := n9)).1 ?_
  refine callsIn_of_wp_marks Tryd.func15 rfl trivial ?_ rfl
  simp only [Tryd.ntmps15, List.size_toArray, List.length_cons, List.length_nil, Nat.reduceAdd, Nat.reduceSub, Array.replicate_succ, Array.replicate_zero, List.push_toArray, List.append_toArray, List.nil_append, List.cons_append]
  gi_wp2_with fail
  refine wpIn_loop (fun a wr => ∃ (k : Nat) (v : Value) (Ds : List Nat) (u5 u6 u12 u13 u14 u15 u16 u17 u18 u25 u26 u27 u28 u29 : Value), (k ≤ n ∧ WIs w v ((L.take k).map wordsOf) wr ∧ DOk w.heap.size Ds wr) ∧ a = { tmps := #[.slice A n c, undef, .slice none 0 0, v, undef, u5, u6, undef, .slice (some ⟨w.heap.size, 0, none⟩) 0 0, .slice A n c, .int .i64 n, .int .i64 (k : Int), u12, u13, u14, u15, u16, u17, u18, undef, undef, undef, undef, undef, undef, u25, u26, u27, u28, u29, undef], defers := Ds.map mkD }) (fun a _ => n - (intOf (a.tmps.getD 11 undef)).toNat) ?_ ?_
  · exact ⟨0, _, [], undef, undef, undef, undef, undef, undef, undef, undef, undef, undef, undef, undef, undef, undef, ⟨Nat.zero_le _, ⟨[], Own.empty w _ _ _ rfl (Nat.le_refl _), Rows.nil _ _ _, (Below.refl _ _).alloc (Nat.le_refl _) _⟩, ⟨List.nodup_nil, fun D hD => by cases hD⟩⟩, rfl⟩
  · rintro a wr ⟨k, v, Ds, u5, u6, u12, u13, u14, u15, u16, u17, u18, u25, u26, u27, u28, u29, ⟨hk, ⟨vs, hown, hrows, hbw⟩, hdo⟩, rfl⟩
    have hz := hbw.size
    by_cases hlt : k < n
    · have hk' : k < L.length := by rw [← hn.out]; exact hlt
      obtain ⟨ba, oa, rfl, _, hba, hcell⟩ := Hr.out.at_ (i := k) (by rw [texts_length]; exact hk')
      replace hcell := (hbw.cell (p := ⟨ba, oa + k, none⟩) hba).trans hcell
      have hst := wordsAll_take L k hk'
      have hxl := hf.out _ (List.getElem_mem hk')
      have hvl : vs.length ≤ n := by rw [hrows.1, List.length_map, List.length_map, List.length_take]; omega
      obtain ⟨x, hx⟩ : ∃ x, x = L[k] := ⟨_, rfl⟩
      rw [show (texts L)[k]'(by rw [texts_length]; exact hk') = .string (txt L[k]) by simp [texts], ← hx] at hcell
      rw [← hx] at hst hxl
      have Hst := Lib.hid hst
      clear hst hx hk'
      have hml := wordsOf_len x
      obtain ⟨i0, hi0, hz0, hz1, hz2⟩ := info_parts info_string
      obtain ⟨j0, hj0, hy0, hy1, hy2⟩ := info_parts info_strings
      obtain ⟨B, hB⟩ : ∃ B, B = wr.heap.size + 1 := ⟨_, rfl⟩
      have hP0 : PIs wr B (.slice none 0 0) [] [] [] [] ((wr.alloc (.cells #[] 9)).alloc (.cells #[.slice (some ⟨wr.heap.size, 0, none⟩) 0 0] 22)) := by
        refine ⟨_, by rw [hB]; have := Boxed.new (wr.alloc (.cells #[] 9)) 22 (.slice (some ⟨wr.heap.size, 0, none⟩) 0 0); rwa [World.size_alloc] at this, (Own.empty wr _ _ _ rfl (Nat.le_refl _)).alloc _, Own.none _ _ _, fun g hg => ⟨by simp [Value.ownBlock], by simp⟩, ⟨List.nodup_nil, fun D hD => by cases hD⟩, ((Below.refl _ _).alloc (Nat.le_refl _) _).alloc (by simp) _⟩
      have HB := Lib.hid hB
      have Hown := Lib.hid hown; have Hrows := Lib.hid hrows; have Hdo := Lib.hid hdo; have HP0 := Lib.hid hP0
      clear hown hrows hdo hP0
      gi_wp2_with ((with_reducible refine wpListIn_toBL _ (o := ⟨some 17, _, _, _, _, _⟩) rfl _ _ _ 5 rfl Tryd.underlying9 Tryd.underlying38 Tryd.underlying5 (txt x) rfl ?_); intro cb wb hcb hbat hbb hzb)
      (with_reducible refine enter_wide (seqB_made (txt x) _ cb _) ?_); rintro e w2 ⟨rfl, hc1, hb2⟩
      simp only [World.size_alloc] at hbat hzb
      obtain ⟨W0, hW0⟩ : ∃ W0, W0 = (wr.alloc (.cells #[] 9)).alloc (.cells #[.slice (some ⟨wr.heap.size, 0, none⟩) 0 0] 22) := ⟨_, rfl⟩
      have hW0s : W0.heap.size = wr.heap.size + 1 + 1 := by rw [hW0]; simp
      rw [← hW0] at hbb
      have hP0 := HP0.out
      rw [← hW0] at hP0
      obtain ⟨bb, hbe⟩ : ∃ bb, bb = wr.heap.size + 1 + 1 := ⟨_, rfl⟩
      obtain ⟨b1, hb1e⟩ : ∃ b1, b1 = wb.heap.size := ⟨_, rfl⟩
      rw [← hbe] at hbat hc1 hzb ⊢
      rw [← hb1e] at hc1 hzb ⊢
      have hzw2 := hb2.size
      have hb02 : Below W0.heap.size W0 w2 := hbb.trans (hb2.mono hbb.size)
      have hbbb : bb < w2.heap.size := by omega
      have hb1l : b1 < w2.heap.size := cell_lt hc1
      have hBlt : B < bb := by have := HB.out; omega
      have hP2 : PIs wr B (.slice none 0 0) [] [] [b1, bb] [] w2 := (hP0.avoid (fun b hb => by simp only [List.mem_cons, List.not_mem_nil, or_false] at hb; omega)).below hb02
      have hat2 : BytesAt (txt x) bb 0 w2 := fun i hi => (hb2.cell (p := ⟨bb, 0 + i, none⟩) (by show bb < _; omega)).trans (hbat i hi)
      have hw2 : Below w.heap.size w w2 := by
        obtain ⟨_, _, _, _, _, _, h6⟩ := hP2
        exact hbw.trans (h6.mono hz)
      have hit : ItB w (txt x) b1 bb cb w2 := ⟨hc1, hat2, hbbb, hw2⟩
      have hxs : (txt x).size ≤ 4398046511104 := by rw [txt_len]; omega
      have hwz2 := hw2.size
      have hwr2 : wr.heap.size ≤ w2.heap.size := by omega
      have Hat2 := Lib.hid hat2
      have Hbe := Lib.hid hbe; have Hb1e := Lib.hid hb1e
      clear hP0 HP0 hW0 hbat hbb hc1 hat2 hbe hb1e hW0s
      gi_wp2_with fail
      rw [← HB.out]
      clear hB
      refine wpIn_rangeFunc_ownF (F := Fence.wide) rfl (by omega) (gf := 22) (lb := #[.pointer (some ⟨b1, 0, none⟩)]) rfl trivial (enters_of Tryd.func22 (by kernel_rfl) rfl)
        (seqB_stops w hT (n9 - 1) b1 bb cb (txt x) hxs hcb w2 hit)
        (fun h k x => k (h x))
        (fun W l o o' hl ho hc hw hi => hi.keep (belowK_b (w := w2) hwz2 W l o o' hl ho hc hw) (fun b hb => World.putObj_heap_other (by simp only [List.mem_cons, List.not_mem_nil, or_false] at hb; omega)))
        (Below.refl _ _) (fun _ => rfl)
        (SeqJ wr w2 B b1 bb (txt x))
        (fun _ _ _ => False)
        (SeqJ.own hwr2 hbbb)
        (fun _ _ _ _ _ hs _ _ => hs)
        ⟨hP2, Nat.le_refl _, rfl⟩
        (fun q => { tmps := #[.slice (some ⟨ba, oa, none⟩) n c, undef, .slice none 0 0, v, undef, .string (txt x), .pointer (some ⟨B, 0, none⟩), .slice (some ⟨bb, q.1.1, none⟩) (q.1.2 - q.1.1) (q.1.2 - q.1.1), .slice (some ⟨w.heap.size, 0, none⟩) 0 0, .slice (some ⟨ba, oa, none⟩) n c, .int .i64 n, .int .i64 (k : Int), .bool true, .pointer (some ⟨ba, oa + k, none⟩), .string (txt x), .slice (some ⟨wr.heap.size, 0, none⟩) 0 0, .string (txt x), .slice (some ⟨bb, 0, none⟩) (txt x).size cb, .func (.func 22) #[] #[.pointer (some ⟨b1, 0, none⟩)], .slice (some ⟨bb, q.1.1, none⟩) (q.1.2 - q.1.1) (q.1.2 - q.1.1), undef, undef, undef, undef, undef, u25, u26, u27, u28, u29, undef], defers := [] }) ?assign ?body ?done ?stop
      case assign =>
        intro l q W K hK
        simp only [cutV, Nat.zero_add]
        gi_wp2
        exact hK
      case body =>
        rintro l pre q W ⟨⟨v2, hv, h2, h3, h4, h5, h6⟩, hsz, hblk⟩ hlen
        have hc := hv.cell
        have hlenx : pre.length < x.length := hlen
        have hTp : (pre.map fun q => spanOf (txt x) q.1).length + 1 ≤ 4194305 := by rw [List.length_map]; omega
        have hatW : BytesAt (txt x) bb 0 W := fun i hi => (World.cell?_of_block hblk).trans (Hat2.out i hi)
        obtain ⟨hbt, hbl⟩ := span_bat' hatW (by omega) q
        have hnext : ((pre ++ [q]).map fun q => spanOf (txt x) q.1) = (pre.map fun q => spanOf (txt x) q.1) ++ [spanOf (txt x) q.1] := by rw [List.map_append]; rfl
        have Hnext := Lib.hid hnext
        clear hnext
        obtain ⟨y, hy⟩ : ∃ y, y = spanOf (txt x) q.1 := ⟨_, rfl⟩
        rw [← hy] at hbt hbl Hnext
        generalize (pre.map fun q => spanOf (txt x) q.1) = T1 at h2 hTp Hnext
        have hrow : W.ownsRow wr.heap.size 9 1 v2 T1.length (texts T1) := by
          have := h2
          unfold Own at this
          rwa [texts_length] at this
        have hcap : ∀ b ∈ [b1, bb], b < W.heap.size := fun b hb => by
          simp only [List.mem_cons, List.not_mem_nil, or_false] at hb; omega
        have Hcap := Lib.hid hcap; have H4 := Lib.hid h4; have Hbl := Lib.hid hbl.symm
        have hBw : wr.heap.size ≤ B := by have := HB.out; omega
        have h6s := h6.size
        clear hcap h4 hy hlen hlenx hatW hbl
        gi_wp2_with (first
          | ((with_reducible refine wpListIn_toString _ (o := ⟨some 22, _, _, _, _, _⟩) rfl _ _ _ 5 rfl Tryd.underlying38 Tryd.underlying5 Tryd.underlying9 _ (q.1.2 - q.1.1) (q.1.2 - q.1.1) _ y rfl Hbl.out hbt ?_); intro z hzz; obtain rfl : z = txt y := by rw [← Lib.mk_data z, hzz.out]; rfl)
          | (gi_at_builtin; refine wpListIn_append_own_at _ rfl _ _ 22 rfl wr.heap.size 9 i0 (.string ByteArray.empty) 1 16 Tryd.underlying22 hi0 hz0 hz1 hz2 rfl (by decide) _ _ _ rfl (hrow.alloc _) ⟨W.heap.size, 0, none⟩ 1 1 [.string (txt y)] rfl rfl (cell_one_new _ _ _) (by simp [Value.oneCell']) (by unfold maxLen; omega) (by omega) (by simp; omega) ?_; intro v' w1' hown' hgrow _ hat; obtain ⟨g', cap', rfl⟩ := ownsRow_succ hown'; obtain ⟨p1, p2, p3, p4, p5⟩ := PIs.push hv h2 h3 H4.out h5 h6 hBw Hcap.out hown' hgrow (by rw [World.size_alloc] at hat; exact hat); have hc1' := p1.cell; have hf1' := p1.frozen))
        refine ⟨p3, fun hi => hi.keep (p4.mono hz) (fun b hb => p5 b hb (by simp only [List.mem_cons, List.not_mem_nil, or_false] at hb; omega)), ⟨?_, ?_, ?_⟩⟩
        · rw [Hnext.out]; exact p2
        · exact Nat.le_trans hsz p3.size
        · exact (p5 bb (by simp) (by omega)).trans hblk
      case done =>
        rintro D ys W hD hS ⟨hPd, hsz, _⟩ hK
        obtain ⟨v2, hv, h2, _, _, _, h6⟩ := hPd
        have hF : (ys.map fun q => spanOf (txt x) q.1) = wordsOf x := hS
        rw [hF] at h2
        have hc := hv.cell
        obtain ⟨A5, c5, rfl, hc5, _⟩ := h2.form
        generalize (texts (wordsOf x)).length = m at hc hv h2
        have hDs : ∀ D' ∈ Ds, D' < wr.heap.size := fun D' hD' => Hdo.out.lt D' hD'
        have hdW : DOk w.heap.size (D :: Ds) W := (Hdo.out.below h6).cons hK (by omega) (fun hm => by have := hDs D hm; omega)
        have hO := Hown.out.below h6
        have hne := not_own_deferred hO hdW
        have hrowv : W.ownsRow w.heap.size 22 1 v vs.length vs := hO
        have h6s := h6.size
        have HdW := Lib.hid hdW; have Hne := Lib.hid hne; have HhO := Lib.hid hO
        clear hv hS hF hK hDs hdW hne hO
        gi_wp2_with (gi_at_builtin; refine wpListIn_append_own_at _ rfl _ _ 34 rfl w.heap.size 22 j0 (.slice none 0 0) 1 24 Tryd.underlying34 hj0 hy0 hy1 hy2 rfl (by decide) _ _ _ rfl (hrowv.alloc _) ⟨W.heap.size, 0, none⟩ 1 1 [.slice A5 m c5] rfl rfl (cell_one_new _ _ _) (by simp [Value.oneCell']) (by unfold maxLen; omega) (by omega) (by simp; omega) ?_; intro v' w1' hown' hgrow _ hat)
        have hgr : W.grownBy w1' v.ownBlock := (World.grownBy_alloc W _ _).trans hgrow
        have hrn := Hrows.out.push Hown.out h6 h2 hz hgr (by rcases hat with e | e; exact .inl e; exact .inr ⟨_, e, by simp⟩)
        have hbn : Below w.heap.size w w1' := (hbw.trans (h6.mono hz)).grown hgr (by omega) (fun g hg => (World.ownsRow.lt Hown.out g hg).1)
        have hdn : DOk w.heap.size (D :: Ds) w1' := HdW.out.grown hgr Hne.out
        have hon : Own w1' w.heap.size 22 v' (vs ++ [.slice A5 m c5]) := by unfold Own; rw [List.length_append]; exact hown'
        have Hrn := Lib.hid hrn; have Hon := Lib.hid hon; have Hdn := Lib.hid hdn
        clear hrn hon hdn hown' hat hgrow hgr
        gi_wp2_with fail
        exact ⟨⟨k + 1, v', D :: Ds, _, _, _, _, _, _, _, _, _, _, _, _, _, _, ⟨by omega, ⟨_, Hon.out, by rw [Hst.out, List.map_append]; exact Hrn.out, hbn⟩, Hdn.out⟩, by go_num⟩, by simp [intOf]; omega⟩
      case stop =>
        rintro D c pre W _ _ h _
        exact h.elim
    · have hkn : k = n := by omega
      rw [hkn, List.take_of_length_le (by rw [← hn.out]; exact Nat.le_refl _)] at hrows
      clear hkn
      gi_wp2_with fail
      refine leaves_marks (base := w.heap.size) (fun W => Own W w.heap.size 22 v vs ∧ Rows W w.heap.size v.ownBlock vs ((L.map wordsOf).map texts) ∧ Below w.heap.size w W) ?_ ?_ Ds wr hdo ⟨hown, hrows, hbw⟩
      · rintro W D ⟨x1, x2, x3⟩ hD hK
        exact ⟨ownsRow_putObj x1 _ hK rfl, x2.putObj hK rfl _, x3.trans (belowK_b (w := w) (Nat.le_refl _) W D _ _ hD hK rfl rfl)⟩
      · rintro W ⟨x1, x2, x3⟩
        exact ⟨_, results_tmp rfl _ _ _, v, vs, rfl, x1, x2, x3⟩
end Go.Proofs.YtkglbkgbgajbkaaDoor
