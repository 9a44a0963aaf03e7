/- Contract of impl.PartsBytes: parts of parts, set by set, in new memory. Conditions: a text of at most 2 to the 41 bytes; the tables of utf8. -/
import Derived.Test.YtdlhjnihmkbagaaDoorFieldsB
import Derived.Test.YtdlhjnihmkbagaaDoorInHere
import Derived.Test.YtdlhjnihmkbagaaDoorTexts
import Derived.Test.YtdlhjnihmkbagaaDoorMarked
import Derived.Test.YtdlhjnihmkbagaaDoorPartsPlain
namespace Go.Proofs.YtdlhjnihmkbagaaDoor
open Go.RowKit
set_option linter.unusedVariables false

/-- the middle loop's word: the row v2 grows, the row vo lies apart -/
def PBIs (w : World) (vo : Value) (out : List (List UInt8)) (T : List (List UInt8)) (v2 : Value) (W : World) : Prop :=
  Own W w.heap.size 9 v2 (texts T) ∧ Own W w.heap.size 9 vo (texts out) ∧ (∀ g, v2.ownBlock = some g → vo.ownBlock ≠ some g) ∧ Below w.heap.size w W
/-- the inner loop's word: besides, the slices and their bytes lie within blocks lo .. hi -/
def PCIs (w : World) (vo : Value) (out : List (List UInt8)) (lo hi : Nat) (A : Option Addr) (vals : List Value) (s : ByteArray) (b o : Nat) (T : List (List UInt8)) (v2 : Value) (W : World) : Prop :=
  PBIs w vo out T v2 W ∧ (∀ g, v2.ownBlock = some g → g < lo ∨ hi ≤ g) ∧ RowAt W lo hi A vals ∧ BytesAt s b o W ∧ hi ≤ W.heap.size
theorem PBIs.below {w : World} {vo : Value} {out T : List (List UInt8)} {v2 : Value} {W W' : World} (h : PBIs w vo out T v2 W) (hb : Below W.heap.size W W') : PBIs w vo out T v2 W' :=
  ⟨h.1.below hb, h.2.1.below hb, h.2.2.1, h.2.2.2.trans (hb.mono h.2.2.2.size)⟩
theorem PBIs.push {w : World} {vo : Value} {out T : List (List UInt8)} {v2 v' : Value} {W w' : World} {x : List UInt8} (h : PBIs w vo out T v2 W) (ho : Own w' w.heap.size 9 v' (texts T ++ [.string (txt x)])) (hb : Below w.heap.size W w') (hg : W.grownBy w' v2.ownBlock) (hat : v'.ownBlock = v2.ownBlock ∨ ∃ g, v'.ownBlock = some g ∧ W.heap.size ≤ g) :
    PBIs w vo out (T ++ [x]) v' w' := by
  obtain ⟨h1, h2, h3, h4⟩ := h
  refine ⟨by unfold texts; rw [List.map_append]; exact ho, World.ownsRow.kept h2 hg ?_, fun g hg' e => ?_, h4.trans hb⟩
  · cases e : vo.ownBlock with
    | none => exact .inl rfl
    | some g => exact .inr (fun e' => h3 g e'.symm e)
  · rcases hat with e' | ⟨g', e', hg2⟩
    · exact h3 g (e' ▸ hg') e
    · rw [e'] at hg'
      injection hg' with hg'
      have := (World.ownsRow.lt h2 g e).2
      omega
theorem BytesAt.kept {s : ByteArray} {b o lo hi : Nat} {W w' : World} {row : Option Nat} (h : BytesAt s b o W) (hb : lo ≤ b ∧ b < hi) (hh : hi ≤ W.heap.size) (hg : W.grownBy w' row) (hne : ∀ g, row = some g → g < lo ∨ hi ≤ g) : BytesAt s b o w' := fun j hj => by
  have : w'.heap[b]? = W.heap[b]? := hg.block b (by omega) (fun e => by have := hne b e.symm; omega)
  exact (World.cell?_of_block this).trans (h j hj)
theorem PCIs.push {w : World} {vo : Value} {out T : List (List UInt8)} {lo hi : Nat} {A : Option Addr} {vals : List Value} {s : ByteArray} {b o : Nat} {v2 v' : Value} {W w' : World} {x : List UInt8} (h : PCIs w vo out lo hi A vals s b o T v2 W) (hbb : lo ≤ b ∧ b < hi) (ho : Own w' w.heap.size 9 v' (texts T ++ [.string (txt x)])) (hb : Below w.heap.size W w') (hg : W.grownBy w' v2.ownBlock) (hat : v'.ownBlock = v2.ownBlock ∨ ∃ g, v'.ownBlock = some g ∧ W.heap.size ≤ g) :
    PCIs w vo out lo hi A vals s b o (T ++ [x]) v' w' := by
  obtain ⟨h1, h2, h3, h4, h5⟩ := h
  refine ⟨h1.push ho hb hg hat, fun g hg' => ?_, h3.grown hg h2 h5, BytesAt.kept h4 hbb h5 hg h2, Nat.le_trans h5 hg.size⟩
  rcases hat with e' | ⟨g', e', hg2⟩
  · exact h2 g (e' ▸ hg')
  · rw [e'] at hg'
    injection hg' with hg'
    omega
set_option maxRecDepth 100000 in
set_option maxHeartbeats 3200000 in
theorem impl_partsB (s : ByteArray) (A : Option Addr) (n c : Nat) (L : List (List UInt8)) (w : World) (hn : Hid (n = L.length)) (hnl : n ≤ 4398046511104) (hr : RowAt w 0 w.heap.size A (texts L)) (hs : s.size ≤ 2199023255552) (hT : Tabs w) :
    Calls Tryd.prog 24 #[.string s, .slice A n c] w (TextsPost (partsOf (L.map txt) s.data.toList) w) := by
  have Hr := Lib.hid hr; clear hr
  go_enter Tryd.func24, Tryd.ntmps24
  go_wp2_with fail
  go_loopw [5, 17] (fun v i wr => ∃ (k : Nat), k ≤ n ∧ i = .int .i64 k ∧ Own wr w.heap.size 9 v (texts (partsOf ((L.take k).map txt) s.data.toList)) ∧ Below w.heap.size w wr) (fun _ i _ => n - (intOf i).toNat)
  case atStart =>
    refine ⟨0, Nat.zero_le _, rfl, ?_, (Below.refl _ _).alloc (Nat.le_refl _) _⟩
    have := World.ownsRow_lit (base := w.heap.size) (e := 9) (size := 1) w #[.string s] 1 (Nat.le_refl _) (by unfold maxLen; omega) (by simp)
    simpa [Own, texts, partsOf, txt, Lib.mk_data] using this
  case round =>
    obtain ⟨k, hk, rfl, hown, hbw⟩ := hrel
    have hz := hbw.size
    obtain ⟨hpb, hpl⟩ := partsOf_bound ((L.take k).map txt) s.data.toList
    rw [← Lib.size_eq] at hpb hpl
    by_cases hlt : k < n
    · have hk' : k < L.length := by rw [← hn.out]; exact hlt
      obtain ⟨ba, oa, rfl, _, hba, hcell⟩ := Hr.out.at_ (i := k) (by rw [texts_length]; exact hk')
      replace hcell := (hbw.cell (p := ⟨ba, oa + k, none⟩) hba).trans hcell
      have hst : (L.take (k + 1)).map txt = (L.take k).map txt ++ [txt L[k]] := by rw [List.take_succ_eq_append_getElem hk', List.map_append]; rfl
      obtain ⟨S, hS⟩ : ∃ S, S = L[k] := ⟨_, rfl⟩
      rw [show (texts L)[k]'(by rw [texts_length]; exact hk') = .string (txt L[k]) by simp [texts], ← hS] at hcell
      rw [← hS] at hst
      have Hst := Lib.hid hst
      clear hst hS hk'
      obtain ⟨out, hout⟩ : ∃ out, out = partsOf ((L.take k).map txt) s.data.toList := ⟨_, rfl⟩
      rw [← hout] at hown hpb hpl
      have Hout := Lib.hid hout; clear hout
      obtain ⟨m, hm⟩ : ∃ m, m = out.length := ⟨_, rfl⟩
      obtain ⟨Ao, co, rfl, hco, _⟩ := hown.form
      rw [texts_length, ← hm] at hown hco ⊢
      rw [← hm] at hpb
      have Hm := Lib.hid hm; clear hm
      have hP0 : PBIs w (.slice Ao m co) out [] (.slice (some ⟨wr.heap.size, 0, none⟩) 0 0) (wr.alloc (.cells #[] 9)) := by
        refine ⟨Own.empty wr _ _ _ rfl hz, hown.alloc _, ?_, hbw.alloc hz _⟩
        intro g hg e
        simp only [Value.ownBlock, Option.some.injEq] at hg
        subst hg
        have := (World.ownsRow.lt hown _ e).2
        omega
      clear hown
      go_wp2_with fail
      go_loopw [8, 24] (fun v i wx => ∃ (j : Nat), j ≤ m ∧ i = .int .i64 j ∧ PBIs w (.slice Ao m co) out (partStep (txt S) (out.take j)) v wx) (fun _ i _ => m - (intOf i).toNat)
      case atStart => exact ⟨0, Nat.zero_le _, rfl, hP0⟩
      case round =>
        clear hP0
        obtain ⟨j, hj, rfl, hP⟩ := hrel
        by_cases hjm : j < m
        · have hj' : j < out.length := by rw [← Hm.out]; exact hjm
          have hP' := hP
          obtain ⟨q2, q3, q4, q6⟩ := hP'
          obtain ⟨bo, oo, rfl, _, hbo, hpc⟩ := q3.row.at_ (i := j) (by rw [texts_length]; exact hj')
          have hnext := partStep_take (txt S) out j hj'
          obtain ⟨part, hpart⟩ : ∃ part, part = out[j] := ⟨_, rfl⟩
          rw [show (texts out)[j]'(by rw [texts_length]; exact hj') = .string (txt out[j]) by simp [texts], ← hpart] at hpc
          rw [← hpart] at hnext
          have hpartl : part.length ≤ s.size := by
            have := mem_len_sum (l := out) (x := part) (by rw [hpart]; exact List.getElem_mem hj')
            unfold lens at hpl
            omega
          have hTl := (partStep_bound (txt S) (out.take j)).1
          have hTl2 := lens_take out j
          obtain ⟨T, hT0⟩ : ∃ T, T = partStep (txt S) (out.take j) := ⟨_, rfl⟩
          rw [← hT0] at hP hnext hTl q2
          have Hnext := Lib.hid hnext
          have hps : (txt part).size ≤ 2199023255552 := by show part.length ≤ _; omega
          have hown2 := fun g hg => (World.ownsRow.lt q2 g hg).2
          have Hown2 := Lib.hid hown2
          clear hnext hpart hT0 hj' q4 hown2
          go_wp2_with ((with_reducible refine wpList_toBL _ (o := ⟨some 29, _, _, _, _, _⟩) rfl _ _ _ 5 rfl Tryd.underlying9 Tryd.underlying43 Tryd.underlying5 (txt part) rfl ?_); intro cb wb hcb hbat hbb hzb)
          have hBb := q6.trans (hbb.mono q6.size)
          (with_reducible refine (in_here (txt S) _).mono ?_); rintro e w1 ⟨rfl, hc3, hb1⟩
          have hz1 := hb1.size
          have hB1 := hBb.trans (hb1.mono hBb.size)
          have hbat1 : BytesAt (txt part) wr.heap.size 0 w1 := fun i hi => (hb1.cell (p := ⟨wr.heap.size, 0 + i, none⟩) (by show wr.heap.size < _; omega)).trans (hbat i hi)
          have Hbat1 := Lib.hid hbat1; clear hbat hbat1
          go_wp2_with fail
          (with_reducible refine (fieldsFuncB (txt part) (txt S) wr.heap.size 0 cb wb.heap.size _ hps hcb Hbat1.out hc3 (hT.below hB1) (by omega)).mono ?_); rintro e wF ⟨vF, sp, rfl, hoF, hsp, hbF⟩
          have hzF := hbF.size
          have hBF := hB1.trans (hbF.mono hB1.size)
          obtain ⟨nF, hnF⟩ : ∃ nF, nF = sp.length := ⟨_, rfl⟩
          obtain ⟨AF, cF, rfl, hcF, _⟩ := hoF.form
          rw [List.length_map, ← hnF] at hoF hcF ⊢
          have hnFl : nF ≤ 2199023255552 := by
            have h1 := congrArg List.length hsp.out.1
            rw [List.length_map, List.length_map, ← hnF] at h1
            have h2 := segs_size (inSet (txt S)) (txt part)
            omega
          have hlF : T.length + nF ≤ 4398046511104 := by omega
          have HnF := Lib.hid hnF; clear hnF
          have hbWF : Below wr.heap.size wr wF := hbb.trans ((hb1.trans (hbF.mono hz1)).mono (by omega))
          have hC0 : PCIs w (.slice (some ⟨bo, oo, none⟩) m co) out wr.heap.size wF.heap.size AF (sp.map (cutV wr.heap.size 0)) (txt part) wr.heap.size 0 T u8 wF :=
            ⟨hP.below hbWF, fun g hg => .inl (Hown2.out g hg), hoF.row.more (by omega) (Nat.le_refl _), fun i hi => (hbF.cell (p := ⟨wr.heap.size, 0 + i, none⟩) (by show wr.heap.size < _; omega)).trans (Hbat1.out i hi), Nat.le_refl _⟩
          obtain ⟨lo, hlo⟩ : ∃ lo, lo = wr.heap.size := ⟨_, rfl⟩
          obtain ⟨hi, hhi⟩ : ∃ hi, hi = wF.heap.size := ⟨_, rfl⟩
          rw [← hlo, ← hhi] at hC0
          have hlohi : lo < hi := by omega
          clear hoF hP hb1 hbF hBF hB1 hBb hbWF hc3 q2 q3 q6 Hbat1 Hown2
          go_wp2_with fail
          rw [← hlo]
          clear hlo hhi
          go_loopw [8, 34] (fun v i wy => ∃ (i3 : Nat), i3 ≤ nF ∧ i = .int .i64 i3 ∧ PCIs w (.slice (some ⟨bo, oo, none⟩) m co) out lo hi AF (sp.map (cutV lo 0)) (txt part) lo 0 (T ++ (sp.take i3).map (spanOf (txt part))) v wy) (fun _ i _ => nF - (intOf i).toNat)
          case atStart => exact ⟨0, Nat.zero_le _, rfl, by rw [List.take_zero, List.map_nil, List.append_nil]; exact hC0⟩
          case round =>
            clear hC0
            obtain ⟨i3, hi3, rfl, hC⟩ := hrel
            by_cases hi3n : i3 < nF
            · have hi3' : i3 < sp.length := by rw [← HnF.out]; exact hi3n
              have hC' := hC
              obtain ⟨c1, c2, c3, c4, c5⟩ := hC'
              obtain ⟨bf, of, rfl, _, hbf, hfc⟩ := c3.at_ (i := i3) (by rw [List.length_map]; exact hi3')
              rw [List.getElem_map] at hfc
              have hv := hsp.out.2 _ (List.getElem_mem hi3')
              have hst3 : (sp.take (i3 + 1)).map (spanOf (txt part)) = (sp.take i3).map (spanOf (txt part)) ++ [spanOf (txt part) sp[i3]] := by
                rw [List.take_succ_eq_append_getElem hi3', List.map_append]; rfl
              obtain ⟨q, hq⟩ : ∃ q, q = sp[i3] := ⟨_, rfl⟩
              rw [← hq] at hfc hv hst3
              obtain ⟨hbat, hsl⟩ := span_bat c4 (by omega) hv
              have hTT : (T ++ (sp.take i3).map (spanOf (txt part))).length ≤ T.length + nF := by
                rw [List.length_append, List.length_map, List.length_take]; omega
              have hst4 : T ++ (sp.take (i3 + 1)).map (spanOf (txt part)) = (T ++ (sp.take i3).map (spanOf (txt part))) ++ [spanOf (txt part) q] := by rw [hst3, List.append_assoc]
              have Hst4 := Lib.hid hst4
              generalize hTg : T ++ (sp.take i3).map (spanOf (txt part)) = T1 at hC c1 hTT Hst4
              generalize hx : spanOf (txt part) q = x at hbat hsl Hst4
              obtain ⟨qa, qb⟩ := q
              simp only [cutV] at hfc
              simp only [Nat.zero_add] at hv hsl hbat hfc
              have hown1 := c1.1
              have hbase1 := c1.2.2.2.size
              have Hsl := Lib.hid hsl.symm
              have HC := Lib.hid hC
              clear hq hst3 hst4 hTg hx hi3' c1 c2 c3 c4 hC hsl
              have hqb := hv.1
              clear hv
              go_wp2_with (first
                | ((with_reducible refine wpList_toString _ (o := ⟨some 40, _, _, _, _, _⟩) rfl _ _ _ 5 rfl Tryd.underlying43 Tryd.underlying5 Tryd.underlying9 _ (qb - qa) (qb - qa) _ x rfl Hsl.out hbat ?_); intro z hz)
                | (at_builtin; refine wpList_push wr rfl (.tmp 38) (.tmp 41) 22 rfl w.heap.size 9 _ 16 Tryd.underlying22 info_string rfl _ _ (.string z) _ rfl rfl rfl hown1 rfl (by rw [texts_length]; omega) (by omega) (by omega) ?_; intro v4 w4 hown4 hbw4 hgr4 hat4))
              obtain rfl : z = txt x := by rw [← Lib.mk_data z, hz.out]; rfl
              have hCn := HC.out.push ⟨Nat.le_refl _, hlohi⟩ hown4 hbw4 hgr4 hat4
              go_roundw
              case rel => exact ⟨i3 + 1, by omega, by go_num, by rw [Hst4.out]; exact hCn⟩
              case measure => simp [intOf]; omega
            · have hi3e : i3 = nF := by omega
              have hend : T ++ (sp.take i3).map (spanOf (txt part)) = partStep (txt S) (out.take (j + 1)) := by
                rw [hi3e, List.take_of_length_le (by rw [← HnF.out]; exact Nat.le_refl _), hsp.out.1, Hnext.out]
                rfl
              rw [hend] at hC
              have HC := Lib.hid hC.1
              clear hC hend hi3e
              go_wp2_with fail
              go_roundw
              case rel => exact ⟨j + 1, by omega, by go_num, HC.out⟩
              case measure => simp [intOf]; omega
        · have hjm' : j = m := by omega
          rw [hjm', List.take_of_length_le (by rw [← Hm.out]; exact Nat.le_refl _)] at hP
          obtain ⟨q2, q3, q4, q6⟩ := hP
          rw [Hout.out, ← partsOf_snoc, ← Hst.out] at q2
          have Q2 := Lib.hid q2
          clear q2 q3 q4 hjm'
          go_wp2_with fail
          go_roundw
          case rel => exact ⟨k + 1, by omega, by go_num, Q2.out, q6⟩
          case measure => simp [intOf]; omega
    · have hkn : k = n := by omega
      rw [hkn, List.take_of_length_le (by rw [← hn.out]; exact Nat.le_refl _)] at hown
      clear hpb hpl hkn
      go_wp2_with fail
      go_ret
      exact ⟨_, rfl, hown, hbw⟩
end Go.Proofs.YtdlhjnihmkbagaaDoor
