/- The contract of spec.fields at white space: the words of a text, in new memory. Conditions: a text of at most 2 to the 42 bytes. -/
import Derived.Test.YtdlhjnihmkbagaaDoorFields
import Derived.Test.YtdlhjnihmkbagaaDoorSpaceIs
import Derived.Test.YtdlhjnihmkbagaaDoorWordsPlain
namespace Go.Proofs.YtdlhjnihmkbagaaDoor
open Go.RowKit
set_option linter.unusedVariables false

set_option maxHeartbeats 1600000 in
theorem fields_space (s set : ByteArray) (w : World) (hs : s.size ≤ 4398046511104) :
    Calls Tryd.prog 28 #[.string s, .string set, .bool true] w (TextsPost (wordsOf s.data.toList) w) := by
  have hpl : (pcsB s).length ≤ s.size := by rw [Lib.size_eq]; exact pcs_len_le _
  go_enter Tryd.func28, Tryd.ntmps28
  go_wp2_with fail
  (with_reducible refine (pieces_any s _ hs).mono ?_); rintro e w0 ⟨A, n, c, rfl, hn, hat, hb0⟩
  rw [← hn.out] at hpl
  have hz0 := hb0.size
  simp only [World.size_alloc] at hat hz0
  go_wp2_with fail
  go_loopw [7, 8, 15] (fun v o i wr => ∃ (k : Nat) (ob : Bool), k ≤ n ∧ i = .int .i64 k ∧ o = .bool ob ∧ FieldsIs (Lib.isSpaceR) (pcsB s) A w w0.heap.size k v ob wr) (fun _ _ i _ => n - (intOf i).toNat)
  case atStart => exact ⟨0, false, Nat.zero_le _, rfl, rfl, (Own.empty w _ _ _ rfl (Nat.le_refl _)).below hb0, rfl, ((Below.refl _ _).alloc (Nat.le_refl _) _).trans (hb0.mono (by simp)), hat, Nat.le_refl _, fun g hg => by simp [Value.ownBlock] at hg; omega⟩
  case round =>
    obtain ⟨k, ob, hk, rfl, rfl, hown, hob, hbw, hpa, hz, hgv⟩ := hrel
    have hzw := hbw.size
    by_cases hlt : k < n
    · have hk' : k < (pcsB s).length := by rw [← hn.out]; exact hlt
      obtain ⟨b, o, rfl, hblo, hbl, hc1, hc2⟩ := hpa.at_ (i := k) (by rw [List.length_map]; exact hk')
      rw [List.getElem_map] at hc1 hc2
      have hfn := fwalk_next (Lib.isSpaceR) (pcsB s) k hk'
      obtain ⟨hsum, hopen, hcnt⟩ := fwalk_sum (Lib.isSpaceR) ((pcsB s).take k)
      obtain ⟨q, hq⟩ : ∃ q : Pc, q = (pcsB s)[k] := ⟨_, rfl⟩
      rw [← hq] at hc1 hc2 hfn
      obtain ⟨r, bs⟩ := q
      simp only [pcV] at hc1 hc2
      have hcl : (fwalk (Lib.isSpaceR) ((pcsB s).take k)).1.length ≤ 4398046511104 := by
        rw [List.length_take] at hcnt; omega
      by_cases hin : Lib.isSpaceR r = true
      · have hst : fwalk (Lib.isSpaceR) ((pcsB s).take (k + 1)) = ((fwalk (Lib.isSpaceR) ((pcsB s).take k)).1, false) := by rw [hfn]; simp [fstep, hin]
        have Hst := Lib.hid hst
        clear hst hfn hsum hopen hq hob
        go_wp2_with (go_at_call 30; (with_reducible refine (specSpace_b r _).mono ?_); rw [hin]; rintro e w1 ⟨rfl, hb1⟩)
        have hX : Below w.heap.size w w1 := (hbw.alloc hzw _).trans (hb1.mono (by simp; omega))
        have hown1 := (hown.alloc (.cells #[.int .i32 (r : Int), .string (txt bs)] 35)).below hb1
        have hpa1 := (hpa.below ((Below.refl _ _).alloc hz (.cells #[.int .i32 (r : Int), .string (txt bs)] 35))).below (hb1.mono (by simp; omega))
        have hz1 := hb1.size
        simp only [World.size_alloc] at hz1
        go_roundw
        case rel => exact ⟨k + 1, false, by omega, by go_num, rfl, by rw [Hst.out]; exact hown1, by rw [Hst.out], hX, hpa1, by omega, hgv⟩
        case measure => simp [intOf]; omega
      · have hin' : Lib.isSpaceR r = false := by simpa using hin
        cases ob
        · have hst : fwalk (Lib.isSpaceR) ((pcsB s).take (k + 1)) = ((fwalk (Lib.isSpaceR) ((pcsB s).take k)).1 ++ [bs], true) := by rw [hfn]; simp [fstep, hin', ← hob]
          have Hst := Lib.hid hst
          clear hst hfn hsum hopen hq hob hin
          go_wp2_with (first
            | (go_at_call 30; (with_reducible refine (specSpace_b r _).mono ?_); rw [hin']; rintro e w1 ⟨rfl, hb1⟩; have hpc := (hb1.cell (p := ⟨wr.heap.size, 1, none⟩) (by simp)).trans (pc_new wr _ _ _).2)
            | (at_builtin; refine wpList_push w1 rfl (.tmp 19) (.tmp 22) 22 rfl w.heap.size 9 _ 16 Tryd.underlying22 info_string rfl _ _ (.string (txt bs)) _ rfl rfl rfl ((hown.alloc _).below hb1) rfl (by rw [texts_length]; omega) (by omega) (by have := hb1.size; simp at this; omega) ?_; intro v2 w2 hown2 hbw2 hgr2 hat2))
          have hX : Below w.heap.size w w1 := (hbw.alloc hzw _).trans (hb1.mono (by simp; omega))
          have hpa1 := (hpa.below ((Below.refl _ _).alloc hz (.cells #[.int .i32 (r : Int), .string (txt bs)] 35))).below (hb1.mono (by simp; omega))
          have hz1 := hb1.size
          simp only [World.size_alloc] at hz1
          have hpa2 := hpa1.grown hgr2 hgv (by omega)
          have hz2 := hgr2.size
          go_roundw
          case rel => exact ⟨k + 1, true, by omega, by go_num, rfl, by rw [Hst.out]; unfold texts; rw [List.map_append]; exact hown2, by rw [Hst.out], hX.trans hbw2, hpa2, by omega, fun g hg => by rcases hat2 with e | ⟨g', e, hg'⟩ <;> rw [e] at hg <;> first | exact hgv g hg | (injection hg with hg; omega)⟩
          case measure => simp [intOf]; omega
        · obtain ⟨L0, x, hLx⟩ : ∃ L0 x, (fwalk (Lib.isSpaceR) ((pcsB s).take k)).1 = L0 ++ [x] := ⟨_, _, (List.dropLast_concat_getLast (hopen hob.symm)).symm⟩
          have hst : fwalk (Lib.isSpaceR) ((pcsB s).take (k + 1)) = (L0 ++ [x ++ bs], true) := by rw [hfn]; simp [fstep, hin', ← hob, hLx]
          have Hst := Lib.hid hst
          have hxl : x.length + bs.length ≤ 9223372036854775807 := by
            have h1 := mem_len_sum (l := (fwalk (Lib.isSpaceR) ((pcsB s).take k)).1) (x := x) (by rw [hLx]; simp)
            have h2 : (flat ((pcsB s).take k)).length ≤ s.size := by
              have := congrArg List.length (flat_pcs s.data.toList)
              rw [← List.take_append_drop k (pcs s.data.toList), flat_append, List.length_append, ← Lib.size_eq] at this
              unfold pcsB; omega
            have h3 : bs.length ≤ s.size := by
              have := mid_le (s := s) (D := (pcsB s).take k) (q := (r, bs)) (P := (pcsB s).drop (k + 1)) (by rw [hq, ← List.drop_eq_getElem_cons hk', List.take_append_drop])
              simp only at this
              omega
            omega
          rw [hLx] at hown hcl
          rw [List.length_append, List.length_singleton] at hcl
          clear hst hfn hsum hopen hq hob hin hLx
          obtain ⟨A5, c5, hv5, hc5, _⟩ := hown.form
          rw [texts_length, List.length_append, List.length_singleton] at hv5 hc5
          subst hv5
          obtain ⟨g, hAg, hgb, hgc, hgf, hgset⟩ := own_at hown (k := L0.length) (by rw [texts_length]; simp)
          subst hAg
          rw [show (texts (L0 ++ [x]))[L0.length]'(by rw [texts_length]; simp) = .string (txt x) by simp [texts]] at hgc
          have hglt := cell_lt hgc
          go_wp2_with (go_at_call 30; (with_reducible refine (specSpace_b r _).mono ?_); rw [hin']; rintro e w1 ⟨rfl, hb1⟩; have hpc := (hb1.cell (p := ⟨wr.heap.size, 1, none⟩) (by simp)).trans (pc_new wr _ _ _).2; have hgc1 := ((hb1.cell (p := ⟨g, L0.length, none⟩) (by simp; omega)).trans (World.cell?_alloc_lt _ _ _ (by simpa using hglt))).trans hgc; have hgf1 := ((hb1.frozen (p := ⟨g, L0.length, none⟩) (by simp; omega)).trans (World.frozen?_alloc_old _ _ _ (by simp; omega))).trans hgf)
          have hxs : (txt x).size + (txt bs).size ≤ 9223372036854775807 := hxl
          clear hgc hgf hc1 hc2
          have hX : Below w.heap.size w w1 := (hbw.alloc hzw _).trans (hb1.mono (by simp; omega))
          have hpa1 := (hpa.below ((Below.refl _ _).alloc hz (.cells #[.int .i32 (r : Int), .string (txt bs)] 35))).below (hb1.mono (by simp; omega))
          have hz1 := hb1.size
          simp only [World.size_alloc] at hz1
          have own1 := (hown.alloc (.cells #[.int .i32 (r : Int), .string (txt bs)] 35)).below hb1
          have hu : ∃ u, u = txt x ++ txt bs := ⟨_, rfl⟩
          obtain ⟨u, hu⟩ := hu
          have hut : u = txt (x ++ bs) := by rw [hu]; exact txt_append x bs
          obtain ⟨own2, hgr2⟩ := own_set own1 rfl (k := L0.length) (by rw [texts_length]; simp) (.string u)
          have hts : (texts (L0 ++ [x])).set L0.length (.string u) = texts (L0 ++ [x ++ bs]) := by
            rw [hut]; simp [texts]
          rw [hts] at own2
          have hpa2 := hpa1.grown hgr2 (fun g' hg' => by injection hg' with hg'; subst hg'; exact hgv g rfl) (by omega)
          have hz2 := hgr2.size
          have hX2 := hX.grown hgr2 (by omega) (fun k hk => by injection hk with hk; subst hk; exact hgb)
          subst hu
          go_region
          go_wp2
          go_roundw
          case rel => exact ⟨k + 1, true, by omega, by go_num, rfl, by rw [Hst.out]; exact own2, by rw [Hst.out], hX2.drew, hpa2, Nat.le_trans (by omega) hz2, hgv⟩
          case measure => simp [intOf]; omega
    · have hkn : k = n := by omega
      subst hkn
      go_wp2
      go_ret
      rw [List.take_of_length_le (by rw [← hn.out]; exact Nat.le_refl _), fwalk_segs] at hown
      exact ⟨_, rfl, hown, hbw⟩
end Go.Proofs.YtdlhjnihmkbagaaDoor
