/- The walk of the law FnExactWordsBytes: it returns true; old memory as it was. Conditions: the reach of the rows; the tables of the row. -/
import Derived.Test.YtdlhjnihmkbagaaDoorSpecWords
import Derived.Test.YtdlhjnihmkbagaaDoorWordsB
import Derived.Test.YtdlhjnihmkbagaaDoorExSS
import Derived.Test.YtdlhjnihmkbagaaDoorExT
import Derived.Test.YtdlhjnihmkbagaaDoorFrameUT
namespace Go.Proofs.YtdlhjnihmkbagaaDoor
open Go.RowKit
set_option linter.unusedVariables false

set_option maxRecDepth 100000 in
set_option maxHeartbeats 3200000 in
theorem fnExactWordsBytes_walk {w : World} (A : Option Addr) (n c : Nat) (L : List (List UInt8)) (hm : TArg w A n c L) (hT : TabsB w) :
    Calls Tryd.prog 3 #[.slice A n c] w fun e w' => e = .returned (.bool true) ∧ Below w.heap.size w w' := by
  obtain ⟨hn, hnc, hn16, hsz, hat⟩ := hm
  have Hn := Lib.hid hn; have Hsz := Lib.hid hsz
  clear hn hsz
  obtain ⟨l, hl⟩ : ∃ l, l = L.map wordsOf := ⟨_, rfl⟩
  have hll0 : l.length = n := by rw [hl, List.length_map, Hn.out]
  have Hll0 := Lib.hid hll0; clear hll0
  have Hl := Lib.hid hl; clear hl
  go_enter Tryd.func3, Tryd.ntmps3
  go_wp2_with fail
  (with_reducible refine (szStringS_any A n c L _ Hn.out hn16 Hsz.out hat).mono ?_); rintro e w' ⟨⟨r, rfl, hr⟩, rfl⟩
  by_cases hr0 : r < 0
  · clear hr
    go_wp2_with fail
    go_ret
    exact ⟨rfl, Below.refl _ _⟩
  have hbk : bulkT L ≤ 1048576 := by have := hr (by omega); omega
  have hnl : n ≤ 1048576 := by have := bulkT_len L; rw [← Hn.out] at this; omega
  have hll : l.length ≤ 140737488355328 := by rw [Hll0.out]; omega
  have HLm := Lib.hid (fun x (hx : x ∈ L) => (by have := bulkT_mem hx; omega : x.length ≤ 1048576))
  have HLl : Hid (∀ y ∈ l, y.length ≤ 140737488355328) := Lib.hid (fun y hy => by
    rw [Hl.out] at hy
    obtain ⟨x, hx, rfl⟩ := List.mem_map.1 hy
    have h1 := HLm.out x hx
    have h2 := wordsOf_len x
    omega)
  obtain ⟨q, hq⟩ : ∃ q, tot (l.map texts) = q := ⟨_, rfl⟩
  have hqn : q ≤ 1048576 := by have := tot_words L; rw [← Hl.out, hq] at this; omega
  have Hq := Lib.hid hq
  have hlm : (l.map texts).length ≤ 140737488355328 := by rw [List.length_map]; exact hll
  clear hr hbk hq
  go_wp2_with fail
  (with_reducible refine (toStringS_any A n c L _ Hn.out hn16 hat).mono ?_); rintro e wb ⟨gb, rfl, hob, hbb⟩
  go_wp2_with fail
  (with_reducible refine (spec_wordsB _ n n L _ Hn (by omega) HLm (hob.row.more (Nat.zero_le _) (Nat.le_refl _))).mono ?_); rintro e wc ⟨v1, vs1, rfl, h1, k1, hbc⟩
  rw [← Hl.out] at k1
  have s1 := SS.of h1 k1
  clear h1 k1
  have hbac := hbb.trans (hbc.mono hbb.size)
  go_wp2_with fail
  (with_reducible refine (toStringS_any A n c L _ Hn.out hn16 ((hat.below hbac).more (Nat.le_refl _) hbac.size)).mono ?_); rintro e wd ⟨gx, rfl, hox, hbd⟩
  have hbad := hbac.trans (hbd.mono hbac.size)
  go_wp2_with fail
  (with_reducible refine (impl_wordsB _ n n L _ Hn (by omega) HLm (hox.row.more (Nat.zero_le _) (Nat.le_refl _)) (hT.below hbad)).mono ?_); rintro e we ⟨v2, vs2, rfl, h2, k2, hbe⟩
  rw [← Hl.out] at k2
  have s2 := SS.of h2 k2
  clear h2 k2
  have hbce := hbd.trans (hbe.mono hbd.size)
  have hbae := hbac.trans (hbce.mono hbac.size)
  have s1e := s1.below hbce (Nat.le_refl _)
  go_wp2_with fail
  (with_reducible refine (eqStringSS_v _ _ l _ hll HLl.out s2.rowsV s1e.rowsV).mono ?_); rintro e w' ⟨rfl, m1, rfl⟩
  go_wp2_with fail
  (with_reducible refine (toStringS_any A n c L _ Hn.out hn16 (((hat.below hbae).more (Nat.le_refl _) hbae.size).drewN _)).mono ?_); rintro e wf ⟨gf, rfl, hof, hbf⟩
  have hbf' : Below we.heap.size we wf := (below_drewN' (Below.refl _ we) m1).trans hbf
  clear hbf
  have hbdf := hbe.trans (hbf'.mono hbe.size)
  go_wp2_with fail
  (with_reducible refine (eqTexts_v _ _ L _ (by rw [← Hn.out]; omega) (hox.rowV.below hbdf) hof.rowV).mono ?_); rintro e w' ⟨rfl, m2, rfl⟩
  have hxf : Own (wf.drewN m2) wc.heap.size 9 (.slice (some ⟨gx, 0, none⟩) n n) (texts L) := own_drewN (hox.below hbdf) m2
  have hxlt := World.ownsRow.lt hox gx rfl
  go_wp2_with fail
  (with_reducible refine (markStringS_1 _ _ n wc.heap.size _ hxf (by rw [texts_length, Hn.out]) (by omega)).mono ?_); rintro e wh ⟨rfl, hxh, hgh⟩
  have hcd := hbd.size
  have hde := hbe.size
  have hdf := hbdf.size
  have hef := hbf'.size
  have s1h : SS wh wb.heap.size wc.heap.size v1 (l.map texts) := ((s1e.below hbf' (by omega)).drewN m2).grown hgh (by show _ ≤ wf.heap.size; omega) (fun g hg => by simp only [Value.ownBlock, Option.some.injEq] at hg; omega)
  have s2h : SS wh wd.heap.size we.heap.size v2 (l.map texts) := ((s2.below hbf' (Nat.le_refl _)).drewN m2).grown hgh (by show _ ≤ wf.heap.size; omega) (fun g hg => by simp only [Value.ownBlock, Option.some.injEq] at hg; omega)
  have hhs : wf.heap.size ≤ wh.heap.size := hgh.size
  have hbah : Below w.heap.size w wh := (below_drewN' (hbae.trans (hbf'.mono hbae.size)) m2).grown hgh (by have := hbae.size; simp; omega) (fun k hk => by simp only [Value.ownBlock, Option.some.injEq] at hk; have := hbac.size; omega)
  clear hgh hxh
  have hdh : wd.heap.size ≤ wh.heap.size := by omega
  go_wp2_with fail
  (with_reducible refine (eqStringSS_v _ _ l _ hll HLl.out s2h.rowsV s1h.rowsV).mono ?_); rintro e w' ⟨rfl, m3, rfl⟩
  go_wp2_with fail
  (with_reducible refine (markSS_1 _ _ q wd.heap.size we.heap.size _ (s2h.drewN m3) Hq.out (by omega) (le_drewN hdh m3)).mono ?_); rintro e wi ⟨rfl, s2i, hgi⟩
  have s1i : SS wi wb.heap.size wc.heap.size v1 (l.map texts) := (s1h.drewN m3).below hgi (by omega)
  have hbai : Below w.heap.size w wi := (below_drewN' hbah m3).trans (hgi.mono (by have := hbac.size; omega))
  clear hgi
  go_wp2_with fail
  (with_reducible refine (heldSS_1 _ (l.map texts) q _ s2i.rowsV Hq.out (by omega) hlm).mono ?_); rintro e wj ⟨rfl, hbj⟩
  have hbaj := hbai.trans (hbj.mono hbai.size)
  go_wp2_with fail
  (with_reducible refine (toStringS_any A n c L _ Hn.out hn16 ((hat.below hbaj).more (Nat.le_refl _) hbaj.size)).mono ?_); rintro e wk ⟨gk, rfl, hok, hbk⟩
  have hbak := hbaj.trans (hbk.mono hbaj.size)
  go_wp2_with fail
  (with_reducible refine (impl_wordsB _ n n L _ Hn (by omega) HLm (hok.row.more (Nat.zero_le _) (Nat.le_refl _)) (hT.below hbak)).mono ?_); rintro e wl ⟨v3, vs3, rfl, h3, k3, hbl⟩
  rw [← Hl.out] at k3
  have s3 := SS.of h3 k3
  clear h3 k3
  have hbil := hbj.trans ((hbk.trans (hbl.mono hbk.size)).mono hbj.size)
  have hbal := hbai.trans (hbil.mono hbai.size)
  go_wp2_with fail
  (with_reducible refine (eqStringSS_v _ _ l _ hll HLl.out s3.rowsV (s1i.rowsV.below hbil)).mono ?_); rintro e w' ⟨rfl, m4, rfl⟩
  go_wp2_with fail
  (with_reducible refine (heldSS_1 _ (l.map texts) q _ ((s2i.rowsV.below hbil).drewN _) Hq.out (by omega) hlm).mono ?_); rintro e wm ⟨rfl, hbm⟩
  go_wp2_with fail
  go_ret
  exact ⟨rfl, (below_drewN' hbal m4).trans (hbm.mono hbal.size)⟩
end Go.Proofs.YtdlhjnihmkbagaaDoor
