/- The walk of the law FnExactMendBytes: it returns true; old memory as it was. Conditions: the reach of the rows; the tables of utf8. -/
import Derived.Test.YtahlgmnjdkimmaaDoorMendImpl
import Derived.Test.YtahlgmnjdkimmaaDoorExT
import Derived.Test.YtahlgmnjdkimmaaDoorFrameUT
namespace Go.Proofs.YtahlgmnjdkimmaaDoor
open Go.RowKit
set_option linter.unusedVariables false

set_option maxRecDepth 100000 in
set_option maxHeartbeats 3200000 in
theorem fnExactMendBytes_walk {w : World} (A : Option Addr) (n c : Nat) (L : List (List UInt8)) (hm : TArg w A n c L) (s : ByteArray) (hs : s.size ≤ 140737488351232) (hT : Tabs w) :
    Calls Tryd.prog 4 #[.slice A n c, .string s] w fun e w' => e = .returned (.bool true) ∧ Below w.heap.size w w' := by
  obtain ⟨hn, hnc, hn16, hsz, hat⟩ := hm
  have Hn := Lib.hid hn; have Hsz := Lib.hid hsz
  clear hn hsz
  by_cases hbig : 1048576 < s.size
  · go_enter Tryd.func4, Tryd.ntmps4
    go_wp2_with fail
    go_ret
    exact ⟨rfl, Below.refl _ _⟩
  obtain ⟨l, hl⟩ : ∃ l, l = L.map (mended s.data.toList) := ⟨_, rfl⟩
  have hll0 : l.length = n := by rw [hl, List.length_map, Hn.out]
  have Hll0 := Lib.hid hll0; clear hll0
  have Hl := Lib.hid hl; clear hl
  go_enter Tryd.func4, Tryd.ntmps4
  go_wp2_with fail
  (with_reducible refine (szStringS_any A n c L _ Hn.out hn16 Hsz.out hat).mono ?_); rintro e w' ⟨⟨r, rfl, hr⟩, rfl⟩
  by_cases hr0 : r < 0
  · clear hr
    go_wp2_with fail
    go_ret
    exact ⟨rfl, Below.refl _ _⟩
  have hbk : bulkT L ≤ 1048576 := by have := hr (by omega); omega
  have hnl : n ≤ 1048576 := by have := bulkT_len L; rw [← Hn.out] at this; omega
  have hll : l.length ≤ 1048577 := by rw [Hll0.out]; omega
  have HLm := Lib.hid (fun x (hx : x ∈ L) => (by have := bulkT_mem hx; omega : x.length ≤ 1048576))
  have HFit : Hid (Fits s L) := Lib.hid (fun x hx => by
    have h1 := HLm.out x hx
    have h2 : x.length * s.size ≤ 1048576 * 1048576 := Nat.mul_le_mul h1 (by omega)
    omega)
  clear hr hbk
  go_wp2_with fail
  (with_reducible refine (toStringS_any A n c L _ Hn.out hn16 hat).mono ?_); rintro e wb ⟨gb, rfl, hob, hbb⟩
  go_wp2_with fail
  (with_reducible refine (spec_mendB _ n n L s _ Hn (by omega) HLm (by omega) (hob.row.more (Nat.zero_le _) (Nat.le_refl _))).mono ?_); rintro e wc ⟨v1, rfl, h1, hbc⟩
  rw [← Hl.out] at h1
  have hbac := hbb.trans (hbc.mono hbb.size)
  go_wp2_with fail
  (with_reducible refine (toStringS_any A n c L _ Hn.out hn16 ((hat.below hbac).more (Nat.le_refl _) hbac.size)).mono ?_); rintro e wd ⟨gx, rfl, hox, hbd⟩
  have hbad := hbac.trans (hbd.mono hbac.size)
  go_wp2_with fail
  (with_reducible refine (impl_mendB _ n n L s _ Hn (by omega) HFit (by omega) (hox.row.more (Nat.zero_le _) (Nat.le_refl _)) (hT.below hbad)).mono ?_); rintro e we ⟨v2, rfl, h2, hbe⟩
  rw [← Hl.out] at h2
  have hbce := hbd.trans (hbe.mono hbd.size)
  have hbae := hbac.trans (hbce.mono hbac.size)
  go_wp2_with fail
  (with_reducible refine (eqTexts_v _ _ l _ (by omega) h2.rowV (h1.rowV.below hbce)).mono ?_); rintro e w' ⟨rfl, m1, rfl⟩
  go_wp2_with fail
  (with_reducible refine (toStringS_any A n c L _ Hn.out hn16 (((hat.below hbae).more (Nat.le_refl _) hbae.size).drewN _)).mono ?_); rintro e wf ⟨gf, rfl, hof, hbf⟩
  have hbf' : Below we.heap.size we wf := (below_drewN' (Below.refl _ we) m1).trans hbf
  clear hbf
  have hbdf := hbe.trans (hbf'.mono hbe.size)
  go_wp2_with fail
  (with_reducible refine (eqTexts_v _ _ L _ (by rw [← Hn.out]; omega) (hox.rowV.below hbdf) hof.rowV).mono ?_); rintro e w' ⟨rfl, m2, rfl⟩
  have hxf : Own (wf.drewN m2) wc.heap.size 9 (.slice (some ⟨gx, 0, none⟩) n n) (texts L) := own_drewN (hox.below hbdf) m2
  have hxlt := World.ownsRow.lt hox gx rfl
  go_wp2_with fail
  (with_reducible refine (markStringS_1 _ _ n wc.heap.size _ hxf (by rw [texts_length, Hn.out]) (by omega)).mono ?_); rintro e wh ⟨rfl, hxh, hgh⟩
  have hcd := hbd.size
  have hdf := hbdf.size
  have hef := hbf'.size
  have h1h : Own wh wb.heap.size 9 v1 (texts l) := own_grown (base' := wc.heap.size) (own_drewN (h1.below (hbd.trans (hbdf.mono hbd.size))) m2) hgh (fun g hg => by simp only [Value.ownBlock, Option.some.injEq] at hg; omega) (fun g hg => (World.ownsRow.lt h1 g hg).2)
  have h2h : Own wh wd.heap.size 9 v2 (texts l) := own_grown (base' := we.heap.size) (own_drewN (h2.below hbf') m2) hgh (fun g hg => by simp only [Value.ownBlock, Option.some.injEq] at hg; omega) (fun g hg => (World.ownsRow.lt h2 g hg).2)
  have hbah : Below w.heap.size w wh := (below_drewN' (hbae.trans (hbf'.mono hbae.size)) m2).grown hgh (by have := hbae.size; simp; omega) (fun k hk => by simp only [Value.ownBlock, Option.some.injEq] at hk; have := hbac.size; omega)
  clear hgh hxh
  go_wp2_with fail
  (with_reducible refine (eqTexts_v _ _ l _ (by omega) h2h.rowV h1h.rowV).mono ?_); rintro e w' ⟨rfl, m3, rfl⟩
  go_wp2_with fail
  (with_reducible refine (markStringS_1 _ _ l.length wd.heap.size _ (own_drewN h2h m3) (texts_length l) (by omega)).mono ?_); rintro e wi ⟨rfl, h2i, hgi⟩
  have h1i : Own wi wb.heap.size 9 v1 (texts l) := own_grown (base' := wc.heap.size) (own_drewN h1h m3) hgi (fun g hg => by have := (World.ownsRow.lt h2 g hg).1; omega) (fun g hg => (World.ownsRow.lt h1 g hg).2)
  have hbai : Below w.heap.size w wi := (below_drewN' hbah m3).grown hgi hbah.size (fun k hk => by have := (World.ownsRow.lt h2 k hk).1; have := hbac.size; omega)
  clear hgi
  go_wp2_with fail
  (with_reducible refine (heldStringS_1 _ l.length _ h2i.rowV (by omega)).mono ?_); rintro e wj ⟨rfl, hbj⟩
  have hbaj := hbai.trans (hbj.mono hbai.size)
  go_wp2_with fail
  (with_reducible refine (toStringS_any A n c L _ Hn.out hn16 ((hat.below hbaj).more (Nat.le_refl _) hbaj.size)).mono ?_); rintro e wk ⟨gk, rfl, hok, hbk⟩
  have hbak := hbaj.trans (hbk.mono hbaj.size)
  go_wp2_with fail
  (with_reducible refine (impl_mendB _ n n L s _ Hn (by omega) HFit (by omega) (hok.row.more (Nat.zero_le _) (Nat.le_refl _)) (hT.below hbak)).mono ?_); rintro e wl ⟨v3, rfl, h3, hbl⟩
  rw [← Hl.out] at h3
  have hbil := hbj.trans ((hbk.trans (hbl.mono hbk.size)).mono hbj.size)
  have hbal := hbai.trans (hbil.mono hbai.size)
  go_wp2_with fail
  (with_reducible refine (eqTexts_v _ _ l _ (by omega) h3.rowV (h1i.rowV.below hbil)).mono ?_); rintro e w' ⟨rfl, m4, rfl⟩
  go_wp2_with fail
  (with_reducible refine (heldStringS_1 _ l.length _ ((h2i.rowV.below hbil).drewN _) (by omega)).mono ?_); rintro e wm ⟨rfl, hbm⟩
  go_wp2_with fail
  go_ret
  exact ⟨rfl, (below_drewN' hbal m4).trans (hbm.mono hbal.size)⟩
end Go.Proofs.YtahlgmnjdkimmaaDoor
