/- The walk of the law FnExactTokensBackBytes: it returns true; old memory as it was. Conditions: texts within the reach. -/
import Derived.Test.YtfghbjjlkciopaaDoorTokBackB
import Derived.Test.YtfghbjjlkciopaaDoorExS
namespace Go.Proofs.YtfghbjjlkciopaaDoor
open Go.RowKit
set_option linter.unusedVariables false

theorem own_below3 {w w' : World} {base : Nat} {e : TypeId} {v : Value} {xs : List Value} (h : Own w base e v xs) (hb : Below w.heap.size w w') : Own w' base e v xs := h.below hb

set_option maxRecDepth 100000 in
set_option maxHeartbeats 3200000 in
theorem fnExactTokensBackBytes_walk (s : ByteArray) (hs : s.size ≤ 140737488351232) (set : ByteArray) (hset : set.size ≤ 140737488351232) (w : World) (hT : Tabs w) :
    Calls Tryd.prog 7 #[.string s, .string set] w fun e w' => e = .returned (.bool true) ∧ Below w.heap.size w w' := by
  by_cases hbig : 1048576 < s.size
  · go_enter Tryd.func7, Tryd.ntmps7
    go_wp2_with fail
    go_ret
    exact ⟨rfl, Below.refl _ _⟩
  by_cases hbig2 : 1048576 < set.size
  · go_enter Tryd.func7, Tryd.ntmps7
    go_wp2_with fail
    go_ret
    exact ⟨rfl, Below.refl _ _⟩
  obtain ⟨l, hl⟩ : ∃ l, l = ((segs (inSet set) (pcsB s)).map flat).reverse := ⟨_, rfl⟩
  have hn : l.length ≤ 1048576 := by rw [hl, List.length_reverse, List.length_map]; have := segs_size (inSet set) s; omega
  have Hl := Lib.hid hl; clear hl
  go_enter Tryd.func7, Tryd.ntmps7
  go_wp2_with fail
  (with_reducible refine (spec_tokensBackB s set _ (by omega) (by omega)).mono ?_); rintro e wa ⟨v1, rfl, h1, hba⟩
  rw [← Hl.out] at h1
  go_wp2_with fail
  (with_reducible refine (impl_tokensBackB s set _ (by omega) (hT.below hba)).mono ?_); rintro e wb ⟨v2, rfl, h2, hbb⟩
  rw [← Hl.out] at h2
  go_wp2_with fail
  (with_reducible refine (eqTexts_v _ _ l _ (by omega) h2.rowV (h1.rowV.below hbb)).mono ?_); rintro e w' ⟨rfl, m1, rfl⟩
  go_wp2_with fail
  (with_reducible refine (markStringS_1 _ _ l.length wa.heap.size _ (own_drewN h2 m1) (texts_length l) (by omega)).mono ?_); rintro e wc ⟨rfl, h2c, hgc⟩
  have hza := hba.size
  have hzb := hbb.size
  have hzc := hgc.size
  have h1c : Own wc w.heap.size 9 v1 (texts l) := own_grown (base' := wa.heap.size) (own_drewN (h1.below hbb) m1) hgc (fun g hg => by have := (World.ownsRow.lt h2 g hg).1; omega) (fun g hg => (World.ownsRow.lt h1 g hg).2)
  have hbc : Below w.heap.size w wc := (below_drewN' (hba.trans (hbb.mono hza)) m1).grown hgc (by simp; omega) (fun k hk => by have := (World.ownsRow.lt h2 k hk).1; omega)
  go_wp2_with fail
  (with_reducible refine (heldStringS_1 _ l.length _ h2c.rowV (by omega)).mono ?_); rintro e wd ⟨rfl, hbd⟩
  go_wp2_with fail
  (with_reducible refine (impl_tokensBackB s set _ (by omega) (hT.below (hbc.trans (hbd.mono hbc.size)))).mono ?_); rintro e we ⟨v3, rfl, h3, hbe⟩
  rw [← Hl.out] at h3
  have hce := hbd.trans (hbe.mono hbd.size)
  go_wp2_with fail
  (with_reducible refine (eqTexts_v _ _ l _ (by omega) h3.rowV (h1c.rowV.below hce)).mono ?_); rintro e w' ⟨rfl, m3, rfl⟩
  go_wp2_with fail
  (with_reducible refine (heldStringS_1 _ l.length _ ((h2c.rowV.below hce).drewN _) (by omega)).mono ?_); rintro e wf ⟨rfl, hbf⟩
  go_wp2_with fail
  go_ret
  refine ⟨rfl, (below_drewN' (hbc.trans (hce.mono hbc.size)) m3).trans (hbf.mono ?_)⟩
  have := hbc.size
  have := hce.size
  simp; omega
end Go.Proofs.YtfghbjjlkciopaaDoor
