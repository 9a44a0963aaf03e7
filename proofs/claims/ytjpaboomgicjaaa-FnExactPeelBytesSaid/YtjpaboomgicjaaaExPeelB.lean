/- The walk of the law FnExactPeelBytes: it returns true; old memory as it was. Conditions: the reach of the rows. -/
import Derived.Test.YtjpaboomgicjaaaExM2
import Derived.Test.YtjpaboomgicjaaaExPeel
namespace Go.Proofs.Ytjpaboomgicjaaa
open Go.RowKit
set_option linter.unusedVariables false

theorem spec_peelB (s : ByteArray) (A : Option Addr) (n c : Nat) (ms : List Mb) (w : World) (hs : s.size ≤ maxLen) (hn : n = ms.length) (hnb : n ≤ 140737488351232) (hm : MAt w 0 w.heap.size A ms) (hms : ∀ m ∈ ms, m.2.size ≤ maxLen) :
    Calls Try.prog 17 #[.string s, .slice A n c] w (PeelPost s ms w) := by
  have H := Lib.hid (spec_peel s A n c ms w hs hn hnb hm hms)
  clear hm hms hn
  go_enter Try.func17, Try.ntmps17
  go_wp2_with fail
  refine H.out.mono ?_
  rintro e w' ⟨r, A1, c1, rfl, hr, hown, hb⟩
  have H1 := Lib.hid hr; have H2 := Lib.hid hown; clear hr hown
  go_wp2
  go_ret2
  exact ⟨r, A1, c1, rfl, H1.out, H2.out, hb⟩

set_option maxRecDepth 100000 in
set_option maxHeartbeats 3200000 in
theorem fnExactPeelBytes_walk {w : World} (s : ByteArray) (hs : s.size ≤ 140737488351232) (A : Option Addr) (n c : Nat) (L : List Mb) (hm : MArg w A n c L) :
    Calls Try.prog 3 #[.string s, .slice A n c] w fun e w' => e = .returned (.bool true) ∧ Below w.heap.size w w' := by
  obtain ⟨hn, hnc, hn24, hsz, hat⟩ := hm
  have Hn := Lib.hid hn; have Hsz := Lib.hid hsz
  clear hn hsz
  by_cases hbig : 1048576 < s.size
  · go_enter Try.func3, Try.ntmps3
    go_wp2_with fail
    go_ret
    exact ⟨rfl, Below.refl _ _⟩
  go_enter Try.func3, Try.ntmps3
  go_wp2_with fail
  (with_reducible refine (szMarkS_any A n c L _ Hn.out hn24 Hsz.out hat).mono ?_); rintro e wa ⟨⟨r, rfl, hr⟩, hba⟩
  by_cases hr0 : r < 0
  · clear hr
    go_wp2_with fail
    go_ret
    exact ⟨rfl, hba⟩
  have hbk : bulkM L ≤ 1048576 := by have := hr (by omega); omega
  have hnl : n ≤ 1048576 := by have := bulkM_len1 L; rw [← Hn.out] at this; omega
  have Hbk := Lib.hid hbk; clear hr hbk
  go_wp2_with fail
  (with_reducible refine (toMarkS_any A n c L _ Hn.out hn24 ((hat.below hba).more (Nat.le_refl _) hba.size)).mono ?_); rintro e wb ⟨gb, rfl, hob, hbb⟩
  go_wp2_with fail
  (with_reducible refine (spec_peelB s _ n n L _ (by unfold maxLen; omega) Hn.out (by omega) (hob.mat.more (Nat.zero_le _) (Nat.le_refl _)) (fun m hm => by have := Hsz.out m hm; unfold maxLen; omega)).mono ?_); rintro e wc ⟨w0, A1, c1, rfl, hw0, hown1, hbc⟩
  rw [← Hn.out] at hown1 ⊢
  have W0 := Lib.hid hw0; clear hw0
  have hbac := hba.trans ((hbb.trans (hbc.mono hbb.size)).mono hba.size)
  go_wp2_with fail
  (with_reducible refine (toMarkS_any A n c L _ Hn.out hn24 ((hat.below hbac).more (Nat.le_refl _) hbac.size)).mono ?_); rintro e wd ⟨gx, rfl, hox, hbd⟩
  go_wp2_with fail
  (with_reducible refine (impl_peelB s _ n n L _ (by unfold maxLen; omega) Hn.out (by omega) (hox.mat.more (Nat.zero_le _) (Nat.le_refl _))).mono ?_); rintro e we ⟨g0, A2, c2, rfl, hg0, hown2, hbe⟩
  rw [← Hn.out] at hown2 ⊢
  obtain rfl := eq_of_data2 (hg0.trans W0.out.symm)
  clear hg0
  have hbce := hbd.trans (hbe.mono hbd.size)
  have hbae := hbac.trans (hbce.mono hbac.size)
  go_wp2_with fail
  (with_reducible refine (eqBoolS_v _ _ (peelB s L).2 _ (by rw [peelB_len2, ← Hn.out]; omega) hown2.rowV (hown1.rowV.below hbce)).mono ?_); rintro e w' ⟨rfl, m1, rfl⟩
  go_wp2_with fail
  (with_reducible refine (toMarkS_any A n c L _ Hn.out hn24 (((hat.below hbae).more (Nat.le_refl _) hbae.size).drewN _)).mono ?_); rintro e wf ⟨gf, rfl, hof, hbf⟩
  have hbf' : Below we.heap.size we wf := (below_drewN' (Below.refl _ we) m1).trans hbf
  clear hbf
  go_wp2_with fail
  (with_reducible refine (eqMarkS_true _ _ n n n L _ Hn.out (by omega) ((hox.mat.below (hbe.trans (hbf'.mono hbe.size))).more (Nat.zero_le _) (hbe.trans (hbf'.mono hbe.size)).size) (hof.mat.more (Nat.zero_le _) (Nat.le_refl _))).mono ?_); rintro e wg ⟨rfl, hbg⟩
  have hbeg := hbf'.trans (hbg.mono hbf'.size)
  have hbdg := hbe.trans (hbeg.mono hbe.size)
  have hxg : OwnM wg wc.heap.size 42 (.slice (some ⟨gx, 0, none⟩) n n) L := hox.below hbdg
  have hxlt := World.ownsRow.lt hox gx rfl
  have hxg' : wg.ownsRow wc.heap.size 42 2 (.slice (some ⟨gx, 0, none⟩) n n) n (mcells L) := by have := hxg; unfold OwnM at this; rw [← Hn.out] at this; exact this
  go_wp2_with fail
  (with_reducible refine (markMarkS_any gx n _ _ _ hxg' (by omega)).mono ?_); rintro e wh ⟨⟨rk, rfl⟩, hgh⟩
  have hcd := hbd.size
  have hag : wd.heap.size ≤ wg.heap.size := hbdg.size
  have h1h : Own wh wb.heap.size 4 (.slice A1 n c1) ((peelB s L).2.map Value.bool) := own_grown (base' := wc.heap.size) (hown1.below (hbd.trans (hbdg.mono hbd.size))) hgh (fun g hg => by injection hg with hg; omega) (fun g hg => (World.ownsRow.lt hown1 g hg).2)
  have h2h : Own wh wd.heap.size 4 (.slice A2 n c2) ((peelB s L).2.map Value.bool) := own_grown (base' := we.heap.size) (hown2.below hbeg) hgh (fun g hg => by injection hg with hg; omega) (fun g hg => (World.ownsRow.lt hown2 g hg).2)
  have hbah : Below w.heap.size w wh := (hbae.trans (hbeg.mono hbae.size)).grown hgh (by have := hbae.size; have := hbeg.size; omega) (fun k hk => by injection hk with hk; have := hbac.size; omega)
  go_wp2_with fail
  (with_reducible refine (eqBoolS_v _ _ (peelB s L).2 _ (by rw [peelB_len2, ← Hn.out]; omega) h2h.rowV h1h.rowV).mono ?_); rintro e w' ⟨rfl, m2, rfl⟩
  go_wp2_with fail
  (with_reducible refine (markBoolS_1 _ _ n wd.heap.size _ (own_drewN h2h m2) (by rw [List.length_map, peelB_len2, ← Hn.out]) (by omega)).mono ?_); rintro e wi ⟨rfl, h2i, hgi⟩
  have h1i : Own wi wb.heap.size 4 (.slice A1 n c1) ((peelB s L).2.map Value.bool) := own_grown (base' := wc.heap.size) (own_drewN h1h m2) hgi (fun g hg => by have := (World.ownsRow.lt hown2 g hg).1; omega) (fun g hg => (World.ownsRow.lt hown1 g hg).2)
  have hbai : Below w.heap.size w wi := (below_drewN' hbah m2).grown hgi hbah.size (fun k hk => by have := (World.ownsRow.lt hown2 k hk).1; have := hbac.size; omega)
  go_wp2_with fail
  (with_reducible refine (heldBoolS_1 _ n _ h2i.rowV (by omega)).mono ?_); rintro e w' ⟨rfl, rfl⟩
  go_wp2_with fail
  (with_reducible refine (toMarkS_any A n c L _ Hn.out hn24 ((hat.below hbai).more (Nat.le_refl _) hbai.size)).mono ?_); rintro e wj ⟨gj, rfl, hoj, hbj⟩
  go_wp2_with fail
  (with_reducible refine (impl_peelB s _ n n L _ (by unfold maxLen; omega) Hn.out (by omega) (hoj.mat.more (Nat.zero_le _) (Nat.le_refl _))).mono ?_); rintro e wk ⟨h0, A3, c3, rfl, hh0, hown3, hbk⟩
  rw [← Hn.out] at hown3 ⊢
  obtain rfl := eq_of_data2 (hh0.trans W0.out.symm)
  clear hh0 W0
  have hbik := hbj.trans (hbk.mono hbj.size)
  go_wp2_with fail
  (with_reducible refine (eqBoolS_v _ _ (peelB s L).2 _ (by rw [peelB_len2, ← Hn.out]; omega) hown3.rowV (h1i.rowV.below hbik)).mono ?_); rintro e w' ⟨rfl, m3, rfl⟩
  go_wp2_with fail
  (with_reducible refine (heldBoolS_1 _ n _ ((h2i.rowV.below hbik).drewN _) (by omega)).mono ?_); rintro e w' ⟨rfl, rfl⟩
  go_wp2_with fail
  go_ret
  exact ⟨rfl, below_drewN' (hbai.trans (hbik.mono hbai.size)) _⟩
end Go.Proofs.Ytjpaboomgicjaaa
