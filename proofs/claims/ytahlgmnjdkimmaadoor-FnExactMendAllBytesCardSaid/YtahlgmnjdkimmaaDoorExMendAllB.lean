/- The walk of the law FnExactMendAllBytes: it returns true; old memory as it was. Conditions: the reach of the rows; the tables of utf8. -/
import Derived.Test.YtahlgmnjdkimmaaDoorMendImpl
import Derived.Test.YtahlgmnjdkimmaaDoorExT
import Derived.Test.YtahlgmnjdkimmaaDoorFrameUT
namespace Go.Proofs.YtahlgmnjdkimmaaDoor
open Go.RowKit
set_option linter.unusedVariables false

theorem flatten_bulk (L : List (List UInt8)) : L.flatten.length ≤ bulkT L := by
  induction L with
  | nil => exact Nat.zero_le _
  | cons x L ih => simp only [bulkT, List.map_cons, List.sum_cons, List.flatten_cons, List.length_append] at ih ⊢; omega
set_option maxRecDepth 100000 in
set_option maxHeartbeats 3200000 in
theorem fnExactMendAllBytes_walk {w : World} (A : Option Addr) (n c : Nat) (L : List (List UInt8)) (hm : TArg w A n c L) (s : ByteArray) (hs : s.size ≤ 140737488351232) (hT : Tabs w) :
    Calls Tryd.prog 3 #[.slice A n c, .string s] w fun e w' => e = .returned (.bool true) ∧ Below w.heap.size w w' := by
  obtain ⟨hn, hnc, hn16, hsz, hat⟩ := hm
  have Hn := Lib.hid hn; have Hsz := Lib.hid hsz
  clear hn hsz
  by_cases hbig : 1048576 < s.size
  · go_enter Tryd.func3, Tryd.ntmps3
    go_wp2_with fail
    go_ret
    exact ⟨rfl, Below.refl _ _⟩
  go_enter Tryd.func3, Tryd.ntmps3
  go_wp2_with fail
  (with_reducible refine (szStringS_any A n c L _ Hn.out hn16 Hsz.out hat).mono ?_); rintro e w' ⟨⟨r, rfl, hr⟩, rfl⟩
  by_cases hr0 : r < 0
  · clear hr
    go_wp2_with fail
    go_ret
    exact ⟨rfl, Below.refl _ _⟩
  have hbk : bulkT L ≤ 1048576 := by have := hr (by omega); omega
  have hnl : n ≤ 1048576 := by have := bulkT_len L; rw [← Hn.out] at this; omega
  have hfl : L.flatten.length ≤ 1048576 := by have := flatten_bulk L; omega
  have hfit : L.flatten.length + L.flatten.length * s.size ≤ 70368744177664 := by
    have h2 : L.flatten.length * s.size ≤ 1048576 * 1048576 := Nat.mul_le_mul hfl (by omega)
    omega
  have Hfl := Lib.hid hfl; have Hfit := Lib.hid hfit
  clear hr hbk hfl hfit
  go_wp2_with fail
  (with_reducible refine (toStringS_any A n c L _ Hn.out hn16 hat).mono ?_); rintro e wb ⟨gb, rfl, hob, hbb⟩
  go_wp2_with fail
  (with_reducible refine (spec_mendAllB _ n n L s _ Hn (by omega) (Nat.le_refl _) Hfl.out (by omega) (hob.row.more (Nat.zero_le _) (Nat.le_refl _))).mono ?_); rintro e wc ⟨rfl, hbc⟩
  have hbac := hbb.trans (hbc.mono hbb.size)
  go_wp2_with fail
  (with_reducible refine (toStringS_any A n c L _ Hn.out hn16 ((hat.below hbac).more (Nat.le_refl _) hbac.size)).mono ?_); rintro e wd ⟨gx, rfl, hox, hbd⟩
  have hbad := hbac.trans (hbd.mono hbac.size)
  go_wp2_with fail
  (with_reducible refine (impl_mendAllB _ n n L s _ Hn (by omega) Hfit.out (by omega) (hox.row.more (Nat.zero_le _) (Nat.le_refl _)) (hT.below hbad)).mono ?_); rintro e we ⟨rfl, hbe⟩
  have hbae := hbad.trans (hbe.mono hbad.size)
  go_wp2_with fail
  (with_reducible refine (toStringS_any A n c L _ Hn.out hn16 ((hat.below hbae).more (Nat.le_refl _) hbae.size)).mono ?_); rintro e wf ⟨gf, rfl, hof, hbf⟩
  have hbaf := hbae.trans (hbf.mono hbae.size)
  have hbdf := hbe.trans (hbf.mono hbe.size)
  go_wp2_with fail
  (with_reducible refine (eqTexts_v _ _ L _ (by rw [← Hn.out]; omega) (hox.rowV.below hbdf) hof.rowV).mono ?_); rintro e w' ⟨rfl, m2, rfl⟩
  go_wp2_with fail
  go_ret
  exact ⟨rfl, below_drewN' hbaf m2⟩
end Go.Proofs.YtahlgmnjdkimmaaDoor
