/- The walks of the laws FnExactShave and FnExactShaveBytes: they return true; old memory as it was. Conditions: the reach of the rows; the tables of the rows. -/
import Derived.Test.YthgigchablajbaaDoorExSt
import Derived.Test.YthgigchablajbaaDoorSpecShave
import Derived.Test.YthgigchablajbaaDoorShaveBoth
namespace Go.Proofs.YthgigchablajbaaDoor
open Go.RowKit
set_option linter.unusedVariables false

theorem spec_shaveB (s : ByteArray) (A : Option Addr) (n c : Nat) (L : List St) (w : World) (hn : Hid (n = L.length)) (hnl : n ≤ 1048576) (hL : ∀ x ∈ L, x.2.length ≤ 1048576 ∧ -9223372036854775808 ≤ x.1 ∧ x.1 ≤ 9223372036854775807) (hr : PAt w 0 w.heap.size A (L.map stV)) (hs : s.size ≤ 1048576) :
    Calls Tryd.prog 18 #[.string s, .slice A n c] w (StrPost (shaved L s.data.toList) w) := by
  have HL := Lib.hid hL; have Hrow := Lib.hid hr; clear hL hr
  go_enter Tryd.func18, Tryd.ntmps18
  go_wp2_with fail
  (with_reducible refine (spec_shave s A n c L _ hn hnl HL.out Hrow.out hs).mono ?_); rintro e w1 ⟨rfl, hb1⟩
  go_wp2_with fail
  go_ret
  exact ⟨rfl, hb1⟩

set_option maxHeartbeats 800000 in
theorem fnExactShave_walk {w : World} (s : ByteArray) (hs : s.size ≤ 140737488351232) (A : Option Addr) (n c : Nat) (L : List St) (hm : QArg w A n c L) (hT : TabsS w) :
    Calls Tryd.prog 6 #[.string s, .slice A n c] w fun e w' => e = .returned (.bool true) ∧ Below w.heap.size w w' := by
  have hok := Lib.hid (steps_ok hm)
  obtain ⟨hn, hnc, hn24, hsz, hat⟩ := hm
  have Hn := Lib.hid hn; have Hsz := Lib.hid (fun m (h : m ∈ L) => (hsz m h).1); have Hsi := Lib.hid (fun m (h : m ∈ L) => (hsz m h).2)
  clear hn hsz
  by_cases hbig : 1048576 < s.size
  · go_enter Tryd.func6, Tryd.ntmps6
    go_wp2_with fail
    go_ret
    exact ⟨rfl, Below.refl _ _⟩
  have hs1 : s.size ≤ 1048576 := by omega
  go_enter Tryd.func6, Tryd.ntmps6
  go_wp2_with fail
  (with_reducible refine (szStepS_any A n c L _ Hn.out hn24 Hsz.out hat).mono ?_); rintro e wa ⟨⟨r, rfl, hr⟩, hba⟩
  by_cases hr0 : r < 0
  · clear hr
    go_wp2_with fail
    go_ret
    exact ⟨rfl, hba⟩
  have hbk : bulkQ L ≤ 1048576 := by have := hr (by omega); omega
  have hnl : n ≤ 1048576 := by have := bulkQ_len L; rw [← Hn.out] at this; omega
  have Hl : Hid (∀ x ∈ L, x.2.length ≤ 1048576 ∧ -9223372036854775808 ≤ x.1 ∧ x.1 ≤ 9223372036854775807) := fun x hx => ⟨by have := bulkQ_mem hx; omega, Hsi.out x hx⟩
  clear hr hbk
  obtain ⟨l, hl⟩ : ∃ l, l = shaved L s.data.toList := ⟨_, rfl⟩
  go_wp2_with fail
  (with_reducible refine (toStepS_any A n c L _ Hn.out hn24 ((hat.below hba).more (Nat.le_refl _) hba.size)).mono ?_); rintro e wb ⟨gb, rfl, hob, hbb⟩
  have hrb := hob.pat.more (Nat.zero_le _) (Nat.le_refl _)
  clear hob
  go_wp2_with fail
  (with_reducible refine (spec_shave s _ n n L _ Hn hnl Hl.out hrb hs1).mono ?_); rintro e wc ⟨rfl, hbc⟩
  rw [← hl]
  have hbac := hba.trans ((hbb.trans (hbc.mono hbb.size)).mono hba.size)
  go_wp2_with fail
  (with_reducible refine (toStepS_any A n c L _ Hn.out hn24 ((hat.below hbac).more (Nat.le_refl _) hbac.size)).mono ?_); rintro e wd ⟨gx, rfl, hox, hbd⟩
  have hrx := hox.pat.more (Nat.zero_le _) (Nat.le_refl _)
  clear hox
  have hbad := hbac.trans (hbd.mono hbac.size)
  go_wp2_with fail
  (with_reducible refine (impl_shave s _ n n L _ Hn (by omega) hok.out hrx (by omega) (hT.below hbad)).mono ?_); rintro e we ⟨rfl, hbe⟩
  rw [← hl]
  have Hl2 := Lib.hid hl; clear hl
  have hbae := hbad.trans (hbe.mono hbad.size)
  go_wp2_with fail
  (with_reducible refine (toStepS_any A n c L _ Hn.out hn24 ((hat.below hbae).more (Nat.le_refl _) hbae.size)).mono ?_); rintro e wf ⟨gf, rfl, hof, hbf⟩
  have hrf := hof.pat.more (Nat.zero_le _) (Nat.le_refl _)
  clear hof
  have hbef := hbe.trans (hbf.mono hbe.size)
  go_wp2_with fail
  (with_reducible refine (eqStepS_true _ _ n n n L _ Hn.out (by omega) ((hrx.below hbef).more (Nat.le_refl _) hbef.size) hrf).mono ?_); rintro e wg ⟨rfl, hbg⟩
  have hbaf := hbae.trans (hbf.mono hbae.size)
  go_wp2_with fail
  go_ret
  exact ⟨rfl, hbaf.trans (hbg.mono hbaf.size)⟩

set_option maxHeartbeats 800000 in
theorem fnExactShaveBytes_walk {w : World} (s : ByteArray) (hs : s.size ≤ 140737488351232) (A : Option Addr) (n c : Nat) (L : List St) (hm : QArg w A n c L) (hT : TabsB w) :
    Calls Tryd.prog 7 #[.string s, .slice A n c] w fun e w' => e = .returned (.bool true) ∧ Below w.heap.size w w' := by
  have hok := Lib.hid (steps_ok hm)
  obtain ⟨hn, hnc, hn24, hsz, hat⟩ := hm
  have Hn := Lib.hid hn; have Hsz := Lib.hid (fun m (h : m ∈ L) => (hsz m h).1); have Hsi := Lib.hid (fun m (h : m ∈ L) => (hsz m h).2)
  clear hn hsz
  by_cases hbig : 1048576 < s.size
  · go_enter Tryd.func7, Tryd.ntmps7
    go_wp2_with fail
    go_ret
    exact ⟨rfl, Below.refl _ _⟩
  have hs1 : s.size ≤ 1048576 := by omega
  go_enter Tryd.func7, Tryd.ntmps7
  go_wp2_with fail
  (with_reducible refine (szStepS_any A n c L _ Hn.out hn24 Hsz.out hat).mono ?_); rintro e wa ⟨⟨r, rfl, hr⟩, hba⟩
  by_cases hr0 : r < 0
  · clear hr
    go_wp2_with fail
    go_ret
    exact ⟨rfl, hba⟩
  have hbk : bulkQ L ≤ 1048576 := by have := hr (by omega); omega
  have hnl : n ≤ 1048576 := by have := bulkQ_len L; rw [← Hn.out] at this; omega
  have Hl : Hid (∀ x ∈ L, x.2.length ≤ 1048576 ∧ -9223372036854775808 ≤ x.1 ∧ x.1 ≤ 9223372036854775807) := fun x hx => ⟨by have := bulkQ_mem hx; omega, Hsi.out x hx⟩
  clear hr hbk
  obtain ⟨l, hl⟩ : ∃ l, l = shaved L s.data.toList := ⟨_, rfl⟩
  go_wp2_with fail
  (with_reducible refine (toStepS_any A n c L _ Hn.out hn24 ((hat.below hba).more (Nat.le_refl _) hba.size)).mono ?_); rintro e wb ⟨gb, rfl, hob, hbb⟩
  have hrb := hob.pat.more (Nat.zero_le _) (Nat.le_refl _)
  clear hob
  go_wp2_with fail
  (with_reducible refine (spec_shaveB s _ n n L _ Hn hnl Hl.out hrb hs1).mono ?_); rintro e wc ⟨rfl, hbc⟩
  rw [← hl]
  have hbac := hba.trans ((hbb.trans (hbc.mono hbb.size)).mono hba.size)
  go_wp2_with fail
  (with_reducible refine (toStepS_any A n c L _ Hn.out hn24 ((hat.below hbac).more (Nat.le_refl _) hbac.size)).mono ?_); rintro e wd ⟨gx, rfl, hox, hbd⟩
  have hrx := hox.pat.more (Nat.zero_le _) (Nat.le_refl _)
  clear hox
  have hbad := hbac.trans (hbd.mono hbac.size)
  go_wp2_with fail
  (with_reducible refine (impl_shaveB s _ n n L _ Hn (by omega) hok.out hrx (by omega) (hT.below hbad)).mono ?_); rintro e we ⟨rfl, hbe⟩
  rw [← hl]
  have Hl2 := Lib.hid hl; clear hl
  have hbae := hbad.trans (hbe.mono hbad.size)
  go_wp2_with fail
  (with_reducible refine (toStepS_any A n c L _ Hn.out hn24 ((hat.below hbae).more (Nat.le_refl _) hbae.size)).mono ?_); rintro e wf ⟨gf, rfl, hof, hbf⟩
  have hrf := hof.pat.more (Nat.zero_le _) (Nat.le_refl _)
  clear hof
  have hbef := hbe.trans (hbf.mono hbe.size)
  go_wp2_with fail
  (with_reducible refine (eqStepS_true _ _ n n n L _ Hn.out (by omega) ((hrx.below hbef).more (Nat.le_refl _) hbef.size) hrf).mono ?_); rintro e wg ⟨rfl, hbg⟩
  have hbaf := hbae.trans (hbf.mono hbae.size)
  go_wp2_with fail
  go_ret
  exact ⟨rfl, hbaf.trans (hbg.mono hbaf.size)⟩
end Go.Proofs.YthgigchablajbaaDoor
