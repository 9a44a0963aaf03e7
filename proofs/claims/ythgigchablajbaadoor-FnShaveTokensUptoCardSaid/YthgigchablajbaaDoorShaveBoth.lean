/- The walks of the laws FnShaveBoth and FnShaveSides: they return true; old memory as it was. Conditions: the reach of the rows. -/
import Derived.Test.YthgigchablajbaaDoorShave
import Derived.Test.YthgigchablajbaaDoorBegins
import Derived.Test.YthgigchablajbaaDoorFrameQ
namespace Go.Proofs.YthgigchablajbaaDoor
open Go.RowKit
set_option linter.unusedVariables false

theorem shaved_a : shaved [] [97] = [97] := shaved_nil _
theorem pat_nil (w : World) (lo hi : Nat) (A : Option Addr) : PAt w lo hi A (([] : List St).map stV) := fun h => absurd rfl h
theorem shave_a (w : World) (hT : TabsS w) : Calls Tryd.prog 11 #[.string ⟨#[97]⟩, .slice none 0 0] w fun e w' => e = .returned (.string ⟨#[97]⟩) ∧ Below w.heap.size w w' := by
  have h := impl_shave ⟨#[97]⟩ none 0 0 [] w rfl (by omega) (fun x hx => by cases hx) (pat_nil _ _ _ _) (by decide) hT
  unfold StrPost at h
  rw [show shaved [] (⟨#[97]⟩ : ByteArray).data.toList = [97] from shaved_a] at h
  exact h
theorem shaveB_a (w : World) (hT : TabsB w) : Calls Tryd.prog 12 #[.string ⟨#[97]⟩, .slice none 0 0] w fun e w' => e = .returned (.string ⟨#[97]⟩) ∧ Below w.heap.size w w' := by
  have h := impl_shaveB ⟨#[97]⟩ none 0 0 [] w rfl (by omega) (fun x hx => by cases hx) (pat_nil _ _ _ _) (by decide) hT
  unfold StrPost at h
  rw [show shaved [] (⟨#[97]⟩ : ByteArray).data.toList = [97] from shaved_a] at h
  exact h
theorem steps_ok {W : World} {A : Option Addr} {n c : Nat} {L : List St} (h : QArg W A n c L) : ∀ x ∈ L, StOk x := fun x hx => by
  have := h.2.2.2.1 x hx
  exact ⟨by omega, this.2.1, this.2.2⟩

set_option maxHeartbeats 400000 in
theorem fnShaveBoth_walk {w : World} (s : ByteArray) (hs : s.size ≤ 140737488351232) (A : Option Addr) (n c : Nat) (L : List St) (hm : QArg w A n c L) (hT : TabsA w) :
    Calls Tryd.prog 9 #[.string s, .slice A n c] w fun e w' => e = .returned (.bool true) ∧ Below w.heap.size w w' := by
  have hok := Lib.hid (steps_ok hm)
  obtain ⟨hn, hnc, hn24, hsz, hat⟩ := hm
  have Hn := Lib.hid hn
  have hnl : n ≤ 140737488355328 := by omega
  have hs' : s.size ≤ 140737488355328 := by omega
  have hTS : TabsS w := hT.1
  have hTB : TabsB w := hT.2
  have Hat := Lib.hid hat
  have hst := Lib.hid (shaved_stands L s.data.toList)
  clear hn hsz hat hn24
  obtain ⟨l, hl⟩ : ∃ l, l = shaved L s.data.toList := ⟨_, rfl⟩
  go_enter Tryd.func9, Tryd.ntmps9
  go_wp2_with fail
  (with_reducible refine (impl_shave s A n c L _ Hn hnl hok.out Hat.out hs' hTS).mono ?_); rintro e w1 ⟨rfl, hb1⟩
  rw [← hl]
  go_wp2_with fail
  (with_reducible refine (impl_shaveB s A n c L _ Hn hnl hok.out ((Hat.out.below hb1).more (Nat.le_refl _) hb1.size) hs' (hTB.below hb1)).mono ?_); rintro e w2 ⟨rfl, hb2⟩
  have hB2 := hb1.trans (hb2.mono hb1.size)
  rw [← hl]
  have Hl := Lib.hid hl; clear hl
  go_wp2_with fail
  (with_reducible refine (stands_any s (txt l) _ hs' (by rw [txt_data, Hl.out]; exact hst.out)).mono ?_); rintro e w' ⟨rfl, rfl⟩
  go_wp2_with fail
  (with_reducible refine (shave_a _ (hTS.below hB2)).mono ?_); rintro e w3 ⟨rfl, hb3⟩
  have hB3 := hB2.trans (hb3.mono hB2.size)
  go_wp2_with fail
  go_ret
  exact ⟨rfl, hB3⟩
end Go.Proofs.YthgigchablajbaaDoor
