/- Walks of laws on marks: each returns true; old memory as it was. Conditions: the reach of the rows. -/
import Derived.Test.YtjpaboomgicjaaaPeelB
import Derived.Test.YtjpaboomgicjaaaFrameP
import Derived.Test.YtjpaboomgicjaaaSame
namespace Go.Proofs.Ytjpaboomgicjaaa
open Go.RowKit
set_option linter.unusedVariables false

theorem eq_of_data {a b : ByteArray} (h : a.data.toList = b.data.toList) : a = b := by rw [← Lib.mk_data a, ← Lib.mk_data b, h]
theorem below_drewN {B : Nat} {a w : World} (h : Below B a w) (n : Nat) : Below B a (w.drewN n) := ⟨h.os, h.tape, h.output, h.size, h.block⟩
theorem peelB_len (s : ByteArray) (ms : List Mb) : (peelB s ms).2.length = ms.length := by
  unfold peelB; rw [peelL_length, List.length_map]

set_option maxHeartbeats 400000 in
theorem fnPeelBoth_walk {w : World} (s : ByteArray) (hs : s.size ≤ 140737488351232) (A : Option Addr) (n c : Nat) (L : List Mb) (hm : MArg w A n c L) :
    Calls Try.prog 7 #[.string s, .slice A n c] w fun e w' => e = .returned (.bool true) ∧ Below w.heap.size w w' := by
  obtain ⟨hn, hnc, hn24, hsz, hat⟩ := hm
  have Hn := Lib.hid hn; clear hn
  clear hsz
  go_enter Try.func7, Try.ntmps7
  go_wp2_with fail
  (with_reducible refine (impl_peel s A n c L _ (by unfold maxLen; omega) Hn.out (by omega) hat).mono ?_); rintro e w1 ⟨r, A1, c1, rfl, hr, hown1, hb1⟩
  rw [← Hn.out] at hown1 ⊢
  have Hr := Lib.hid hr; clear hr
  go_wp2_with fail
  (with_reducible refine (impl_peelB s A n c L _ (by unfold maxLen; omega) Hn.out (by omega) ((hat.below hb1).more (Nat.le_refl _) hb1.size)).mono ?_); rintro e w2 ⟨q, A2, c2, rfl, hq, hown2, hb2⟩
  rw [← Hn.out] at hown2 ⊢
  obtain rfl := eq_of_data (hq.trans Hr.out.symm)
  clear hq Hr
  go_wp2_with fail
  (with_reducible refine (sameBools_true A1 A2 n c1 c2 0 w2.heap.size (peelB s L).2 _ (by rw [peelB_len]; exact Hn.out) (by omega) ((hown1.below hb2).row.more (Nat.zero_le _) (Nat.le_refl _)) (hown2.row.more (Nat.zero_le _) (Nat.le_refl _))).mono ?_); rintro e w' ⟨rfl, m, rfl⟩
  go_wp2
  go_ret
  exact ⟨rfl, below_drewN (hb1.trans (hb2.mono hb1.size)) _⟩
end Go.Proofs.Ytjpaboomgicjaaa
