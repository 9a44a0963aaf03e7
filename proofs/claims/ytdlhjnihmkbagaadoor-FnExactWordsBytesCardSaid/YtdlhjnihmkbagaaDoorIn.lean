/- The contract of spec.In. Conditions: a set of at most 2 to the 42 bytes. -/
import Derived.Test.YtdlhjnihmkbagaaDoorPieces
namespace Go.Proofs.YtdlhjnihmkbagaaDoor
open Go.RowKit
set_option linter.unusedVariables false

set_option maxHeartbeats 400000 in
theorem specIn_any (set : ByteArray) (x : Nat) (w : World) (hs : set.size ≤ 4398046511104) :
    Calls Tryd.prog 37 #[.string set, .int .i32 (x : Int)] w fun e w' => e = .returned (.bool (inSet set x)) ∧ Below w.heap.size w w' := by
  have hpl : (pcsB set).length ≤ set.size := by rw [Lib.size_eq]; exact pcs_len_le _
  go_enter Tryd.func37, Tryd.ntmps37
  go_wp2_with fail
  (with_reducible refine (pieces_any set _ hs).mono ?_); rintro e w0 ⟨A, n, c, rfl, hn, hat, hb0⟩
  rw [← hn.out] at hpl
  go_wp2
  go_loopw [10] (fun i wx => ∃ k : Nat, k ≤ n ∧ i = .int .i64 k ∧ Hid (inSet set x = ((pcsB set).drop k).any fun q => q.1 == x) ∧ Below w0.heap.size w0 wx) (fun i _ => n - (intOf i).toNat)
  case atStart => exact ⟨0, Nat.zero_le _, rfl, rfl, Below.refl _ _⟩
  case round =>
    obtain ⟨k, hk, rfl, hin, hbw⟩ := hrel
    have hz := hbw.size
    have hz0 := hb0.size
    by_cases hlt : k < n
    · have hk' : k < (pcsB set).length := by rw [← hn.out]; exact hlt
      obtain ⟨b, o, rfl, _, hbl, hc1, hc2⟩ := (hat.below hbw).at_ (i := k) (by rw [List.length_map]; exact hk')
      rw [List.getElem_map] at hc1 hc2
      rw [List.drop_eq_getElem_cons hk', List.any_cons] at hin
      obtain ⟨q, hq⟩ : ∃ q : Pc, q = (pcsB set)[k] := ⟨_, rfl⟩
      rw [← hq] at hc1 hc2 hin
      clear hq
      obtain ⟨r, bs⟩ := q
      simp only [pcV] at hc1 hc2
      by_cases hrx : r = x
      · subst hrx
        go_wp2
        go_ret
        exact ⟨by rw [hin.out]; simp, (hb0.trans (hbw.mono hz0)).alloc (by omega) _⟩
      · have hrx' : (((r : Nat) : Int) == ((x : Nat) : Int)) = false := by rw [beq_eq_false_iff_ne]; omega
        have Hrx := Lib.hid hrx; clear hrx
        go_wp2
        go_roundw
        case rel => exact ⟨k + 1, by omega, by go_num, by rw [Hid, hin.out]; simp [Hrx.out], hbw.alloc hz _⟩
        case measure => simp [intOf]; omega
    · have hkn : k = n := by omega
      go_wp2
      go_ret
      refine ⟨?_, hb0.trans (hbw.mono hz0)⟩
      rw [hin.out, List.drop_of_length_le (by rw [← hn.out]; omega)]
      rfl
end Go.Proofs.YtdlhjnihmkbagaaDoor
