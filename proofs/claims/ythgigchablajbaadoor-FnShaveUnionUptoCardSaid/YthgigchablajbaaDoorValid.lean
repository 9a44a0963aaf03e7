/- The contracts of spec.Piece's Bad and of spec.Valid. Conditions: a text of at most 2 to the 42 bytes. -/
import Derived.Test.YthgigchablajbaaDoorPieces
namespace Go.Proofs.YthgigchablajbaaDoor
open Go.RowKit
set_option linter.unusedVariables false

/-- no piece is a bad byte -/
def okB (s : ByteArray) : Bool := (pcsB s).all fun q => !decide (badP q)

theorem bad_any (r : Nat) (bs : List UInt8) (w : World) (hl : bs.length ≤ 4398046511104) :
    Calls Tryd.prog 36 #[.agg #[.int .i32 (r : Int), .string (txt bs)]] w fun e w' => e = .returned (.bool (decide (badP (r, bs)))) ∧ Below w.heap.size w w' := by
  go_enter Tryd.func36, Tryd.ntmps36
  go_wp2
  · go_ret
    refine ⟨?_, (Below.refl _ _).alloc (Nat.le_refl _) _⟩
    have hr : r = 65533 := by omega
    have e : (((txt bs).size : Int) == 1) = decide (badP (r, bs)) := by
      show (((bs.length : Nat) : Int) == 1) = decide (r = 65533 ∧ bs.length = 1)
      rw [Bool.eq_iff_iff, beq_iff_eq, decide_eq_true_iff]
      omega
    rw [← e]; rfl
  · go_ret
    refine ⟨?_, (Below.refl _ _).alloc (Nat.le_refl _) _⟩
    have hr : ¬ r = 65533 := by omega
    have e : false = decide (badP (r, bs)) := by
      symm
      show decide (r = 65533 ∧ bs.length = 1) = false
      simp [hr]
    rw [← e]; rfl
set_option maxHeartbeats 400000 in
theorem valid_any (s : ByteArray) (w : World) (hs : s.size ≤ 4398046511104) :
    Calls Tryd.prog 13 #[.string s] w fun e w' => e = .returned (.bool (okB s)) ∧ Below w.heap.size w w' := by
  have hpl : (pcsB s).length ≤ s.size := by rw [Lib.size_eq]; exact pcs_len_le _
  go_enter Tryd.func13, Tryd.ntmps13
  go_wp2_with fail
  (with_reducible refine (pieces_any s _ hs).mono ?_); rintro e w0 ⟨A, n, c, rfl, hn, hat, hb0⟩
  rw [← hn.out] at hpl
  go_wp2_with fail
  go_loopw [8] (fun i wx => ∃ k : Nat, k ≤ n ∧ i = .int .i64 k ∧ Hid (okB s = ((pcsB s).drop k).all fun q => !decide (badP q)) ∧ Below w0.heap.size w0 wx) (fun i _ => n - (intOf i).toNat)
  case atStart => exact ⟨0, Nat.zero_le _, rfl, rfl, Below.refl _ _⟩
  case round =>
    obtain ⟨k, hk, rfl, hin, hbw⟩ := hrel
    have hz := hbw.size
    have hz0 := hb0.size
    by_cases hlt : k < n
    · have hk' : k < (pcsB s).length := by rw [← hn.out]; exact hlt
      obtain ⟨b, o, rfl, _, hbl, hc1, hc2⟩ := (hat.below hbw).at_ (i := k) (by rw [List.length_map]; exact hk')
      rw [List.getElem_map] at hc1 hc2
      rw [List.drop_eq_getElem_cons hk', List.all_cons] at hin
      have hbl2 : ((pcsB s)[k]).2.length ≤ s.size := by
        have := mid_le (s := s) (D := (pcsB s).take k) (q := (pcsB s)[k]) (P := (pcsB s).drop (k + 1)) (by rw [← List.drop_eq_getElem_cons hk', List.take_append_drop])
        omega
      obtain ⟨q, hq⟩ : ∃ q : Pc, q = (pcsB s)[k] := ⟨_, rfl⟩
      rw [← hq] at hc1 hc2 hin hbl2
      clear hq
      obtain ⟨r, bs⟩ := q
      simp only [pcV] at hc1 hc2 hbl2
      have Hin := Lib.hid hin.out; clear hin
      cases hbad : decide (badP (r, bs))
      · go_wp2_with (go_at_call 36; (with_reducible refine (bad_any r bs _ (by omega)).mono ?_); rw [hbad]; rintro e w1 ⟨rfl, hb1⟩)
        go_roundw
        case rel => exact ⟨k + 1, by omega, by go_num, by rw [Hid, Hin.out, hbad]; rfl, (hbw.alloc hz _).trans (hb1.mono (by simp; omega))⟩
        case measure => simp [intOf]; omega
      · go_wp2_with (go_at_call 36; (with_reducible refine (bad_any r bs _ (by omega)).mono ?_); rw [hbad]; rintro e w1 ⟨rfl, hb1⟩)
        go_ret
        exact ⟨by rw [Hin.out, hbad]; rfl, (hb0.trans ((hbw.alloc hz _).mono hz0)).trans (hb1.mono (by simp; omega))⟩
    · have hkn : k = n := by omega
      go_wp2_with fail
      go_ret
      refine ⟨?_, hb0.trans (hbw.mono hz0)⟩
      rw [hin.out, List.drop_of_length_le (by rw [← hn.out]; omega)]
      rfl
end Go.Proofs.YthgigchablajbaaDoor
