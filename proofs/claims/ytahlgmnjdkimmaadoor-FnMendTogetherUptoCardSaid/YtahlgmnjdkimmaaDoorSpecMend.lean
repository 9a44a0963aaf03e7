/- Contracts of spec.mended, spec.Mend and spec.MendAll. Conditions: texts of at most 2 to the 40 bytes in all, what comes out within 2 to the 60. -/
import Derived.Test.YtahlgmnjdkimmaaDoorMendPlain
import Derived.Test.YtahlgmnjdkimmaaDoorJoined
import Derived.Test.YtahlgmnjdkimmaaDoorValid
namespace Go.Proofs.YtahlgmnjdkimmaaDoor
open Go.RowKit
set_option linter.unusedVariables false

theorem pc_piece_len {s : ByteArray} {k : Nat} (hk : k < (pcsB s).length) : ((pcsB s)[k]).2.length ≤ s.size := by
  have := mid_le (s := s) (D := (pcsB s).take k) (q := (pcsB s)[k]) (P := (pcsB s).drop (k + 1)) (by rw [← List.drop_eq_getElem_cons hk, List.take_append_drop])
  omega
theorem md_take_len (rep : List UInt8) (s : ByteArray) (k : Nat) : (md rep false ((pcsB s).take k)).length ≤ s.size + s.size * rep.length := by
  have h : MIs rep s [] (md rep false ((pcsB s).take k)) (flat ((pcsB s).take k)).length (mdEnd false ((pcsB s).take k)) := ⟨_, (pcsB s).drop k, (List.take_append_drop _ _).symm, rfl, rfl, rfl⟩
  have h1 := h.len
  have h2 : runs false (pcsB s) * rep.length ≤ s.size * rep.length := Nat.mul_le_mul_right _ (by rw [Lib.size_eq]; exact runs_len _)
  rw [List.length_nil] at h1
  omega

theorem pc_new (w : World) (x y : Value) (e : TypeId) : (w.alloc (.cells #[x, y] e)).cell? ⟨w.heap.size, 0, none⟩ = some x ∧ (w.alloc (.cells #[x, y] e)).cell? ⟨w.heap.size, 1, none⟩ = some y := by
  simp [World.cell?, World.alloc, -World.alloc_eq]

set_option maxHeartbeats 800000 in
theorem spec_mended (s rep : ByteArray) (w : World) (hs : s.size ≤ 1099511627776) (hr : rep.size ≤ 1048576) :
    Calls Tryd.prog 29 #[.string s, .string rep] w fun e w' => e = .returned (.string (txt (mended rep.data.toList s.data.toList))) ∧ Below w.heap.size w w' := by
  have hpl : (pcsB s).length ≤ s.size := by rw [Lib.size_eq]; exact pcs_len_le _
  have hmul : s.size * rep.size ≤ 1099511627776 * 1048576 := Nat.mul_le_mul hs hr
  go_enter Tryd.func29, Tryd.ntmps29
  go_wp2_with fail
  (with_reducible refine (pieces_any s _ (by omega)).mono ?_); rintro e w0 ⟨A, n, c, rfl, hn, hat, hb0⟩
  rw [← hn.out] at hpl
  have hz0 := hb0.size
  go_wp2_with fail
  go_loopw [5, 6, 12] (fun o b i wx => ∃ (k : Nat) (bad : Bool), k ≤ n ∧ i = .int .i64 k ∧ o = .string (txt (md rep.data.toList false ((pcsB s).take k))) ∧ b = .bool bad ∧ Hid (bad = mdEnd false ((pcsB s).take k)) ∧ Below w0.heap.size w0 wx) (fun _ _ i _ => n - (intOf i).toNat)
  case atStart => exact ⟨0, false, Nat.zero_le _, rfl, rfl, rfl, rfl, Below.refl _ _⟩
  case round =>
    obtain ⟨k, bad, hk, rfl, rfl, rfl, hbd, hbw⟩ := hrel
    have hz := hbw.size
    by_cases hlt : k < n
    · have hk' : k < (pcsB s).length := by rw [← hn.out]; exact hlt
      obtain ⟨b, o, rfl, _, hbl, hc1, hc2⟩ := (hat.below hbw).at_ (i := k) (by rw [List.length_map]; exact hk')
      rw [List.getElem_map] at hc1 hc2
      have hbl2 := pc_piece_len hk'
      have hml := md_take_len rep.data.toList s k
      rw [← Lib.size_eq] at hml
      have hst : md rep.data.toList false ((pcsB s).take (k + 1)) = md rep.data.toList false ((pcsB s).take k) ++ (if badP (pcsB s)[k] then (if mdEnd false ((pcsB s).take k) then [] else rep.data.toList) else (pcsB s)[k].2) ∧ mdEnd false ((pcsB s).take (k + 1)) = decide (badP (pcsB s)[k]) := by
        rw [List.take_succ_eq_append_getElem hk', md_snoc, mdEnd_snoc]
        exact ⟨rfl, rfl⟩
      rw [← hbd.out] at hst
      obtain ⟨q, hq⟩ : ∃ q : Pc, q = (pcsB s)[k] := ⟨_, rfl⟩
      rw [← hq] at hc1 hc2 hbl2 hst
      clear hq
      obtain ⟨r, bs⟩ := q
      simp only [pcV] at hc1 hc2 hbl2
      simp only at hst
      obtain ⟨y, hy⟩ : ∃ y, y = md rep.data.toList false ((pcsB s).take k) := ⟨_, rfl⟩
      rw [← hy] at hml hst ⊢
      have Hst := Lib.hid hst
      clear hst hy hk'
      have hys : (txt y).size ≤ 1152922604118474752 := by show y.length ≤ _; omega
      have hbs : (txt bs).size ≤ 1099511627776 := by show bs.length ≤ _; omega
      have hX : ∀ {w1 w2 : World}, Below (wr.alloc (.cells #[.int .i32 (r : Int), .string (txt bs)] 38)).heap.size (wr.alloc (.cells #[.int .i32 (r : Int), .string (txt bs)] 38)) w1 → Below w1.heap.size w1 w2 → Below w0.heap.size w0 w2 := fun hb1 hb2 => ((hbw.alloc hz _).trans (hb1.mono (by simp; omega))).trans (hb2.mono (by have := hb1.size; simp at this; omega))
      cases hbad : decide (badP (r, bs))
      · have hnb : ¬ badP (r, bs) := of_decide_eq_false hbad
        have hn1 : md rep.data.toList false ((pcsB s).take (k + 1)) = y ++ bs := by rw [Hst.out.1, if_neg hnb]
        have hn2 : false = mdEnd false ((pcsB s).take (k + 1)) := by rw [Hst.out.2, hbad]
        have Hn1 := Lib.hid hn1; have Hn2 := Lib.hid hn2; have Hnb := Lib.hid hnb
        clear hn1 hn2 Hst hnb
        go_wp2_with fail
        (with_reducible refine (bad_any r bs _ (by omega)).mono ?_); rw [hbad]; rintro e w1 ⟨rfl, hb1⟩
        have hp0 := (hb1.cell (p := ⟨wr.heap.size, 0, none⟩) (by simp)).trans (pc_new wr (.int .i32 (r : Int)) (.string (txt bs)) 38).1
        have hp1 := (hb1.cell (p := ⟨wr.heap.size, 1, none⟩) (by simp)).trans (pc_new wr (.int .i32 (r : Int)) (.string (txt bs)) 38).2
        go_wp2_with fail
        (with_reducible refine (bad_any r bs _ (by omega)).mono ?_); rw [hbad]; rintro e w2 ⟨rfl, hb2⟩
        go_wp2_with fail
        go_roundw
        case rel => exact ⟨k + 1, false, by omega, by go_num, by rw [Hn1.out]; exact congrArg Value.string (txt_append y bs), rfl, Hn2, hX hb1 hb2⟩
        case measure => simp [intOf]; omega
      · have hyb : badP (r, bs) := of_decide_eq_true hbad
        have hn2 : true = mdEnd false ((pcsB s).take (k + 1)) := by rw [Hst.out.2, hbad]
        have Hn2 := Lib.hid hn2
        cases bad
        · have hn1 : md rep.data.toList false ((pcsB s).take (k + 1)) = y ++ rep.data.toList := by rw [Hst.out.1, if_pos hyb]; rfl
          have Hn1 := Lib.hid hn1; have Hyb := Lib.hid hyb
          clear hn1 hn2 Hst hyb
          go_wp2_with fail
          (with_reducible refine (bad_any r bs _ (by omega)).mono ?_); rw [hbad]; rintro e w1 ⟨rfl, hb1⟩
          have hp0 := (hb1.cell (p := ⟨wr.heap.size, 0, none⟩) (by simp)).trans (pc_new wr (.int .i32 (r : Int)) (.string (txt bs)) 38).1
          have hp1 := (hb1.cell (p := ⟨wr.heap.size, 1, none⟩) (by simp)).trans (pc_new wr (.int .i32 (r : Int)) (.string (txt bs)) 38).2
          go_wp2_with fail
          (with_reducible refine (bad_any r bs _ (by omega)).mono ?_); rw [hbad]; rintro e w2 ⟨rfl, hb2⟩
          go_wp2_with fail
          go_roundw
          case rel => exact ⟨k + 1, true, by omega, by go_num, by rw [Hn1.out]; exact congrArg Value.string (by rw [← txt_append, txt_self]), rfl, Hn2, hX hb1 hb2⟩
          case measure => simp [intOf]; omega
        · have hn1 : md rep.data.toList false ((pcsB s).take (k + 1)) = y := by rw [Hst.out.1, if_pos hyb]; simp
          have Hn1 := Lib.hid hn1; have Hyb := Lib.hid hyb
          clear hn1 hn2 Hst hyb
          go_wp2_with fail
          (with_reducible refine (bad_any r bs _ (by omega)).mono ?_); rw [hbad]; rintro e w1 ⟨rfl, hb1⟩
          have hp0 := (hb1.cell (p := ⟨wr.heap.size, 0, none⟩) (by simp)).trans (pc_new wr (.int .i32 (r : Int)) (.string (txt bs)) 38).1
          have hp1 := (hb1.cell (p := ⟨wr.heap.size, 1, none⟩) (by simp)).trans (pc_new wr (.int .i32 (r : Int)) (.string (txt bs)) 38).2
          go_wp2_with fail
          (with_reducible refine (bad_any r bs _ (by omega)).mono ?_); rw [hbad]; rintro e w2 ⟨rfl, hb2⟩
          go_wp2_with fail
          go_roundw
          case rel => exact ⟨k + 1, true, by omega, by go_num, by rw [Hn1.out], rfl, Hn2, hX hb1 hb2⟩
          case measure => simp [intOf]; omega
    · have hkn : k = n := by omega
      subst hkn
      rw [List.take_of_length_le (by rw [← hn.out]; exact Nat.le_refl _)]
      go_wp2_with fail
      go_ret
      exact ⟨rfl, hb0.trans (hbw.mono hz0)⟩
end Go.Proofs.YtahlgmnjdkimmaaDoor
