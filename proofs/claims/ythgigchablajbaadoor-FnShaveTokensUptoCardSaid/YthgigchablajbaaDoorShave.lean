/- Contracts of impl.at, impl.Shave and impl.ShaveBytes: the steps, one after the other. Conditions: lengths within 2 to the 47; the tables of utf8 and of white space. -/
import Derived.Test.YthgigchablajbaaDoorTrimAll
import Derived.Test.YthgigchablajbaaDoorSpaceB
import Derived.Test.YthgigchablajbaaDoorSetIn
import Derived.Test.YthgigchablajbaaDoorFrameQ
namespace Go.Proofs.YthgigchablajbaaDoor
open Go.RowKit
set_option linter.unusedVariables false

theorem at_mod (i n : Int) (hn : 0 < n) : (i.tmod n + n).tmod n = i % n := by
  have h1 := Int.tmod_lt_of_pos i hn
  have h2 : -n < i.tmod n := by
    have := Int.tmod_lt_of_pos (-i) hn
    rw [Int.neg_tmod] at this
    omega
  rw [Int.tmod_eq_emod_of_nonneg (by omega), Int.add_emod_right]
  rw [Int.tmod_def, Int.sub_mul_emod_self_left]
theorem implAt (i j : Int) (w : World) (hi : -9223372036854775808 ≤ i ∧ i ≤ 9223372036854775807) (hj : i % 4 = j) :
    Calls Tryd.prog 25 #[.int .i64 i, .int .i64 4] w fun e w' => e = .returned (.int .i64 j) ∧ w = w' := by
  have h1 := Int.tmod_lt_of_pos i (show (0 : Int) < 4 by decide)
  have h2 : -4 < i.tmod 4 := by
    have := Int.tmod_lt_of_pos (-i) (show (0 : Int) < 4 by decide)
    rw [Int.neg_tmod] at this
    omega
  obtain ⟨hi1, hi2⟩ := hi
  have Hj := Lib.hid hj; clear hj
  go_enter Tryd.func25, Tryd.ntmps25
  go_wp2
  go_ret
  refine ⟨?_, rfl⟩
  rw [← Hj.out, ← Int.tmod_eq_emod_of_nonneg (by omega), at_mod i 4 (by decide)]; rfl

def StOk (x : St) : Prop := x.2.length ≤ 140737488355328 ∧ -9223372036854775808 ≤ x.1 ∧ x.1 ≤ 9223372036854775807
theorem trimF_txt (p : Nat → Bool) (s : ByteArray) : Lib.trimF p s = txt (flat (trimB p (pcsB s))) := by
  unfold trimB
  rw [← trimBoth_pcs]
  exact (Lib.mk_data _).symm
theorem trimLF_txt (p : Nat → Bool) (s : ByteArray) : Lib.trimLeftF p s = txt (flat (trimL p (pcsB s))) := by
  rw [← trimLeft_pcs]
  exact (Lib.mk_data _).symm
theorem trimRF_txt (p : Nat → Bool) (s : ByteArray) : Lib.trimRightF p s = txt (flat (trimR p (pcsB s))) := by
  rw [← trimRight_pcs]
  exact (Lib.mk_data _).symm
/-- a step of the loop -/
theorem shave_next {L : List St} {k : Nat} {x : St} {l : List UInt8} {rest : ByteArray} (hk : k < L.length) (hx : x = L[k]) (hr : rest = txt (shaved (L.take k) l)) : txt (flat (stepP x (pcsB rest))) = txt (shaved (L.take (k + 1)) l) := by
  rw [List.take_succ_eq_append_getElem hk, ← hx, shaved_snoc, hr]
  rfl
theorem shave_le {L : List St} {l : List UInt8} {rest s : ByteArray} (hr : rest = txt (shaved L l)) (hl : l = s.data.toList) : rest.size ≤ s.size := by
  rw [hr, txt_size', Lib.size_eq, ← hl]
  exact shaved_len _ _
theorem in_trimB (set s : ByteArray) (b : Nat) (w : World) (hs : s.size ≤ 140737488355328) (hT : Tabs w) (hc : w.cell? ⟨b, 0, none⟩ = some (.string set)) :
    Calls Tryd.prog 26 #[.string s, .func (.func 43) #[] #[.pointer (some ⟨b, 0, none⟩)]] w fun e w' => e = .returned (.string (txt (flat (trimB (inSet set) (pcsB s))))) ∧ Below w.heap.size w w' := by
  rw [← trimF_txt]
  exact Tryd.strings_TrimFunc_grows _ _ (enters_of Tryd.func43 (by kernel_rfl) rfl) (inSet set) s w (by omega) hT (in_pred set b w hc)
theorem in_trimL (set s : ByteArray) (b : Nat) (w : World) (hc : w.cell? ⟨b, 0, none⟩ = some (.string set)) :
    Calls Tryd.prog 28 #[.string s, .func (.func 43) #[] #[.pointer (some ⟨b, 0, none⟩)]] w fun e w' => e = .returned (.string (txt (flat (trimL (inSet set) (pcsB s))))) ∧ Below w.heap.size w w' := by
  rw [← trimLF_txt]
  exact Tryd.strings_TrimLeftFunc_grows _ _ (enters_of Tryd.func43 (by kernel_rfl) rfl) (inSet set) s w (in_pred set b w hc)
theorem in_trimR (set s : ByteArray) (b : Nat) (w : World) (hs : s.size ≤ 140737488355328) (hT : Tabs w) (hc : w.cell? ⟨b, 0, none⟩ = some (.string set)) :
    Calls Tryd.prog 29 #[.string s, .func (.func 43) #[] #[.pointer (some ⟨b, 0, none⟩)]] w fun e w' => e = .returned (.string (txt (flat (trimR (inSet set) (pcsB s))))) ∧ Below w.heap.size w w' := by
  rw [← trimRF_txt]
  exact Tryd.strings_TrimRightFunc_grows _ _ (enters_of Tryd.func43 (by kernel_rfl) rfl) (inSet set) s w (by omega) hT (in_pred set b w hc)
theorem trimSpaceS (s : ByteArray) (w : World) (hs : s.size ≤ 140737488355328) (hT : TabsS w) :
    Calls Tryd.prog 30 #[.string s] w fun e w' => e = .returned (.string (txt (flat (trimB Lib.isSpaceR (pcsB s))))) ∧ Below w.heap.size w w' := by
  have h := Tryd.strings_TrimSpace_any s w (by omega) hT.2 hT.1.1 hT.1.2
  rw [trimSpace_pcs] at h
  exact h
def StrPost (l : List UInt8) (w : World) (e : Ending) (w' : World) : Prop := e = .returned (.string (txt l)) ∧ Below w.heap.size w w'

set_option maxRecDepth 100000 in
set_option maxHeartbeats 3200000 in
theorem impl_shave (s : ByteArray) (A : Option Addr) (n c : Nat) (L : List St) (w : World) (hn : Hid (n = L.length)) (hnl : n ≤ 140737488355328) (hL : ∀ x ∈ L, StOk x) (hr : PAt w 0 w.heap.size A (L.map stV)) (hs : s.size ≤ 140737488355328) (hT : TabsS w) :
    Calls Tryd.prog 11 #[.string s, .slice A n c] w (StrPost (shaved L s.data.toList) w) := by
  have HL := Lib.hid hL; have Hrow := Lib.hid hr; clear hL hr
  have hTb : Tabs w := hT.1.1
  go_enter Tryd.func11, Tryd.ntmps11
  go_wp2_with fail
  go_loopw [5, 11] (fun v i wr => ∃ (rest : ByteArray) (k : Nat), k ≤ n ∧ v = .string rest ∧ i = .int .i64 k ∧ Hid (rest = txt (shaved (L.take k) s.data.toList)) ∧ Below w.heap.size w wr) (fun _ i _ => n - (intOf i).toNat)
  case atStart => exact ⟨s, 0, Nat.zero_le _, rfl, rfl, by rw [Hid, List.take_zero, shaved_nil, txt_self], Below.refl _ _⟩
  case round =>
    obtain ⟨rest, k, hk, rfl, rfl, Hr, hbw⟩ := hrel
    have hz := hbw.size
    have hrs : rest.size ≤ 140737488355328 := Nat.le_trans (shave_le (s := s) Hr.out rfl) hs
    by_cases hlt : k < n
    · have hk' : k < L.length := by rw [← hn.out]; exact hlt
      obtain ⟨b, o, rfl, _, hbl, hc1, hc2⟩ := ((Hrow.out).below hbw).at_ (i := k) (by rw [List.length_map]; exact hk')
      obtain ⟨x, hx⟩ : ∃ x, x = L[k] := ⟨_, rfl⟩
      have hxok := HL.out x (by rw [hx]; exact List.getElem_mem hk')
      rw [List.getElem_map, ← hx] at hc1 hc2
      have Hx := Lib.hid hx; clear hx
      obtain ⟨op, set⟩ := x
      simp only [stV, StOk] at hc1 hc2 hxok
      obtain ⟨hsl0, hop⟩ := hxok
      have hsl : (txt set).size ≤ 140737488355328 := by rw [txt_size']; exact hsl0
      obtain ⟨m4, hm4⟩ : ∃ m4, op % 4 = m4 := ⟨_, rfl⟩
      have Hm := Lib.hid hm4
      have h4 : m4 = 0 ∨ m4 = 1 ∨ m4 = 2 ∨ m4 = 3 := by omega
      clear hsl0
      rcases h4 with e | e | e | e
      · obtain ⟨hm, hn1⟩ : m4 = 0 ∧ txt (flat (trimB (inSet (txt set)) (pcsB rest))) = txt (shaved (L.take (k + 1)) s.data.toList) := ⟨e, by rw [← stepP_0 (x := (op, set)) (by omega)]; exact shave_next hk' Hx.out Hr.out⟩
        have Hn1 := Lib.hid hn1; clear hn1 e
        subst hm
        go_wp2_with fail
        (with_reducible refine (implAt op 0 _ hop Hm.out).mono ?_); rintro e w1 ⟨rfl, rfl⟩
        have hA := hbw.alloc hz (.cells #[.int .i64 op, .string (txt set)] 27)
        have hAz := hA.size
        go_wp2_with fail
        (with_reducible refine (in_made (txt set) _).mono ?_); rintro e w1 ⟨b1, rfl, hc1, hb1⟩
        have hB1 := hA.trans (hb1.mono hAz)
        go_wp2_with fail
        (with_reducible refine (in_trimB (txt set) rest b1 _ hrs (hTb.below hB1) hc1).mono ?_); rintro e w2 ⟨rfl, hb2⟩
        have hB2 := hB1.trans (hb2.mono hB1.size)
        go_wp2_with fail
        go_roundw
        case rel => exact ⟨_, k + 1, by omega, rfl, by go_num, Hn1, hB2⟩
        case measure => simp [intOf]; omega
      · obtain ⟨hm, hn1⟩ : m4 = 1 ∧ txt (flat (trimL (inSet (txt set)) (pcsB rest))) = txt (shaved (L.take (k + 1)) s.data.toList) := ⟨e, by rw [← stepP_1 (x := (op, set)) (by omega)]; exact shave_next hk' Hx.out Hr.out⟩
        have Hn1 := Lib.hid hn1; clear hn1 e
        subst hm
        go_wp2_with fail
        (with_reducible refine (implAt op 1 _ hop Hm.out).mono ?_); rintro e w1 ⟨rfl, rfl⟩
        have hA := hbw.alloc hz (.cells #[.int .i64 op, .string (txt set)] 27)
        have hAz := hA.size
        go_wp2_with fail
        (with_reducible refine (in_made (txt set) _).mono ?_); rintro e w1 ⟨b1, rfl, hc1, hb1⟩
        have hB1 := hA.trans (hb1.mono hAz)
        go_wp2_with fail
        (with_reducible refine (in_trimL (txt set) rest b1 _ hc1).mono ?_); rintro e w2 ⟨rfl, hb2⟩
        have hB2 := hB1.trans (hb2.mono hB1.size)
        go_wp2_with fail
        go_roundw
        case rel => exact ⟨_, k + 1, by omega, rfl, by go_num, Hn1, hB2⟩
        case measure => simp [intOf]; omega
      · obtain ⟨hm, hn1⟩ : m4 = 2 ∧ txt (flat (trimR (inSet (txt set)) (pcsB rest))) = txt (shaved (L.take (k + 1)) s.data.toList) := ⟨e, by rw [← stepP_2 (x := (op, set)) (by omega)]; exact shave_next hk' Hx.out Hr.out⟩
        have Hn1 := Lib.hid hn1; clear hn1 e
        subst hm
        go_wp2_with fail
        (with_reducible refine (implAt op 2 _ hop Hm.out).mono ?_); rintro e w1 ⟨rfl, rfl⟩
        have hA := hbw.alloc hz (.cells #[.int .i64 op, .string (txt set)] 27)
        have hAz := hA.size
        go_wp2_with fail
        (with_reducible refine (in_made (txt set) _).mono ?_); rintro e w1 ⟨b1, rfl, hc1, hb1⟩
        have hB1 := hA.trans (hb1.mono hAz)
        go_wp2_with fail
        (with_reducible refine (in_trimR (txt set) rest b1 _ hrs (hTb.below hB1) hc1).mono ?_); rintro e w2 ⟨rfl, hb2⟩
        have hB2 := hB1.trans (hb2.mono hB1.size)
        go_wp2_with fail
        go_roundw
        case rel => exact ⟨_, k + 1, by omega, rfl, by go_num, Hn1, hB2⟩
        case measure => simp [intOf]; omega
      · obtain ⟨hm, hn1⟩ : m4 = 3 ∧ txt (flat (trimB Lib.isSpaceR (pcsB rest))) = txt (shaved (L.take (k + 1)) s.data.toList) := ⟨e, by rw [← stepP_3 (x := (op, set)) (by omega)]; exact shave_next hk' Hx.out Hr.out⟩
        have Hn1 := Lib.hid hn1; clear hn1 e
        subst hm
        go_wp2_with fail
        (with_reducible refine (implAt op 3 _ hop Hm.out).mono ?_); rintro e w1 ⟨rfl, rfl⟩
        have hA := hbw.alloc hz (.cells #[.int .i64 op, .string (txt set)] 27)
        have hAz := hA.size
        go_wp2_with fail
        (with_reducible refine (trimSpaceS rest _ hrs (hT.below hA)).mono ?_); rintro e w2 ⟨rfl, hb2⟩
        have hB2 := hA.trans (hb2.mono hAz)
        go_wp2_with fail
        go_roundw
        case rel => exact ⟨_, k + 1, by omega, rfl, by go_num, Hn1, hB2⟩
        case measure => simp [intOf]; omega
    · obtain rfl : k = n := by omega
      have hfin := Hr.out
      rw [List.take_of_length_le (by rw [← hn.out]; exact Nat.le_refl _)] at hfin
      have Hfin := Lib.hid hfin; clear hfin
      go_wp2_with fail
      go_ret
      exact ⟨by rw [← Hfin.out]; rfl, hbw⟩

set_option maxRecDepth 100000 in
set_option maxHeartbeats 3200000 in
theorem impl_shaveB (s : ByteArray) (A : Option Addr) (n c : Nat) (L : List St) (w : World) (hn : Hid (n = L.length)) (hnl : n ≤ 140737488355328) (hL : ∀ x ∈ L, StOk x) (hr : PAt w 0 w.heap.size A (L.map stV)) (hs : s.size ≤ 140737488355328) (hT : TabsB w) :
    Calls Tryd.prog 12 #[.string s, .slice A n c] w (StrPost (shaved L s.data.toList) w) := by
  have HL := Lib.hid hL; have Hrow := Lib.hid hr; clear hL hr
  have hTb : Tabs w := hT.1.1
  go_enter Tryd.func12, Tryd.ntmps12
  go_wp2_with ((with_reducible refine wpList_toBW _ (o := ⟨some 9, _, _, _, _, _⟩) rfl _ _ _ 5 rfl Tryd.underlying9 Tryd.underlying45 Tryd.underlying5 s rfl (by omega) ?_); intro vb wb hbv hbb hzb)
  go_loopw [5, 12] (fun v i wr => ∃ (rest : ByteArray) (k : Nat), k ≤ n ∧ i = .int .i64 k ∧ Hid (rest = txt (shaved (L.take k) s.data.toList)) ∧ BW wr w.heap.size (w.heap.size + 1) v rest ∧ Below w.heap.size w wr ∧ w.heap.size + 1 ≤ wr.heap.size) (fun _ i _ => n - (intOf i).toNat)
  case atStart => exact ⟨s, 0, Nat.zero_le _, rfl, by rw [Hid, List.take_zero, shaved_nil, txt_self], hbv, hbb, hzb⟩
  case round =>
    obtain ⟨rest, k, hk, rfl, Hr, hv, hbw, hz1⟩ := hrel
    have hz := hbw.size
    have hrs : rest.size ≤ 140737488355328 := Nat.le_trans (shave_le (s := s) Hr.out rfl) hs
    by_cases hlt : k < n
    · have hk' : k < L.length := by rw [← hn.out]; exact hlt
      obtain ⟨b, o, rfl, _, hbl, hc1, hc2⟩ := ((Hrow.out).below hbw).at_ (i := k) (by rw [List.length_map]; exact hk')
      obtain ⟨x, hx⟩ : ∃ x, x = L[k] := ⟨_, rfl⟩
      have hxok := HL.out x (by rw [hx]; exact List.getElem_mem hk')
      rw [List.getElem_map, ← hx] at hc1 hc2
      have Hx := Lib.hid hx; clear hx
      obtain ⟨op, set⟩ := x
      simp only [stV, StOk] at hc1 hc2 hxok
      obtain ⟨hsl0, hop⟩ := hxok
      have hsl : (txt set).size ≤ 140737488355328 := by rw [txt_size']; exact hsl0
      obtain ⟨m4, hm4⟩ : ∃ m4, op % 4 = m4 := ⟨_, rfl⟩
      have Hm := Lib.hid hm4
      have h4 : m4 = 0 ∨ m4 = 1 ∨ m4 = 2 ∨ m4 = 3 := by omega
      clear hsl0
      rcases h4 with e | e | e | e
      · obtain ⟨hm, hn1⟩ : m4 = 0 ∧ txt (flat (trimB (inSet (txt set)) (pcsB rest))) = txt (shaved (L.take (k + 1)) s.data.toList) := ⟨e, by rw [← stepP_0 (x := (op, set)) (by omega)]; exact shave_next hk' Hx.out Hr.out⟩
        have Hn1 := Lib.hid hn1; clear hn1 e
        subst hm
        go_wp2_with fail
        (with_reducible refine (implAt op 0 _ hop Hm.out).mono ?_); rintro e w1 ⟨rfl, rfl⟩
        have hA := hbw.alloc hz (.cells #[.int .i64 op, .string (txt set)] 27)
        have hAz := hA.size
        go_wp2_with fail
        have hA1 := (Below.refl wr.heap.size wr).alloc (Nat.le_refl _) (.cells #[.int .i64 op, .string (txt set)] 27)
        have hAz1 := hA1.size
        (with_reducible refine (trim_all rest (txt set) _ w.heap.size (w.heap.size + 1) _ hrs hsl (hv.below (hA1.mono hz1)) (hTb.below hA) (by omega)).mono ?_); rintro e w2 ⟨v2, rfl, hv2, hb2⟩
        have hB2 := hA.trans (hb2.mono hAz)
        have hz2 := hb2.size
        go_wp2_with fail
        go_roundw
        case rel => exact ⟨_, k + 1, by omega, by go_num, Hn1, hv2, hB2, by omega⟩
        case measure => simp [intOf]; omega
      · obtain ⟨hm, hn1⟩ : m4 = 1 ∧ txt (flat (trimL (inSet (txt set)) (pcsB rest))) = txt (shaved (L.take (k + 1)) s.data.toList) := ⟨e, by rw [← stepP_1 (x := (op, set)) (by omega)]; exact shave_next hk' Hx.out Hr.out⟩
        have Hn1 := Lib.hid hn1; clear hn1 e
        subst hm
        go_wp2_with fail
        (with_reducible refine (implAt op 1 _ hop Hm.out).mono ?_); rintro e w1 ⟨rfl, rfl⟩
        have hA := hbw.alloc hz (.cells #[.int .i64 op, .string (txt set)] 27)
        have hAz := hA.size
        go_wp2_with fail
        have hA1 := (Below.refl wr.heap.size wr).alloc (Nat.le_refl _) (.cells #[.int .i64 op, .string (txt set)] 27)
        have hAz1 := hA1.size
        (with_reducible refine (trimLeft_all rest (txt set) _ w.heap.size (w.heap.size + 1) _ hrs hsl (hv.below (hA1.mono hz1)) (hTb.below hA) (by omega)).mono ?_); rintro e w2 ⟨v2, rfl, hv2, hb2⟩
        have hB2 := hA.trans (hb2.mono hAz)
        have hz2 := hb2.size
        go_wp2_with fail
        go_roundw
        case rel => exact ⟨_, k + 1, by omega, by go_num, Hn1, hv2, hB2, by omega⟩
        case measure => simp [intOf]; omega
      · obtain ⟨hm, hn1⟩ : m4 = 2 ∧ txt (flat (trimR (inSet (txt set)) (pcsB rest))) = txt (shaved (L.take (k + 1)) s.data.toList) := ⟨e, by rw [← stepP_2 (x := (op, set)) (by omega)]; exact shave_next hk' Hx.out Hr.out⟩
        have Hn1 := Lib.hid hn1; clear hn1 e
        subst hm
        go_wp2_with fail
        (with_reducible refine (implAt op 2 _ hop Hm.out).mono ?_); rintro e w1 ⟨rfl, rfl⟩
        have hA := hbw.alloc hz (.cells #[.int .i64 op, .string (txt set)] 27)
        have hAz := hA.size
        go_wp2_with fail
        have hA1 := (Below.refl wr.heap.size wr).alloc (Nat.le_refl _) (.cells #[.int .i64 op, .string (txt set)] 27)
        have hAz1 := hA1.size
        (with_reducible refine (trimRight_all rest (txt set) _ w.heap.size (w.heap.size + 1) _ hrs hsl (hv.below (hA1.mono hz1)) (hTb.below hA) (by omega)).mono ?_); rintro e w2 ⟨v2, rfl, hv2, hb2⟩
        have hB2 := hA.trans (hb2.mono hAz)
        have hz2 := hb2.size
        go_wp2_with fail
        go_roundw
        case rel => exact ⟨_, k + 1, by omega, by go_num, Hn1, hv2, hB2, by omega⟩
        case measure => simp [intOf]; omega
      · obtain ⟨hm, hn1⟩ : m4 = 3 ∧ txt (flat (trimB Lib.isSpaceR (pcsB rest))) = txt (shaved (L.take (k + 1)) s.data.toList) := ⟨e, by rw [← stepP_3 (x := (op, set)) (by omega)]; exact shave_next hk' Hx.out Hr.out⟩
        have Hn1 := Lib.hid hn1; clear hn1 e
        subst hm
        go_wp2_with fail
        (with_reducible refine (implAt op 3 _ hop Hm.out).mono ?_); rintro e w1 ⟨rfl, rfl⟩
        have hA := hbw.alloc hz (.cells #[.int .i64 op, .string (txt set)] 27)
        have hAz := hA.size
        go_wp2_with fail
        have hA1 := (Below.refl wr.heap.size wr).alloc (Nat.le_refl _) (.cells #[.int .i64 op, .string (txt set)] 27)
        have hAz1 := hA1.size
        (with_reducible refine (trimSpaceB rest _ w.heap.size (w.heap.size + 1) _ hrs (hv.below (hA1.mono hz1)) (hT.below hA) (by omega)).mono ?_); rintro e w2 ⟨v2, rfl, hv2, hb2⟩
        have hB2 := hA.trans (hb2.mono hAz)
        have hz2 := hb2.size
        go_wp2_with fail
        go_roundw
        case rel => exact ⟨_, k + 1, by omega, by go_num, Hn1, hv2, hB2, by omega⟩
        case measure => simp [intOf]; omega
    · obtain rfl : k = n := by omega
      have hfin := Hr.out
      rw [List.take_of_length_le (by rw [← hn.out]; exact Nat.le_refl _)] at hfin
      have Hfin := Lib.hid hfin; clear hfin
      obtain ⟨p2, c2, rfl, hc2, hbat⟩ := hv.bv.bat
      go_wp2_with ((with_reducible refine wpList_toString _ (o := ⟨some 43, _, _, _, _, _⟩) rfl _ _ _ 5 rfl Tryd.underlying45 Tryd.underlying5 Tryd.underlying9 p2 rest.size c2 _ _ rfl (Lib.size_eq rest) hbat ?_); intro tk htk)
      go_ret
      refine ⟨?_, hbw⟩
      have : tk = rest := by rw [← txt_self tk, htk.out, txt_self]
      rw [this, Hfin.out]; rfl
end Go.Proofs.YthgigchablajbaaDoor
