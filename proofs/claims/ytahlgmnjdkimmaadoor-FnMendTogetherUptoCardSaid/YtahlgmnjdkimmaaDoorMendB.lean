/- Contract of bytes.ToValidUTF8: the bytes with a replacement for each run that is no UTF-8, in new memory. Conditions: what comes out is at most 2 to the 46 bytes; the tables of utf8. -/
import Derived.Test.YtahlgmnjdkimmaaDoorMendPlain
import Derived.Test.YtahlgmnjdkimmaaDoorDecB
import Derived.Test.YtahlgmnjdkimmaaDoorRow2
import Derived.Test.YtahlgmnjdkimmaaDoorInSet
namespace Go.Proofs.YtahlgmnjdkimmaaDoor
open Go.RowKit
set_option linter.unusedVariables false

def bytesV (l : List UInt8) : List Value := l.map fun x => .int .u8 (x.toNat : Int)
theorem bytesV_length (l : List UInt8) : (bytesV l).length = l.length := by simp [bytesV]
theorem bytesV_append (a b : List UInt8) : bytesV (a ++ b) = bytesV a ++ bytesV b := by simp [bytesV]
theorem bytesV_one (l : List UInt8) : ∀ u ∈ bytesV l, u.oneCell' = true := by
  intro u hu
  obtain ⟨b, _, rfl⟩ := List.mem_map.1 hu
  rfl
theorem own_bat {w : World} {base : Nat} {e : TypeId} {A : Option Addr} {n c : Nat} {l : List UInt8} (h : Own w base e (.slice A n c) (bytesV l)) : BAt w w.heap.size A l := fun hn => by
  have hne : bytesV l ≠ [] := by simpa [bytesV] using hn
  obtain ⟨b, o, hA, _, hb, hc⟩ := h.row hne
  refine ⟨b, o, hA, hb, fun i hi => ?_⟩
  have := hc i (by rw [bytesV_length]; exact hi)
  simpa [bytesV] using this
theorem info_u8 : (Tryd.prog.info? 5).map (fun i => (i.zero, i.size, i.bytes)) = some (some (.int .u8 0), 1, 1) := by kernel_rfl
theorem bytes_row {s : ByteArray} {b o : Nat} {W : World} (h : BytesAt s b o W) (hb : b < W.heap.size) {i : Nat} {l : List UInt8} (hl : s.extract i (i + l.length) = txt l) (hle : i + l.length ≤ s.size) : RowAt W 0 W.heap.size (some ⟨b, o + i, none⟩) (bytesV l) := fun _ => by
  refine ⟨b, o + i, rfl, Nat.zero_le _, hb, fun j hj => ?_⟩
  rw [bytesV_length] at hj
  have e : (s.data.toList.drop i).take l.length = l := by
    have := congrArg (fun x : ByteArray => x.data.toList) hl
    simp only [txt_data] at this
    rw [Lib.extract_data, Nat.add_sub_cancel_left] at this
    exact this
  have hji : i + j < s.data.toList.length := by rw [← Lib.size_eq]; omega
  have e2 : s.data.toList[i + j] = l[j] := by
    have := congrArg (fun x : List UInt8 => x[j]?) e
    simp only [List.getElem?_take, List.getElem?_drop] at this
    rw [if_pos hj, List.getElem?_eq_getElem hji, List.getElem?_eq_getElem hj] at this
    exact Option.some.inj this
  rw [Nat.add_assoc, h (i + j) (by rw [Lib.size_eq]; exact hji), get!_toList s (i + j) hji, e2]
  simp [bytesV]
theorem all_row {s : ByteArray} {b : Nat} {W : World} (h : BytesAt s b 0 W) (hb : b < W.heap.size) : RowAt W 0 W.heap.size (some ⟨b, 0, none⟩) (bytesV s.data.toList) := by
  have := bytes_row (i := 0) (l := s.data.toList) h hb (by rw [Nat.zero_add, ← Lib.size_eq, ← Lib.mk_data (s.extract 0 s.size), Lib.extract_data, List.drop_zero, Nat.sub_zero, List.take_of_length_le (by rw [← Lib.size_eq]; exact Nat.le_refl _)]; rfl) (by rw [Nat.zero_add, ← Lib.size_eq]; exact Nat.le_refl _)
  simpa using this
def BytesPost (l : List UInt8) (w : World) (e : Ending) (w' : World) : Prop :=
  ∃ v, e = .returned v ∧ Own w' w.heap.size 5 v (bytesV l) ∧ Below w.heap.size w w'

set_option maxRecDepth 100000 in
set_option maxHeartbeats 1600000 in
theorem toValidB (s rep : ByteArray) (b1 c1 b2 c2 : Nat) (w : World) (hcap : s.size + runs false (pcsB s) * rep.size ≤ 70368744177664) (hrl : rep.size ≤ 70368744177664) (hc1 : s.size ≤ c1) (hc2 : rep.size ≤ c2) (h1 : BytesAt s b1 0 w) (h2 : BytesAt rep b2 0 w) (hb1 : b1 < w.heap.size) (hb2 : b2 < w.heap.size) (hT : Tabs w) :
    Calls Tryd.prog 27 #[.slice (some ⟨b1, 0, none⟩) s.size c1, .slice (some ⟨b2, 0, none⟩) rep.size c2] w (BytesPost (mended rep.data.toList s.data.toList) w) := by
  obtain ⟨i0, hi0, hz0, hz1, hz2⟩ := info_parts info_u8
  have hsl : s.size ≤ 70368744177664 := by omega
  have H1 := Lib.hid h1; have H2 := Lib.hid h2; clear h1 h2
  have Hcap := Lib.hid hcap; clear hcap
  go_enter Tryd.func27, Tryd.ntmps27
  go_wp2_with (at_make; refine wpList_make_own _ rfl _ _ _ rfl w.heap.size 5 i0 _ 1 Tryd.underlying31 hi0 hz0 hz1 .i64 .i64 _ (s.size + rep.size) rfl rfl (by omega) (by rw [hz2]; omega) (by unfold maxLen; omega) (Nat.le_refl _) ?_; intro w1 hown1 hgr1)
  have hbw1 : Below w.heap.size w w1 := (Below.refl _ _).grown hgr1 (Nat.le_refl _) (by simp)
  clear hgr1 hi0 hz0 hz1 hz2
  go_loopw [5, 6, 7] (fun v b iv wr => ∃ (out : List UInt8) (bad : Bool) (i : Nat), b = .bool bad ∧ iv = .int .i64 i ∧ Hid (MIs rep.data.toList s [] out i bad) ∧ Own wr w.heap.size 5 v (bytesV out) ∧ Below w.heap.size w wr) (fun _ _ iv _ => s.size - (intOf iv).toNat)
  case atStart => exact ⟨[], false, 0, rfl, rfl, MIs.start _ _ _, hown1, hbw1⟩
  case round =>
    obtain ⟨out, bad, i, rfl, rfl, hM, hown, hbw⟩ := hrel
    have hil := hM.out.le
    have hol := hM.out.len
    rw [List.length_nil, Nat.zero_add, ← Lib.size_eq] at hol
    have hol2 : out.length ≤ 70368744177664 := Nat.le_trans hol Hcap.out
    clear hol
    have hz := hbw.size
    by_cases hlt : i < s.size
    · obtain ⟨q, hd, hq1, hq2, hex, hA, hB, hC⟩ := hM.out.more hlt
      obtain ⟨r, bs⟩ := q
      simp only at hd hq1 hq2 hex hA hB hC
      have Hd := Lib.hid hd; have HA := Lib.hid hA; have HB := Lib.hid hB; have HC := Lib.hid hC; have Hex := Lib.hid hex
      clear hd hA hB hC hex
      have hat : BytesAt s b1 0 wr := fun j hj => (hbw.cell (p := ⟨b1, 0 + j, none⟩) hb1).trans (H1.out j hj)
      have hc := hat i hlt
      rw [Nat.zero_add] at hc
      have Hat := Lib.hid hat; clear hat
      obtain ⟨x, hx⟩ : ∃ x, x = s.get! i := ⟨_, rfl⟩
      rw [← hx] at hc
      have Hx := Lib.hid hx; clear hx
      have hx8 : x.toNat < 256 := x.toNat_lt
      by_cases hasc : x.toNat < 128
      · have Hn := Lib.hid (HA.out (by rw [← Hx.out]; exact hasc))
        go_wp2_with (at_builtin; refine wpList_push wr rfl (.tmp 29) (.tmp 31) 31 rfl w.heap.size 5 _ 1 Tryd.underlying31 info_u8 rfl _ _ (.int .u8 (x.toNat : Int)) _ rfl rfl rfl hown rfl (by rw [bytesV_length]; omega) (by omega) (by omega) ?_; intro v4 w4 hown4 hbw4 hgr4 hat4)
        go_roundw
        case rel => exact ⟨_, false, i + 1, rfl, by go_num, Hn, by rw [← Hx.out, bytesV_append]; exact hown4, hbw.trans hbw4⟩
        case measure => simp [intOf]; omega
      · have hic : ¬ (i : Int) = (c1 : Int) := by omega
        have hic2 : ¬ i = c1 := by omega
        have htl := Hat.out.tail i
        rw [Nat.zero_add] at htl
        have hdec := decodeB_any (s.extract i s.size) b1 i (c1 - i) wr (hT.below hbw) htl
        rw [tail_len, Hd.out] at hdec
        simp only at hdec
        clear htl
        by_cases hb1' : bs.length = 1
        · have hw1 : ((bs.length : Nat) : Int) = 1 := by omega
          rw [hw1] at hdec
          have Hn := Lib.hid (HB.out (by rw [← Hx.out]; exact hasc) hb1')
          have Hdec := Lib.hid hdec
          clear hdec hw1 hb1'
          cases bad with
          | true =>
            simp only [if_true] at Hn
            go_wp2_with fail
            (with_reducible refine Hdec.out.mono ?_); rintro e w2 ⟨rfl, hbd⟩
            have hB2 := hbw.trans (hbd.mono hz)
            go_wp2_with fail
            go_roundw
            case rel => exact ⟨out, true, i + 1, rfl, by go_num, Hn, hown.below hbd, hB2⟩
            case measure => simp [intOf]; omega
          | false =>
            simp only [Bool.false_eq_true, if_false] at Hn
            go_wp2_with fail
            (with_reducible refine Hdec.out.mono ?_); rintro e w2 ⟨rfl, hbd⟩
            have hB2 := hbw.trans (hbd.mono hz)
            have hz2 := hB2.size
            have hrow := all_row (s := rep) (b := b2) (W := w2) (fun j hj => (hB2.cell (p := ⟨b2, 0 + j, none⟩) hb2).trans (H2.out j hj)) (by omega)
            have Hrow := Lib.hid hrow
            have hlo : out.length + rep.size ≤ 140737488355328 := by omega
            clear hrow
            go_wp2_with (at_builtin; refine wpList_extend _ rfl (.tmp 46) (.tmp 47) 31 rfl w.heap.size 5 _ 1 Tryd.underlying31 info_u8 rfl _ _ rfl (hown.below hbd) _ _ (some ⟨b2, 0, none⟩) rep.size c2 (bytesV rep.data.toList) rfl (by rw [bytesV_length, Lib.size_eq]) Hrow.out (bytesV_one _) (by rw [bytesV_length, bytesV_length, ← Lib.size_eq]; omega) (by omega) (by omega) ?_; intro v4 w4 hown4 hbw4 hgr4)
            go_roundw
            case rel => exact ⟨_, true, i + 1, rfl, by go_num, Hn, by rw [bytesV_append]; exact hown4, hB2.trans hbw4⟩
            case measure => simp [intOf]; omega
        · have hw1 : (((bs.length : Nat) : Int) == 1) = false := by rw [beq_eq_false_iff_ne]; omega
          have Hn := Lib.hid (HC.out hb1')
          have Hdec := Lib.hid hdec
          clear hdec hb1'
          go_wp2_with fail
          (with_reducible refine Hdec.out.mono ?_); rintro e w2 ⟨rfl, hbd⟩
          have hB2 := hbw.trans (hbd.mono hz)
          have hz2 := hB2.size
          have hrow := bytes_row (s := s) (b := b1) (o := 0) (W := w2) (fun j hj => (hB2.cell (p := ⟨b1, 0 + j, none⟩) hb1).trans (H1.out j hj)) (by omega) Hex.out hq2
          rw [Nat.zero_add] at hrow
          have Hrow := Lib.hid hrow
          clear hrow
          go_wp2_with (at_builtin; refine wpList_extend _ rfl (.tmp 49) (.tmp 55) 31 rfl w.heap.size 5 _ 1 Tryd.underlying31 info_u8 rfl _ _ rfl (hown.below hbd) _ _ (some ⟨b1, i, none⟩) _ _ (bytesV bs) rfl (by rw [bytesV_length]; omega) Hrow.out (bytesV_one _) (by rw [bytesV_length, bytesV_length]; omega) (by omega) (by omega) ?_; intro v4 w4 hown4 hbw4 hgr4)
          go_roundw
          case rel => exact ⟨_, false, i + bs.length, rfl, by go_num, Hn, by rw [bytesV_append]; exact hown4, hB2.trans hbw4⟩
          case measure => simp [intOf]; omega
    · have he := hM.out.end_ hlt
      rw [List.nil_append] at he
      rw [he] at hown
      go_wp2_with fail
      go_ret
      exact ⟨_, rfl, hown, hbw⟩
end Go.Proofs.YtahlgmnjdkimmaaDoor
