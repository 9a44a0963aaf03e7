/- Contract of strings.ToValidUTF8: the text with a replacement for each run of bytes that are no UTF-8. Conditions: what comes out is at most 2 to the 46 bytes; the tables of utf8. -/
import Derived.Test.YtdlhjnihmkbagaaDoorMendPlain
import Derived.Test.YtdlhjnihmkbagaaDoorBuilderLay
import Derived.Test.YtdlhjnihmkbagaaDoorTabs
import Derived.Test.YtdlhjnihmkbagaaDoorInSet
import Derived.Test.YtdlhjnihmkbagaaDoorSameT
namespace Go.Proofs.YtdlhjnihmkbagaaDoor
open Go.RowKit
set_option linter.unusedVariables false

theorem txt_selfM (b : ByteArray) : txt b.data.toList = b := Lib.mk_data b

theorem decodeStr_any (s : ByteArray) (w : World) (hT : Tabs w) :
    Calls Tryd.prog 39 #[.string s] w fun e w' => e = .returned (.tuple #[.int .i32 (Lib.decodeGo s).1, .int .i64 (Lib.decodeGo s).2]) ∧ Below w.heap.size w w' := Tryd.utf8_DecodeRuneInString s w hT
theorem builder_below {T e : TypeId} {B b : Nat} {bs : List Value} {w w' : World} (h : Lib.IsBuilderF T e B b bs w) (hb : Below w.heap.size w w') : Lib.IsBuilderF T e B b bs w' := by
  have one : ∀ p, Lib.BuilderAtF T e B b p bs w → Lib.BuilderAtF T e B b p bs w' := fun p h => by
    have hlt := h.lt
    obtain ⟨h1, v, h2, h3, h4⟩ := h
    exact ⟨h1, v, (hb.block b hlt).trans h2, World.ownsRowF.kept (row := none) h3 ⟨hb.os, hb.tape, hb.output, hb.size, fun i hi _ => hb.block i hi⟩ (by cases v.ownBlock <;> simp), h4⟩
  exact h.elim (fun x => .inl (one _ x)) (fun x => .inr (one _ x))
theorem cap_form {v : Value} (h : 0 < v.capOf) : ∃ p n cap, v = .slice p n cap ∧ 0 < cap := by
  cases v with
  | slice p n cap => exact ⟨p, n, cap, rfl, h⟩
  | _ => simp [Value.capOf] at h
theorem tail_len' (s : ByteArray) (i : Nat) : (s.extract i s.size).size = s.size - i := by rw [Lib.size_eq, Lib.extract_data]; simp
theorem rfl_get (s : ByteArray) (i : Nat) (h : i < s.size) : s.get! i = s[i] := by
  rw [← Lib.getD_get!, List.getD_eq_getElem?_getD, List.getElem?_eq_getElem (by rw [← Lib.size_eq]; exact h), Option.getD_some]
  rfl
/-- the first loop's word: the pieces behind are good; the builder is as it was made -/
def SeekIs (s : ByteArray) (b : Nat) (w : World) (P : List Pc) (W : World) : Prop :=
  IterAt W (b + 1) s P ∧ W.heap[b]? = some (.cells #[.pointer none, .slice none 0 0] 60 (0, 0)) ∧ Below w.heap.size w W ∧ ∃ D, pcsB s = D ++ P ∧ ∀ q ∈ D, ¬ badP q

set_option maxRecDepth 100000 in
set_option maxHeartbeats 3200000 in
theorem toValidS (s rep : ByteArray) (w : World) (hcap : s.size + runs false (pcsB s) * rep.size ≤ 70368744177664) (hrl : rep.size ≤ 70368744177664) (hT : Tabs w) :
    Calls Tryd.prog 31 #[.string s, .string rep] w fun e w' => e = .returned (.string (txt (mended rep.data.toList s.data.toList))) ∧ Below w.heap.size w w' := by
  have hsl : s.size ≤ 70368744177664 := by omega
  have Hcap := Lib.hid hcap; clear hcap
  go_enter Tryd.func31, Tryd.ntmps31
  go_wp2_with fail
  go_loopg [0] (pcsB s).length (fun gf v wx => ∃ P : List Pc, P.length = gf ∧ v = .string s ∧ SeekIs s w.heap.size w P wx)
  case atStart =>
    refine ⟨_, rfl, rfl, ?_, ?_, ((Below.refl _ _).alloc (Nat.le_refl _) _).alloc (by simp) _, [], rfl, by simp⟩
    · have := IterAt.start (w.alloc (.cells #[.pointer none, .slice none 0 0] 60)) s
      simpa using this
    · exact (Below.heap_alloc _ _ _ (by simp)).trans (by simp [World.alloc, -World.alloc_eq])
  case round =>
    obtain ⟨P, hl, rfl, hit, hbk, hbw, D, hD, hg⟩ := hrel
    have hz := hbw.size
    have hlb : w.heap.size < wr.heap.size := (Array.getElem?_eq_some_iff.1 hbk).1
    cases P with
    | nil =>
      have hnx := iter_end (Pr := Tryd.prog) hit
      have hc1 : wr.cell? ⟨w.heap.size, 1, none⟩ = some (.slice none 0 0) := by rw [Lib.cell_of_heap hbk]; rfl
      have hm : txt (mended rep.data.toList s.data.toList) = s := by
        rw [List.append_nil] at hD
        rw [mended_good _ (by rw [show pcs s.data.toList = D from hD]; exact hg), txt_selfM]
      have Hm := Lib.hid hm
      clear hm hD hg hit hbk
      go_wp2_with fail
      (with_reducible refine (Tryd.Builder_Cap_cell w.heap.size none 0 0 _ hc1).mono ?_); rintro e w' ⟨rfl, rfl⟩
      go_wp2_with fail
      go_ret
      exact ⟨by rw [Hm.out]; rfl, hbw⟩
    | cons q P =>
      obtain ⟨pos, w1, hnx, hit1, hb1, hg1, hpos, hplt⟩ := iter_next (Pr := Tryd.prog) hit
      have hbw1 := hbw.trans (hb1 _ (by omega))
      have hbk1 := (hg1.block _ hlb (by simp)).trans hbk
      have hpq : pos = (flat D).length := pos_eq hD hpos (by omega)
      have hdec := decode_at hD
      rw [← hpq] at hdec
      have hstep : ¬ badP q → SeekIs s w.heap.size w P w1 := fun hnb => ⟨hit1, hbk1, hbw1, D ++ [q], by rw [hD]; simp, fun x hx => by
        rcases List.mem_append.1 hx with h | h
        · exact hg x h
        · rw [List.mem_singleton] at h; subst h; exact hnb⟩
      have hahead := mended_ahead rep.data.toList hD hg
      have hbadL : badP q → q.2.length = 1 := fun h => h.2
      clear hb1 hg1
      obtain ⟨r, bs⟩ := q
      simp only at hnx hdec
      have Hstep := Lib.hid hstep; have Hahead := Lib.hid hahead; have HD := Lib.hid hD; have Hg := Lib.hid hg; have Hpos := Lib.hid hpos; have Hpq := Lib.hid hpq
      clear hstep hahead hD hg hpos hpq hit hbk
      by_cases hr : r = 65533
      · subst hr
        by_cases hb1' : bs.length = 1
        · have hw1 : ((bs.length : Nat) : Int) = 1 := by omega
          have hdecr := decodeStr_any (s.extract pos s.size) w1 (hT.below hbw1)
          rw [hdec] at hdecr
          simp only [hw1] at hdecr
          have Hdecr := Lib.hid hdecr
          clear hdecr hdec hb1' hw1
          have hz1 := hbw1.size
          have hgn : (s.size : Int) + (rep.size : Int) = ((s.size + rep.size : Nat) : Int) := by omega
          go_wp2_with fail
          (with_reducible refine Hdecr.out.mono ?_); rintro e w2 ⟨rfl, hb2⟩
          have hbl1 := (Array.getElem?_eq_some_iff.1 hbk1).1
          have hbk2 := (hb2.block _ hbl1).trans hbk1
          have hB2 := hbw1.trans (hb2.mono hz1)
          have hz2 := hB2.size
          have hgrow := Tryd.Builder_Grow_fresh_cap w.heap.size w.heap.size (s.size + rep.size) w2 (Nat.le_refl _) hbk2 hz2 (by omega)
          rw [← hgn] at hgrow
          have Hgrow := Lib.hid hgrow
          clear hgrow hgn hbk1 hbk2 Hdecr Hstep hit1
          go_wp2_with fail
          (with_reducible refine Hgrow.out.mono ?_); rintro e w3 ⟨rfl, ⟨hbd3, hb3⟩, p3, cap3, hc3, hcap3⟩
          have hB3 := hB2.trans hb3
          have hz3 := hB3.size
          have hpe : (s.extract 0 pos).size = pos := by rw [Lib.size_eq, Lib.extract_data, List.drop_zero, Nat.sub_zero, List.length_take, ← Lib.size_eq]; omega
          have Hpe := Lib.hid hpe; clear hpe
          have hF3 : Lib.IsBuilderF 60 5 w.heap.size w.heap.size [] w3 := Lib.IsBuilderF.of (Or.inr hbd3)
          go_wp2_with fail
          (with_reducible refine (bWriteString w.heap.size w.heap.size [] (s.extract 0 pos) _ hF3 (by rw [Hpe.out]; simp; omega) hz3).mono ?_); rintro e w4 ⟨rfl, hbd4, hb4, hkc⟩
          have hB4 := hB3.trans hb4
          have hz4 := hB4.size
          obtain ⟨v4, hc4, hcap4⟩ := hkc _ hc3
          obtain ⟨p4, n4, cap4, rfl, hcp4⟩ := cap_form (v := v4) (by have : cap3 ≤ v4.capOf := hcap4; omega)
          have hcb : (((cap4 : Nat) : Int) == 0) = false := by rw [beq_eq_false_iff_ne]; omega
          have hfl : ([] : List Value) ++ Lib.strCells (s.extract 0 pos) = Lib.byteCells (flat D) := by
            rw [List.nil_append, Lib.strCells_eq, Lib.extract_data, List.drop_zero, Nat.sub_zero, Hpq.out]
            congr 1
            have : s.data.toList = flat D ++ flat ((65533, bs) :: P) := by
              have h0 := flat_pcs s.data.toList
              rw [show pcs s.data.toList = D ++ (65533, bs) :: P from HD.out, flat_append] at h0
              exact h0.symm
            rw [this, List.take_left]
          rw [hfl] at hbd4
          clear hfl hkc hc3 hcap3 hcap4 hbd3
          obtain ⟨s', hs'⟩ : ∃ s', s' = s.extract pos s.size := ⟨_, rfl⟩
          have hs'd : s'.data.toList = flat ((65533, bs) :: P) := by
            rw [hs', Lib.extract_data, Hpos.out, List.take_of_length_le]
            rw [← Hpos.out, List.length_drop, ← Lib.size_eq]; exact Nat.le_refl _
          have hs'l : s'.size ≤ s.size := by rw [hs', tail_len']; omega
          have hfd : (flat D).length + s'.size = s.size := by rw [hs', tail_len', ← Hpq.out]; omega
          have hm2 : runs false (pcsB s') * rep.size ≤ runs false (pcsB s) * rep.size := Nat.mul_le_mul_right _ (by
            have hN : Norm (D ++ (65533, bs) :: P) := by rw [← HD.out]; exact norm_pcs _
            have e1 : pcsB s' = (65533, bs) :: P := by unfold pcsB; rw [hs'd]; exact hN.right
            have e2 : runs false (pcsB s) = runs false D + runs (mdEnd false D) ((65533, bs) :: P) := by rw [HD.out, runs_append]
            have e3 : mdEnd false D = false := by
              by_cases hD0 : D = []
              · rw [hD0]; rfl
              · exact (md_good [] D false Hg.out).2 hD0
            rw [e1, e2, e3]; omega)
          have Hs' := Lib.hid hs'; have Hs'd := Lib.hid hs'd; have Hfd := Lib.hid hfd; have Hm2 := Lib.hid hm2
          clear hs' hs'd hfd hm2
          go_wp2_with fail
          rw [← Hs'.out]
          (with_reducible refine (Tryd.Builder_Cap_cell w.heap.size p4 n4 cap4 _ hc4).mono ?_); rintro e w' ⟨rfl, rfl⟩
          go_wp2_with fail
          clear hc4 hcb
          go_loopw [10, 11] (fun b iv wr => ∃ (out : List UInt8) (bad : Bool) (i : Nat), b = .bool bad ∧ iv = .int .i64 i ∧ Hid (MIs rep.data.toList s' (flat D) out i bad) ∧ Lib.IsBuilderF 60 5 w.heap.size w.heap.size (Lib.byteCells out) wr ∧ Below w.heap.size w wr) (fun _ iv _ => s'.size - (intOf iv).toNat)
          case atStart => exact ⟨flat D, false, 0, rfl, rfl, MIs.start _ _ _, hbd4, hB4⟩
          case round =>
            obtain ⟨out, bad, i, rfl, rfl, hM, hbd, hbx⟩ := hrel
            have hil := hM.out.le
            have hol := hM.out.len
            rw [← Lib.size_eq] at hol
            have hol2 : out.length ≤ 70368744177664 := by
              have h1 := Hfd.out; have h2 := Hm2.out; have h3 := Hcap.out
              omega
            clear hol
            have hzx := hbx.size
            by_cases hlt : i < s'.size
            · obtain ⟨q, hd, hq1, hq2, hex, hA, hB, hC⟩ := hM.out.more hlt
              obtain ⟨r', bs'⟩ := q
              simp only at hd hq1 hq2 hex hA hB hC
              have hgi : s'.get! i = s'[i] := rfl_get s' i hlt
              rw [hgi] at hA hB
              have Hd := Lib.hid hd; have HA := Lib.hid hA; have HB := Lib.hid hB; have HC := Lib.hid hC; have Hex := Lib.hid hex
              clear hd hA hB hC hex hgi
              have hx8 : (s'[i]).toNat < 256 := (s'[i]).toNat_lt
              by_cases hasc : (s'[i]).toNat < 128
              · have Hn := Lib.hid (HA.out hasc)
                go_wp2_with fail
                (with_reducible refine (bWriteByte w.heap.size w.heap.size _ _ _ hbd (by rw [Lib.byteCells_length]; omega) hzx).mono ?_); rintro e w5 ⟨rfl, hbd5, hb5⟩
                go_wp2_with fail
                go_roundw
                case rel => exact ⟨_, false, i + 1, rfl, by go_num, Hn, by rw [Lib.byteCells_append]; exact hbd5, hbx.trans hb5⟩
                case measure => simp [intOf]; omega
              · have hdec2 := decodeStr_any (s'.extract i s'.size) wr (hT.below hbx)
                rw [Hd.out] at hdec2
                simp only at hdec2
                by_cases hb1' : bs'.length = 1
                · have hw1 : ((bs'.length : Nat) : Int) = 1 := by omega
                  rw [hw1] at hdec2
                  have Hn := Lib.hid (HB.out hasc hb1')
                  have Hdec2 := Lib.hid hdec2
                  clear hdec2 hw1 hb1'
                  cases bad with
                  | true =>
                    simp only [if_true] at Hn
                    go_wp2_with fail
                    (with_reducible refine Hdec2.out.mono ?_); rintro e w5 ⟨rfl, hb5⟩
                    go_wp2_with fail
                    go_roundw
                    case rel => exact ⟨out, true, i + 1, rfl, by go_num, Hn, builder_below hbd hb5, hbx.trans (hb5.mono hzx)⟩
                    case measure => simp [intOf]; omega
                  | false =>
                    simp only [Bool.false_eq_true, if_false] at Hn
                    go_wp2_with fail
                    (with_reducible refine Hdec2.out.mono ?_); rintro e w5 ⟨rfl, hb5⟩
                    have hB5 := hbx.trans (hb5.mono hzx)
                    have hz5 := hB5.size
                    go_wp2_with fail
                    (with_reducible refine (bWriteString w.heap.size w.heap.size _ rep _ (builder_below hbd hb5) (by rw [Lib.byteCells_length]; omega) hz5).mono ?_); rintro e w6 ⟨rfl, hbd6, hb6, _⟩
                    go_wp2_with fail
                    go_roundw
                    case rel => exact ⟨_, true, i + 1, rfl, by go_num, Hn, by rw [Lib.byteCells_append, ← Lib.strCells_eq]; exact hbd6, hB5.trans hb6⟩
                    case measure => simp [intOf]; omega
                · have hw1 : (((bs'.length : Nat) : Int) == 1) = false := by rw [beq_eq_false_iff_ne]; omega
                  have Hn := Lib.hid (HC.out hb1')
                  have Hdec2 := Lib.hid hdec2
                  have hexs : (s'.extract i (i + bs'.length)).size = bs'.length := by rw [Hex.out]; rfl
                  have Hexs := Lib.hid hexs
                  clear hdec2 hb1' hexs
                  go_wp2_with fail
                  (with_reducible refine Hdec2.out.mono ?_); rintro e w5 ⟨rfl, hb5⟩
                  have hB5 := hbx.trans (hb5.mono hzx)
                  have hz5 := hB5.size
                  go_wp2_with fail
                  (with_reducible refine (bWriteString w.heap.size w.heap.size _ _ _ (builder_below hbd hb5) (by rw [Lib.byteCells_length, Hexs.out]; omega) hz5).mono ?_); rw [Hex.out]; rintro e w6 ⟨rfl, hbd6, hb6, _⟩
                  go_wp2_with fail
                  go_roundw
                  case rel => exact ⟨_, false, i + bs'.length, rfl, by go_num, Hn, by rw [Lib.byteCells_append]; exact hbd6, hB5.trans hb6⟩
                  case measure => simp [intOf]; omega
            · have he := hM.out.end_ hlt
              rw [Hs'd.out, ← Hahead.out] at he
              rw [he] at hbd
              clear he
              go_wp2_with fail
              (with_reducible refine (Tryd.Builder_String_any_k w.heap.size w.heap.size _ _ hbd hzx).mono ?_); rintro e w5 ⟨rfl, _, hb5, _⟩
              go_wp2_with fail
              go_ret
              exact ⟨rfl, hbx.trans hb5⟩
        · have Hn := Lib.hid (Hstep.out (fun h => hb1' h.2))
          have hw1 : (((bs.length : Nat) : Int) == 1) = false := by rw [beq_eq_false_iff_ne]; omega
          have hdecr := decodeStr_any (s.extract pos s.size) w1 (hT.below hbw1)
          rw [hdec] at hdecr
          simp only at hdecr
          have Hdecr := Lib.hid hdecr
          clear hdecr hdec hb1'
          go_wp2_with fail
          (with_reducible refine Hdecr.out.mono ?_); rintro e w2 ⟨rfl, hb2⟩
          have hz1 := hbw1.size
          have hlt1 : w.heap.size + 1 < w1.heap.size := Hn.out.1.lt
          have Hn2 := Lib.hid (show SeekIs s w.heap.size w P w2 from ⟨Hn.out.1.below hb2 hlt1, (hb2.block _ (by omega)).trans hbk1, hbw1.trans (hb2.mono hz1), Hn.out.2.2.2⟩)
          go_wp2_with fail
          go_roundg P.length
          case rel => exact ⟨P, rfl, rfl, Hn2.out⟩
          case measure => simp only [List.length_cons] at hl; omega
      · have Hn := Lib.hid (Hstep.out (fun h => hr h.1))
        have hrx : (((r : Nat) : Int) != 65533) = true := by rw [bne_iff_ne]; omega
        have Hr := Lib.hid hr
        clear hr hdec
        go_wp2_with fail
        go_roundg P.length
        case rel => exact ⟨P, rfl, rfl, Hn.out⟩
        case measure => simp only [List.length_cons] at hl; omega
end Go.Proofs.YtdlhjnihmkbagaaDoor
