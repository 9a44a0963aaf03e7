/- The walk of the law FnMendWords: it returns true; old memory as it was. Conditions: a text of at most 2 to the 20 bytes; the tables of the row. -/
import Derived.Test.YtdlhjnihmkbagaaDoorWords
import Derived.Test.YtdlhjnihmkbagaaDoorMendOne
import Derived.Test.YtdlhjnihmkbagaaDoorMendWPlain
import Derived.Test.YtdlhjnihmkbagaaDoorPartsB
import Derived.Test.YtdlhjnihmkbagaaDoorBad
import Derived.Test.YtdlhjnihmkbagaaDoorSameT
import Derived.Deep.RegionHeld3
namespace Go.Proofs.YtdlhjnihmkbagaaDoor
open Go.RowKit
set_option linter.unusedVariables false

/-- white space, and U+FFFD -/
def whitesB : List UInt8 := [9, 10, 11, 12, 13, 32, 194, 133, 194, 160, 225, 154, 128, 226, 128, 128, 226, 128, 129, 226, 128, 130, 226, 128, 131, 226, 128, 132, 226, 128, 133, 226, 128, 134, 226, 128, 135, 226, 128, 136, 226, 128, 137, 226, 128, 138, 226, 128, 168, 226, 128, 169, 226, 128, 175, 226, 129, 159, 227, 128, 128, 239, 191, 189]
theorem whites_pcs : pcs whitesB = [(9, [9]), (10, [10]), (11, [11]), (12, [12]), (13, [13]), (32, [32]), (133, [194, 133]), (160, [194, 160]), (5760, [225, 154, 128]), (8192, [226, 128, 128]), (8193, [226, 128, 129]), (8194, [226, 128, 130]), (8195, [226, 128, 131]), (8196, [226, 128, 132]), (8197, [226, 128, 133]), (8198, [226, 128, 134]), (8199, [226, 128, 135]), (8200, [226, 128, 136]), (8201, [226, 128, 137]), (8202, [226, 128, 138]), (8232, [226, 128, 168]), (8233, [226, 128, 169]), (8239, [226, 128, 175]), (8287, [226, 129, 159]), (12288, [227, 128, 128]), (65533, [239, 191, 189])] := by decide +kernel
theorem whites_in (r : Nat) : inSet (txt whitesB) r = (Lib.isSpaceR r || r == 65533) := by
  have e : pcsB (txt whitesB) = pcs whitesB := rfl
  unfold inSet
  rw [e, whites_pcs, Bool.eq_iff_iff]
  simp only [List.any_cons, List.any_nil, Lib.isSpaceR, Bool.or_eq_true, Bool.and_eq_true, decide_eq_true_eq, beq_iff_eq, Bool.or_false]
  omega
theorem partsOf_1 (set : ByteArray) (x : List UInt8) : partsOf [set] x = cutBy set x := by simp [partsOf, partStep]
theorem bad_fd (bs : List UInt8) (w : World) (hl : bs.length ≤ 4398046511104) :
    Calls Tryd.prog 22 #[.agg #[.int .i32 65533, .string (txt bs)]] w fun e w' => e = .returned (.bool (decide (badP (65533, bs)))) ∧ Below w.heap.size w w' := bad_any 65533 bs w hl
theorem rows_one {w : World} {v : Value} {l : List (List UInt8)} (h : RowsV w v ([l].map texts)) : ∃ b o c u, v = .slice (some ⟨b, o, none⟩) 1 c ∧ b < w.heap.size ∧ w.cell? ⟨b, o, none⟩ = some u ∧ RowV w u (texts l) := by
  obtain ⟨A, c, vs, rfl, hc, hr, hvl, hin⟩ := h.open_
  have hv : vs.length = 1 := hvl
  obtain ⟨b, o, rfl, _, hb, hx⟩ := hr.at_ (i := 0) (by omega)
  have := hin 0 (by omega) (by simp)
  exact ⟨b, o, c, vs[0], rfl, hb, hx, this⟩
theorem row_lit (w : World) (x : Value) (e : TypeId) : RowAt (w.alloc (.cells #[x] e)) 0 (w.alloc (.cells #[x] e)).heap.size (some ⟨w.heap.size, 0, none⟩) [x] := fun _ => by
  refine ⟨w.heap.size, 0, rfl, Nat.zero_le _, by simp, fun i hi => ?_⟩
  obtain rfl : i = 0 := by simp at hi; omega
  simp [World.cell?, World.alloc, -World.alloc_eq]

set_option maxRecDepth 100000 in
set_option maxHeartbeats 3200000 in
theorem fnMendWords_walk (s : ByteArray) (hs : s.size ≤ 1048576) (w : World) (hT : TabsS w) :
    Calls Tryd.prog 7 #[.string s] w fun e w' => e = .returned (.bool true) ∧ Below w.heap.size w w' := by
  obtain ⟨x, hx⟩ : ∃ x, s = txt x := ⟨s.data.toList, (Lib.mk_data s).symm⟩
  subst hx
  have hxl : x.length ≤ 1048576 := hs
  have hT1 : Tabs w := hT.1.1
  have hTT := hT.t
  have hxs : (txt x).size ≤ 4398046511104 := by omega
  have hpl : (pcsB (txt x)).length ≤ x.length := pcs_len_le _
  go_enter Tryd.func7, Tryd.ntmps7
  go_wp2_with fail
  (with_reducible refine (pieces_any (txt x) _ hxs).mono ?_); rintro e w0 ⟨A5, n5, c5, rfl, hn5, hat5, hb0⟩
  rw [← hn5.out] at hpl
  have hz0 := hb0.size
  go_wp2_with fail
  go_loopw [9] (fun j wx => ∃ k : Nat, k ≤ n5 ∧ j = .int .i64 k ∧ Hid (NoFD ((pcsB (txt x)).take k)) ∧ Below w0.heap.size w0 wx) (fun j _ => n5 - (intOf j).toNat)
  case atStart => exact ⟨0, Nat.zero_le _, rfl, Lib.hid (fun q hq => by cases hq), Below.refl _ _⟩
  case round =>
    obtain ⟨k, hk, rfl, hsp, hbw⟩ := hrel
    have hz := hbw.size
    by_cases hlt : k < n5
    · have hk' : k < (pcsB (txt x)).length := by rw [← hn5.out]; exact hlt
      obtain ⟨b5, o5, rfl, _, hbl5, hc1, hc2⟩ := (hat5.below hbw).at_ (i := k) (by rw [List.length_map]; exact hk')
      rw [List.getElem_map] at hc1 hc2
      have hbs : ((pcsB (txt x))[k]).2.length ≤ (txt x).size := by
        have := mid_le (s := txt x) (D := (pcsB (txt x)).take k) (q := (pcsB (txt x))[k]) (P := (pcsB (txt x)).drop (k + 1)) (by rw [← List.drop_eq_getElem_cons hk', List.take_append_drop])
        omega
      have hst : ((pcsB (txt x))[k].1 = 65533 → badP (pcsB (txt x))[k]) → NoFD ((pcsB (txt x)).take (k + 1)) := fun h => hsp.out.next hk' h
      obtain ⟨q, hq⟩ : ∃ q : Pc, q = (pcsB (txt x))[k] := ⟨_, rfl⟩
      rw [← hq] at hc1 hc2 hbs hst
      clear hq hk' hsp
      obtain ⟨r, bs⟩ := q
      simp only [pcV] at hc1 hc2 hbs hst
      have Hst := Lib.hid hst; clear hst
      have hX : ∀ {w1 : World}, Below (wr.alloc (.cells #[.int .i32 (r : Int), .string (txt bs)] 35)).heap.size (wr.alloc (.cells #[.int .i32 (r : Int), .string (txt bs)] 35)) w1 → Below w0.heap.size w0 w1 := fun hb1 => (hbw.alloc hz _).trans (hb1.mono (by simp; omega))
      by_cases hr : r = 65533
      · subst hr
        have hX' := @hX
        cases hbad : decide (badP (65533, bs))
        · go_wp2_with (go_at_call 22; (with_reducible refine (bad_fd bs _ (by omega)).mono ?_); rw [hbad]; rintro e w1 ⟨rfl, hb1⟩)
          go_ret
          exact ⟨rfl, hb0.trans ((hX' hb1).mono hz0)⟩
        · have Hnx := Lib.hid (Hst.out (fun _ => of_decide_eq_true hbad))
          go_wp2_with (go_at_call 22; (with_reducible refine (bad_fd bs _ (by omega)).mono ?_); rw [hbad]; rintro e w1 ⟨rfl, hb1⟩)
          go_roundw
          case rel => exact ⟨k + 1, by omega, by go_num, Hnx, hX' hb1⟩
          case measure => simp [intOf]; omega
      · have hrne : ((r : Int) == 65533) = false := by rw [beq_eq_false_iff_ne]; omega
        have Hnx := Lib.hid (Hst.out (fun h => absurd h hr))
        clear hr
        go_wp2_with fail
        go_roundw
        case rel => exact ⟨k + 1, by omega, by go_num, Hnx, hX (Below.refl _ _)⟩
        case measure => simp [intOf]; omega
    · have hnf : NoFD (pcs x) := by
        have := hsp.out
        have hkn : k = n5 := by omega
        rwa [hkn, List.take_of_length_le (by rw [← hn5.out]; exact Nat.le_refl _)] at this
      have hwm := words_mended x (txt whitesB) whites_in hnf
      rw [← partsOf_1] at hwm
      have hB0 := hb0.trans (hbw.mono hz0)
      have hml := mended_le [32] x
      obtain ⟨y, hy⟩ : ∃ y, y = mended [32] x := ⟨_, rfl⟩
      rw [← hy] at hwm hml
      obtain ⟨l, hl⟩ : ∃ l, l = wordsOf y := ⟨_, rfl⟩
      have hll : l.length ≤ 4194304 := by have := wordsOf_len y; rw [← hl] at this; simp at hml; omega
      have hyl : y.length ≤ 4194304 := by simp at hml; omega
      rw [← hl] at hwm
      have Hwm := Lib.hid hwm; have Hy := Lib.hid hy; have Hl := Lib.hid hl
      have HY : Hid (∀ u ∈ [y], u.length ≤ 4194304) := fun u hu => by rw [List.mem_singleton] at hu; rw [hu]; exact hyl
      have HF : Hid (Fits ⟨#[32]⟩ [x]) := fun u hu => by
        rw [List.mem_singleton] at hu
        subst hu
        exact fits_small (by show u.length + u.length * 1 ≤ _; omega)
      have hzw := hB0.size
      have hA : Below w.heap.size w (wr.alloc (.cells #[.string (txt x)] 9)) := hB0.alloc hzw _
      have hrow0 : RowAt (wr.alloc (.cells #[.string (txt x)] 9)) 0 (wr.alloc (.cells #[.string (txt x)] 9)).heap.size (some ⟨wr.heap.size, 0, none⟩) (texts [x]) := row_lit wr _ _
      have hT1a := hT1.below hA
      have h11 : Hid (1 = [x].length) := rfl
      have h12 : Hid (1 = [y].length) := rfl
      obtain ⟨wo, rfl⟩ : ∃ wo, wo = wr := ⟨_, rfl⟩
      clear hnf hwm hml hy hl hyl hsp hk hpl
      go_wp2_with fail
      (with_reducible refine (impl_mend _ 1 1 [x] _ _ h11 (by omega) HF (by decide) hrow0 hT1a).mono ?_); rintro e w1 ⟨v1, rfl, h1, hb1⟩
      have e1 : texts ([x].map (mended (⟨#[32]⟩ : ByteArray).data.toList)) = texts [y] := by rw [Hy.out]; rfl
      rw [e1] at h1
      obtain ⟨A1, c1, rfl, hc1, _⟩ := h1.form
      have hr1 := h1.row.more (Nat.zero_le _) (Nat.le_refl _)
      have hB1 := hA.trans (hb1.mono hA.size)
      have hz1 := hB1.size
      have e2 : (texts [y]).length = 1 := rfl
      rw [e2] at hc1 ⊢
      clear h1 e1 e2
      go_wp2_with fail
      (with_reducible refine (impl_words A1 1 c1 [y] _ h12 (by omega) HY hr1 (hTT.below hB1)).mono ?_); rintro e w2 ⟨v2, vs2, rfl, h2, k2, hb2⟩
      have hB2 := hB1.trans (hb2.mono hz1)
      have hz2 := hB2.size
      obtain ⟨b2, o2, c2, u2, rfl, hbl2, hx2, hv2⟩ := rows_one (l := wordsOf y) (k2.rowsV h2)
      rw [← Hl.out] at hv2
      have Hv2 := Lib.hid hv2
      clear h2 k2 hv2 hr1
      have F := Lib.hid (fun (W : World) (hW : Below w2.heap.size w2 W) (hr : RowAt W 0 W.heap.size (some ⟨w2.heap.size, 0, none⟩) (texts [whitesB])) => impl_partsB (txt x) (some ⟨w2.heap.size, 0, none⟩) 1 1 [whitesB] W (Lib.hid rfl) (by omega) hr (by omega) (hT1.below (hB2.trans (hW.mono hz2))))
      have hrowX : RowAt (w2.alloc (.cells #[.string (⟨#[9, 10, 11, 12, 13, 32, 194, 133, 194, 160, 225, 154, 128, 226, 128, 128, 226, 128, 129, 226, 128, 130, 226, 128, 131, 226, 128, 132, 226, 128, 133, 226, 128, 134, 226, 128, 135, 226, 128, 136, 226, 128, 137, 226, 128, 138, 226, 128, 168, 226, 128, 169, 226, 128, 175, 226, 129, 159, 227, 128, 128, 239, 191, 189]⟩ : ByteArray)] 9)).drew 0 (w2.alloc (.cells #[.string (⟨#[9, 10, 11, 12, 13, 32, 194, 133, 194, 160, 225, 154, 128, 226, 128, 128, 226, 128, 129, 226, 128, 130, 226, 128, 131, 226, 128, 132, 226, 128, 133, 226, 128, 134, 226, 128, 135, 226, 128, 136, 226, 128, 137, 226, 128, 138, 226, 128, 168, 226, 128, 169, 226, 128, 175, 226, 129, 159, 227, 128, 128, 239, 191, 189]⟩ : ByteArray)] 9)).drew.heap.size (some ⟨w2.heap.size, 0, none⟩) (texts [whitesB]) := row_lit w2 (.string (txt whitesB)) 9
      have hbX : Below w2.heap.size w2 (w2.alloc (.cells #[.string (⟨#[9, 10, 11, 12, 13, 32, 194, 133, 194, 160, 225, 154, 128, 226, 128, 128, 226, 128, 129, 226, 128, 130, 226, 128, 131, 226, 128, 132, 226, 128, 133, 226, 128, 134, 226, 128, 135, 226, 128, 136, 226, 128, 137, 226, 128, 138, 226, 128, 168, 226, 128, 169, 226, 128, 175, 226, 129, 159, 227, 128, 128, 239, 191, 189]⟩ : ByteArray)] 9)).drew := ((Below.refl _ _).alloc (Nat.le_refl _) _).drew
      have HrowX := Lib.hid hrowX
      clear hrowX
      go_wp2_with fail
      go_region_held3 (fun w' => w'.cell? ⟨b2, o2, none⟩ = some u2)
        (first
          | go_keep
          | exact hK4
          | exact hK3)
        (first
          | (go_at_call 24; (with_reducible refine (F.out _ hbX HrowX.out).mono ?_); rintro e w3 ⟨v3, rfl, h3, hb3⟩; have hB3 := hbX.trans (hb3.mono hbX.size); have hK3 : w3.cell? ⟨b2, o2, none⟩ = some u2 := (hB3.cell (p := ⟨b2, o2, none⟩) hbl2).trans hx2; have H3 : RowV w3 v3 (texts l) := (by rw [Hwm.out]; exact h3.rowV); have H2 : RowV w3 u2 (texts l) := Hv2.out.below hB3)
          | (go_at_call 19; (with_reducible refine (sameTexts_t u2 v3 l w3 (by omega) H2 H3).mono ?_); rintro e w' ⟨rfl, m4, rfl⟩; have hK4 : (w3.drewN m4).cell? ⟨b2, o2, none⟩ = some u2 := hK3))
      go_wp2_with fail
      go_ret
      exact ⟨rfl, below_drewN' (hB2.trans (hB3.mono hz2)) m4⟩
end Go.Proofs.YtdlhjnihmkbagaaDoor
