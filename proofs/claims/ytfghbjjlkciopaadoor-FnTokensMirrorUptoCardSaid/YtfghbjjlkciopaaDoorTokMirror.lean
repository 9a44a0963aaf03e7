/- The walk of the law FnTokensMirror: it returns true; old memory as it was. Conditions: a text and a set of at most 2 to the 20 bytes; the tables of utf8. -/
import Derived.Test.YtfghbjjlkciopaaDoorJoinPlain
import Derived.Test.YtfghbjjlkciopaaDoorValid
import Derived.Test.YtfghbjjlkciopaaDoorTokB
import Derived.Test.YtfghbjjlkciopaaDoorTokBack
import Derived.Test.YtfghbjjlkciopaaDoorBackward
import Derived.Deep.RegionHeld3
namespace Go.Proofs.YtfghbjjlkciopaaDoor
open Go.RowKit
set_option linter.unusedVariables false

theorem backward_t (y : List UInt8) (w : World) (h : y.length ≤ 4398046511104) :
    Calls Tryd.prog 37 #[.string (txt y.reverse)] w fun e w' => e = .returned (.string (txt y)) ∧ Below w.heap.size w w' := by
  refine (backward_any (txt y.reverse) w (by show y.reverse.length ≤ _; rw [List.length_reverse]; omega)).mono ?_
  rintro e w' ⟨r, rfl, hr, hb⟩
  have : r = txt y := txt_of (by rw [hr.out, txt_data, List.reverse_reverse])
  rw [this]
  exact ⟨rfl, hb⟩
theorem toks_sum' (p : Nat → Bool) (s : ByteArray) : (((segs p (pcsB s)).map flat).map List.length).sum ≤ s.size := by
  have h := (fwalk_sum p (pcsB s)).1
  rw [fwalk_segs, flat_pcsB, ← Lib.size_eq] at h
  exact h
theorem one_token : (segs (inSet ⟨#[]⟩) (pcsB ⟨#[97]⟩)).map flat = [[97]] := by
  have h1 : pcsB ⟨#[97]⟩ = [(97, [97])] := by
    unfold pcsB
    exact pcs_ascii (l := [97]) (by decide)
  rw [h1]
  rfl

theorem keep2 {B b o b' o' : Nat} {w w' : World} {x y : Value} (hb : Below B w w') (h1 : b < B) (h2 : b' < B) (h : w.cell? ⟨b, o, none⟩ = some x ∧ w.cell? ⟨b', o', none⟩ = some y) : w'.cell? ⟨b, o, none⟩ = some x ∧ w'.cell? ⟨b', o', none⟩ = some y :=
  ⟨(hb.cell (p := ⟨b, o, none⟩) h1).trans h.1, (hb.cell (p := ⟨b', o', none⟩) h2).trans h.2⟩
theorem own_texts {w : World} {base : Nat} {e : TypeId} {v : Value} {l : List (List UInt8)} (h : Own w base e v (texts l)) {n : Nat} (hn : l.length = n) : ∃ A c, v = .slice A n c ∧ n ≤ c := by
  obtain ⟨A, c, rfl, hc, _⟩ := h.form
  rw [texts_length, hn] at hc ⊢
  exact ⟨A, c, rfl, hc⟩

/-- on the way: the pieces that are behind have one byte each and are good -/
def OneEach (P : List Pc) : Prop := ∀ q ∈ P, q.2.length ≤ 1 ∧ ¬ badP q

set_option maxRecDepth 100000 in
set_option maxHeartbeats 3200000 in
theorem fnTokensMirror_walk (s : ByteArray) (hs : s.size ≤ 1048576) (set : ByteArray) (hset : set.size ≤ 1048576) (w : World) (hT : Tabs w) :
    Calls Tryd.prog 12 #[.string s, .string set] w fun e w' => e = .returned (.bool true) ∧ Below w.heap.size w w' := by
  obtain ⟨t, ht⟩ : ∃ t, t = s ++ set := ⟨_, rfl⟩
  have htl : t.size ≤ 2097152 := by rw [ht, ByteArray.size_append]; omega
  have hpl : (pcsB t).length ≤ t.size := by rw [Lib.size_eq]; exact pcs_len_le _
  have hadd : s.size + set.size ≤ 9223372036854775807 := by omega
  have Ht := Lib.hid ht; clear ht
  go_enter Tryd.func12, Tryd.ntmps12
  go_wp2_with fail
  rw [← Ht.out]
  (with_reducible refine (pieces_any t _ (by omega)).mono ?_); rintro e w0 ⟨A, n, c, rfl, hn, hat, hb0⟩
  rw [← hn.out] at hpl
  have hz0 := hb0.size
  go_wp2_with fail
  go_loopw [15] (fun i wx => ∃ k : Nat, k ≤ n ∧ i = .int .i64 k ∧ Hid (OneEach ((pcsB t).take k)) ∧ Below w0.heap.size w0 wx) (fun i _ => n - (intOf i).toNat)
  case atStart => exact ⟨0, Nat.zero_le _, rfl, Lib.hid (fun q hq => by cases hq), Below.refl _ _⟩
  case round =>
    obtain ⟨k, hk, rfl, hin, hbw⟩ := hrel
    have hz := hbw.size
    by_cases hlt : k < n
    · have hk' : k < (pcsB t).length := by rw [← hn.out]; exact hlt
      obtain ⟨b, o, rfl, _, hbl, hc1, hc2⟩ := (hat.below hbw).at_ (i := k) (by rw [List.length_map]; exact hk')
      rw [List.getElem_map] at hc1 hc2
      have hbl2 : ((pcsB t)[k]).2.length ≤ t.size := by
        have := mid_le (s := t) (D := (pcsB t).take k) (q := (pcsB t)[k]) (P := (pcsB t).drop (k + 1)) (by rw [← List.drop_eq_getElem_cons hk', List.take_append_drop])
        omega
      have hst : OneEach ((pcsB t).take k) → ((pcsB t)[k].2.length ≤ 1 ∧ ¬ badP (pcsB t)[k]) → OneEach ((pcsB t).take (k + 1)) := fun h1 h2 q hq => by
        rw [List.take_succ_eq_append_getElem hk'] at hq
        rcases List.mem_append.1 hq with h | h
        · exact h1 q h
        · rw [List.mem_singleton] at h; subst h; exact h2
      obtain ⟨q, hq⟩ : ∃ q : Pc, q = (pcsB t)[k] := ⟨_, rfl⟩
      rw [← hq] at hc1 hc2 hbl2 hst
      clear hq
      obtain ⟨r, bs⟩ := q
      simp only [pcV] at hc1 hc2 hbl2 hst
      have Hst := Lib.hid hst; clear hst
      have hX : ∀ {w1 : World}, Below (wr.alloc (.cells #[.int .i32 (r : Int), .string (txt bs)] 35)).heap.size (wr.alloc (.cells #[.int .i32 (r : Int), .string (txt bs)] 35)) w1 → Below w0.heap.size w0 w1 := fun hb1 => (hbw.alloc hz _).trans (hb1.mono (by simp; omega))
      by_cases hlong : 1 < bs.length
      · have hlong' : (1 : Int) < ((txt bs).size : Int) := by show (1 : Int) < ((bs.length : Nat) : Int); omega
        go_wp2_with fail
        go_ret
        exact ⟨rfl, hb0.trans ((hX (Below.refl _ _)).mono hz0)⟩
      · have hlong' : ¬ (1 : Int) < ((txt bs).size : Int) := by show ¬ (1 : Int) < ((bs.length : Nat) : Int); omega
        cases hbad : decide (badP (r, bs))
        · have hgood : ¬ badP (r, bs) := of_decide_eq_false hbad
          have Hnext := Lib.hid (Hst.out hin.out ⟨by omega, hgood⟩)
          have Hgood := Lib.hid hgood; clear hgood
          go_wp2_with (go_at_call 36; (with_reducible refine (bad_any r bs _ (by omega)).mono ?_); rw [hbad]; rintro e w1 ⟨rfl, hb1⟩)
          go_roundw
          case rel => exact ⟨k + 1, by omega, by go_num, Hnext, hX hb1⟩
          case measure => simp [intOf]; omega
        · go_wp2_with (go_at_call 36; (with_reducible refine (bad_any r bs _ (by omega)).mono ?_); rw [hbad]; rintro e w1 ⟨rfl, hb1⟩)
          go_ret
          exact ⟨rfl, hb0.trans ((hX hb1).mono hz0)⟩
    · have hkn : k = n := by omega
      subst hkn
      obtain ⟨L, hL⟩ : ∃ L, L = ((segs (inSet set) (pcsB s)).map flat).reverse := ⟨_, rfl⟩
      obtain ⟨n2, hn2⟩ : ∃ n2, n2 = L.length := ⟨_, rfl⟩
      have hnl : n2 ≤ 1048576 := by rw [hn2, hL, List.length_reverse, List.length_map]; have := segs_size (inSet set) s; omega
      have hLm : ∀ y ∈ L, y.length ≤ 1048576 := fun y hy => by
        have h1 := toks_sum' (inSet set) s
        have := mem_len_sum (l := (segs (inSet set) (pcsB s)).map flat) (x := y) (by rw [hL] at hy; simpa using hy)
        omega
      have hturn : ∀ r : ByteArray, r.data.toList = s.data.toList.reverse → (segs (inSet set) (pcsB r)).map flat = L.map List.reverse := by
        intro r hr
        have h1 : OneEach (pcsB t) := by
          have := hin.out
          rwa [List.take_of_length_le (by rw [← hn.out]; exact Nat.le_refl _)] at this
        have h2 : ∀ b ∈ t.data.toList, b.toNat < 128 := ascii_of h1
        have h3 : ∀ b ∈ s.data.toList, b.toNat < 128 := fun b hb => h2 b (by rw [Ht.out, ByteArray.data_append]; simp [hb])
        unfold pcsB
        rw [hr, segs_turned (inSet set) h3, hL, List.map_reverse]
        rfl
      have Hturn := Lib.hid hturn; have HL := Lib.hid hL; have HLm := Lib.hid hLm; have Hn2 := Lib.hid hn2
      clear hturn hL hin hLm hn2
      have hB1 : Below w.heap.size w wr := hb0.trans (hbw.mono hz0)
      go_wp2_with fail
      (with_reducible refine (impl_tokensBack s set _ (by omega) (hT.below hB1)).mono ?_); rintro e w2 ⟨v2, rfl, h2, hb2⟩
      rw [← HL.out] at h2
      have hB2 := hB1.trans (hb2.mono hB1.size)
      obtain ⟨A2, c2, rfl, _⟩ := own_texts h2 Hn2.out.symm
      go_wp2_with fail
      (with_reducible refine (backward_any s _ (by omega)).mono ?_); rintro e w3 ⟨r, rfl, hr, hb3⟩
      have hB3 := hB2.trans (hb3.mono hB2.size)
      have hrs : r.size ≤ 1048576 := by rw [Lib.size_eq, hr.out, List.length_reverse, ← Lib.size_eq]; exact hs
      go_wp2_with fail
      (with_reducible refine (impl_tokensB r set _ (by omega) (hT.below hB3)).mono ?_); rintro e w4 ⟨v4, rfl, h4, hb4⟩
      rw [Hturn.out r hr.out] at h4
      have hB4 := hB3.trans (hb4.mono hB3.size)
      obtain ⟨A4, c4, rfl, _⟩ := own_texts h4 (n := n2) (by rw [List.length_map, Hn2.out])
      go_wp2_with fail
      (with_reducible refine (impl_tokens _ _ _ (by decide)).mono ?_); rw [one_token]; rintro e w5 ⟨v5, rfl, h5, hb5⟩
      obtain ⟨A5, c5, rfl, _⟩ := own_texts h5 (n := 1) rfl
      have hB5 := hB4.trans (hb5.mono hB4.size)
      go_wp2_with fail
      (with_reducible refine (impl_tokensBack _ _ _ (by decide) (hT.below hB5)).mono ?_); rw [one_token]; rintro e w6 ⟨v6, rfl, h6, hb6⟩
      obtain ⟨A6, c6, rfl, _⟩ := own_texts h6 (n := 1) rfl
      have hB6 := hB5.trans (hb6.mono hB5.size)
      have hb46 := hb5.trans (hb6.mono hb5.size)
      have hb36 := hb4.trans (hb46.mono hb4.size)
      have hb26 := hb3.trans (hb36.mono hb3.size)
      obtain ⟨_, _, e2, _, r2⟩ := (h2.rowV.below hb26)
      obtain ⟨_, _, e4, _, r4⟩ := (h4.rowV.below hb46)
      injection e2 with e2 _ _
      injection e4 with e4 _ _
      subst e2 e4
      clear h2 h4 h5 h6
      have Hr2 := Lib.hid r2; have Hr4 := Lib.hid r4
      clear r2 r4
      go_wp2_with fail
      go_loopw [52] (fun i wx => ∃ k : Nat, k ≤ n2 ∧ i = .int .i64 k ∧ Below w6.heap.size w6 wx) (fun i _ => n2 - (intOf i).toNat)
      case atStart => exact ⟨0, Nat.zero_le _, rfl, Below.refl _ _⟩
      case round =>
        obtain ⟨j, hj, rfl, hbj⟩ := hrel
        by_cases hjl : j < n2
        · have hj' : j < L.length := by rw [← Hn2.out]; exact hjl
          obtain ⟨b2, o2, rfl, _, _, hca⟩ := Hr2.out.at_ (i := j) (by rw [texts_length]; exact hj')
          obtain ⟨b4, o4, rfl, _, _, hcb⟩ := Hr4.out.at_ (i := j) (by rw [texts_length, List.length_map]; exact hj')
          have hy := HLm.out L[j] (List.getElem_mem hj')
          rw [show (texts L)[j]'(by rw [texts_length]; exact hj') = .string (txt L[j]) by simp [texts]] at hca
          rw [show (texts (L.map List.reverse))[j]'(by rw [texts_length, List.length_map]; exact hj') = .string (txt L[j].reverse) by simp [texts]] at hcb
          have hlt2 := cell_lt hca
          have hlt4 := cell_lt hcb
          replace hca := (hbj.cell (p := ⟨b2, o2 + j, none⟩) hlt2).trans hca
          replace hcb := (hbj.cell (p := ⟨b4, o4 + j, none⟩) hlt4).trans hcb
          generalize L[j] = y at hy hca hcb
          clear hj'
          have hzj := hbj.size
          have hi1 : (0 : Int) ≤ (j : Int) := by omega
          have hi2 : (j : Int) < (n2 : Int) := by omega
          go_wp2_with fail
          go_region_held3 (fun w' => w'.cell? ⟨b2, o2 + j, none⟩ = some (.string (txt y)) ∧ w'.cell? ⟨b4, o4 + j, none⟩ = some (.string (txt y.reverse)))
            (first
              | go_keep
              | (go_split_ands
                 exact keep2 hb1 (by simp; omega) (by simp; omega) ⟨by assumption, by assumption⟩))
            (first
              | (go_at_call 37; refine (backward_t y _ (by omega)).mono ?_; rintro e w1 ⟨rfl, hb1⟩))
          go_wp2
          go_roundw
          case rel => exact ⟨j + 1, by omega, by go_num, hbj.drew.trans (hb1.mono hbj.size)⟩
          case measure => simp [intOf]; omega
        · go_wp2
          go_ret
          exact ⟨rfl, hB6.trans (hbj.mono hB6.size)⟩
end Go.Proofs.YtfghbjjlkciopaaDoor
