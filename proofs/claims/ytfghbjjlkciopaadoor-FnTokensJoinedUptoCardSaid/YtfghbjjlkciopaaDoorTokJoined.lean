/- The walk of the law FnTokensJoined: it returns true; old memory as it was. Conditions: a text and a set of at most 2 to the 20 bytes; the tables of utf8. -/
import Derived.Test.YtfghbjjlkciopaaDoorJoinPlain
import Derived.Test.YtfghbjjlkciopaaDoorJoined
import Derived.Test.YtfghbjjlkciopaaDoorValid
import Derived.Test.YtfghbjjlkciopaaDoorTokB
import Derived.Test.YtfghbjjlkciopaaDoorTokBack
namespace Go.Proofs.YtfghbjjlkciopaaDoor
open Go.RowKit
set_option linter.unusedVariables false

theorem jn_len (b : List UInt8) (l : List (List UInt8)) : (jn b l).length ≤ (l.map List.length).sum + l.length * b.length := by
  cases l with
  | nil => simp [jn]
  | cons x r =>
    have h : ∀ r : List (List UInt8), (r.flatMap (b ++ ·)).length = (r.map List.length).sum + r.length * b.length := by
      intro r
      induction r with
      | nil => simp
      | cons y r ih =>
        simp only [List.flatMap_cons, List.length_append, List.map_cons, List.sum_cons, List.length_cons, Nat.succ_mul, ih]
        omega
    simp only [jn, List.length_append, h, List.map_cons, List.sum_cons, List.length_cons, Nat.succ_mul]
    omega
theorem toks_sum (p : Nat → Bool) (s : ByteArray) : (((segs p (pcsB s)).map flat).map List.length).sum ≤ s.size := by
  have h := (fwalk_sum p (pcsB s)).1
  rw [fwalk_segs, flat_pcsB, ← Lib.size_eq] at h
  exact h
theorem okB_good {s : ByteArray} (h : okB s = true) : ∀ q ∈ pcs s.data.toList, ¬ badP q := fun q hq hb => by
  have := List.all_eq_true.1 h q hq
  simp [hb] at this
theorem inSet_self (s : ByteArray) : ∀ q ∈ pcs s.data.toList, inSet s q.1 = true := fun q hq =>
  List.any_eq_true.2 ⟨q, hq, by simp⟩
theorem tokens_joined (s set : ByteArray) (hne : 0 < set.size) (hok : okB set = true) :
    (segs (inSet set) (pcsB (txt (set.data.toList ++ jn set.data.toList ((segs (inSet set) (pcsB s)).map flat) ++ set.data.toList)))).map flat = (segs (inSet set) (pcsB s)).map flat := by
  have hb : set.data.toList ≠ [] := by
    intro e
    rw [Lib.size_eq, e] at hne
    simp at hne
  have hg := okB_good hok
  have hp := inSet_self set
  unfold pcsB txt
  simp only
  cases hT : segs (inSet set) (pcs s.data.toList) with
  | nil =>
    simp only [List.map_nil, jn, List.append_nil]
    rw [segs_nothing hg hp]; rfl
  | cons T L =>
    have h1 := segs_joined hb hg hp (pcs s.data.toList) (norm_pcs _)
    rw [hT] at h1
    simp only [List.map_cons, List.flatMap_cons] at h1
    simp only [List.map_cons, jn, List.append_assoc]
    rw [flatMap_turn, ← List.append_assoc (flat T), h1]
    rfl

theorem nonempty_spell {s : ByteArray} (h : 0 < s.size) : ¬ s.toList = [] := by
  intro e
  have e2 : s.toList = s.data.toList := by rw [Lib.toList_data]
  rw [e2] at e
  rw [Lib.size_eq, e] at h
  simp at h

set_option maxRecDepth 100000 in
set_option maxHeartbeats 3200000 in
theorem fnTokensJoined_walk (s : ByteArray) (hs : s.size ≤ 1048576) (set : ByteArray) (hset : set.size ≤ 1048576) (w : World) (hT : Tabs w) :
    Calls Tryd.prog 11 #[.string s, .string set] w fun e w' => e = .returned (.bool true) ∧ Below w.heap.size w w' := by
  by_cases hz : set.size = 0
  · obtain rfl : set = ByteArray.empty := by
      rw [← Lib.mk_data set, List.eq_nil_of_length_eq_zero (l := set.data.toList) (by rw [← Lib.size_eq]; exact hz)]; rfl
    clear hz
    go_enter Tryd.func11, Tryd.ntmps11
    go_wp2_with fail
    go_ret
    exact ⟨rfl, Below.refl _ _⟩
  have hpos : 0 < set.size := by omega
  have hsp : set.toList.isEmpty = false := by
    have h := nonempty_spell hpos
    cases e : set.toList with
    | nil => exact absurd e h
    | cons x r => rfl
  cases hok : okB set with
  | false =>
    have Hok := Lib.hid hok; clear hok hz
    go_enter Tryd.func11, Tryd.ntmps11
    go_wp2_with ((with_reducible refine (valid_any set _ (by omega)).mono ?_); rw [Hok.out]; rintro e w1 ⟨rfl, hb1⟩)
    go_ret
    exact ⟨rfl, hb1⟩
  | true =>
    obtain ⟨l, hl⟩ : ∃ l, l = (segs (inSet set) (pcsB s)).map flat := ⟨_, rfl⟩
    have hn : l.length ≤ 1048576 := by rw [hl, List.length_map]; have := segs_size (inSet set) s; omega
    have hjl : (jn set.data.toList l).length ≤ 1099512676352 := by
      have h1 := jn_len set.data.toList l
      have h2 := toks_sum (inSet set) s
      rw [← hl] at h2
      rw [← Lib.size_eq] at h1
      have h3 : l.length * set.size ≤ 1048576 * 1048576 := Nat.mul_le_mul hn hset
      omega
    have hj := tokens_joined s set hpos hok
    rw [← hl] at hj
    obtain ⟨j, hjj⟩ : ∃ j, j = jn set.data.toList l := ⟨_, rfl⟩
    rw [← hjj] at hj hjl
    have Hjj := Lib.hid hjj; clear hjj
    obtain ⟨t, ht⟩ : ∃ t, t = set ++ txt j ++ set := ⟨_, rfl⟩
    have htt : t = txt (set.data.toList ++ j ++ set.data.toList) := by
      rw [ht, ← txt_append, ← txt_append, txt_self]
    rw [← htt] at hj
    have htl : t.size ≤ 4398046511104 := by
      rw [htt]
      show (set.data.toList ++ j ++ set.data.toList).length ≤ _
      rw [List.length_append, List.length_append, ← Lib.size_eq]
      omega
    have hb1s : set.size + (txt j).size ≤ 9223372036854775807 := by show set.size + j.length ≤ _; omega
    have hb2s : (set ++ txt j).size + set.size ≤ 9223372036854775807 := by rw [ByteArray.size_append]; show set.size + j.length + _ ≤ _; omega
    have Hl := Lib.hid hl; have Hj := Lib.hid hj; have Hok := Lib.hid hok; have Ht := Lib.hid ht
    clear hl hj hok hz ht htt
    go_enter Tryd.func11, Tryd.ntmps11
    go_wp2_with ((with_reducible refine (valid_any set _ (by omega)).mono ?_); rw [Hok.out]; rintro e w1 ⟨rfl, hb1⟩)
    (with_reducible refine (impl_tokens s set _ (by omega)).mono ?_); rintro e w2 ⟨v2, rfl, h2, hb2⟩
    rw [← Hl.out] at h2
    have hB2 := hb1.trans (hb2.mono hb1.size)
    go_wp2_with fail
    (with_reducible refine (joined_any v2 l set _ (by omega) (by omega) (by rw [← Hjj.out]; omega) h2.rowV).mono ?_); rintro e w' ⟨rfl, rfl⟩
    rw [← Hjj.out]
    go_wp2_with fail
    rw [← Ht.out]
    (with_reducible refine (spec_tokens s set _ (by omega) (by omega)).mono ?_); rintro e w3 ⟨v3, rfl, h3, hb3⟩
    rw [← Hl.out] at h3
    have hB3 := hB2.trans (hb3.mono hB2.size)
    obtain ⟨A2, c2, rfl, _, _⟩ := h2.form
    obtain ⟨A3, c3, rfl, _, _⟩ := h3.form
    rw [texts_length] at h2 h3 ⊢
    go_wp2_with fail
    (with_reducible refine (impl_tokensB t set _ htl (hT.below hB3)).mono ?_); rintro e w4 ⟨v4, rfl, h4, hb4⟩
    rw [Hj.out] at h4
    have hB4 := hB3.trans (hb4.mono hB3.size)
    have hb34 := hb3.trans (hb4.mono hb3.size)
    go_wp2_with fail
    (with_reducible refine (sameTexts_t _ _ l _ (by omega) h4.rowV (h2.rowV.below hb34)).mono ?_); rintro e w' ⟨rfl, m1, rfl⟩
    go_wp2_with fail
    (with_reducible refine (impl_tokensBack t set _ htl ((hT.below hB4).below (below_drewN' (Below.refl _ _) m1))).mono ?_); rintro e w5 ⟨v5, rfl, h5, hb5⟩
    rw [Hj.out] at h5
    have hB5 := (below_drewN' hB4 m1).trans (hb5.mono hB4.size)
    go_wp2_with fail
    (with_reducible refine (turned_any v5 l.reverse _ (by rw [List.length_reverse]; omega) h5.rowV).mono ?_); rintro e w6 ⟨v6, rfl, h6, hb6⟩
    rw [List.reverse_reverse] at h6
    have hB6 := hB5.trans (hb6.mono hB5.size)
    go_wp2_with fail
    (with_reducible refine (sameTexts_t _ _ l _ (by omega) h6.rowV ((((h2.rowV.below hb34).drewN m1).below hb5).below hb6)).mono ?_); rintro e w' ⟨rfl, m2, rfl⟩
    go_wp2_with fail
    go_ret
    exact ⟨rfl, below_drewN' hB6 m2⟩
end Go.Proofs.YtfghbjjlkciopaaDoor
