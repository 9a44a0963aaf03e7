/- The walk of the law FnShaveTokens: it returns true; old memory as it was. Conditions: arguments of a bulk of at most 2 to the 20; the tables of the row. -/
import Derived.Test.YthgigchablajbaaDoorShaveBoth
import Derived.Test.YthgigchablajbaaDoorTrimParts
import Derived.Test.YthgigchablajbaaDoorParts
import Derived.Test.YthgigchablajbaaDoorPartsB
import Derived.Test.YthgigchablajbaaDoorSameT
import Derived.Test.YthgigchablajbaaDoorMarked
namespace Go.Proofs.YthgigchablajbaaDoor
open Go.RowKit
set_option linter.unusedVariables false

theorem pat_step (w : World) (i : Int) (x : List UInt8) (t : TypeId) : PAt (w.alloc (.cells #[.int .i64 i, .string (txt x)] t)) 0 (w.alloc (.cells #[.int .i64 i, .string (txt x)] t)).heap.size (some ⟨w.heap.size, 0, none⟩) ([(i, x)].map stV) := fun _ => by
  refine ⟨w.heap.size, 0, rfl, Nat.zero_le _, by simp, fun k hk => ?_⟩
  obtain rfl : k = 0 := by simp at hk; omega
  simp [stV, World.cell?, World.alloc, -World.alloc_eq]
theorem step_ok (x : List UInt8) (hx : x.length ≤ 140737488355328) : ∀ y ∈ [((0 : Int), x)], StOk y := by
  intro y hy
  rw [List.mem_singleton] at hy
  subst hy
  exact ⟨hx, by show (-9223372036854775808 : Int) ≤ 0; decide, by show (0 : Int) ≤ 9223372036854775807; decide⟩
theorem shaveB_set (y x : List UInt8) (W : World) (hy : y.length ≤ 140737488355328) (hx : x.length ≤ 140737488355328) (hT : TabsB W) :
    Calls Tryd.prog 12 #[.string (txt y), .slice (some ⟨W.heap.size, 0, none⟩) 1 1] (W.alloc (.cells #[.int .i64 0, .string (txt x)] 27)) fun e w' => e = .returned (.string (txt (shaved [(0, x)] y))) ∧ Below W.heap.size W w' := by
  have hA : Below W.heap.size W (W.alloc (.cells #[.int .i64 0, .string (txt x)] 27)) := (Below.refl _ _).alloc (Nat.le_refl _) _
  exact (impl_shaveB (txt y) _ 1 1 [(0, x)] _ rfl (by omega) (step_ok x hx) (pat_step W 0 x _) hy (hT.below hA)).mono fun e w' ⟨h1, h2⟩ => ⟨h1, hA.trans (h2.mono hA.size)⟩
theorem row_set (w : World) (x : List UInt8) (e : TypeId) : RowAt (w.alloc (.cells #[.string (txt x)] e)) 0 (w.alloc (.cells #[.string (txt x)] e)).heap.size (some ⟨w.heap.size, 0, none⟩) (texts [x]) := fun _ => by
  refine ⟨w.heap.size, 0, rfl, Nat.zero_le _, by simp, fun i hi => ?_⟩
  rw [texts_length] at hi
  obtain rfl : i = 0 := by simp at hi; omega
  simp [texts, World.cell?, World.alloc, -World.alloc_eq]
theorem hasSuffix_app (a b : List UInt8) : Lib.hasSuffix (a ++ b) b = true := by
  rw [← Lib.hasSuffix_of_drop]; simp
theorem len_partsOf {l : List (List UInt8)} {set : ByteArray} {x : List UInt8} (h : l = cutBy set x) (hx : x.length ≤ 1048576) : l.length ≤ 1048576 ∧ ∀ y ∈ l, y.length ≤ 1048576 := by
  have h1 := cutBy_bound set x
  rw [← h] at h1
  exact ⟨by omega, fun y hy => by have := mem_len_sum hy; unfold lens at h1; omega⟩

set_option maxRecDepth 100000 in
set_option maxHeartbeats 3200000 in
theorem fnShaveTokens_walk (s0 : ByteArray) (hs0 : s0.size ≤ 1048576) (set0 : ByteArray) (hset0 : set0.size ≤ 1048576) (w : World) (hT : TabsB w) :
    Calls Tryd.prog 8 #[.string s0, .string set0] w fun e w' => e = .returned (.bool true) ∧ Below w.heap.size w w' := by
  obtain ⟨s, rfl⟩ : ∃ s, s0 = txt s := ⟨s0.data.toList, (Lib.mk_data s0).symm⟩
  obtain ⟨x, rfl⟩ : ∃ x, set0 = txt x := ⟨set0.data.toList, (Lib.mk_data set0).symm⟩
  have hs : s.length ≤ 1048576 := hs0
  have hx : x.length ≤ 1048576 := hset0
  have hs2 : (txt s).size ≤ 2199023255552 := by show s.length ≤ _; omega
  clear hs0 hset0
  have hTb : Tabs w := hT.1.1
  obtain ⟨z, hz⟩ : ∃ z, z = shaved [(0, x)] s := ⟨_, rfl⟩
  obtain ⟨l, hl⟩ : ∃ l, l = cutBy (txt x) s := ⟨_, rfl⟩
  have hl1 : partsOf ([x].map txt) s = l := by rw [hl]; exact partsOf_set _ _
  have hl2 : partsOf ([x].map txt) z = l := by rw [hl, hz]; exact (partsOf_set _ _).trans (shave_cut (txt x) s)
  have hzl : z.length ≤ 1048576 := by rw [hz]; have := shaved_len [((0 : Int), x)] s; omega
  have hz2 : (txt z).size ≤ 2199023255552 := by show z.length ≤ _; omega
  have hb := len_partsOf hl hs
  have hll := hb.1
  have Hbm := Lib.hid hb.2
  have Hl1 := Lib.hid hl1; have Hl2 := Lib.hid hl2; have Hz := Lib.hid hz; have Hl := Lib.hid hl
  clear hl1 hl2 hz hl hb
  go_enter Tryd.func8, Tryd.ntmps8
  go_wp2_with fail
  (with_reducible refine (shaveB_set s x _ (by omega) (by omega) hT).mono ?_); rintro e w1 ⟨rfl, hb1⟩
  rw [← Hz.out]
  have hBa : Below w1.heap.size w1 (w1.alloc (.cells #[.string (txt x)] 9)) := (Below.refl _ _).alloc (Nat.le_refl _) _
  have Hone := Lib.hid (row_set w1 x 9)
  go_wp2_with fail
  (with_reducible refine (impl_parts (txt s) _ 1 1 [x] _ (Lib.hid rfl) (by omega) Hone.out hs2 (hTb.below (hb1.trans (hBa.mono hb1.size)))).mono ?_); rintro e w2 ⟨v2, rfl, h2, hb2⟩
  rw [show partsOf ([x].map txt) (txt s).data.toList = l from Hl1.out] at h2
  have hb12 := hBa.trans (hb2.mono hBa.size)
  have hB2 := hb1.trans (hb12.mono hb1.size)
  clear Hone hBa
  obtain ⟨A2, c2, rfl, hc2, _⟩ := h2.form
  rw [texts_length] at hc2 ⊢
  by_cases hl0 : l.length = 0
  · have hnil : l = [] := List.eq_nil_of_length_eq_zero hl0
    have hz0 : z = [] := by rw [Hz.out]; exact shave_none (set := txt x) (by rw [← Hl.out]; exact hnil)
    have hz1 : txt z = ⟨#[]⟩ := by rw [hz0]; rfl
    rw [hl0, hz1]
    clear hz0 hz1
    clear hnil
    go_wp2_with fail
    (with_reducible refine (shaveB_a _ (hT.below hB2)).mono ?_); rintro e w3 ⟨rfl, hb3⟩
    go_wp2_with fail
    go_ret
    exact ⟨rfl, hB2.trans (hb3.mono hB2.size)⟩
  · obtain ⟨m, hm⟩ : ∃ m, l.length = m + 1 := ⟨l.length - 1, by omega⟩
    have hne : l ≠ [] := by rintro rfl; simp at hl0
    have hfirst : ∃ x0, l[0]? = some x0 ∧ Lib.hasPrefix z x0 = true ∧ x0.length ≤ 1048576 := by
      cases hc : l with
      | nil => exact absurd hc hne
      | cons x0 r =>
        obtain ⟨b, hb⟩ := shave_first (set := txt x) (l := s) (x := x0) (r := r) (by rw [← Hl.out]; exact hc)
        refine ⟨x0, rfl, ?_, Hbm.out x0 (by rw [hc]; simp)⟩
        rw [Hz.out, show shaved [((0 : Int), x)] s = x0 ++ b from hb]
        exact hasPrefix_app _ _
    have hlast : ∃ x1, l[m]? = some x1 ∧ Lib.hasSuffix z x1 = true ∧ x1.length ≤ 1048576 := by
      have e := (List.dropLast_concat_getLast hne).symm
      obtain ⟨a, ha⟩ := shave_last (set := txt x) (l := s) (x := l.getLast hne) (r := l.dropLast) (by rw [← Hl.out]; exact e)
      refine ⟨l.getLast hne, ?_, ?_, Hbm.out _ (List.getLast_mem hne)⟩
      · rw [List.getLast_eq_getElem, List.getElem?_eq_getElem (by omega)]
        simp [hm]
      · rw [Hz.out, show shaved [((0 : Int), x)] s = a ++ l.getLast hne from ha]
        exact hasSuffix_app _ _
    obtain ⟨x0, hx0, hp0, hl0'⟩ := hfirst
    obtain ⟨x1, hx1, hp1, hl1'⟩ := hlast
    obtain ⟨n2, hn2⟩ : ∃ n2, n2 = l.length := ⟨_, rfl⟩
    rw [← hn2] at hc2 hll ⊢
    have hrow := h2.row
    obtain ⟨b, o, rfl, _, hblt, hcell⟩ := hrow (by intro e; have := congrArg List.length e; rw [texts_length, hm] at this; exact absurd this (by simp))
    have hcell0 : w2.cell? ⟨b, o, none⟩ = some (.string (txt x0)) := by
      have := hcell 0 (by rw [texts_length]; omega)
      rw [Nat.add_zero] at this
      rw [this]
      obtain ⟨h0, h1⟩ := List.getElem?_eq_some_iff.1 hx0
      simp [texts, h1]
    have hcell1 : w2.cell? ⟨b, o + m, none⟩ = some (.string (txt x1)) := by
      rw [hcell m (by rw [texts_length]; omega)]
      obtain ⟨h0, h1⟩ := List.getElem?_eq_some_iff.1 hx1
      simp [texts, h1]
    have hn2b : ((n2 : Int) == 0) = false := by rw [beq_eq_false_iff_ne]; omega
    have hn2c : ¬ (n2 : Int) = 0 := by omega
    have hm1 : (n2 : Int) - 1 = (m : Int) := by omega
    have hm2 : (m : Int) < (n2 : Int) := by omega
    have hm3 : (0 : Int) ≤ (m : Int) := by omega
    have hm4 : (0 : Int) < (n2 : Int) := by omega
    have Hn2 := Lib.hid hn2
    have hr2 := h2.rowV
    rw [texts_length, Hn2.out.symm] at hr2
    have Hp0 := Lib.hid hp0; have Hp1 := Lib.hid hp1
    have hzt : (txt z).size ≤ maxLen := by show z.length ≤ _; unfold maxLen; omega
    have h0t : (txt x0).size ≤ maxLen := by show x0.length ≤ _; unfold maxLen; omega
    have h1t : (txt x1).size ≤ maxLen := by show x1.length ≤ _; unfold maxLen; omega
    clear hcell hrow h2 hx0 hx1 hp0 hp1 hm hl0 hn2 hne
    have hBa : Below w2.heap.size w2 (w2.alloc (.cells #[.string (txt x)] 9)) := (Below.refl _ _).alloc (Nat.le_refl _) _
    have Hone := Lib.hid (row_set w2 x 9)
    go_wp2_with fail
    (with_reducible refine (impl_partsB (txt z) _ 1 1 [x] _ (Lib.hid rfl) (by omega) Hone.out hz2 (hTb.below (hB2.trans (hBa.mono hB2.size)))).mono ?_); rintro e w3 ⟨v3, rfl, h3, hb3⟩
    rw [show partsOf ([x].map txt) (txt z).data.toList = l from Hl2.out] at h3
    have hb23 := hBa.trans (hb3.mono hBa.size)
    clear Hone hBa
    go_wp2_with fail
    (with_reducible refine (sameTexts_t _ _ l _ (by rw [← Hn2.out]; omega) h3.rowV (hr2.below hb23)).mono ?_); rintro e w' ⟨rfl, m3, rfl⟩
    have hb23' : Below w2.heap.size w2 (w3.drewN m3) := below_drewN' hb23 m3
    have hc0 := (hb23'.cell (p := ⟨b, o, none⟩) hblt).trans hcell0
    have hc1 := (hb23'.cell (p := ⟨b, o + m, none⟩) hblt).trans hcell1
    clear hcell0 hcell1 h3 hr2
    go_wp2_with fail
    (with_reducible refine (begins_any (txt z) (txt x0) _ hzt h0t).mono ?_); rintro e w' ⟨rfl, rfl⟩
    rw [show Lib.hasPrefix (txt z).data.toList (txt x0).data.toList = true from Hp0.out]
    go_wp2_with fail
    (with_reducible refine (ends_any (txt z) (txt x1) _ hzt h1t).mono ?_); rintro e w' ⟨rfl, rfl⟩
    rw [show Lib.hasSuffix (txt z).data.toList (txt x1).data.toList = true from Hp1.out]
    go_wp2_with fail
    go_ret
    exact ⟨rfl, hB2.trans (hb23'.mono hB2.size)⟩
end Go.Proofs.YthgigchablajbaaDoor
