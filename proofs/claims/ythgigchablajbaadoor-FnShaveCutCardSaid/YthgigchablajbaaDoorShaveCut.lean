/- The walk of the law FnShaveCut: it returns true; old memory as it was. Conditions: the reach of the rows. -/
import Derived.Test.YthgigchablajbaaDoorShaveBoth
import Derived.Deep.RegionHeld3
namespace Go.Proofs.YthgigchablajbaaDoor
open Go.RowKit
set_option linter.unusedVariables false

theorem specAt (i n : Int) (k : Nat) (w : World) (hi : -9223372036854775808 ≤ i ∧ i ≤ 9223372036854775807) (hn : 0 < n) (hn' : n ≤ 4611686018427387904) (hk : i % n = (k : Int)) :
    Calls Tryd.prog 10 #[.int .i64 i, .int .i64 n] w fun e w' => e = .returned (.int .i64 k) ∧ w = w' := by
  have h1 := Int.tmod_lt_of_pos i hn
  have h2 : -n < i.tmod n := by
    have := Int.tmod_lt_of_pos (-i) hn
    rw [Int.neg_tmod] at this
    omega
  obtain ⟨hi1, hi2⟩ := hi
  have Hk := Lib.hid hk; clear hk
  go_enter Tryd.func10, Tryd.ntmps10
  go_wp2
  go_ret
  refine ⟨?_, rfl⟩
  rw [← Hk.out, ← Int.tmod_eq_emod_of_nonneg (by omega), at_mod i n hn]; rfl
theorem PAt.take {w : World} {lo hi : Nat} {A : Option Addr} {ms : List (Value × Value)} (h : PAt w lo hi A ms) (k : Nat) : PAt w lo hi A (ms.take k) := fun hn => by
  obtain ⟨b, o, rfl, h1, h2, hc⟩ := h (by rintro rfl; simp at hn)
  refine ⟨b, o, rfl, h1, h2, fun i hi => ?_⟩
  have hi' : i < ms.length := by rw [List.length_take] at hi; omega
  rw [List.getElem_take]
  exact hc i hi'
theorem PAt.drop_ne {w : World} {lo hi : Nat} {A : Option Addr} {ms : List (Value × Value)} (h : PAt w lo hi A ms) (k : Nat) : PAt w lo hi (A.map fun x => x.add (k * 2)) (ms.drop k) := fun hn => by
  have hk : k < ms.length := by
    rcases Nat.lt_or_ge k ms.length with h' | h'
    · exact h'
    · exact absurd (List.drop_eq_nil_of_le h') hn
  obtain ⟨b, o, rfl, h1, h2, hcell⟩ := h (by rintro rfl; simp at hk)
  refine ⟨b, o + k * 2, by rw [Option.map_some, Go.WideShapes.add_plain], h1, h2, fun i hi => ?_⟩
  have hi' : k + i < ms.length := by rw [List.length_drop] at hi; omega
  have := hcell (k + i) hi'
  rw [List.getElem_drop, show o + k * 2 + i * 2 = o + (k + i) * 2 by omega]
  exact this
theorem PAt.drop_eq {w : World} {lo hi : Nat} {A : Option Addr} {ms : List (Value × Value)} (h : PAt w lo hi A ms) (k c : Nat) (hc : c = k) (hl : ms.length ≤ c) : PAt w lo hi A (ms.drop k) := fun hn =>
  absurd (List.drop_eq_nil_of_le (by omega)) hn

set_option maxRecDepth 100000 in
set_option maxHeartbeats 3200000 in
theorem fnShaveCut_walk {w : World} (s : ByteArray) (hs : s.size ≤ 140737488351232) (A : Option Addr) (n c : Nat) (L : List St) (hm : QArg w A n c L) (j : Int) (hj : -9223372036854775808 ≤ j ∧ j ≤ 9223372036854775807) (hT : TabsA w) :
    Calls Tryd.prog 3 #[.string s, .slice A n c, .int .i64 j] w fun e w' => e = .returned (.bool true) ∧ Below w.heap.size w w' := by
  have hok := Lib.hid (steps_ok hm)
  obtain ⟨hn, hnc, hn24, hsz, hat⟩ := hm
  have Hn := Lib.hid hn
  have hnl : n ≤ 140737488355328 := by omega
  have hs' : s.size ≤ 140737488355328 := by omega
  have hTS : TabsS w := hT.1
  have hTB : TabsB w := hT.2
  have Hj := Lib.hid hj
  obtain ⟨k, hk, hkn⟩ : ∃ k : Nat, j % ((n : Int) + 1) = (k : Int) ∧ k ≤ n := by
    have h1 := Int.emod_nonneg j (show ((n : Int) + 1) ≠ 0 by omega)
    have h2 := Int.emod_lt_of_pos j (show 0 < ((n : Int) + 1) by omega)
    exact ⟨(j % ((n : Int) + 1)).toNat, by omega, by omega⟩
  have Hk := Lib.hid hk
  have Hat := Lib.hid hat
  have Hat1 : Hid (PAt w 0 w.heap.size A ((L.take k).map stV)) := by rw [Hid, List.map_take]; exact hat.take k
  have ok1 : Hid (∀ x ∈ L.take k, StOk x) := fun x hx => hok.out x (List.mem_of_mem_take hx)
  have ok2 : Hid (∀ x ∈ L.drop k, StOk x) := fun x hx => hok.out x (List.mem_of_mem_drop hx)
  have hk1 : Hid (k = (L.take k).length) := by rw [Hid, List.length_take, ← hn]; omega
  have hk2 : Hid (n - k = (L.drop k).length) := by rw [Hid, List.length_drop, ← hn]
  have hcutm : Hid (shaved (L.drop k) (shaved (L.take k) s.data.toList) = shaved L s.data.toList) := by rw [Hid, ← shaved_append, List.take_append_drop]
  obtain ⟨m1, hm1⟩ : ∃ m1, m1 = shaved (L.take k) s.data.toList := ⟨_, rfl⟩
  have hml : m1.length ≤ 140737488355328 := by rw [hm1]; have := shaved_len (L.take k) s.data.toList; rw [← Lib.size_eq] at this; omega
  have hmt : (txt m1).size ≤ 140737488355328 := by rw [txt_size']; exact hml
  obtain ⟨l, hl⟩ : ∃ l, l = shaved L s.data.toList := ⟨_, rfl⟩
  have hcut2 : shaved (L.drop k) (txt m1).data.toList = l := by rw [txt_data, hm1, hl]; exact hcutm.out
  have Hm1 := Lib.hid hm1; have Hl := Lib.hid hl; have Hcut := Lib.hid hcut2
  have c1 : ∀ W, Below w.heap.size w W → Calls Tryd.prog 11 #[.string s, .slice A k c] W (StrPost m1 W) := fun W hb => by
    rw [Hm1.out]; exact impl_shave s A k c (L.take k) W hk1 (by omega) ok1.out ((Hat1.out.below hb).more (Nat.le_refl _) hb.size) hs' (hTS.below hb)
  have d1 : ∀ W, Below w.heap.size w W → Calls Tryd.prog 12 #[.string s, .slice A k c] W (StrPost m1 W) := fun W hb => by
    rw [Hm1.out]; exact impl_shaveB s A k c (L.take k) W hk1 (by omega) ok1.out ((Hat1.out.below hb).more (Nat.le_refl _) hb.size) hs' (hTB.below hb)
  have c2 : ∀ (A2 : Option Addr) W, PAt w 0 w.heap.size A2 ((L.drop k).map stV) → Below w.heap.size w W → Calls Tryd.prog 11 #[.string (txt m1), .slice A2 (n - k) (c - k)] W (StrPost l W) := fun A2 W hp hb => by
    rw [← Hcut.out]; exact impl_shave (txt m1) A2 (n - k) (c - k) (L.drop k) W hk2 (by omega) ok2.out ((hp.below hb).more (Nat.le_refl _) hb.size) hmt (hTS.below hb)
  have d2 : ∀ (A2 : Option Addr) W, PAt w 0 w.heap.size A2 ((L.drop k).map stV) → Below w.heap.size w W → Calls Tryd.prog 12 #[.string (txt m1), .slice A2 (n - k) (c - k)] W (StrPost l W) := fun A2 W hp hb => by
    rw [← Hcut.out]; exact impl_shaveB (txt m1) A2 (n - k) (c - k) (L.drop k) W hk2 (by omega) ok2.out ((hp.below hb).more (Nat.le_refl _) hb.size) hmt (hTB.below hb)
  have c3 : ∀ W, Below w.heap.size w W → Calls Tryd.prog 11 #[.string s, .slice A n c] W (StrPost l W) := fun W hb => by
    rw [Hl.out]; exact impl_shave s A n c L W Hn hnl hok.out ((Hat.out.below hb).more (Nat.le_refl _) hb.size) hs' (hTS.below hb)
  have d3 : ∀ W, Below w.heap.size w W → Calls Tryd.prog 12 #[.string s, .slice A n c] W (StrPost l W) := fun W hb => by
    rw [Hl.out]; exact impl_shaveB s A n c L W Hn hnl hok.out ((Hat.out.below hb).more (Nat.le_refl _) hb.size) hs' (hTB.below hb)
  have C1 := Lib.hid c1; have C2 := Lib.hid c2; have C3 := Lib.hid c3; have D1 := Lib.hid d1; have D2 := Lib.hid d2; have D3 := Lib.hid d3
  have pne : Hid (PAt w 0 w.heap.size (A.map fun x => x.add (k * 2)) ((L.drop k).map stV)) := by rw [Hid, List.map_drop]; exact hat.drop_ne k
  have peq : c = k → PAt w 0 w.heap.size A ((L.drop k).map stV) := fun e => by rw [List.map_drop]; exact hat.drop_eq k c e (by rw [List.length_map, ← hn]; exact hnc)
  have Peq := Lib.hid peq
  clear c1 c2 c3 d1 d2 d3 hcut2 hm1 hl hk hat peq hn hsz hj hn24 hml hmt
  have hki1 : (0 : Int) ≤ (k : Int) := by omega
  have hki2 : (k : Int) ≤ (n : Int) := by omega
  have hki3 : (k : Int) ≤ (c : Int) := by omega
  go_enter Tryd.func3, Tryd.ntmps3
  go_wp2_with fail
  (with_reducible refine (specAt j _ k _ Hj.out (by omega) (by omega) Hk.out).mono ?_); rintro e w' ⟨rfl, rfl⟩
  go_wp2_with fail
  (with_reducible refine (C3.out _ (Below.refl _ _)).mono ?_); rintro e w1 ⟨rfl, hb1⟩
  have hB1 : Below w.heap.size w w1 := hb1
  have hS1 : w.heap.size ≤ w1.drew.heap.size := hB1.drew.size
  by_cases hck : c = k
  · have hcki : (k : Int) = (c : Int) := by omega
    subst hck
    have hnc0 : n - c = 0 := by omega
    simp only [Nat.sub_self, hnc0] at C2 D2
    clear hnc0
    have Q0 : Hid (PAt w 0 w.heap.size A ((L.drop c).map stV)) := Peq.out rfl
    go_wp2_with fail
    go_region_held3 (fun w' => w.heap.size ≤ w'.heap.size)
      (first
        | exact hS1
        | exact hS2
        | exact hS3
        | exact hS4
        | exact hS5
        | exact hS6
        | exact hS7
        | exact hS8)
      (first
        | (go_at_call 11; (with_reducible refine (C1.out _ (hB1.drew)).mono ?_); rintro e w2 ⟨rfl, hb2⟩; have hB2 := hB1.drew.trans (hb2.mono hB1.drew.size); have hS2 := hB2.size)
        | (go_at_call 11; (with_reducible refine (C2.out A _ Q0.out hB2).mono ?_); rintro e w3 ⟨rfl, hb3⟩; have hB3 := hB2.trans (hb3.mono hB2.size); have hS3 := hB3.size)
        | (go_at_call 12; (with_reducible refine (D1.out _ hB3).mono ?_); rintro e w4 ⟨rfl, hb4⟩; have hB4 := hB3.trans (hb4.mono hB3.size); have hS4 := hB4.size)
        | (go_at_call 12; (with_reducible refine (D2.out A _ Q0.out hB4).mono ?_); rintro e w5 ⟨rfl, hb5⟩; have hB5 := hB4.trans (hb5.mono hB4.size); have hS5 := hB5.size)
        | (go_at_call 12; (with_reducible refine (D3.out _ hB5).mono ?_); rintro e w6 ⟨rfl, hb6⟩; have hB6 := hB5.trans (hb6.mono hB5.size); have hS6 := hB6.size)
        | (go_at_call 11; (with_reducible refine (shave_a _ (hTS.below hB6)).mono ?_); rintro e w7 ⟨rfl, hb7⟩; have hB7 := hB6.trans (hb7.mono hB6.size); have hS7 := hB7.size)
        | (go_at_call 12; (with_reducible refine (shaveB_a _ (hTB.below hB7)).mono ?_); rintro e w8 ⟨rfl, hb8⟩; have hB8 := hB7.trans (hb8.mono hB7.size); have hS8 := hB8.size))
    go_wp2
    go_ret
    exact ⟨rfl, hB8⟩
  · have hck2 : ¬ k = c := by omega
    have hcki : ¬ (k : Int) = (c : Int) := by omega
    go_wp2_with fail
    go_region_held3 (fun w' => w.heap.size ≤ w'.heap.size)
      (first
        | exact hS1
        | exact hS2
        | exact hS3
        | exact hS4
        | exact hS5
        | exact hS6
        | exact hS7
        | exact hS8)
      (first
        | (go_at_call 11; (with_reducible refine (C1.out _ (hB1.drew)).mono ?_); rintro e w2 ⟨rfl, hb2⟩; have hB2 := hB1.drew.trans (hb2.mono hB1.drew.size); have hS2 := hB2.size)
        | (go_at_call 11; (with_reducible refine (C2.out _ _ pne.out hB2).mono ?_); rintro e w3 ⟨rfl, hb3⟩; have hB3 := hB2.trans (hb3.mono hB2.size); have hS3 := hB3.size)
        | (go_at_call 12; (with_reducible refine (D1.out _ hB3).mono ?_); rintro e w4 ⟨rfl, hb4⟩; have hB4 := hB3.trans (hb4.mono hB3.size); have hS4 := hB4.size)
        | (go_at_call 12; (with_reducible refine (D2.out _ _ pne.out hB4).mono ?_); rintro e w5 ⟨rfl, hb5⟩; have hB5 := hB4.trans (hb5.mono hB4.size); have hS5 := hB5.size)
        | (go_at_call 12; (with_reducible refine (D3.out _ hB5).mono ?_); rintro e w6 ⟨rfl, hb6⟩; have hB6 := hB5.trans (hb6.mono hB5.size); have hS6 := hB6.size)
        | (go_at_call 11; (with_reducible refine (shave_a _ (hTS.below hB6)).mono ?_); rintro e w7 ⟨rfl, hb7⟩; have hB7 := hB6.trans (hb7.mono hB6.size); have hS7 := hB7.size)
        | (go_at_call 12; (with_reducible refine (shaveB_a _ (hTB.below hB7)).mono ?_); rintro e w8 ⟨rfl, hb8⟩; have hB8 := hB7.trans (hb8.mono hB7.size); have hS8 := hB8.size))
    go_wp2
    go_ret
    exact ⟨rfl, hB8⟩
end Go.Proofs.YthgigchablajbaaDoor
