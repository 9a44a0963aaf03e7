/- The walk of the law FnShaveUnion: it returns true; old memory as it was. Conditions: arguments of a bulk of at most 2 to the 20; the tables of the row. -/
import Derived.Test.YthgigchablajbaaDoorShaveBoth
import Derived.Test.YthgigchablajbaaDoorUnionPlain
namespace Go.Proofs.YthgigchablajbaaDoor
open Go.RowKit
set_option linter.unusedVariables false

theorem pat_one (w : World) (i : Int) (x : List UInt8) (t : TypeId) : PAt (w.alloc (.cells #[.int .i64 i, .string (txt x)] t)) 0 (w.alloc (.cells #[.int .i64 i, .string (txt x)] t)).heap.size (some ⟨w.heap.size, 0, none⟩) ([(i, x)].map stV) := fun _ => by
  refine ⟨w.heap.size, 0, rfl, Nat.zero_le _, by simp, fun k hk => ?_⟩
  obtain rfl : k = 0 := by simp at hk; omega
  simp [stV, World.cell?, World.alloc, -World.alloc_eq]
theorem one_ok (x : List UInt8) (hx : x.length ≤ 140737488355328) : ∀ y ∈ [((0 : Int), x)], StOk y := by
  intro y hy
  rw [List.mem_singleton] at hy
  subst hy
  exact ⟨hx, by show (-9223372036854775808 : Int) ≤ 0; decide, by show (0 : Int) ≤ 9223372036854775807; decide⟩
theorem shave1 (y x : List UInt8) (W : World) (hy : y.length ≤ 140737488355328) (hx : x.length ≤ 140737488355328) (hT : TabsS W) :
    Calls Tryd.prog 11 #[.string (txt y), .slice (some ⟨W.heap.size, 0, none⟩) 1 1] (W.alloc (.cells #[.int .i64 0, .string (txt x)] 27)) fun e w' => e = .returned (.string (txt (shaved [(0, x)] y))) ∧ Below W.heap.size W w' := by
  have hA : Below W.heap.size W (W.alloc (.cells #[.int .i64 0, .string (txt x)] 27)) := (Below.refl _ _).alloc (Nat.le_refl _) _
  exact (impl_shave (txt y) _ 1 1 [(0, x)] _ rfl (by omega) (one_ok x hx) (pat_one W 0 x _) hy (hT.below hA)).mono fun e w' ⟨h1, h2⟩ => ⟨h1, hA.trans (h2.mono hA.size)⟩
theorem shaveB1 (y x : List UInt8) (W : World) (hy : y.length ≤ 140737488355328) (hx : x.length ≤ 140737488355328) (hT : TabsB W) :
    Calls Tryd.prog 12 #[.string (txt y), .slice (some ⟨W.heap.size, 0, none⟩) 1 1] (W.alloc (.cells #[.int .i64 0, .string (txt x)] 27)) fun e w' => e = .returned (.string (txt (shaved [(0, x)] y))) ∧ Below W.heap.size W w' := by
  have hA : Below W.heap.size W (W.alloc (.cells #[.int .i64 0, .string (txt x)] 27)) := (Below.refl _ _).alloc (Nat.le_refl _) _
  exact (impl_shaveB (txt y) _ 1 1 [(0, x)] _ rfl (by omega) (one_ok x hx) (pat_one W 0 x _) hy (hT.below hA)).mono fun e w' ⟨h1, h2⟩ => ⟨h1, hA.trans (h2.mono hA.size)⟩

set_option maxRecDepth 100000 in
set_option maxHeartbeats 3200000 in
theorem fnShaveUnion_walk {w : World} (s0 : ByteArray) (hs0 : s0.size ≤ 1048576) (A : Option Addr) (n c : Nat) (L : List (List UInt8)) (hm : TArgU w A n c L) (hT : TabsA w) :
    Calls Tryd.prog 5 #[.string s0, .slice A n c] w fun e w' => e = .returned (.bool true) ∧ Below w.heap.size w w' := by
  obtain ⟨s, rfl⟩ : ∃ s, s0 = txt s := ⟨s0.data.toList, (Lib.mk_data s0).symm⟩
  have hs : s.length ≤ 1048576 := hs0
  have hsz0 : (txt s).size = s.length := rfl
  clear hs0
  obtain ⟨⟨hn, hnc, hn16, hsz, hat⟩, hbk⟩ := hm
  have hTS : TabsS w := hT.1
  have hTB : TabsB w := hT.2
  have hnl : n ≤ 1048576 := by have := bulkT_len L; rw [← hn] at this; omega
  have Hlm := Lib.hid (fun x (hx : x ∈ L) => (by have := bulkT_mem hx; omega : x.length ≤ 1048576))
  have Hfl := Lib.hid (fun k => (by have := flatten_take_len L k; omega : (L.take k).flatten.length ≤ 1048576))
  have hfl0 : L.flatten.length ≤ 1048576 := by have := flatten_len L; omega
  have Hul := Lib.hid (fun i j (hj : j ≤ n) => (by have := unionAt_len L s i j (by rw [← hn]; exact hj); omega : (unionAt L i j s).length ≤ 1048576))
  have Hn := Lib.hid hn; clear hn hsz hbk
  go_enter Tryd.func5, Tryd.ntmps5
  go_wp2_with fail
  go_loopw [5, 15] (fun a i wr => ∃ k : Nat, k ≤ n ∧ i = .int .i64 k ∧ a = .string (txt (L.take k).flatten) ∧ Hid (AllGood (L.take k)) ∧ Below w.heap.size w wr) (fun _ i _ => n - (intOf i).toNat)
  case atStart => exact ⟨0, Nat.zero_le _, rfl, rfl, Lib.hid (fun x hx => by cases hx), Below.refl _ _⟩
  case round =>
    obtain ⟨k, hk, rfl, rfl, hg, hbw⟩ := hrel
    have hzw := hbw.size
    by_cases hlt : k < n
    · have hk' : k < L.length := by rw [← Hn.out]; exact hlt
      obtain ⟨b, o, rfl, _, hb2, hcell⟩ := (hat.below hbw).at_ (i := k) (by rw [texts_length]; exact hk')
      have hxl := Hlm.out _ (List.getElem_mem hk')
      have hfl := Hfl.out k
      have hft := flatten_take L k hk'
      have hstep := fun h => AllGood.step (L := L) (k := k) hg.out hk' h
      obtain ⟨x, hx⟩ : ∃ x, x = L[k] := ⟨_, rfl⟩
      rw [show (texts L)[k]'(by rw [texts_length]; exact hk') = .string (txt L[k]) by simp [texts], ← hx] at hcell
      rw [← hx] at hxl hft hstep
      obtain ⟨y, hy⟩ : ∃ y, y = (L.take k).flatten := ⟨_, rfl⟩
      rw [← hy] at hfl hft ⊢
      have Hft := Lib.hid hft; have Hstep := Lib.hid hstep
      clear hx hft hstep hk' hy
      have hxs : (txt x).size ≤ 1048576 := hxl
      have hsum : (txt y).size + (txt x).size ≤ 9223372036854775807 := by show y.length + x.length ≤ _; omega
      cases hok : okB (txt x) with
      | false =>
        have Hok := Lib.hid hok; clear hok
        go_wp2_with ((with_reducible refine (valid_any (txt x) _ (by omega)).mono ?_); rw [Hok.out]; rintro e w1 ⟨rfl, hb1⟩)
        go_ret
        exact ⟨rfl, hbw.trans (hb1.mono hzw)⟩
      | true =>
        have hgn := Hstep.out hok
        have Hgn := Lib.hid hgn
        have Hok := Lib.hid hok; clear hok hgn
        go_wp2_with ((with_reducible refine (valid_any (txt x) _ (by omega)).mono ?_); rw [Hok.out]; rintro e w1 ⟨rfl, hb1⟩)
        go_roundw
        case rel => exact ⟨k + 1, by omega, by go_num, by rw [Hft.out, txt_append], Hgn, hbw.trans (hb1.mono hzw)⟩
        case measure => simp [intOf]; omega
    · have hkn : k = n := by omega
      rw [hkn, List.take_of_length_le (by rw [← Hn.out]; exact Nat.le_refl _)] at hg ⊢
      clear hkn hlt hk
      obtain ⟨z, hz⟩ : ∃ z, z = shaved [(0, L.flatten)] s := ⟨_, rfl⟩
      have hall : unionAt L s.length 0 s = z := by rw [hz]; exact unionAt_all hg.out s
      obtain ⟨a, ha⟩ : ∃ a, a = L.flatten := ⟨_, rfl⟩
      rw [← ha] at hz hfl0 ⊢
      have Hz := Lib.hid hz; have Hall := Lib.hid hall
      clear hz hall ha hg
      go_wp2_with fail
      (with_reducible refine (shave1 s a _ (by omega) (by omega) (hTS.below hbw)).mono ?_); rintro e w1 ⟨rfl, hb1⟩
      have hB1 := hbw.trans (hb1.mono hzw)
      rw [← Hz.out]
      clear hbw hzw hb1
      go_wp2_with fail
      go_loopw [9, 10, 35] (fun o t i wr => ∃ (k : Nat) (y : List UInt8), k ≤ s.length ∧ i = .int .i64 k ∧ o = .string (txt y) ∧ t = .string (txt y) ∧ Hid (y = unionAt L k 0 s) ∧ Below w.heap.size w wr) (fun _ _ i _ => s.length - (intOf i).toNat)
      case atStart => exact ⟨0, s, Nat.zero_le _, rfl, rfl, rfl, Lib.hid (unionAt_zero L s).symm, hB1⟩
      case round =>
        clear hB1
        obtain ⟨k1, y1, hk1, rfl, rfl, rfl, hy1, hbw⟩ := hrel
        by_cases hlt1 : k1 < s.length
        · go_wp2_with fail
          go_loopw [9, 10, 39] (fun o t i wr => ∃ (j : Nat) (y : List UInt8), j ≤ n ∧ i = .int .i64 j ∧ o = .string (txt y) ∧ t = .string (txt y) ∧ Hid (y = unionAt L k1 j s) ∧ Below w.heap.size w wr) (fun _ _ i _ => n - (intOf i).toNat)
          case atStart => exact ⟨0, y1, Nat.zero_le _, rfl, rfl, rfl, hy1, hbw⟩
          case round =>
            clear hbw hy1
            obtain ⟨j, y, hj, rfl, rfl, rfl, hy, hbw⟩ := hrel
            have hzw := hbw.size
            by_cases hlt2 : j < n
            · have hj' : j < L.length := by rw [← Hn.out]; exact hlt2
              obtain ⟨b, o, rfl, _, hb2, hcell⟩ := (hat.below hbw).at_ (i := j) (by rw [texts_length]; exact hj')
              have hxl := Hlm.out _ (List.getElem_mem hj')
              have hnx := unionAt_next (i := k1) hj' s
              have hyl := Hul.out k1 j hj
              rw [← hy.out] at hyl hnx
              obtain ⟨x, hx⟩ : ∃ x, x = L[j] := ⟨_, rfl⟩
              rw [show (texts L)[j]'(by rw [texts_length]; exact hj') = .string (txt L[j]) by simp [texts], ← hx] at hcell
              rw [← hx] at hxl hnx
              have Hnx := Lib.hid hnx
              clear hx hnx hj' hy
              go_wp2_with fail
              (with_reducible refine (shave1 y x _ (by omega) (by omega) (hTS.below hbw)).mono ?_); rintro e w2 ⟨rfl, hb2'⟩
              have hB2 := hbw.trans (hb2'.mono hzw)
              go_wp2_with fail
              (with_reducible refine (shaveB1 y x _ (by omega) (by omega) (hTB.below hB2)).mono ?_); rintro e w3 ⟨rfl, hb3⟩
              have hB3 := hB2.trans (hb3.mono hB2.size)
              go_wp2_with fail
              go_roundw
              case rel => exact ⟨j + 1, _, by omega, by go_num, rfl, rfl, Hnx, hB3⟩
              case measure => simp [intOf]; omega
            · have hjn : j = L.length := by rw [← Hn.out]; omega
              rw [hjn, unionAt_round] at hy
              clear hjn
              go_wp2_with fail
              go_roundw
              case rel => exact ⟨k1 + 1, y, by omega, by go_num, rfl, rfl, hy, hbw⟩
              case measure => simp [intOf]; omega
        · have hk1n : k1 = s.length := by omega
          rw [hk1n, Hall.out] at hy1
          have hyz : y1 = z := hy1.out
          subst hyz
          clear hk1n hy1
          have hzw := hbw.size
          go_wp2_with fail
          (with_reducible refine (shaveB1 s a _ (by omega) (by omega) (hTB.below hbw)).mono ?_); rintro e w2 ⟨rfl, hb2'⟩
          have hB2 := hbw.trans (hb2'.mono hzw)
          rw [← Hz.out]
          go_wp2_with fail
          (with_reducible refine (shave_a _ (hTS.below hB2)).mono ?_); rintro e w3 ⟨rfl, hb3⟩
          have hB3 := hB2.trans (hb3.mono hB2.size)
          go_wp2_with fail
          go_ret
          exact ⟨rfl, hB3⟩
end Go.Proofs.YthgigchablajbaaDoor
