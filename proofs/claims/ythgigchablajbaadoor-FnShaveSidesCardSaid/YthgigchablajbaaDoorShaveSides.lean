/- The walk of the law FnShaveSides: it returns true; old memory as it was. Conditions: the reach of the rows. -/
import Derived.Test.YthgigchablajbaaDoorShaveBoth
namespace Go.Proofs.YthgigchablajbaaDoor
open Go.RowKit
set_option linter.unusedVariables false

theorem pat_two (w : World) (i j : Int) (a b : ByteArray) (t : TypeId) : PAt (w.alloc (.cells #[.int .i64 i, .string a, .int .i64 j, .string b] t)) 0 (w.heap.size + 1) (some ⟨w.heap.size, 0, none⟩) ([(i, a.data.toList), (j, b.data.toList)].map stV) := fun _ => by
  refine ⟨w.heap.size, 0, rfl, Nat.zero_le _, by omega, fun k hk => ?_⟩
  have hc : ∀ m, (w.alloc (.cells #[.int .i64 i, .string a, .int .i64 j, .string b] t)).cell? ⟨w.heap.size, m, none⟩ = (#[Value.int .i64 i, .string a, .int .i64 j, .string b] : Array Value)[m]? := fun m => World.cell?_alloc_at _ _ _ _ rfl
  match k, hk with
  | 0, _ => simp only [List.map_cons, List.getElem_cons_zero, stV, txt_self]; rw [hc, hc]; exact ⟨rfl, rfl⟩
  | 1, _ => simp only [List.map_cons, List.getElem_cons_succ, List.getElem_cons_zero, stV, txt_self]; rw [hc, hc]; exact ⟨rfl, rfl⟩
theorem two_ok (i j : Int) (a b : ByteArray) (hi : -9223372036854775808 ≤ i ∧ i ≤ 9223372036854775807) (hj : -9223372036854775808 ≤ j ∧ j ≤ 9223372036854775807) (ha : a.size ≤ 140737488355328) (hb : b.size ≤ 140737488355328) : ∀ x ∈ [(i, a.data.toList), (j, b.data.toList)], StOk x := by
  intro x hx
  simp only [List.mem_cons, List.not_mem_nil, or_false] at hx
  rcases hx with rfl | rfl
  · exact ⟨by rw [← Lib.size_eq]; exact ha, hi.1, hi.2⟩
  · exact ⟨by rw [← Lib.size_eq]; exact hb, hj.1, hj.2⟩

set_option maxHeartbeats 800000 in
theorem fnShaveSides_walk (s : ByteArray) (hs : s.size ≤ 140737488351232) (a : ByteArray) (ha : a.size ≤ 140737488351232) (b : ByteArray) (hb : b.size ≤ 140737488351232) (w : World) (hT : TabsA w) :
    Calls Tryd.prog 4 #[.string s, .string a, .string b] w fun e w' => e = .returned (.bool true) ∧ Below w.heap.size w w' := by
  have hs' : s.size ≤ 140737488355328 := by omega
  have ha' : a.size ≤ 140737488355328 := by omega
  have hb' : b.size ≤ 140737488355328 := by omega
  have hTS : TabsS w := hT.1
  have hTB : TabsB w := hT.2
  have ok1 := Lib.hid (two_ok 1 2 a b (by omega) (by omega) ha' hb')
  have ok2 := Lib.hid (two_ok 2 1 b a (by omega) (by omega) hb' ha')
  have hsd := Lib.hid (shaved_sides a.data.toList b.data.toList s.data.toList)
  obtain ⟨W, hW⟩ : ∃ W, W = (w.alloc (.cells #[.int .i64 1, .string a, .int .i64 2, .string b] 27)).alloc (.cells #[.int .i64 2, .string b, .int .i64 1, .string a] 27) := ⟨_, rfl⟩
  have hbW : Below w.heap.size w W := by rw [hW]; exact ((Below.refl _ _).alloc (Nat.le_refl _) _).alloc (by simp) _
  have hWz : W.heap.size = w.heap.size + 2 := by rw [hW]; simp
  have h1 : PAt W 0 W.heap.size (some ⟨w.heap.size, 0, none⟩) ([(1, a.data.toList), (2, b.data.toList)].map stV) := by
    rw [hWz, hW]
    exact ((pat_two w 1 2 a b _).below ((Below.refl _ _).alloc (by simp) _)).more (Nat.le_refl _) (by omega)
  have h2 : PAt W 0 W.heap.size (some ⟨w.heap.size + 1, 0, none⟩) ([(2, b.data.toList), (1, a.data.toList)].map stV) := by
    have := pat_two (w.alloc (.cells #[.int .i64 1, .string a, .int .i64 2, .string b] 27)) 2 1 b a 27
    simp only [World.size_alloc] at this
    rw [hWz, hW]
    exact this
  have H1 := Lib.hid h1; have H2 := Lib.hid h2
  clear h1 h2
  obtain ⟨l, hl⟩ : ∃ l, l = shaved [(1, a.data.toList), (2, b.data.toList)] s.data.toList := ⟨_, rfl⟩
  go_enter Tryd.func4, Tryd.ntmps4
  go_wp2_with fail
  rw [← hW]
  (with_reducible refine (impl_shave s _ 2 2 [(1, a.data.toList), (2, b.data.toList)] W (Lib.hid rfl) (by omega) ok1.out H1.out hs' (hTS.below hbW)).mono ?_); rintro e w1 ⟨rfl, hb1⟩
  have hB1 := hbW.trans (hb1.mono hbW.size)
  rw [← hl]
  go_wp2_with fail
  (with_reducible refine (impl_shave s _ 2 2 [(2, b.data.toList), (1, a.data.toList)] _ (Lib.hid rfl) (by omega) ok2.out ((H2.out.below hb1).more (Nat.le_refl _) hb1.size) hs' (hTS.below hB1)).mono ?_); rintro e w2 ⟨rfl, hb2⟩
  have hB2 := hB1.trans (hb2.mono hB1.size)
  have hb12 := hb1.trans (hb2.mono hb1.size)
  rw [← hsd.out, ← hl]
  go_wp2_with fail
  (with_reducible refine (impl_shaveB s _ 2 2 [(1, a.data.toList), (2, b.data.toList)] _ (Lib.hid rfl) (by omega) ok1.out ((H1.out.below hb12).more (Nat.le_refl _) hb12.size) hs' (hTB.below hB2)).mono ?_); rintro e w3 ⟨rfl, hb3⟩
  have hB3 := hB2.trans (hb3.mono hB2.size)
  have hb13 := hb12.trans (hb3.mono hb12.size)
  rw [← hl]
  go_wp2_with fail
  (with_reducible refine (impl_shaveB s _ 2 2 [(2, b.data.toList), (1, a.data.toList)] _ (Lib.hid rfl) (by omega) ok2.out ((H2.out.below hb13).more (Nat.le_refl _) hb13.size) hs' (hTB.below hB3)).mono ?_); rintro e w4 ⟨rfl, hb4⟩
  have hB4 := hB3.trans (hb4.mono hB3.size)
  rw [← hsd.out, ← hl]
  clear hl
  go_wp2_with fail
  (with_reducible refine (shave_a _ (hTS.below hB4)).mono ?_); rintro e w5 ⟨rfl, hb5⟩
  have hB5 := hB4.trans (hb5.mono hB4.size)
  go_wp2_with fail
  (with_reducible refine (shaveB_a _ (hTB.below hB5)).mono ?_); rintro e w6 ⟨rfl, hb6⟩
  have hB6 := hB5.trans (hb6.mono hB5.size)
  go_wp2_with fail
  go_ret
  exact ⟨rfl, hB6⟩
end Go.Proofs.YthgigchablajbaaDoor
