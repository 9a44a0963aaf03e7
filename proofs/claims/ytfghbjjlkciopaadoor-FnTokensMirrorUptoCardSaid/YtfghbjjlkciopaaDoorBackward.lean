/- The contract of laws.backward: the bytes from behind, in new memory; old memory as it was. Conditions: the reach of the rows. -/
import Derived.Test.YtfghbjjlkciopaaDoorRow2
import Derived.Test.YtfghbjjlkciopaaDoorProg
namespace Go.Proofs.YtfghbjjlkciopaaDoor
open Go.RowKit
set_option linter.unusedVariables false

theorem info_byte : (Tryd.prog.info? 5).map (fun i => (i.zero, i.size, i.bytes)) = some (some (.int .u8 0), 1, 1) := by kernel_rfl

def BackIs (s : ByteArray) (k : Nat) (ys : List Value) : Prop :=
  ys.length = s.size ∧ ∀ i (h : i < s.data.toList.length), i < k → ys[i]? = some (.int .u8 ((s.data.toList.reverse[i]'(by simpa using h)).toNat : Int))

theorem BackIs.step {s : ByteArray} {k : Nat} {ys : List Value} (h : BackIs s k ys) (hk : k < s.size) : BackIs s (k + 1) (ys.set k (.int .u8 (s[s.size - 1 - k].toNat : Int))) := by
  refine ⟨by rw [List.length_set]; exact h.1, fun i hi hik => ?_⟩
  by_cases he : i = k
  · subst he
    rw [List.getElem?_set_self (by rw [h.1]; exact hk)]
    congr 3
    rw [List.getElem_reverse]
    have e : s.data.toList.length = s.size := (Lib.size_eq s).symm
    have e2 : ∀ j (h1 : j < s.size) (h2 : j < s.data.toList.length), s[j] = s.data.toList[j] := fun j _ _ => rfl
    rw [e2 _ (by omega) (by omega)]
    simp only [e]
  · rw [List.getElem?_set_ne (Ne.symm he)]
    exact h.2 i hi (by omega)
theorem back_bytes {w : World} {base : Nat} {s : ByteArray} {ys : List Value} {e : TypeId} {g : Nat} (ho : w.ownsRow base e 1 (.slice (some ⟨g, 0, none⟩) s.size s.size) s.size ys) (h : BackIs s s.size ys) : BAt w w.heap.size (some ⟨g, 0, none⟩) s.data.toList.reverse := fun hn => by
  refine ⟨g, 0, rfl, (World.ownsRow.lt ho g rfl).2, fun i hi => ?_⟩
  have hi' : i < s.data.toList.length := by simpa using hi
  have hs : i < s.size := by rw [Lib.size_eq]; exact hi'
  rw [Nat.zero_add, ho.cellAt i (by omega), h.2 i hi' hs]

set_option maxHeartbeats 800000 in
theorem backward_any (s : ByteArray) (w : World) (hs : s.size ≤ 140737488351232) :
    Calls Tryd.prog 37 #[.string s] w fun e w' => ∃ r : ByteArray, e = .returned (.string r) ∧ Hid (r.data.toList = s.data.toList.reverse) ∧ Below w.heap.size w w' := by
  obtain ⟨i0, hi0, hz0, hz1, hz2⟩ := info_parts info_byte
  go_enter Tryd.func37, Tryd.ntmps37
  go_wp2_with (at_make; refine wpList_make_full _ rfl _ _ _ rfl w.heap.size 5 i0 (.int .u8 0) 1 Tryd.underlying45 hi0 hz0 hz1 .i64 .i64 _ _ s.size rfl rfl rfl rfl (by rw [hz2]; omega) (by unfold maxLen; omega) (Nat.le_refl _) ?_; intro w1 hown1 hgr1)
  have hb1 : Below w.heap.size w w1 := (Below.refl _ _).grown hgr1 (Nat.le_refl _) (by simp)
  clear hgr1 hi0 hz0 hz1 hz2
  go_loopw [10, 4] (fun i _ wr => ∃ (k : Nat) (ys : List Value), k ≤ s.size ∧ i = .int .i64 k ∧ wr.ownsRow w.heap.size 5 1 (.slice (some ⟨w.heap.size, 0, none⟩) s.size s.size) s.size ys ∧ BackIs s k ys ∧ Below w.heap.size w wr) (fun i _ _ => s.size - (intOf i).toNat)
  case atStart => exact ⟨0, _, Nat.zero_le _, rfl, hown1, ⟨by have := hown1.1; omega, fun i _ h => absurd h (by omega)⟩, hb1⟩
  case round =>
    obtain ⟨k, ys, hk, rfl, hown, hbk, hbw⟩ := hrel
    by_cases hlt : k < s.size
    · have hyk : k < ys.length := by rw [hbk.1]; exact hlt
      have hcell := hown.cellAt k (by omega)
      rw [List.getElem?_eq_getElem hyk] at hcell
      generalize ys[k] = old at hcell
      have hfr := hown.frozenAt k
      have HB := Lib.hid hbk; have HO := Lib.hid hown; clear hbk hown hyk
      go_wp2
      go_roundw
      case rel => exact ⟨k + 1, _, by omega, by go_num, (HO.out.stored k _).1, HB.out.step hlt, hbw.setCell (Nat.le_refl _) _⟩
      case measure => simp [intOf]; omega
    · have hkn : k = s.size := by omega
      have hat := back_bytes hown (by rw [← hkn]; exact hbk)
      clear hkn
      go_wp2_with ((with_reducible refine wpList_toString _ (o := ⟨some 25, _, _, _, _, _⟩) rfl _ _ _ 5 rfl Tryd.underlying45 Tryd.underlying5 Tryd.underlying9 _ s.size s.size _ s.data.toList.reverse rfl (by rw [List.length_reverse, Lib.size_eq]) hat ?_); intro q hq)
      go_ret
      exact ⟨q, rfl, hq, hbw⟩
end Go.Proofs.YtfghbjjlkciopaaDoor
