/- Walks of the laws on unwrapping: each returns true; old memory as it was. Conditions: the reach of the rows. -/
import Derived.Test.YtjpaboomgicjaaaUnwB
namespace Go.Proofs.Ytjpaboomgicjaaa
open Go.RowKit
set_option linter.unusedVariables false

theorem same_end {s o c r q : ByteArray} {n m : Nat} (h1 : iter (ustep o.data.toList c.data.toList) n s.data.toList = some r.data.toList) (e1 : ustep o.data.toList c.data.toList r.data.toList = none)
    (h2 : iter (ustep o.data.toList c.data.toList) m s.data.toList = some q.data.toList) (e2 : ustep o.data.toList c.data.toList q.data.toList = none) : r = q ∧ n = m := by
  obtain ⟨h, h'⟩ := iter_unique h1 e1 h2 e2
  refine ⟨?_, h⟩
  rw [← Lib.mk_data r, ← Lib.mk_data q, h']

theorem spec_unwrapB (s o c : ByteArray) (w : World) (hs : s.size ≤ maxLen) (ho : o.size ≤ maxLen) (hc : c.size ≤ maxLen) (hoc : o.size + c.size ≤ maxLen) :
    Calls Try.prog 27 #[.string s, .string o, .string c] w (UnwPost s o c w) := by
  go_enter Try.func27, Try.ntmps27
  go_wp2_with (go_at_call 29; refine (spec_unwrap s o c _ hs ho hc hoc).mono ?_; rintro e w' ⟨r, n, rfl, h1, h2, rfl⟩)
  go_ret2
  exact ⟨r, n, rfl, h1, h2, rfl⟩

set_option maxHeartbeats 400000 in
theorem fnExactUnwrap_walk (s : ByteArray) (hs : s.size ≤ 140737488351232) (o : ByteArray) (ho : o.size ≤ 140737488351232) (c : ByteArray) (hc : c.size ≤ 140737488351232) (w : World) :
    Calls Try.prog 6 #[.string s, .string o, .string c] w fun e w' => e = .returned (.bool true) ∧ Below w.heap.size w w' := by
  go_enter Try.func6, Try.ntmps6
  go_wp2_with (first | (go_at_call 29; refine (spec_unwrap s o c _ (by unfold maxLen; omega) (by unfold maxLen; omega) (by unfold maxLen; omega) (by unfold maxLen; omega)).mono ?_; rintro e w' ⟨r, n, rfl, h1, h2, rfl⟩; have H1 := Lib.hid h1; have H2 := Lib.hid h2; clear h1 h2) | (go_at_call 30; refine (impl_unwrap s o c _ (by unfold maxLen; omega)).mono ?_; rintro e w' ⟨q, m, rfl, h3, h4, rfl⟩; obtain ⟨rfl, rfl⟩ := same_end h3 h4 H1.out H2.out; clear h3 h4 H1 H2))
  all_goals go_ret
  all_goals exact ⟨rfl, Below.refl _ _⟩

set_option maxHeartbeats 400000 in
theorem fnExactUnwrapBytes_walk (s : ByteArray) (hs : s.size ≤ 140737488351232) (o : ByteArray) (ho : o.size ≤ 140737488351232) (c : ByteArray) (hc : c.size ≤ 140737488351232) (w : World) :
    Calls Try.prog 5 #[.string s, .string o, .string c] w fun e w' => e = .returned (.bool true) ∧ Below w.heap.size w w' := by
  go_enter Try.func5, Try.ntmps5
  go_wp2_with (first | (go_at_call 27; refine (spec_unwrapB s o c _ (by unfold maxLen; omega) (by unfold maxLen; omega) (by unfold maxLen; omega) (by unfold maxLen; omega)).mono ?_; rintro e w' ⟨r, n, rfl, h1, h2, rfl⟩; have H1 := Lib.hid h1; have H2 := Lib.hid h2; clear h1 h2) | (go_at_call 28; refine (impl_unwrapB s o c _ (by unfold maxLen; omega)).mono ?_; rintro e w' ⟨q, m, rfl, h3, h4, hbw⟩; obtain ⟨rfl, rfl⟩ := same_end h3 h4 H1.out H2.out; clear h3 h4 H1 H2))
  all_goals go_ret
  all_goals first | exact ⟨rfl, Below.refl _ _⟩ | exact ⟨rfl, hbw⟩
end Go.Proofs.Ytjpaboomgicjaaa
