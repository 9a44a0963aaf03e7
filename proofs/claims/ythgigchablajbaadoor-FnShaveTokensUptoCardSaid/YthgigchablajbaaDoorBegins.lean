/- Contracts of spec.Begins, spec.Ends and laws.stands. Conditions: lengths within 2 to the 47. -/
import Derived.Test.YthgigchablajbaaDoorShelf
import Derived.Test.YthgigchablajbaaDoorEndSteps
import Derived.WalkKit
import Derived.WalkSpells
import Derived.WalkLawsBesides
import Derived.Outline
import Derived.Lib.Strings
import Derived.Lib.Hide
namespace Go.Proofs.YthgigchablajbaaDoor
open Go.RowKit
set_option linter.unusedVariables false

theorem ret_bool {a b : Bool} (h : a = b) : Ending.returned (.bool a) = .returned (.bool b) := by rw [h]

theorem begins_any (s t : ByteArray) (w : World) (hs : s.size ≤ maxLen) (ht : t.size ≤ maxLen) :
    Calls Tryd.prog 22 #[.string s, .string t] w fun e w' => e = .returned (.bool (Lib.hasPrefix s.data.toList t.data.toList)) ∧ w = w' := by
  unfold maxLen at hs ht
  go_enter Tryd.func22, Tryd.ntmps22
  go_wp2
  · go_ret
    refine ⟨ret_bool ?_, rfl⟩
    have hle : t.size ≤ s.size := by assumption
    rw [Lib.extract_toList, Lib.toList_data, ← Lib.hasPrefix_of_take, ← Lib.size_eq, ← Lib.size_eq]
    simp [hle]
  · go_ret
    refine ⟨ret_bool ?_, rfl⟩
    have hle : ¬ t.size ≤ s.size := by assumption
    rw [← Lib.hasPrefix_of_take, ← Lib.size_eq, ← Lib.size_eq]
    simp [hle]

theorem ends_any (s t : ByteArray) (w : World) (hs : s.size ≤ maxLen) (ht : t.size ≤ maxLen) :
    Calls Tryd.prog 23 #[.string s, .string t] w fun e w' => e = .returned (.bool (Lib.hasSuffix s.data.toList t.data.toList)) ∧ w = w' := by
  unfold maxLen at hs ht
  go_enter Tryd.func23, Tryd.ntmps23
  go_wp2
  · go_ret
    refine ⟨ret_bool ?_, rfl⟩
    have hle : t.size ≤ s.size := by assumption
    rw [Lib.extract_toList, Lib.toList_data, ← Lib.hasSuffix_of_drop, ← Lib.size_eq, ← Lib.size_eq]
    simp only [hle, decide_true, Bool.true_and]
    congr 1
    rw [List.take_of_length_le]
    rw [List.length_drop, ← Lib.size_eq]; omega
  · go_ret
    refine ⟨ret_bool ?_, rfl⟩
    have hle : ¬ t.size ≤ s.size := by assumption
    rw [← Lib.hasSuffix_of_drop, ← Lib.size_eq, ← Lib.size_eq]
    simp [hle]

theorem hasPrefix_app (a b : List UInt8) : Lib.hasPrefix (a ++ b) a = true := by
  rw [← Lib.hasPrefix_of_take]; simp

set_option maxHeartbeats 400000 in
/-- a text that stands in another one is found there -/
theorem stands_any (s t : ByteArray) (w : World) (hs : s.size ≤ 140737488355328) (h : ∃ a b, s.data.toList = a ++ (t.data.toList ++ b)) :
    Calls Tryd.prog 24 #[.string s, .string t] w fun e w' => e = .returned (.bool true) ∧ w = w' := by
  obtain ⟨a, b, hab⟩ := h
  have hsz : s.size = a.length + t.size + b.length := by rw [Lib.size_eq, hab, List.length_append, List.length_append, ← Lib.size_eq]; omega
  have hszl : a.length + t.size ≤ s.size := by omega
  have Hab := Lib.hid hab; clear hab hsz
  go_enter Tryd.func24, Tryd.ntmps24
  go_wp2
  go_loop [5] (fun i => ∃ k : Nat, k ≤ a.length ∧ i = .int .i64 k) (fun i => a.length + 1 - (intOf i).toNat)
  case atStart => exact ⟨0, Nat.zero_le _, rfl⟩
  case round =>
    obtain ⟨k, hk, rfl⟩ := hrel
    have h1 : (k : Int) + (t.size : Int) ≤ (s.size : Int) := by omega
    have hkl : (k : Int) ≤ (s.size : Int) := by omega
    obtain ⟨r, hr⟩ : ∃ r, r = Lib.hasPrefix (s.extract k s.size).data.toList t.data.toList := ⟨_, rfl⟩
    have hlast : k = a.length → r = true := fun e => by
      rw [hr, e, extract_tail_data, Hab.out, List.drop_left]
      exact hasPrefix_app _ _
    have htl : (s.extract k s.size).size ≤ maxLen := by rw [Lib.size_eq, extract_tail_data, List.length_drop, ← Lib.size_eq]; unfold maxLen; omega
    have htt : t.size ≤ maxLen := by unfold maxLen; omega
    have Hr := Lib.hid hr; have Hlast := Lib.hid hlast
    clear hr hlast
    go_wp2_with fail
    (with_reducible refine (begins_any (s.extract k s.size) t _ htl htt).mono ?_); rintro e w' ⟨rfl, rfl⟩
    rw [← Hr.out]
    cases r with
    | true =>
      go_wp2
      go_ret
      exact ⟨rfl, rfl⟩
    | false =>
      have hne : k ≠ a.length := fun e => by have := Hlast.out e; cases this
      go_wp2
      go_round
      case rel => exact ⟨k + 1, by omega, by go_num⟩
      case measure => simp [intOf]; omega
end Go.Proofs.YthgigchablajbaaDoor
