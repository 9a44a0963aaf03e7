/- Contracts of spec.Begins, spec.Ends, spec.Unwrap and impl.Unwrap: what they return, the world as it was. Conditions: lengths that fit an int. -/
import Derived.Test.YtjpaboomgicjaaaShelf
import Derived.Test.YtjpaboomgicjaaaUnwPlain
import Derived.WalkKit
import Derived.WalkSpells
import Derived.WalkLawsBesides
import Derived.Outline
import Derived.Lib.Strings
import Derived.Lib.Hide
namespace Go.Proofs.Ytjpaboomgicjaaa
open Go.RowKit
set_option linter.unusedVariables false

theorem ret_bool {a b : Bool} (h : a = b) : Ending.returned (.bool a) = .returned (.bool b) := by rw [h]

theorem begins_any (s t : ByteArray) (w : World) (hs : s.size ≤ maxLen) (ht : t.size ≤ maxLen) :
    Calls Try.prog 45 #[.string s, .string t] w fun e w' => e = .returned (.bool (Lib.hasPrefix s.data.toList t.data.toList)) ∧ w = w' := by
  unfold maxLen at hs ht
  go_enter Try.func45, Try.ntmps45
  go_wp2
  · go_ret
    refine ⟨ret_bool ?_, rfl⟩
    have hle : t.size ≤ s.size := by assumption
    rw [Lib.extract_toList, Lib.toList_data, ← Lib.hasPrefix_of_take, ← Lib.size_eq, ← Lib.size_eq]
    simp [hle]
  · go_ret
    refine ⟨ret_bool ?_, rfl⟩
    have hle : ¬ t.size ≤ s.size := by assumption
    rw [← Lib.hasPrefix_of_take, ← Lib.size_eq, ← Lib.size_eq]
    simp [hle]

theorem ends_any (s t : ByteArray) (w : World) (hs : s.size ≤ maxLen) (ht : t.size ≤ maxLen) :
    Calls Try.prog 44 #[.string s, .string t] w fun e w' => e = .returned (.bool (Lib.hasSuffix s.data.toList t.data.toList)) ∧ w = w' := by
  unfold maxLen at hs ht
  go_enter Try.func44, Try.ntmps44
  go_wp2
  · go_ret
    refine ⟨ret_bool ?_, rfl⟩
    have hle : t.size ≤ s.size := by assumption
    rw [Lib.extract_toList, Lib.toList_data, ← Lib.hasSuffix_of_drop, ← Lib.size_eq, ← Lib.size_eq]
    simp only [hle, decide_true, Bool.true_and]
    congr 1
    rw [List.take_of_length_le]
    rw [List.length_drop, ← Lib.size_eq]; omega
  · go_ret
    refine ⟨ret_bool ?_, rfl⟩
    have hle : ¬ t.size ≤ s.size := by assumption
    rw [← Lib.hasSuffix_of_drop, ← Lib.size_eq, ← Lib.size_eq]
    simp [hle]

/-- it returns the end of the steps, and their number; the world is as it was -/
def UnwPost (s o c : ByteArray) (w : World) (e : Ending) (w' : World) : Prop :=
  ∃ (r : ByteArray) (n : Nat), e = .returned (.tuple #[.string r, .int .i64 n]) ∧ iter (ustep o.data.toList c.data.toList) n s.data.toList = some r.data.toList ∧ ustep o.data.toList c.data.toList r.data.toList = none ∧ w = w'

def strLen : Value → Nat | .string r => r.size | _ => 0
def USteps (s o c : ByteArray) (n : Nat) (r : ByteArray) : Prop := iter (ustep o.data.toList c.data.toList) n s.data.toList = some r.data.toList
theorem USteps.le {s o c r : ByteArray} {n : Nat} (h : USteps s o c n r) : n + r.size ≤ s.size := by
  have := iter_le h; rw [Lib.size_eq, Lib.size_eq]; exact this

theorem USteps.more {s o c r : ByteArray} {n : Nat} (h : USteps s o c n r) (h0 : 0 < o.size + c.size) (h1 : o.size + c.size ≤ r.size) (h2 : Lib.hasPrefix r.data.toList o.data.toList = true) (h3 : Lib.hasSuffix r.data.toList c.data.toList = true) :
    USteps s o c (n + 1) (r.extract o.size (r.size - c.size)) := by
  unfold USteps at h ⊢
  rw [iter, h, Option.bind_some, Lib.extract_data]
  rw [Lib.size_eq, Lib.size_eq] at h0
  rw [Lib.size_eq, Lib.size_eq, Lib.size_eq] at h1
  unfold ustep
  rw [if_pos ⟨h0, h1, h2, h3⟩, Lib.size_eq, Lib.size_eq, Lib.size_eq]
  congr 2
  omega
theorem unone_len {o c r : ByteArray} (h : r.size < o.size + c.size) : ustep o.data.toList c.data.toList r.data.toList = none := by
  rw [Lib.size_eq, Lib.size_eq, Lib.size_eq] at h
  unfold ustep; rw [if_neg (by omega)]
theorem unone_none {o c r : ByteArray} (h : o.size + c.size = 0) : ustep o.data.toList c.data.toList r.data.toList = none := by
  rw [Lib.size_eq, Lib.size_eq] at h
  exact ustep_none0 h
theorem unone_pre {o c r : ByteArray} (h : ¬ Lib.hasPrefix r.data.toList o.data.toList = true) : ustep o.data.toList c.data.toList r.data.toList = none :=
  ustep_none1 (by simpa using h)
theorem unone_suf {o c r : ByteArray} (h : Lib.hasSuffix r.data.toList c.data.toList = false) : ustep o.data.toList c.data.toList r.data.toList = none := by
  unfold ustep; rw [if_neg]; rintro ⟨_, _, _, h'⟩; rw [h] at h'; cases h'

set_option maxHeartbeats 400000 in
theorem spec_unwrap (s o c : ByteArray) (w : World) (hs : s.size ≤ maxLen) (ho : o.size ≤ maxLen) (hc : c.size ≤ maxLen) (hoc : o.size + c.size ≤ maxLen) :
    Calls Try.prog 29 #[.string s, .string o, .string c] w (UnwPost s o c w) := by
  unfold maxLen at hs ho hc hoc
  go_enter Try.func29, Try.ntmps29
  go_wp2
  go_loop [0, 8] (fun v i => ∃ (r : ByteArray) (n : Nat), v = .string r ∧ i = .int .i64 n ∧ USteps s o c n r) (fun v _ => strLen v)
  case atStart => exact ⟨s, 0, rfl, rfl, rfl⟩
  case round =>
    obtain ⟨r, n, rfl, rfl, hst⟩ := hrel
    have hle := hst.le
    go_wp2_with (first | (go_at_call 45; refine (begins_any _ _ _ (by unfold maxLen; omega) (by unfold maxLen; omega)).mono ?_; rintro e w' ⟨rfl, rfl⟩) | (go_at_call 44; refine (ends_any _ _ _ (by unfold maxLen; omega) (by unfold maxLen; omega)).mono ?_; rintro e w' ⟨rfl, rfl⟩))
    · go_round
      case rel => exact ⟨_, n + 1, rfl, by go_num, hst.more (by omega) (by omega) ‹_› ‹_›⟩
      case measure => simp only [strLen, ByteArray.size_extract]; omega
    all_goals
      go_ret2
      refine ⟨r, n, rfl, hst, ?_, rfl⟩
      first | exact unone_len (by omega) | exact unone_none (by omega) | exact unone_pre ‹_› | exact unone_suf ‹_›

theorem cutPrefix_any (s p : ByteArray) (w : World) :
    Calls Try.prog 47 #[.string s, .string p] w fun e w' => ∃ r : ByteArray, e = .returned (.tuple #[.string r, .bool (Lib.hasPrefix s.data.toList p.data.toList)]) ∧ Hid (r.data.toList = Lib.trimPrefix s.data.toList p.data.toList) ∧ r.size ≤ s.size ∧ w = w' := by
  refine (Try.strings_CutPrefix s p w).mono ?_
  rintro e w' ⟨rfl, rfl⟩
  refine ⟨_, rfl, rfl, ?_, rfl⟩
  rw [Lib.size_eq, Lib.size_eq]
  show (Lib.trimPrefix _ _).length ≤ _
  unfold Lib.trimPrefix
  split
  · rw [List.length_drop]; omega
  · exact Nat.le_refl _
theorem cutSuffix_any (s p : ByteArray) (w : World) (hs : s.size ≤ maxLen) :
    Calls Try.prog 46 #[.string s, .string p] w fun e w' => ∃ r : ByteArray, e = .returned (.tuple #[.string r, .bool (Lib.hasSuffix s.data.toList p.data.toList)]) ∧ Hid (r.data.toList = Lib.trimSuffix s.data.toList p.data.toList) ∧ r.size ≤ s.size ∧ w = w' := by
  refine (Try.strings_CutSuffix s p w hs).mono ?_
  rintro e w' ⟨rfl, rfl⟩
  refine ⟨_, rfl, rfl, ?_, rfl⟩
  rw [Lib.size_eq, Lib.size_eq]
  show (Lib.trimSuffix _ _).length ≤ _
  unfold Lib.trimSuffix
  split
  · rw [List.length_take]; omega
  · exact Nat.le_refl _
theorem USteps.cut {s o c r r1 r2 : ByteArray} {n : Nat} (h : USteps s o c n r) (h0 : 0 < o.size + c.size) (b1 : (!Lib.hasPrefix r.data.toList o.data.toList) = false) (b2 : (!Lib.hasSuffix r1.data.toList c.data.toList) = false)
    (e1 : Hid (r1.data.toList = Lib.trimPrefix r.data.toList o.data.toList)) (e2 : Hid (r2.data.toList = Lib.trimSuffix r1.data.toList c.data.toList)) : USteps s o c (n + 1) r2 ∧ r2.size < r.size := by
  have e1 := e1.out
  have e2 := e2.out
  rw [e1] at e2 b2
  rw [Lib.size_eq, Lib.size_eq] at h0
  have hu := ustep_some (s := r.data.toList) h0 (by simpa using b1) (by simpa using b2)
  rw [← e2] at hu
  have hl := ustep_len hu
  refine ⟨?_, ?_⟩
  · unfold USteps at h ⊢
    rw [iter, h, Option.bind_some, hu]
  · rw [Lib.size_eq, Lib.size_eq]; omega
theorem unone_nil {o c r : ByteArray} (h1 : o.toList = []) (h2 : (!c.toList.isEmpty) = false) : ustep o.data.toList c.data.toList r.data.toList = none := by
  rw [Lib.toList_data] at h1
  rw [Lib.toList_data] at h2
  have h3 : c.data.toList = [] := List.isEmpty_iff.1 (by cases h : c.data.toList.isEmpty <;> simp_all)
  exact ustep_none0 (by rw [h1, h3]; rfl)
theorem unone_cut1 {o c r : ByteArray} (h : (!Lib.hasPrefix r.data.toList o.data.toList) = true) : ustep o.data.toList c.data.toList r.data.toList = none :=
  ustep_none1 (by simpa using h)
theorem unone_cut2 {o c r r1 : ByteArray} (h : (!Lib.hasPrefix r.data.toList o.data.toList) = false) (h2 : (!Lib.hasSuffix r1.data.toList c.data.toList) = true) (e1 : Hid (r1.data.toList = Lib.trimPrefix r.data.toList o.data.toList)) : ustep o.data.toList c.data.toList r.data.toList = none := by
  have e1 := e1.out
  rw [e1] at h2
  exact ustep_none2 (by simpa using h) (by simpa using h2)
theorem pos_of_l {o c : ByteArray} (h : ¬ o.toList = []) : 0 < o.size + c.size := by
  rw [Lib.toList_data] at h
  have := List.length_pos_iff.2 h
  rw [Lib.size_eq]; omega
theorem pos_of_r {o c : ByteArray} (h : (!c.toList.isEmpty) = true) : 0 < o.size + c.size := by
  rw [Lib.toList_data] at h
  have h3 : c.data.toList ≠ [] := by intro e; rw [e] at h; cases h
  have := List.length_pos_iff.2 h3
  rw [Lib.size_eq c]; omega

set_option maxHeartbeats 400000 in
theorem impl_unwrap (s o c : ByteArray) (w : World) (hs : s.size ≤ maxLen) :
    Calls Try.prog 30 #[.string s, .string o, .string c] w (UnwPost s o c w) := by
  unfold maxLen at hs
  go_enter Try.func30, Try.ntmps30
  go_wp2
  go_loop [9, 10, 11, 8] (fun v _ _ i => ∃ (r : ByteArray) (n : Nat), v = .string r ∧ i = .int .i64 n ∧ USteps s o c n r) (fun v _ _ _ => strLen v)
  case atStart => exact ⟨s, 0, rfl, rfl, rfl⟩
  case round =>
    obtain ⟨r, n, rfl, rfl, hst⟩ := hrel
    have hle := hst.le
    go_wp2_with (first | (go_at_call 47; refine (cutPrefix_any _ _ _).mono ?_; rintro e w' ⟨r1, rfl, H1, hl1, rfl⟩) | (go_at_call 46; refine (cutSuffix_any _ _ _ (by unfold maxLen; omega)).mono ?_; rintro e w' ⟨r2, rfl, H2, hl2, rfl⟩))
    all_goals first
      | (go_ret2
         refine ⟨r, n, rfl, hst, ?_, rfl⟩
         first | exact unone_nil ‹_› ‹_› | exact unone_cut1 ‹_› | exact unone_cut2 ‹_› ‹_› H1)
      | (have hne : 0 < o.size + c.size := by first | exact pos_of_l ‹_› | exact pos_of_r ‹_›
         have hn := hst.cut hne ‹_› ‹_› H1 H2
         have hnl := hn.1.le
         go_round
         case rel => exact ⟨r2, n + 1, rfl, by rw [IntWalk.wrap64_in _ ⟨by omega, by omega⟩]; go_num, hn.1⟩
         case measure => simp only [strLen]; exact hn.2)
end Go.Proofs.Ytjpaboomgicjaaa
