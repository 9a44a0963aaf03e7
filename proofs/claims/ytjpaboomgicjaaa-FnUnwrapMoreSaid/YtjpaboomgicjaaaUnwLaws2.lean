/- Walks of the laws on unwrapping that put both packages together: each returns true; old memory as it was. Conditions: the reach of the rows. -/
import Derived.Test.YtjpaboomgicjaaaUnwLaws
import Derived.Test.YtjpaboomgicjaaaTimes
namespace Go.Proofs.Ytjpaboomgicjaaa
open Go.RowKit
set_option linter.unusedVariables false

theorem unw_total {s o c r : ByteArray} {n : Nat} (h : iter (ustep o.data.toList c.data.toList) n s.data.toList = some r.data.toList) : (r.size : Int) + (n : Int) * ((o.size : Int) + (c.size : Int)) = s.size ∧ 0 ≤ (n : Int) * ((o.size : Int) + (c.size : Int)) := by
  have h1 := (iter_ustep_len h).1
  simp only [← Lib.size_eq] at h1
  have h2 : ((n * (o.size + c.size) : Nat) : Int) = (n : Int) * ((o.size : Int) + (c.size : Int)) := by push_cast; rfl
  omega

set_option maxHeartbeats 400000 in
theorem fnUnwrapBoth_walk (s : ByteArray) (hs : s.size ≤ 140737488351232) (o : ByteArray) (ho : o.size ≤ 140737488351232) (c : ByteArray) (hc : c.size ≤ 140737488351232) (w : World) :
    Calls Try.prog 13 #[.string s, .string o, .string c] w fun e w' => e = .returned (.bool true) ∧ Below w.heap.size w w' := by
  go_enter Try.func13, Try.ntmps13
  go_wp2_with (first | (go_at_call 30; refine (impl_unwrap s o c _ (by unfold maxLen; omega)).mono ?_; rintro e w' ⟨r, n, rfl, h1, h2, rfl⟩; have H1 := Lib.hid h1; have H2 := Lib.hid h2; clear h1 h2) | (go_at_call 28; refine (impl_unwrapB s o c _ (by unfold maxLen; omega)).mono ?_; rintro e w' ⟨q, m, rfl, h3, h4, hbw⟩; obtain ⟨rfl, rfl⟩ := same_end h3 h4 H1.out H2.out; clear H1 H2; have H3 := Lib.hid h3; clear h3 h4))
  have ht := unw_total H3.out
  go_ret
  refine ⟨ret_bool ?_, hbw⟩
  rw [IntWalk.wrap64_in ((m : Int) * _) ⟨by omega, by omega⟩, IntWalk.wrap64_in _ ⟨by omega, by omega⟩, ht.1]
  simp

theorem unw_room {s o c r : ByteArray} {n : Nat} (h : iter (ustep o.data.toList c.data.toList) n s.data.toList = some r.data.toList) : n + r.size ≤ s.size ∧ n * o.size ≤ s.size ∧ n * c.size ≤ s.size ∧ n * o.size + r.size + n * c.size = s.size := by
  have h1 := iter_le h
  have h2 := (iter_ustep_len h).1
  rw [← Lib.size_eq, ← Lib.size_eq] at h1
  simp only [← Lib.size_eq] at h2
  rw [Nat.mul_add] at h2
  omega

set_option maxHeartbeats 400000 in
theorem fnUnwrapRestores_walk (s : ByteArray) (hs : s.size ≤ 140737488351232) (o : ByteArray) (ho : o.size ≤ 140737488351232) (c : ByteArray) (hc : c.size ≤ 140737488351232) (w : World) :
    Calls Try.prog 15 #[.string s, .string o, .string c] w fun e w' => e = .returned (.bool true) ∧ Below w.heap.size w w' := by
  go_enter Try.func15, Try.ntmps15
  go_wp2_with (first
    | (go_at_call 30; refine (impl_unwrap s o c _ (by unfold maxLen; omega)).mono ?_; rintro e w' ⟨r, n, rfl, h1, h2, rfl⟩; obtain ⟨hle, hx, hy, hz⟩ := unw_room h1; have H1 := Lib.hid h1; have H2 := Lib.hid h2; clear h1 h2)
    | (go_at_call 28; refine (impl_unwrapB r o c _ (by unfold maxLen; omega)).mono ?_; rintro e w' ⟨q, m, rfl, h3, h4, hbw⟩; obtain ⟨rfl, rfl⟩ := same_end (n := m) (m := 0) h3 h4 rfl H2.out; clear h3 h4)
    | (go_at_call 37; (with_reducible refine (times_any o n _ (by omega) (by unfold maxLen; omega)).mono ?_); rintro e w' ⟨t1, rfl, ht1, rfl⟩; have hs1 : t1.size ≤ 140737488351232 := by rw [ht1.size]; omega)
    | (go_at_call 37; (with_reducible refine (times_any c n _ (by omega) (by unfold maxLen; omega)).mono ?_); rintro e w' ⟨t2, rfl, ht2, rfl⟩; have hs2 : t2.size ≤ 140737488351232 := by rw [ht2.size]; omega))
  · go_ret
    exact ⟨rfl, hbw⟩
  · exfalso
    apply ‹¬ _›
    have h := iter_restores H1.out
    rw [Lib.toList_data, Lib.toList_data, append_data, append_data, ht1, ht2, h]

theorem unw_nil {s r : ByteArray} {n : Nat} (h : iter (ustep [] []) n s.data.toList = some r.data.toList) : r = s ∧ n = 0 := by
  have h0 : n = 0 := by
    cases n with
    | zero => rfl
    | succ n =>
      rw [iter_succ, ustep_none0 rfl] at h
      cases h
  subst h0
  simp only [iter, Option.some.injEq] at h
  refine ⟨?_, rfl⟩
  rw [← Lib.mk_data r, ← Lib.mk_data s, h]
theorem at_12 (j : Int) (k : Nat) (w : World) (hj : -9223372036854775808 ≤ j ∧ j ≤ 9223372036854775807) (hk : j % 12 = (k : Int)) :
    Calls Try.prog 32 #[.int .i64 j, .int .i64 12] w fun e w' => e = .returned (.int .i64 k) ∧ w = w' := by
  have h := at_any j 12 w hj (by omega) (by omega)
  rw [hk] at h
  exact h
theorem room12 {k n : Nat} (hk : k < 12) (hn : n ≤ 1048576) : k * n ≤ 12582912 := by
  have : k * n ≤ 12 * 1048576 := Nat.mul_le_mul (by omega) hn
  omega
theorem more_end {s o c r q t1 t2 : ByteArray} {n m k : Nat} (h0 : 0 < o.size + c.size) (h1 : Hid (iter (ustep o.data.toList c.data.toList) n s.data.toList = some r.data.toList)) (e1 : Hid (ustep o.data.toList c.data.toList r.data.toList = none))
    (ht1 : TimesIs o k t1) (ht2 : TimesIs c k t2) (h2 : iter (ustep o.data.toList c.data.toList) m (t1 ++ s ++ t2).data.toList = some q.data.toList) (e2 : ustep o.data.toList c.data.toList q.data.toList = none) : r = q ∧ m = n + k := by
  rw [append_data, append_data, ht1, ht2] at h2
  have h3 := iter_more (o := o.data.toList) (c := c.data.toList) (by rw [← Lib.size_eq, ← Lib.size_eq]; exact h0) k h1.out
  obtain ⟨h, h'⟩ := iter_unique h2 e2 h3 e1.out
  refine ⟨?_, h⟩
  rw [← Lib.mk_data r, ← Lib.mk_data q, h']

set_option maxHeartbeats 800000 in
theorem fnUnwrapMore_walk (s : ByteArray) (hs : s.size ≤ 140737488351232) (o : ByteArray) (ho : o.size ≤ 140737488351232) (c : ByteArray) (hc : c.size ≤ 140737488351232) (j : Int) (hj : -9223372036854775808 ≤ j ∧ j ≤ 9223372036854775807) (w : World) :
    Calls Try.prog 14 #[.string s, .string o, .string c, .int .i64 j] w fun e w' => e = .returned (.bool true) ∧ Below w.heap.size w w' := by
  obtain ⟨k, hk, hk12⟩ : ∃ k : Nat, j % 12 = (k : Int) ∧ k < 12 := ⟨(j % 12).toNat, by omega, by omega⟩
  have Hk := Lib.hid hk; clear hk
  have Hj := Lib.hid hj; clear hj
  by_cases hsz : o.size + c.size = 0
  · have h1 : o.size = 0 := by omega
    have h2 : c.size = 0 := by omega
    go_enter Try.func14, Try.ntmps14
    go_wp2_with (first
      | (go_at_call 32; refine (at_any j 12 _ Hj.out (by omega) (by omega)).mono ?_; rintro e w' ⟨rfl, rfl⟩)
      | (go_at_call 30; refine (impl_unwrap s _ _ _ (by unfold maxLen; omega)).mono ?_; rintro e w' ⟨r, n, rfl, h3, h4, rfl⟩; obtain ⟨rfl, rfl⟩ := unw_nil h3; clear h3 h4))
    all_goals go_ret
    all_goals exact ⟨rfl, Below.refl _ _⟩
  · by_cases hbig : 1048576 < o.size + c.size
    · go_enter Try.func14, Try.ntmps14
      go_wp2_with (first
        | (go_at_call 32; refine (at_any j 12 _ Hj.out (by omega) (by omega)).mono ?_; rintro e w' ⟨rfl, rfl⟩)
        | (go_at_call 30; refine (impl_unwrap s _ _ _ (by unfold maxLen; omega)).mono ?_; rintro e w' ⟨r, n, rfl, h3, h4, rfl⟩; obtain ⟨rfl, rfl⟩ := unw_nil h3; clear h3 h4))
      all_goals go_ret
      all_goals exact ⟨rfl, Below.refl _ _⟩
    · have hpos : 0 < o.size + c.size := by omega
      have hb1 : (((o.size : Int) + (c.size : Int)) == 0) = false := by rw [beq_eq_false_iff_ne]; omega
      have hb2 : decide ((1048576 : Int) < (o.size : Int) + (c.size : Int)) = false := decide_eq_false (by omega)
      have hr1 := room12 hk12 (show o.size ≤ 1048576 by omega)
      have hr2 := room12 hk12 (show c.size ≤ 1048576 by omega)
      go_enter Try.func14, Try.ntmps14
      go_wp2_with (go_at_call 32; (with_reducible refine (at_12 j k _ Hj.out Hk.out).mono ?_); rintro e w' ⟨rfl, rfl⟩)
      (with_reducible refine (impl_unwrap s o c _ (by unfold maxLen; omega)).mono ?_); rintro e w' ⟨r, n, rfl, h1, h2, rfl⟩
      obtain ⟨hle, hx, hy, hz⟩ := unw_room h1
      have H1 := Lib.hid h1; have H2 := Lib.hid h2; clear h1 h2 hz
      go_wp2_with fail
      (with_reducible refine (times_any o k _ (by omega) (by unfold maxLen; omega)).mono ?_); rintro e w' ⟨t1, rfl, ht1, rfl⟩
      have hs1 : t1.size ≤ 12582912 := by rw [ht1.size]; omega
      go_wp2_with fail
      (with_reducible refine (times_any c k _ (by omega) (by unfold maxLen; omega)).mono ?_); rintro e w' ⟨t2, rfl, ht2, rfl⟩
      have hs2 : t2.size ≤ 12582912 := by rw [ht2.size]; omega
      go_wp2_with fail
      (with_reducible refine (impl_unwrapB (t1 ++ s ++ t2) o c _ (by simp only [ByteArray.size_append]; unfold maxLen; omega)).mono ?_); rintro e w' ⟨q, m, rfl, h3, h4, hbw⟩
      obtain ⟨rfl, rfl⟩ := more_end hpos H1 H2 ht1 ht2 h3 h4
      clear h3 h4 H1 H2 hx hy hr1 hr2
      go_wp2
      go_ret
      refine ⟨ret_bool ?_, hbw⟩
      simp
end Go.Proofs.Ytjpaboomgicjaaa
