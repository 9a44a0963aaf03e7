/- Contracts of laws.times and spec.At. Conditions: sizes that fit an int. -/
import Derived.Test.YtjpaboomgicjaaaUnwPlain2
import Derived.Test.YtjpaboomgicjaaaUnw
namespace Go.Proofs.Ytjpaboomgicjaaa
open Go.RowKit
set_option linter.unusedVariables false

theorem append_data (a b : ByteArray) : (a ++ b).data.toList = a.data.toList ++ b.data.toList := by
  simp [ByteArray.data_append]

def TimesIs (s : ByteArray) (k : Nat) (r : ByteArray) : Prop := r.data.toList = rep s.data.toList k
theorem TimesIs.size {s r : ByteArray} {k : Nat} (h : TimesIs s k r) : r.size = k * s.size := by
  rw [Lib.size_eq, h, rep_length, Lib.size_eq]
theorem TimesIs.succ {s r : ByteArray} {k : Nat} (h : TimesIs s k r) : TimesIs s (k + 1) (r ++ s) := by
  unfold TimesIs at h ⊢
  rw [append_data, h, rep_succ']
theorem times_room {s r : ByteArray} {k n : Nat} (h : TimesIs s k r) (hk : k < n) (hn : n * s.size ≤ maxLen) : r.size + s.size ≤ 9223372036854775807 := by
  have h1 : (k + 1) * s.size ≤ n * s.size := Nat.mul_le_mul_right _ hk
  rw [Nat.add_mul] at h1
  rw [h.size]; unfold maxLen at hn; omega

set_option maxHeartbeats 400000 in
theorem times_any (s : ByteArray) (n : Nat) (w : World) (hn : n ≤ 9223372036854775807) (hs : n * s.size ≤ maxLen) :
    Calls Try.prog 37 #[.string s, .int .i64 n] w fun e w' => ∃ r : ByteArray, e = .returned (.string r) ∧ TimesIs s n r ∧ w = w' := by
  go_enter Try.func37, Try.ntmps37
  go_wp2
  go_loop [5, 7] (fun v i => ∃ (r : ByteArray) (k : Nat), k ≤ n ∧ v = .string r ∧ i = .int .i64 k ∧ TimesIs s k r) (fun _ i => n - (intOf i).toNat)
  case atStart => exact ⟨_, 0, Nat.zero_le _, rfl, rfl, rfl⟩
  case round =>
    obtain ⟨r, k, hk, rfl, rfl, ht⟩ := hrel
    by_cases hlt : k < n
    · have hr := times_room ht hlt hs
      go_wp2
      go_round
      case rel => exact ⟨r ++ s, k + 1, by omega, rfl, by go_num, ht.succ⟩
      case measure => simp [intOf]; omega
    · have hkn : k = n := by omega
      subst hkn
      go_wp2
      go_ret
      exact ⟨r, rfl, ht, rfl⟩

theorem at_mod (i n : Int) (hn : 0 < n) : (i.tmod n + n).tmod n = i % n := by
  have h1 := Int.tmod_lt_of_pos i hn
  have h2 : -n < i.tmod n := by
    have := Int.tmod_lt_of_pos (-i) hn
    rw [Int.neg_tmod] at this
    omega
  rw [Int.tmod_eq_emod_of_nonneg (by omega), Int.add_emod_right]
  rw [Int.tmod_def, Int.sub_mul_emod_self_left]

theorem at_any (i n : Int) (w : World) (hi : -9223372036854775808 ≤ i ∧ i ≤ 9223372036854775807) (hn : 0 < n) (hn' : n ≤ 4611686018427387904) :
    Calls Try.prog 32 #[.int .i64 i, .int .i64 n] w fun e w' => e = .returned (.int .i64 (i % n)) ∧ w = w' := by
  have h1 := Int.tmod_lt_of_pos i hn
  have h2 : -n < i.tmod n := by
    have := Int.tmod_lt_of_pos (-i) hn
    rw [Int.neg_tmod] at this
    omega
  obtain ⟨hi1, hi2⟩ := hi
  go_enter Try.func32, Try.ntmps32
  go_wp2
  go_ret
  refine ⟨?_, rfl⟩
  rw [← Int.tmod_eq_emod_of_nonneg (by omega), at_mod i n hn]; rfl

theorem at_nat (j n : Int) (k : Nat) (w : World) (hj : -9223372036854775808 ≤ j ∧ j ≤ 9223372036854775807) (hn : 0 < n) (hn' : n ≤ 4611686018427387904) (hk : j % n = (k : Int)) :
    Calls Try.prog 32 #[.int .i64 j, .int .i64 n] w fun e w' => e = .returned (.int .i64 k) ∧ w = w' := by
  have h := at_any j n w hj hn hn'
  rw [hk] at h
  exact h
end Go.Proofs.Ytjpaboomgicjaaa
