/- The contract of spec.Joined: the texts of a list with another one between them. Conditions: the reach of the row; a result within 2 to the 60 bytes. -/
import Derived.Test.YtahlgmnjdkimmaaDoorSameT
namespace Go.Proofs.YtahlgmnjdkimmaaDoor
open Go.RowKit
set_option linter.unusedVariables false

/-- texts with another one between them -/
def jn (b : List UInt8) : List (List UInt8) → List UInt8
  | [] => []
  | x :: r => x ++ r.flatMap (b ++ ·)
theorem jn_snoc (b : List UInt8) (l : List (List UInt8)) (x : List UInt8) : jn b (l ++ [x]) = if l = [] then x else jn b l ++ b ++ x := by
  cases l with
  | nil => simp [jn]
  | cons y r => simp [jn]
theorem jn_take_len (b : List UInt8) (l : List (List UInt8)) (k : Nat) : (jn b (l.take k)).length ≤ (jn b l).length := by
  cases l with
  | nil => simp [jn]
  | cons y r =>
    cases k with
    | zero => simp [jn]
    | succ k =>
      simp only [List.take_succ_cons, jn, List.length_append]
      have h : (r.flatMap (b ++ ·)) = (r.take k).flatMap (b ++ ·) ++ (r.drop k).flatMap (b ++ ·) := by rw [← List.flatMap_append, List.take_append_drop]
      rw [h, List.length_append]; omega

theorem txt_self (b : ByteArray) : txt b.data.toList = b := Lib.mk_data b
set_option maxHeartbeats 1600000 in
theorem joined_any (v : Value) (l : List (List UInt8)) (b : ByteArray) (w : World) (hl : l.length ≤ 4398046511104) (hb : b.size ≤ 4398046511104) (hj : (jn b.data.toList l).length ≤ 1152921504606846976) (hv : RowV w v (texts l)) :
    Calls Tryd.prog 25 #[v, .string b] w fun e w' => e = .returned (.string (txt (jn b.data.toList l))) ∧ w' = w := by
  obtain ⟨A, c, rfl, hc, hr0⟩ := hv
  rw [texts_length] at hc ⊢
  obtain ⟨n, hnn⟩ : ∃ n, n = l.length := ⟨_, rfl⟩
  rw [← hnn] at hc hl ⊢
  have Hn := Lib.hid hnn
  have Hj := Lib.hid hj
  clear hnn hj
  go_enter Tryd.func25, Tryd.ntmps25
  go_wp2_with fail
  go_loop [5, 10] (fun o i => ∃ k : Nat, k ≤ n ∧ i = .int .i64 k ∧ o = .string (txt (jn b.data.toList (l.take k)))) (fun _ i => n - (intOf i).toNat)
  case atStart => exact ⟨0, Nat.zero_le _, rfl, rfl⟩
  case round =>
    obtain ⟨k, hk, rfl, rfl⟩ := hrel
    by_cases hlt : k < n
    · have hk' : k < l.length := by rw [← Hn.out]; exact hlt
      obtain ⟨bk, o, rfl, hb1, hb2, hcell⟩ := hr0.at_ (i := k) (by rw [texts_length]; exact hk')
      obtain ⟨x, hx⟩ : ∃ x, x = l[k] := ⟨_, rfl⟩
      rw [show (texts l)[k]'(by rw [texts_length]; exact hk') = .string (txt l[k]) by simp [texts], ← hx] at hcell
      have hst : jn b.data.toList (l.take (k + 1)) = if l.take k = [] then x else jn b.data.toList (l.take k) ++ b.data.toList ++ x := by
        rw [List.take_succ_eq_append_getElem hk', jn_snoc, hx]
      have hle := jn_take_len b.data.toList l (k + 1)
      have hj := Hj.out
      obtain ⟨y, hy⟩ : ∃ y, y = jn b.data.toList (l.take k) := ⟨_, rfl⟩
      rw [← hy] at hst ⊢
      by_cases hk0 : k = 0
      · have hy0 : y = [] := by rw [hy, hk0]; rfl
        subst hy0
        rw [hk0, List.take_zero, if_pos rfl] at hst
        rw [hk0] at hle
        have hk1 : ¬ (0 : Int) < (k : Int) := by omega
        rw [show 0 + 1 = k + 1 by omega] at hst hle
        rw [hst] at hle
        have hsz : (txt []).size + (txt x).size ≤ 9223372036854775807 := by show 0 + x.length ≤ _; omega
        have Hst := Lib.hid hst
        clear hst hx hy hk0
        go_wp2_with fail
        go_round
        case rel => exact ⟨k + 1, by omega, by go_num, by rw [Hst.out]; exact congrArg Value.string (txt_append [] x)⟩
        case measure => simp [intOf]; omega
      · have hne : ¬ l.take k = [] := by
          intro e
          have := congrArg List.length e
          rw [List.length_take] at this
          rw [List.length_nil] at this; omega
        rw [if_neg hne] at hst
        rw [hst] at hle
        simp only [List.length_append] at hle
        rw [← Lib.size_eq] at hle
        have hsz1 : (txt y).size + b.size ≤ 9223372036854775807 := by show y.length + _ ≤ _; omega
        have hsz2 : (txt y ++ b).size + (txt x).size ≤ 9223372036854775807 := by
          rw [ByteArray.size_append]; show y.length + _ + x.length ≤ _; omega
        have Hst := Lib.hid hst
        have hk1 : (0 : Int) < (k : Int) := by omega
        clear hst hx hy hne
        go_wp2_with fail
        go_round
        case rel => exact ⟨k + 1, by omega, by go_num, by rw [Hst.out, ← txt_append, ← txt_append, txt_self]⟩
        case measure => simp [intOf]; omega
    · have hkn : k = n := by omega
      subst hkn
      rw [List.take_of_length_le (by rw [← Hn.out]; exact Nat.le_refl _)]
      go_wp2_with fail
      go_ret
      exact ⟨rfl, rfl⟩
end Go.Proofs.YtahlgmnjdkimmaaDoor
