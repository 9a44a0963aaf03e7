/- The contract of laws.dressed: the marks that are told, put on; the world as it was. Conditions: no text on the way is longer than an int can say. -/
import Derived.Test.YtjpaboomgicjaaaPeelLaws
import Derived.Test.YtjpaboomgicjaaaTimes
namespace Go.Proofs.Ytjpaboomgicjaaa
open Go.RowKit
set_option linter.unusedVariables false

def dressB (r : ByteArray) (L : List Mb) (bs : List Bool) : List UInt8 := dressL r.data.toList (L.map mk) bs
theorem dressB_step (r : ByteArray) (L : List Mb) (bs : List Bool) (i : Nat) (h1 : i < L.length) (h2 : i < bs.length) : dressB r (L.drop i) (bs.drop i) = dress1 (dressB r (L.drop (i + 1)) (bs.drop (i + 1))) (mk L[i]) bs[i] := by
  unfold dressB
  rw [List.drop_eq_getElem_cons h1, List.drop_eq_getElem_cons h2]
  rfl
/-- the loop's word -/
def DressIs (r0 : ByteArray) (L : List Mb) (bs : List Bool) (j : Nat) (r : ByteArray) : Prop := r.data.toList = dressB r0 (L.drop j) (bs.drop j)
theorem dress_no {r0 r : ByteArray} {L : List Mb} {bs : List Bool} {i : Nat} (h : DressIs r0 L bs (i + 1) r) (h1 : i < L.length) (h2 : i < bs.length) (hb : bs[i] = false) : DressIs r0 L bs i r := by
  unfold DressIs at h ⊢
  rw [dressB_step r0 L bs i h1 h2, hb, h]; rfl
theorem dress_back {r0 r t : ByteArray} {L : List Mb} {bs : List Bool} {i : Nat} (h : DressIs r0 L bs (i + 1) r) (h1 : i < L.length) (h2 : i < bs.length) (hb : bs[i] = true) (hm : (true, t) = L[i]) : DressIs r0 L bs i (r ++ t) := by
  unfold DressIs at h ⊢
  rw [dressB_step r0 L bs i h1 h2, hb, ← hm, append_data, h]; rfl
theorem dress_front {r0 r t : ByteArray} {L : List Mb} {bs : List Bool} {i : Nat} (h : DressIs r0 L bs (i + 1) r) (h1 : i < L.length) (h2 : i < bs.length) (hb : bs[i] = true) (hm : (false, t) = L[i]) : DressIs r0 L bs i (t ++ r) := by
  unfold DressIs at h ⊢
  rw [dressB_step r0 L bs i h1 h2, hb, ← hm, append_data, h]; rfl

set_option maxHeartbeats 800000 in
theorem dressed_any (r0 : ByteArray) (A : Option Addr) (n c : Nat) (L : List Mb) (v : Value) (bs : List Bool) (w : World) (hn : n = L.length) (hnb : n ≤ 140737488351232) (hm : MAt w 0 w.heap.size A L) (hv : RowV w v (bs.map Value.bool)) (hbs : bs.length = n)
    (hroom : ∀ j, (dressB r0 (L.drop j) (bs.drop j)).length ≤ 9223372036854775807) :
    Calls Try.prog 33 #[.string r0, .slice A n c, v] w fun e w' => ∃ r : ByteArray, e = .returned (.string r) ∧ Hid (r.data.toList = dressB r0 L bs) ∧ w = w' := by
  obtain ⟨A2, c2, rfl, hc2, hrow⟩ := hv
  rw [List.length_map, hbs]
  have Hn := Lib.hid hn; have Hbs := Lib.hid hbs; have Hroom := Lib.hid hroom; have Hm := Lib.hid hm; have Hrow := Lib.hid hrow
  clear hn hbs hroom hm hrow hc2
  go_enter Try.func33, Try.ntmps33
  go_wp2
  go_loop [0, 7] (fun u i => ∃ (r : ByteArray) (j : Nat) (q : Int), j ≤ n ∧ q = (j : Int) - 1 ∧ u = .string r ∧ i = .int .i64 q ∧ DressIs r0 L bs j r) (fun _ i => (intOf i + 1).toNat)
  case atStart => exact ⟨r0, n, _, Nat.le_refl _, rfl, rfl, rfl, by unfold DressIs dressB; rw [List.drop_of_length_le (Nat.le_of_eq Hn.out.symm)]; simp [dressL]⟩
  case round =>
    obtain ⟨r, j, q, hj, hq, rfl, rfl, hd⟩ := hrel
    cases j with
    | zero =>
      obtain rfl : q = -1 := by omega
      clear hq
      go_wp2
      go_ret
      refine ⟨r, rfl, ?_, rfl⟩
      show _ = _
      simpa [DressIs] using hd
    | succ i =>
      obtain rfl : q = (i : Int) := by omega
      clear hq
      have hi1 : i < L.length := by rw [← Hn.out]; omega
      have hi2 : i < bs.length := by rw [Hbs.out]; omega
      obtain ⟨b, o, rfl, _, _, hc1, hc2⟩ := Hm.out.at_ hi1
      obtain ⟨b', o', rfl, _, _, hc3⟩ := Hrow.out.at_ (i := i) (by rw [List.length_map]; exact hi2)
      rw [List.getElem_map] at hc3
      obtain ⟨m, hmm⟩ : ∃ m : Mb, m = L[i] := ⟨_, rfl⟩
      rw [← hmm] at hc1 hc2
      obtain ⟨bm, tm⟩ := m
      obtain ⟨bb, hbb⟩ : ∃ bb : Bool, bb = bs[i] := ⟨_, rfl⟩
      rw [← hbb] at hc3
      have hr := Hroom.out i
      have Hmm := Lib.hid hmm; have Hbb := Lib.hid hbb; clear hmm hbb
      simp only at hc1 hc2
      cases bb
      · clear hr
        go_wp2
        go_round
        case rel => exact ⟨r, i, _, by omega, rfl, rfl, rfl, dress_no hd hi1 hi2 Hbb.out.symm⟩
        case measure => simp [intOf]
      · cases bm
        · have hd' := dress_front hd hi1 hi2 Hbb.out.symm Hmm.out
          have hsz : tm.size + r.size ≤ 9223372036854775807 := by rw [← hd', ← Lib.size_eq, ByteArray.size_append] at hr; exact hr
          clear hr
          go_wp2
          go_round
          case rel => exact ⟨_, i, _, by omega, rfl, rfl, rfl, hd'⟩
          case measure => simp [intOf]
        · have hd' := dress_back hd hi1 hi2 Hbb.out.symm Hmm.out
          have hsz : r.size + tm.size ≤ 9223372036854775807 := by rw [← hd', ← Lib.size_eq, ByteArray.size_append] at hr; exact hr
          clear hr
          go_wp2
          go_round
          case rel => exact ⟨_, i, _, by omega, rfl, rfl, rfl, hd'⟩
          case measure => simp [intOf]
end Go.Proofs.Ytjpaboomgicjaaa
