/- The contract of laws.markText: the text of a number, old memory as it was. Conditions: a number from 1 on, at most 2 to the 40. -/
import Derived.Test.YtdlhjnihmkbagaaDoorProg
import Derived.Test.YtdlhjnihmkbagaaDoorRow2
namespace Go.Proofs.YtdlhjnihmkbagaaDoor
open Go.RowKit
set_option linter.unusedVariables false

def digF : Nat → Nat → List UInt8 → List UInt8
  | 0, _, acc => acc
  | f + 1, k, acc => if k = 0 then acc else digF f (k / 10) (UInt8.ofNat (48 + k % 10) :: acc)
theorem digF_more (f : Nat) : ∀ (g k : Nat) (acc : List UInt8), k ≤ f → k ≤ g → digF f k acc = digF g k acc := by
  induction f with
  | zero =>
    intro g k acc h1 h2
    obtain rfl : k = 0 := by omega
    cases g <;> simp [digF]
  | succ f ih =>
    intro g k acc h1 h2
    cases g with
    | zero =>
      obtain rfl : k = 0 := by omega
      simp [digF]
    | succ g =>
      simp only [digF]
      split
      · rfl
      · exact ih g (k / 10) _ (by omega) (by omega)
/-- the text of k -/
def mtext (k : Nat) : ByteArray := ⟨(109 :: digF k k []).toArray⟩
theorem digF_step (k : Nat) (acc : List UInt8) (hk : k ≠ 0) : digF k k acc = digF (k / 10) (k / 10) (UInt8.ofNat (48 + k % 10) :: acc) := by
  cases k with
  | zero => exact absurd rfl hk
  | succ k =>
    conv => lhs; unfold digF
    rw [if_neg hk]
    exact digF_more _ _ _ _ (by omega) (Nat.le_refl _)

def DigIs (k0 k : Nat) (r : ByteArray) : Prop := digF k k r.data.toList = digF k0 k0 [] ∧ r.size + k ≤ k0
theorem DigIs.step {k0 k : Nat} {r q : ByteArray} (h : DigIs k0 k r) (hk : 0 < k) (hq : Hid (q.data.toList = [UInt8.ofNat (48 + k % 10)])) : DigIs k0 (k / 10) (q ++ r) := by
  have e : (q ++ r).data.toList = UInt8.ofNat (48 + k % 10) :: r.data.toList := by rw [ByteArray.data_append]; simp [hq.out]
  refine ⟨by rw [e, ← digF_step k _ (by omega)]; exact h.1, ?_⟩
  have hs : (q ++ r).size = r.size + 1 := by rw [Lib.size_eq, e, List.length_cons, ← Lib.size_eq]
  have := h.2
  omega

theorem dig_new (w : World) (k : Nat) (e : TypeId) : BAt (w.alloc (.cells #[.int .u8 (48 + (k : Int) % 10)] e)) (w.heap.size + 1) (some ⟨w.heap.size, 0, none⟩) [UInt8.ofNat (48 + k % 10)] := fun _ => by
  refine ⟨w.heap.size, 0, rfl, by omega, fun i hi => ?_⟩
  simp only [List.length_cons, List.length_nil] at hi
  obtain rfl : i = 0 := by omega
  have : ((UInt8.ofNat (48 + k % 10)).toNat : Int) = 48 + (k : Int) % 10 := by
    rw [UInt8.toNat_ofNat']; omega
  simp only [List.getElem_cons_zero, this]
  simp [World.cell?, World.alloc, -World.alloc_eq]

set_option maxHeartbeats 400000 in
theorem markText_any (k0 : Nat) (w : World) (h0 : 0 < k0) (hk : k0 ≤ 1099511627776) :
    Calls Tryd.prog 26 #[.int .i64 k0] w fun e w' => e = .returned (.string (mtext k0)) ∧ Below w.heap.size w w' := by
  have hne : ¬ k0 = 0 := by omega
  go_enter Tryd.func26, Tryd.ntmps26
  go_wp2
  go_loopw [0, 3] (fun i v wr => ∃ (k : Nat) (r : ByteArray), i = .int .i64 k ∧ v = .string r ∧ DigIs k0 k r ∧ Below w.heap.size w wr) (fun i _ _ => (intOf i).toNat)
  case atStart => exact ⟨k0, _, rfl, rfl, ⟨rfl, Nat.le_of_eq (Nat.zero_add _)⟩, Below.refl _ _⟩
  case round =>
    obtain ⟨k, r, rfl, rfl, hd, hbw⟩ := hrel
    have hl := hd.2
    have hz := hbw.size
    by_cases hlt : 0 < k
    · have hat := dig_new wr k 5
      go_wp2_with ((with_reducible refine wpList_toString _ (o := ⟨some 13, _, _, _, _, _⟩) rfl _ _ _ 5 rfl Tryd.underlying43 Tryd.underlying5 Tryd.underlying9 _ 1 1 _ [UInt8.ofNat (48 + k % 10)] rfl rfl hat ?_); intro q hq; have hql : q.size = 1 := by rw [Lib.size_eq, hq.out]; rfl)
      have hn := hd.step hlt hq
      go_roundw
      case rel => exact ⟨k / 10, _, by go_num, rfl, hn, hbw.alloc hz _⟩
      case measure => simp [intOf]; omega
    · obtain rfl : k = 0 := by omega
      go_wp2
      go_ret
      refine ⟨?_, hbw⟩
      have e : ({ data := #[109] } ++ r : ByteArray) = mtext k0 := by
        rw [← Lib.mk_data (_ ++ r)]
        unfold mtext
        rw [ByteArray.data_append, ← hd.1]
        simp [digF]
      rw [e]; rfl
end Go.Proofs.YtdlhjnihmkbagaaDoor
