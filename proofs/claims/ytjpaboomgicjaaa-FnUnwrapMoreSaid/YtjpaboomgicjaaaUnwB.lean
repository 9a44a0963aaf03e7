/- The contract of impl.UnwrapBytes: what it returns; old memory as it was. Conditions: a length that fits an int. -/
import Derived.Test.YtjpaboomgicjaaaCutB
import Derived.Test.YtjpaboomgicjaaaUnw
namespace Go.Proofs.Ytjpaboomgicjaaa
open Go.RowKit
set_option linter.unusedVariables false

def UnwPostB (s o c : ByteArray) (w : World) (e : Ending) (w' : World) : Prop :=
  ∃ (r : ByteArray) (n : Nat), e = .returned (.tuple #[.string r, .int .i64 n]) ∧ iter (ustep o.data.toList c.data.toList) n s.data.toList = some r.data.toList ∧ ustep o.data.toList c.data.toList r.data.toList = none ∧ Below w.heap.size w w'

/-- the loop's word: the slice holds what n steps left -/
def UAt (s o c : ByteArray) (B : Nat) (w0 : World) (p : Option Addr) (m d n : Nat) (r : ByteArray) (w : World) : Prop :=
  m = r.size ∧ m ≤ d ∧ USteps s o c n r ∧ BAt w B p r.data.toList ∧ Below B w0 w ∧ B ≤ w.heap.size
def sliceLen : Value → Nat | .slice _ n _ => n | _ => 0

theorem trimPrefix_len (s p : List UInt8) : (Lib.trimPrefix s p).length ≤ s.length := by
  unfold Lib.trimPrefix; split
  · rw [List.length_drop]; omega
  · exact Nat.le_refl _
theorem uat_step {s o c r : ByteArray} {n m B n4 c4 : Nat} {p4 : Option Addr} {w0 w3 : World} (hst : USteps s o c n r) (hne : 0 < o.size + c.size) (b1 : (!Lib.hasPrefix r.data.toList o.data.toList) = false)
    (b2 : (!Lib.hasSuffix (Lib.trimPrefix r.data.toList o.data.toList) c.data.toList) = false) (H4 : Hid (n4 = (Lib.trimSuffix (Lib.trimPrefix r.data.toList o.data.toList) c.data.toList).length)) (Hm : Hid (m = r.size)) (hc4 : n4 ≤ c4)
    (hb4 : BAt w3 B p4 (Lib.trimSuffix (Lib.trimPrefix r.data.toList o.data.toList) c.data.toList)) (hbw : Below B w0 w3) (hz : B ≤ w3.heap.size) : ∃ r', UAt s o c B w0 p4 n4 c4 (n + 1) r' w3 ∧ n4 < m ∧ n + 1 ≤ s.size := by
  have h := USteps.cut (r1 := ⟨(Lib.trimPrefix r.data.toList o.data.toList).toArray⟩) (r2 := ⟨(Lib.trimSuffix (Lib.trimPrefix r.data.toList o.data.toList) c.data.toList).toArray⟩) hst hne b1 b2 rfl rfl
  have hl := h.1.le
  refine ⟨_, ⟨?_, hc4, h.1, hb4, hbw, hz⟩, ?_, by omega⟩
  · rw [H4.out]; rw [Lib.size_eq]
  · rw [H4.out, Hm.out]; exact h.2

set_option maxHeartbeats 800000 in
theorem impl_unwrapB (s o c : ByteArray) (w : World) (hs : s.size ≤ maxLen) :
    Calls Try.prog 28 #[.string s, .string o, .string c] w (UnwPostB s o c w) := by
  unfold maxLen at hs
  go_enter Try.func28, Try.ntmps28
  go_wp2_with ((with_reducible refine wpList_toBytes _ (o := ⟨some 13, _, _, _, _, _⟩) rfl _ _ _ 5 rfl Try.underlying9 Try.underlying52 Try.underlying5 s rfl ?_); intro p0 c0 w0 hc0 hb0 hw0 hz0)
  go_loopw [9, 10, 11, 8] (fun v _ _ i wr => ∃ (p : Option Addr) (m d n : Nat) (r : ByteArray), v = .slice p m d ∧ i = .int .i64 n ∧ UAt s o c (w.heap.size + 1) w0 p m d n r wr) (fun v _ _ _ _ => sliceLen v)
  case atStart => exact ⟨p0, _, c0, 0, s, rfl, rfl, rfl, hc0, rfl, hb0, Below.refl _ _, hz0⟩
  case round =>
    obtain ⟨p, m, d, n, r, rfl, rfl, hm, hmd, hst, hb, hbw, hz⟩ := hrel
    have hle := hst.le
    have Hm := Lib.hid hm; clear hm
    go_wp2_with (first
      | ((with_reducible refine wpList_toBytes _ (o := ⟨some 23, _, _, _, _, _⟩) rfl _ _ _ 5 rfl Try.underlying9 Try.underlying52 Try.underlying5 o rfl ?_); intro p1 c1 w1 hc1 hb1 hw1 hz1)
      | ((with_reducible refine wpList_toBytes _ (o := ⟨some 32, _, _, _, _, _⟩) rfl _ _ _ 5 rfl Try.underlying9 Try.underlying52 Try.underlying5 c rfl ?_); intro p3 c3 w3 hc3 hb3 hw3 hz3)
      | ((with_reducible refine wpList_toString _ (o := ⟨some 42, _, _, _, _, _⟩) rfl _ _ _ 5 rfl Try.underlying52 Try.underlying5 Try.underlying9 p m d _ r.data.toList rfl (Hm.out.trans (Lib.size_eq r)) (by first | exact hb | exact hb.below (hw1.mono hz) | exact hb.below ((hw1.mono hz).trans (hw3.mono (by omega)))) ?_); intro q hq)
      | (go_at_call 41; refine (cutPrefixB p p1 m d _ c1 (w.heap.size + 1) (wr.heap.size + 1) r.data.toList o.data.toList w1 (Hm.out.trans (Lib.size_eq r)) (Lib.size_eq o) hmd (hb.below (hw1.mono hz)) hb1).mono ?_; rintro e w' ⟨p2, n2, c2, rfl, H2, hc2, hb2, rfl⟩)
      | (go_at_call 40; refine (cutSuffixB p2 p3 n2 c2 _ c3 (w.heap.size + 1) (w1.heap.size + 1) (Lib.trimPrefix r.data.toList o.data.toList) c.data.toList w3 H2.out (Lib.size_eq c) hc2 ?_ (hb2.below (hw3.mono (by omega))) hb3).mono ?_; rotate_left; rintro e w' ⟨p4, n4, c4, rfl, H4, hc4, hb4, rfl⟩))
    all_goals first
      | (show n2 ≤ maxLen
         have := trimPrefix_len r.data.toList o.data.toList
         have := H2.out
         rw [← Lib.size_eq] at *
         unfold maxLen; omega)
      | (go_ret2
         refine ⟨q, n, rfl, by rw [hq.out]; exact hst, ?_, ?_⟩
         · rw [hq.out]
           first | exact unone_nil ‹_› ‹_› | exact unone_cut1 ‹_› | exact ustep_none2 (by simpa using ‹(!Lib.hasPrefix r.data.toList o.data.toList) = false›) (by simpa using ‹(!Lib.hasSuffix (Lib.trimPrefix r.data.toList o.data.toList) c.data.toList) = true›)
         · have hbw' := hw0.trans (hbw.mono (Nat.le_succ _))
           first | exact hbw' | exact hbw'.trans (hw1.mono (by omega)) | exact (hbw'.trans (hw1.mono (by omega))).trans (hw3.mono (by omega)))
      | (have hne : 0 < o.size + c.size := by first | exact pos_of_l ‹_› | exact pos_of_r ‹_›
         obtain ⟨r', hr', hlt, hnl⟩ := uat_step hst hne ‹_› ‹_› H4 Hm hc4 hb4 (hbw.trans ((hw1.mono hz).trans (hw3.mono (by omega)))) (by omega)
         go_roundw
         case rel => exact ⟨p4, n4, c4, n + 1, r', rfl, by rw [IntWalk.wrap64_in _ ⟨by omega, by omega⟩]; go_num, hr'⟩
         case measure => simp only [sliceLen]; exact hlt)
end Go.Proofs.Ytjpaboomgicjaaa
