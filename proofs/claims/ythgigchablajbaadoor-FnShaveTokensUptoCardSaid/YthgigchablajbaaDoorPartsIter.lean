/- The iterator that strings.FieldsFuncSeq hands out, at the test of a set: it yields the parts between code points of the set. Conditions: a text of at most 2 to the 42 bytes; the tables of utf8. -/
import Derived.RangeFuncNested
import Derived.RangeFuncBound
import Derived.RangeFuncCalls
import Derived.RangeFuncLeaves
import Derived.RangeFuncBox
import Derived.Shelf.Abstract
import Derived.Shelf.RegionOpen
import Derived.WalkKit
import Derived.OwnWalkIn
import Derived.TacticsInMore
import Derived.LoopNIn
import Derived.LoopIn
import Derived.Maps.OwnIn
import Derived.Test.YthgigchablajbaaDoorFieldsIt
import Derived.Test.YthgigchablajbaaDoorTabs
import Derived.Test.YthgigchablajbaaDoorSetIn
namespace Go.Proofs.YthgigchablajbaaDoor
open Go.RowKit Go.Shelf
set_option linter.unusedVariables false
attribute [local go_sem] Oper.semAt_some

/-- what the iterator reads: the text's box, the test's box, the set's box, the tables -/
def ItCells (s set : ByteArray) (b1 b2 b3 : Nat) (W : World) : Prop :=
  W.cell? ⟨b1, 0, none⟩ = some (.string s) ∧ W.cell? ⟨b2, 0, none⟩ = some (.func (.func 43) #[] #[.pointer (some ⟨b3, 0, none⟩)]) ∧ W.cell? ⟨b3, 0, none⟩ = some (.string set) ∧ Tabs W
theorem ItCells.below {s set : ByteArray} {b1 b2 b3 : Nat} {W W' : World} (h : ItCells s set b1 b2 b3 W) (hb : Below W.heap.size W W') : ItCells s set b1 b2 b3 W' :=
  ⟨(hb.cell (p := ⟨b1, 0, none⟩) (cell_lt h.1)).trans h.1, (hb.cell (p := ⟨b2, 0, none⟩) (cell_lt h.2.1)).trans h.2.1, (hb.cell (p := ⟨b3, 0, none⟩) (cell_lt h.2.2.1)).trans h.2.2.1, h.2.2.2.below hb⟩
theorem abides_below {β : Type} {B : Nat} {J : β → World → Prop} (h : AbidesFrom B J) {s : β} {W W' : World} (hs : J s W) (hb : Below W.heap.size W W') : J s W' :=
  h s W W' none hs ⟨hb.os, hb.tape, hb.output, hb.size, fun i hi _ => hb.block i hi⟩ (fun r e => by cases e)

theorem wide_room {n : Nat} : Fence.wide.depth.isSome = true → 1 ≤ n := fun h => by cases h
theorem enter_wide {n : Nat} {P : Program} {f : FuncId} {args : Array Value} {w : World} {R R' : Ending → World → Prop} (h : Calls P f args w R) (hm : ∀ e w', R e w' → R' e w') : Fence.wide.fn f ∧ (Fence.wide.depth.isSome = true → 1 ≤ n) ∧ CallsIn Fence.wide (n - 1) P f args w R' :=
  ⟨trivial, wide_room, (callsIn_wide.2 h).mono hm⟩

theorem decodeStr_any (s : ByteArray) (w : World) (hT : Tabs w) :
    Calls Tryd.prog 46 #[.string s] w fun e w' => e = .returned (.tuple #[.int .i32 (Lib.decodeGo s).1, .int .i64 (Lib.decodeGo s).2]) ∧ Below w.heap.size w w' := Tryd.utf8_DecodeRuneInString s w hT

theorem cell_one (w : World) (v : Value) (e : TypeId) : (w.alloc (.cells #[v] e)).cell? ⟨w.heap.size, 0, none⟩ = some v := by
  simp [World.cell?, World.alloc, -World.alloc_eq]
def ItPost (s set : ByteArray) (J Jx : List (List UInt8) → World → Prop) (e : Ending) (W' : World) : Prop :=
  (∃ v, e = .returned v) ∧ ((∃ ys, ys = (segs (inSet set) (pcsB s)).map flat ∧ J ys W') ∨ (∃ pre, True ∧ Jx pre W'))

set_option maxRecDepth 100000 in
set_option maxHeartbeats 1600000 in
theorem ffs_in (n l B b1 b2 b3 : Nat) (s set : ByteArray) (hs : s.size ≤ 4398046511104) (J Jx : List (List UInt8) → World → Prop) (hJ : AbidesFrom B J)
    (hY : ∀ pre x W, J pre W → pre.length < ((segs (inSet set) (pcsB s)).map flat).length → YieldAt Fence.wide (n - 1) Tryd.prog l #[.string (txt x)] W fun e W' =>
      (e = .returned (.bool true) ∧ J (pre ++ [x]) W' ∧ (ItCells s set b1 b2 b3 W → ItCells s set b1 b2 b3 W')) ∨ (e = .returned (.bool false) ∧ Jx (pre ++ [x]) W'))
    (W : World) (hK : ItCells s set b1 b2 b3 W) (h0 : J [] W) :
    CallsIn Fence.wide n Tryd.prog 58 #[.func (.yield l) #[] #[], .pointer (some ⟨b1, 0, none⟩), .pointer (some ⟨b2, 0, none⟩)] W (ItPost s set J Jx) := by
  refine callsIn_of_wp Tryd.func58 rfl trivial ?_ rfl
  simp only [Tryd.ntmps58, List.size_toArray, List.length_cons, List.length_nil, Nat.reduceAdd, Nat.reduceSub, Array.replicate_succ, Array.replicate_zero, List.push_toArray, List.append_toArray, List.nil_append, List.cons_append]
  gi_wp2
  gi_loopw [4, 5] (fun st iv wr => ∃ (pre : List (List UInt8)) (a : Int) (i : Nat), st = .int .i64 a ∧ iv = .int .i64 i ∧ Hid (FIs (inSet set) s pre a i) ∧ ItCells s set b1 b2 b3 wr ∧ J pre wr)
    (fun _ iv _ => s.size - (intOf iv).toNat)
  case atStart => exact ⟨[], -1, 0, rfl, rfl, FIs.start _ _, hK, h0⟩
  case round =>
    obtain ⟨pre, a, i, rfl, rfl, hF, hit, hj⟩ := hrel
    obtain ⟨hil, hst⟩ := hF.out.le
    have hit0 := hit
    obtain ⟨hc1, hc2, hc3, hT⟩ := hit
    by_cases hlt : i < s.size
    · obtain ⟨q, hd, hru, hq1, hq2, hA, hB, hC, hD⟩ := hF.out.more hlt
      obtain ⟨r, bs⟩ := q
      simp only at hd hru hq1 hq2 hA hB hC hD
      have Hd := Lib.hid hd; have HA := Lib.hid hA; have HB := Lib.hid hB; have HC := Lib.hid hC; have HD := Lib.hid hD
      clear hd hA hB hC hD
      gi_wp2_with fail
      (with_reducible refine enter_wide (decodeStr_any _ _ hT) ?_); rw [Hd.out]; rintro e w1 ⟨rfl, hb1⟩
      have hit1 := hit0.below hb1
      have hj1 := abides_below hJ hj hb1
      have hit1' := hit1
      obtain ⟨hd1, hd2, hd3, hT1⟩ := hit1'
      gi_wp2_with fail
      (with_reducible refine enter_wide (in_any set b3 r _ hd3) ?_)
      cases hin : inSet set r with
      | true =>
        rintro e w2 ⟨rfl, hb2⟩
        have hit2 := hit1.below hb2
        have hj2 := abides_below hJ hj1 hb2
        have hit2' := hit2
        obtain ⟨he1, he2, he3, hT2⟩ := hit2'
        rcases hst with rfl | ⟨k, rfl, hki⟩
        · have Hn := Lib.hid (HA.out hin rfl)
          gi_wp2_with fail
          go_roundw
          case rel => exact ⟨pre, -1, i + bs.length, rfl, by go_num, Hn, hit2, hj2⟩
          case measure => simp [intOf]; omega
        · obtain ⟨x, hx, hn, hlen⟩ := HB.out hin k rfl
          obtain ⟨fn, tmps, assign, body, hy, hR⟩ := hY pre x w2 hj2 hlen
          rw [← hx] at hy
          have Hn := Lib.hid hn; have Hx := Lib.hid hx
          clear hn hx
          gi_wp2_with fail
          refine ⟨wide_room, hR.mono ?_⟩
          rintro e W3 (⟨rfl, hj3, hk3⟩ | ⟨rfl, hjx3⟩)
          · have hit3 := hk3 hit2
            have hit3' := hit3
            obtain ⟨hf1, hf2, hf3, hT3⟩ := hit3'
            clear hR hy
            gi_wp2_with fail
            go_roundw
            case rel => exact ⟨pre ++ [x], -1, i + bs.length, rfl, by go_num, Hn, hit3, hj3⟩
            case measure => simp [intOf]; omega
          · clear hR hy
            gi_wp2_with fail
            refine bodyPost_ret (results_none rfl _ _ _) rfl ?_
            exact ⟨⟨_, rfl⟩, .inr ⟨pre ++ [x], trivial, hjx3⟩⟩
      | false =>
        rintro e w2 ⟨rfl, hb2⟩
        have hit2 := hit1.below hb2
        have hj2 := abides_below hJ hj1 hb2
        have hit2' := hit2
        obtain ⟨he1, he2, he3, hT2⟩ := hit2'
        rcases hst with rfl | ⟨k, rfl, hki⟩
        · have Hn := Lib.hid (HC.out hin rfl)
          gi_wp2_with fail
          go_roundw
          case rel => exact ⟨pre, i, i + bs.length, rfl, by go_num, Hn, hit2, hj2⟩
          case measure => simp [intOf]; omega
        · have Hn := Lib.hid (HD.out hin k rfl)
          gi_wp2_with fail
          go_roundw
          case rel => exact ⟨pre, k, i + bs.length, rfl, by go_num, Hn, hit2, hj2⟩
          case measure => simp [intOf]; omega
    · obtain ⟨hE1, hE2⟩ := hF.out.end_ hlt
      have HE1 := Lib.hid hE1; have HE2 := Lib.hid hE2
      clear hE1 hE2
      rcases hst with rfl | ⟨k, rfl, hki⟩
      · have He := Lib.hid (HE1.out rfl)
        gi_wp2_with fail
        go_end0
        exact ⟨⟨_, rfl⟩, .inl ⟨pre, He.out, hj⟩⟩
      · obtain ⟨x, hx, he⟩ := HE2.out k rfl
        obtain ⟨fn, tmps, assign, body, hy, hR⟩ := hY pre x wr hj (by rw [← he, List.length_append]; simp)
        rw [← hx] at hy
        have Hx := Lib.hid hx; have He := Lib.hid he
        clear hx he
        gi_wp2_with fail
        refine ⟨wide_room, hR.mono ?_⟩
        rintro e W3 (⟨rfl, hj3, hk3⟩ | ⟨rfl, hjx3⟩)
        · clear hR hy
          gi_wp2_with fail
          go_end0
          exact ⟨⟨_, rfl⟩, .inl ⟨pre ++ [x], He.out, hj3⟩⟩
        · clear hR hy
          gi_wp2_with fail
          go_end0
          exact ⟨⟨_, rfl⟩, .inr ⟨pre ++ [x], trivial, hjx3⟩⟩
/-- the value that strings.FieldsFuncSeq hands out -/
theorem ffs_stops (n b1 b2 b3 : Nat) (s set : ByteArray) (hs : s.size ≤ 4398046511104) (w : World) (hK : ItCells s set b1 b2 b3 w) :
    SeqStopsK Fence.wide n Tryd.prog 58 #[.pointer (some ⟨b1, 0, none⟩), .pointer (some ⟨b2, 0, none⟩)] (fun x : List UInt8 => #[Value.string (txt x)]) (fun W W' => ItCells s set b1 b2 b3 W → ItCells s set b1 b2 b3 W')
      (fun ys => ys = (segs (inSet set) (pcsB s)).map flat) (fun _ => True) ((segs (inSet set) (pcsB s)).map flat).length w := fun l J Jx W hW hJ hJx hY h0 =>
  ffs_in n l W.heap.size b1 b2 b3 s set hs J Jx hJ hY W (hK.below hW) h0
theorem ffs_made (s : ByteArray) (b3 : Nat) (w : World) :
    Calls Tryd.prog 41 #[.string s, .func (.func 43) #[] #[.pointer (some ⟨b3, 0, none⟩)]] w fun e w' => e = .returned (.func (.func 58) #[] #[.pointer (some ⟨w.heap.size, 0, none⟩), .pointer (some ⟨w.heap.size + 1, 0, none⟩)]) ∧
      (w'.cell? ⟨w.heap.size, 0, none⟩ = some (.string s) ∧ w'.cell? ⟨w.heap.size + 1, 0, none⟩ = some (.func (.func 43) #[] #[.pointer (some ⟨b3, 0, none⟩)])) ∧ Below w.heap.size w w' := by
  go_enter Tryd.func41, Tryd.ntmps41
  go_wp2
  go_ret
  refine ⟨rfl, ⟨?_, ?_⟩, ((Below.refl _ _).alloc (Nat.le_refl _) _).alloc (by simp) _⟩
  · rw [World.cell?_alloc_lt _ _ _ (by simp)]
    simp [World.cell?, World.alloc, -World.alloc_eq]
  · simp
end Go.Proofs.YthgigchablajbaaDoor
