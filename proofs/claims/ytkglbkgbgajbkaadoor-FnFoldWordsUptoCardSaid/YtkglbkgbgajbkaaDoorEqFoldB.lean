/- The contract of bytes.EqualFold at bytes that lie at the beginning of two blocks. Conditions: at most 2 to the 47 bytes; the tables of utf8 and of folding. -/
import Derived.Test.YtkglbkgbgajbkaaDoorEqMem
import Derived.Test.YtkglbkgbgajbkaaDoorDecB
import Derived.Test.YtkglbkgbgajbkaaDoorMarked
import Derived.Laws.Strings3
import Derived.WalkMore
import Derived.ScopeJumps
import Derived.Deep.LoopGhost
import Derived.Deep.CutRange
namespace Go.Proofs.YtkglbkgbgajbkaaDoor
open Go.RowKit Go.Lib
set_option linter.unusedVariables false

/-- a value that is what is left of bytes from i on -/
def RestAt (v : Value) (b : Nat) (s : ByteArray) (c i : Nat) : Prop := i ≤ s.size ∧ ∃ A, v = .slice A (s.size - i) (c - i) ∧ (i < s.size → A = some ⟨b, i, none⟩)

set_option maxRecDepth 1000000 in
/-- at the jump: the whole frame -/
def FoldJB (s t : ByteArray) (b b' c c' : Nat) (w : World) : Act → World → Prop := fun a' w' => w = w' ∧ ∃ (i : Nat) (u2 u3 u4 u6 u7 u8 u9 u10 u11 u12 u13 u14 u15 u16 u17 u18 u19 u20 u21 u22 u23 u24 u25 u26 u27 u28 u29 u30 u31 u32 u33 u34 u35 u36 u37 u38 u39 u40 u41 u42 u43 u44 u45 u46 u47 u48 u49 u50 u51 u52 u53 u54 u55 u56 u57 u58 u59 u60 u61 u62 u63 u64 u65 u66 u67 u68 u69 u70 u71 u72 u73 u74 u75 u76 u77 u78 u79 u80 u81 u82 u83 u84 u85 u86 u87 u88 u89 u90 u91 u92 u93 u94 u95 u96 u97 u98 u99 u100 u101 u102 u103 u104 u105 u106 u107 u108 u109 u110 u111 u112 u113 u114 u115 u116 u117 u118 u119 u120 u121 u122 u123 u124 u125 u126 u127 u128 u129 u130 u131 u132 u133 : Value), a' = { tmps := #[.slice (some ⟨b, 0, none⟩) s.size c, .slice (some ⟨b', 0, none⟩) t.size c', u2, u3, u4, .int .i64 (i : Int), u6, u7, u8, u9, u10, u11, u12, u13, u14, u15, u16, u17, u18, u19, u20, u21, u22, u23, u24, u25, u26, u27, u28, u29, u30, u31, u32, u33, u34, u35, u36, u37, u38, u39, u40, u41, u42, u43, u44, u45, u46, u47, u48, u49, u50, u51, u52, u53, u54, u55, u56, u57, u58, u59, u60, u61, u62, u63, u64, u65, u66, u67, u68, u69, u70, u71, u72, u73, u74, u75, u76, u77, u78, u79, u80, u81, u82, u83, u84, u85, u86, u87, u88, u89, u90, u91, u92, u93, u94, u95, u96, u97, u98, u99, u100, u101, u102, u103, u104, u105, u106, u107, u108, u109, u110, u111, u112, u113, u114, u115, u116, u117, u118, u119, u120, u121, u122, u123, u124, u125, u126, u127, u128, u129, u130, u131, u132, u133], defers := [] } ∧ i ≤ s.size ∧ i ≤ t.size ∧ Hid (eqF (s.data.toList.drop i) (t.data.toList.drop i) = eqF s.data.toList t.data.toList)

set_option maxRecDepth 1000000 in
set_option maxHeartbeats 12800000 in
theorem equalFoldB (s t : ByteArray) (b b' c c' : Nat) (w : World) (hs : s.size ≤ 140737488355328) (ht : t.size ≤ 140737488355328) (hc : s.size ≤ c) (hc' : t.size ≤ c') (hbs : BytesAt s b 0 w) (hbt : BytesAt t b' 0 w) (hT : Tabs w) (hV : FoldVars w) :
    Calls Tryd.prog 17 #[.slice (some ⟨b, 0, none⟩) s.size c, .slice (some ⟨b', 0, none⟩) t.size c'] w fun e w' => e = .returned (.bool (eqF s.data.toList t.data.toList)) ∧ Below w.heap.size w w' := by
  obtain ⟨M, hM⟩ : ∃ M : Nat, min (s.size : Int) (t.size : Int) = (M : Int) := ⟨min s.size t.size, by omega⟩
  have hMs : M ≤ s.size := by omega
  have hMt : M ≤ t.size := by omega
  have hMe : M = s.size ∨ M = t.size := by omega
  have HS : Hid (∀ j, j < s.size → w.cell? ⟨b, j, none⟩ = some (.int .u8 ((s.get! j).toNat : Int))) := fun j hj => by have := hbs j hj; rwa [Nat.zero_add] at this
  have HT : Hid (∀ j, j < t.size → w.cell? ⟨b', j, none⟩ = some (.int .u8 ((t.get! j).toNat : Int))) := fun j hj => by have := hbt j hj; rwa [Nat.zero_add] at this
  clear hbs hbt
  go_enter Tryd.func17, Tryd.ntmps17
  go_wp2
  refine wp_scope_jumps 0 (FoldJB s t b b' c c' w) (fun _ _ => 0) rfl ?_ ?_
  · go_wp2
    go_loopg [5] M (fun g s5 wx => w = wx ∧ ∃ i : Nat, i + g = M ∧ s5 = .int .i64 i ∧ Hid (eqF (s.data.toList.drop i) (t.data.toList.drop i) = eqF s.data.toList t.data.toList))
    case atStart => exact ⟨rfl, 0, by omega, rfl, rfl⟩
    case round =>
      obtain ⟨rfl, i, hig, rfl, HI⟩ := hrel
      clear hM
      cases gk with
      | zero =>
        have hiM : ¬ ((i : Int) < (M : Int)) := by omega
        obtain rfl : i = M := by omega
        have hE : eqF s.data.toList t.data.toList = decide (s.size = t.size) := by
          rw [← HI.out, eqF_end _ _ (by
            rcases hMe with h | h
            · exact Or.inl (List.drop_eq_nil_of_le (by rw [← Lib.size_eq]; omega))
            · exact Or.inr (List.drop_eq_nil_of_le (by rw [← Lib.size_eq]; omega))), List.length_drop, List.length_drop, ← Lib.size_eq, ← Lib.size_eq]
          exact decide_eq_decide.2 (by omega)
        have HE := Lib.hid hE; clear hE
        by_cases hst : s.size = t.size
        · have hb : ((s.size : Int) == (t.size : Int)) = true := beq_iff_eq.2 (by omega)
          have Hst := Lib.hid hst; clear hst
          go_wp2
          simp only [Exit.jump]
          go_ret
          exact ⟨by rw [HE.out]; simp [Hst.out], Below.refl _ _⟩
        · have hb : ((s.size : Int) == (t.size : Int)) = false := beq_eq_false_iff_ne.2 (by omega)
          have Hst := Lib.hid hst; clear hst
          go_wp2
          simp only [Exit.jump]
          go_ret
          exact ⟨by rw [HE.out]; simp [Hst.out], Below.refl _ _⟩
      | succ g =>
        have hiM : (i : Int) < (M : Int) := by omega
        have hi0 : (0 : Int) ≤ (i : Int) := by omega
        have hisz : (i : Int) < (s.size : Int) := by omega
        have hitz : (i : Int) < (t.size : Int) := by omega
        obtain ⟨x, hx⟩ : ∃ x : UInt8, s.get! i = x := ⟨_, rfl⟩
        obtain ⟨y, hy⟩ : ∃ y : UInt8, t.get! i = y := ⟨_, rfl⟩
        have hil : i < s.data.toList.length := by rw [← Lib.size_eq]; omega
        have hil2 : i < t.data.toList.length := by rw [← Lib.size_eq]; omega
        have hxl : s.data.toList[i]? = some x := by rw [← hx, get!_toList s i hil, List.getElem?_eq_getElem hil]
        have hyl : t.data.toList[i]? = some y := by rw [← hy, get!_toList t i hil2, List.getElem?_eq_getElem hil2]
        have hcx := HS.out i (by omega)
        have hcy := HT.out i (by omega)
        rw [hx] at hcx
        rw [hy] at hcy
        have hx256 := x.toNat_lt
        have hy256 := y.toNat_lt
        have hor : bits .or .u8 (x.toNat : Int) (y.toNat : Int) = ((x.toNat ||| y.toNat : Nat) : Int) := u8_or_nat _ _ (by omega) (by omega)
        have Hx : Hid (s.data.toList[i]? = some x ∧ t.data.toList[i]? = some y) := ⟨hxl, hyl⟩
        clear hxl hyl hx hy hil hil2
        by_cases hhi : 128 ≤ (x.toNat ||| y.toNat)
        · have hor128 : (128 : Int) ≤ ((x.toNat ||| y.toNat : Nat) : Int) := by omega
          clear hhi
          go_wp2
          go_step3
          refine ⟨rfl, ?_⟩
          unfold FoldJB
          exact ⟨rfl, i, _, _, _, _, _, _, _, _, _, _, _, _, _, _, _, _, _, _, _, _, _, _, _, _, _, _, _, _, _, _, _, _, _, _, _, _, _, _, _, _, _, _, _, _, _, _, _, _, _, _, _, _, _, _, _, _, _, _, _, _, _, _, _, _, _, _, _, _, _, _, _, _, _, _, _, _, _, _, _, _, _, _, _, _, _, _, _, _, _, _, _, _, _, _, _, _, _, _, _, _, _, _, _, _, _, _, _, _, _, _, _, _, _, _, _, _, _, _, _, _, _, _, _, _, _, _, _, _, _, _, _, rfl, by omega, by omega, HI⟩
        · have hor128 : ¬ ((128 : Int) ≤ ((x.toNat ||| y.toNat : Nat) : Int)) := by omega
          have hxy := or_low hhi
          have hx128 := hxy.1
          have hy128 := hxy.2
          have hnx := eqF_low hx128 hy128 (s.data.toList.drop (i + 1)) (t.data.toList.drop (i + 1))
          rw [← Lib.drop_at Hx.out.1, ← Lib.drop_at Hx.out.2, HI.out, foldB_low hx128 hy128] at hnx
          have Hnx := Lib.hid hnx
          clear hnx hxy hhi Hx HI
          go_wp2
          all_goals (try simp only [beq_iff_eq, beq_eq_false_iff_ne, ne_eq] at *)
          all_goals first
            | (go_roundg g
               case measure => omega
               case rel => exact ⟨rfl, i + 1, by omega, by first | rfl | simp, Lib.hid (by rw [Hnx.out, decide_eq_true (by omega), Bool.true_and])⟩)
            | (simp only [Exit.jump]
               go_ret
               refine ⟨?_, Below.refl _ _⟩
               rw [Hnx.out, decide_eq_false (by omega), Bool.false_and]
               rfl)
  · intro a' w' hJ
    unfold FoldJB at hJ
    obtain ⟨rfl, i, hJ⟩ := hJ
    obtain ⟨u2, hJ⟩ := hJ
    obtain ⟨u3, hJ⟩ := hJ
    obtain ⟨u4, hJ⟩ := hJ
    obtain ⟨u6, hJ⟩ := hJ
    obtain ⟨u7, hJ⟩ := hJ
    obtain ⟨u8, hJ⟩ := hJ
    obtain ⟨u9, hJ⟩ := hJ
    obtain ⟨u10, hJ⟩ := hJ
    obtain ⟨u11, hJ⟩ := hJ
    obtain ⟨u12, hJ⟩ := hJ
    obtain ⟨u13, hJ⟩ := hJ
    obtain ⟨u14, hJ⟩ := hJ
    obtain ⟨u15, hJ⟩ := hJ
    obtain ⟨u16, hJ⟩ := hJ
    obtain ⟨u17, hJ⟩ := hJ
    obtain ⟨u18, hJ⟩ := hJ
    obtain ⟨u19, hJ⟩ := hJ
    obtain ⟨u20, hJ⟩ := hJ
    obtain ⟨u21, hJ⟩ := hJ
    obtain ⟨u22, hJ⟩ := hJ
    obtain ⟨u23, hJ⟩ := hJ
    obtain ⟨u24, hJ⟩ := hJ
    obtain ⟨u25, hJ⟩ := hJ
    obtain ⟨u26, hJ⟩ := hJ
    obtain ⟨u27, hJ⟩ := hJ
    obtain ⟨u28, hJ⟩ := hJ
    obtain ⟨u29, hJ⟩ := hJ
    obtain ⟨u30, hJ⟩ := hJ
    obtain ⟨u31, hJ⟩ := hJ
    obtain ⟨u32, hJ⟩ := hJ
    obtain ⟨u33, hJ⟩ := hJ
    obtain ⟨u34, hJ⟩ := hJ
    obtain ⟨u35, hJ⟩ := hJ
    obtain ⟨u36, hJ⟩ := hJ
    obtain ⟨u37, hJ⟩ := hJ
    obtain ⟨u38, hJ⟩ := hJ
    obtain ⟨u39, hJ⟩ := hJ
    obtain ⟨u40, hJ⟩ := hJ
    obtain ⟨u41, hJ⟩ := hJ
    obtain ⟨u42, hJ⟩ := hJ
    obtain ⟨u43, hJ⟩ := hJ
    obtain ⟨u44, hJ⟩ := hJ
    obtain ⟨u45, hJ⟩ := hJ
    obtain ⟨u46, hJ⟩ := hJ
    obtain ⟨u47, hJ⟩ := hJ
    obtain ⟨u48, hJ⟩ := hJ
    obtain ⟨u49, hJ⟩ := hJ
    obtain ⟨u50, hJ⟩ := hJ
    obtain ⟨u51, hJ⟩ := hJ
    obtain ⟨u52, hJ⟩ := hJ
    obtain ⟨u53, hJ⟩ := hJ
    obtain ⟨u54, hJ⟩ := hJ
    obtain ⟨u55, hJ⟩ := hJ
    obtain ⟨u56, hJ⟩ := hJ
    obtain ⟨u57, hJ⟩ := hJ
    obtain ⟨u58, hJ⟩ := hJ
    obtain ⟨u59, hJ⟩ := hJ
    obtain ⟨u60, hJ⟩ := hJ
    obtain ⟨u61, hJ⟩ := hJ
    obtain ⟨u62, hJ⟩ := hJ
    obtain ⟨u63, hJ⟩ := hJ
    obtain ⟨u64, hJ⟩ := hJ
    obtain ⟨u65, hJ⟩ := hJ
    obtain ⟨u66, hJ⟩ := hJ
    obtain ⟨u67, hJ⟩ := hJ
    obtain ⟨u68, hJ⟩ := hJ
    obtain ⟨u69, hJ⟩ := hJ
    obtain ⟨u70, hJ⟩ := hJ
    obtain ⟨u71, hJ⟩ := hJ
    obtain ⟨u72, hJ⟩ := hJ
    obtain ⟨u73, hJ⟩ := hJ
    obtain ⟨u74, hJ⟩ := hJ
    obtain ⟨u75, hJ⟩ := hJ
    obtain ⟨u76, hJ⟩ := hJ
    obtain ⟨u77, hJ⟩ := hJ
    obtain ⟨u78, hJ⟩ := hJ
    obtain ⟨u79, hJ⟩ := hJ
    obtain ⟨u80, hJ⟩ := hJ
    obtain ⟨u81, hJ⟩ := hJ
    obtain ⟨u82, hJ⟩ := hJ
    obtain ⟨u83, hJ⟩ := hJ
    obtain ⟨u84, hJ⟩ := hJ
    obtain ⟨u85, hJ⟩ := hJ
    obtain ⟨u86, hJ⟩ := hJ
    obtain ⟨u87, hJ⟩ := hJ
    obtain ⟨u88, hJ⟩ := hJ
    obtain ⟨u89, hJ⟩ := hJ
    obtain ⟨u90, hJ⟩ := hJ
    obtain ⟨u91, hJ⟩ := hJ
    obtain ⟨u92, hJ⟩ := hJ
    obtain ⟨u93, hJ⟩ := hJ
    obtain ⟨u94, hJ⟩ := hJ
    obtain ⟨u95, hJ⟩ := hJ
    obtain ⟨u96, hJ⟩ := hJ
    obtain ⟨u97, hJ⟩ := hJ
    obtain ⟨u98, hJ⟩ := hJ
    obtain ⟨u99, hJ⟩ := hJ
    obtain ⟨u100, hJ⟩ := hJ
    obtain ⟨u101, hJ⟩ := hJ
    obtain ⟨u102, hJ⟩ := hJ
    obtain ⟨u103, hJ⟩ := hJ
    obtain ⟨u104, hJ⟩ := hJ
    obtain ⟨u105, hJ⟩ := hJ
    obtain ⟨u106, hJ⟩ := hJ
    obtain ⟨u107, hJ⟩ := hJ
    obtain ⟨u108, hJ⟩ := hJ
    obtain ⟨u109, hJ⟩ := hJ
    obtain ⟨u110, hJ⟩ := hJ
    obtain ⟨u111, hJ⟩ := hJ
    obtain ⟨u112, hJ⟩ := hJ
    obtain ⟨u113, hJ⟩ := hJ
    obtain ⟨u114, hJ⟩ := hJ
    obtain ⟨u115, hJ⟩ := hJ
    obtain ⟨u116, hJ⟩ := hJ
    obtain ⟨u117, hJ⟩ := hJ
    obtain ⟨u118, hJ⟩ := hJ
    obtain ⟨u119, hJ⟩ := hJ
    obtain ⟨u120, hJ⟩ := hJ
    obtain ⟨u121, hJ⟩ := hJ
    obtain ⟨u122, hJ⟩ := hJ
    obtain ⟨u123, hJ⟩ := hJ
    obtain ⟨u124, hJ⟩ := hJ
    obtain ⟨u125, hJ⟩ := hJ
    obtain ⟨u126, hJ⟩ := hJ
    obtain ⟨u127, hJ⟩ := hJ
    obtain ⟨u128, hJ⟩ := hJ
    obtain ⟨u129, hJ⟩ := hJ
    obtain ⟨u130, hJ⟩ := hJ
    obtain ⟨u131, hJ⟩ := hJ
    obtain ⟨u132, hJ⟩ := hJ
    obtain ⟨u133, hJ⟩ := hJ
    obtain ⟨rfl, hi1, hi2, HI⟩ := hJ
    have hbS : ∀ W, Below w.heap.size w W → ∀ j, j < s.size → W.cell? ⟨b, j, none⟩ = some (.int .u8 ((s.get! j).toNat : Int)) := fun W hb j hj => (hb.cell (p := ⟨b, j, none⟩) (cell_lt (HS.out j hj))).trans (HS.out j hj)
    have hbT : ∀ W, Below w.heap.size w W → ∀ j, j < t.size → W.cell? ⟨b', j, none⟩ = some (.int .u8 ((t.get! j).toNat : Int)) := fun W hb j hj => (hb.cell (p := ⟨b', j, none⟩) (cell_lt (HT.out j hj))).trans (HT.out j hj)
    have dS : ∀ k W, k < s.size → Below w.heap.size w W → Calls Tryd.prog 21 #[.slice (some ⟨b, k, none⟩) (s.size - k) (c - k)] W fun e w' => e = .returned (.tuple #[.int .i32 (Lib.decodeGo (s.extract k s.size)).1, .int .i64 (Lib.decodeGo (s.extract k s.size)).2]) ∧ Below W.heap.size W w' := fun k W hk hb => by
      rw [← tail_len s k]
      exact decodeB_any (s.extract k s.size) b k (c - k) W (hT.below hb) (fun j hj => by rw [tail_len] at hj; rw [hbS W hb (k + j) (by omega), tail_get s k j (by omega)])
    have dT : ∀ k W, k < t.size → Below w.heap.size w W → Calls Tryd.prog 21 #[.slice (some ⟨b', k, none⟩) (t.size - k) (c' - k)] W fun e w' => e = .returned (.tuple #[.int .i32 (Lib.decodeGo (t.extract k t.size)).1, .int .i64 (Lib.decodeGo (t.extract k t.size)).2]) ∧ Below W.heap.size W w' := fun k W hk hb => by
      rw [← tail_len t k]
      exact decodeB_any (t.extract k t.size) b' k (c' - k) W (hT.below hb) (fun j hj => by rw [tail_len] at hj; rw [hbT W hb (k + j) (by omega), tail_get t k j (by omega)])
    have DS := Lib.hid dS; have DT := Lib.hid dT
    clear dS dT hbS hbT HS HT hM hMs hMt hMe
    have hiz : (i : Int) ≤ (s.size : Int) := by omega
    have hiz2 : (i : Int) ≤ (t.size : Int) := by omega
    have hi0 : (0 : Int) ≤ (i : Int) := by omega
    go_upto_region 14 with fail
    go_cut [0] from 13 (fun v wc => w = wc ∧ RestAt v b s c i)
    case first =>
      by_cases hci : c = i
      · have hci2 : (i : Int) = (c : Int) := by omega
        go_wp2_with fail
        go_meet
        case rel => exact ⟨rfl, hi1, some ⟨b, 0, none⟩, by rw [show c - i = 0 by omega], fun h => by omega⟩
      · have hci2 : ¬ (i : Int) = (c : Int) := by omega
        have hci3 : ¬ i = c := by omega
        have hci4 : ¬ c - i = 0 := by omega
        go_wp2_with fail
        go_meet
        case rel => exact ⟨rfl, hi1, _, rfl, fun _ => by simp⟩
    case rest =>
      obtain ⟨rfl, hR0⟩ := hcut
      go_upto_region 15 with fail
      go_cut [1] from 13 (fun v wc => w = wc ∧ RestAt v b' t c' i)
      case first =>
        by_cases hci : c' = i
        · have hci2 : (i : Int) = (c' : Int) := by omega
          go_wp2_with fail
          go_meet
          case rel => exact ⟨rfl, hi2, some ⟨b', 0, none⟩, by rw [show c' - i = 0 by omega], fun h => by omega⟩
        · have hci2 : ¬ (i : Int) = (c' : Int) := by omega
          have hci3 : ¬ i = c' := by omega
          have hci4 : ¬ c' - i = 0 := by omega
          go_wp2_with fail
          go_meet
          case rel => exact ⟨rfl, hi2, _, rfl, fun _ => by simp⟩
      case rest =>
        obtain ⟨rfl, hR1⟩ := hcut
        clear hiz hiz2 hi0
        go_wp2_with fail
        go_loopg [0, 1] (s.size - i) (fun g v0 v1 wx => ∃ (j k : Nat), g = s.size - j ∧ RestAt v0 b s c j ∧ RestAt v1 b' t c' k ∧ Below w.heap.size w wx ∧ Hid (eqF (s.data.toList.drop j) (t.data.toList.drop k) = eqF s.data.toList t.data.toList))
        case atStart => exact ⟨i, i, rfl, hR0, hR1, Below.refl _ _, HI⟩
        case round =>
          clear hR0 hR1 HI hi1 hi2
          obtain ⟨j, k, hg, ⟨hj, A0, rfl, hA0⟩, ⟨hk, A1, rfl, hA1⟩, hbw, HI⟩ := hrel
          have Hg := Lib.hid hg; clear hg
          by_cases hend : s.size - j = 0 ∨ t.size - k = 0
          · have hE : eqF s.data.toList t.data.toList = decide (s.size - j = t.size - k) := by
              rw [← HI.out, eqF_end _ _ (by
                rcases hend with h | h
                · exact Or.inl (List.drop_eq_nil_of_le (by rw [← Lib.size_eq]; omega))
                · exact Or.inr (List.drop_eq_nil_of_le (by rw [← Lib.size_eq]; omega))), List.length_drop, List.length_drop, ← Lib.size_eq, ← Lib.size_eq]
            have HE := Lib.hid hE
            obtain ⟨m, hm⟩ : ∃ m, m = s.size - j := ⟨_, rfl⟩
            obtain ⟨m', hm'⟩ : ∃ m', m' = t.size - k := ⟨_, rfl⟩
            rw [← hm, ← hm'] at hend HE ⊢
            clear hE hA0 hA1 hm hm' hj hk Hg
            by_cases hm0 : m = 0
            · subst hm0
              by_cases hm1 : m' = 0
              · subst hm1
                go_wp2_with fail
                simp only [Exit.jump]
                go_ret
                exact ⟨by rw [HE.out]; rfl, hbw⟩
              · have hmb : ((m' : Int) == 0) = false := beq_eq_false_iff_ne.2 (by omega)
                have hmb2 : ((0 : Int) == (m' : Int)) = false := beq_eq_false_iff_ne.2 (by omega)
                have Hm1 := Lib.hid hm1; clear hm1
                go_wp2_with fail
                simp only [Exit.jump]
                go_ret
                exact ⟨by rw [HE.out, decide_eq_false (by have := Hm1.out; omega)]; rfl, hbw⟩
            · have hm1 : m' = 0 := by omega
              subst hm1
              have hmb : ((m : Int) == 0) = false := beq_eq_false_iff_ne.2 (by omega)
              have hmc : ((m : Int) != 0) = true := by rw [bne, hmb]; rfl
              have Hm0 := Lib.hid hm0; clear hm0 hend
              go_wp2_with fail
              simp only [Exit.jump]
              go_ret
              exact ⟨by rw [HE.out, decide_eq_false (by have := Hm0.out; omega)]; rfl, hbw⟩
          · have hj1 : j < s.size := by omega
            have hk1 : k < t.size := by omega
            obtain rfl := hA0 hj1
            obtain rfl := hA1 hk1
            clear hend hA0 hA1
            obtain ⟨q, Q, hpc, hdec, hql, hq1, hqr, hrest⟩ := dec_first (s := s.extract j s.size) (by rw [tail_len]; omega)
            obtain ⟨q', Q', hpc', hdec', hql', hq1', hqr', hrest'⟩ := dec_first (s := t.extract k t.size) (by rw [tail_len]; omega)
            have hst2 := HI.out
            unfold eqF at hst2
            change _ = eqF s.data.toList t.data.toList at hst2
            rw [← extract_tail s j, ← extract_tail t k] at hst2
            rw [show pcs (s.extract j s.size).data.toList = q :: Q from hpc, show pcs (t.extract k t.size).data.toList = q' :: Q' from hpc'] at hst2
            obtain ⟨r, bs⟩ := q
            obtain ⟨y, bs'⟩ := q'
            simp only [foldP] at hst2 hdec hql hq1 hqr hrest hdec' hql' hq1' hqr' hrest'
            obtain ⟨sz, hsz⟩ : ∃ sz, sz = bs.length := ⟨_, rfl⟩
            obtain ⟨sz', hsz'⟩ : ∃ sz', sz' = bs'.length := ⟨_, rfl⟩
            rw [← hsz] at hdec hql hq1 hrest
            rw [← hsz'] at hdec' hql' hq1' hrest'
            rw [tail_len] at hql hql'
            have hnQ : foldP Q Q' = eqF (s.data.toList.drop (j + sz)) (t.data.toList.drop (k + sz')) := by
              rw [← hrest, ← hrest']
              unfold pcsB eqF
              rw [extract_tail, extract_tail, extract_tail, extract_tail, List.drop_drop, List.drop_drop]
            rw [hnQ] at hst2
            have Hst2 := Lib.hid hst2
            clear hst2 hnQ hrest hrest' hpc hpc' hsz hsz' HI
            have hm1 : ¬ ((s.size - j : Nat) : Int) = 0 := by omega
            have hm2 : ¬ ((t.size - k : Nat) : Int) = 0 := by omega
            obtain ⟨m, hm⟩ : ∃ m, m = s.size - j := ⟨_, rfl⟩
            obtain ⟨m', hm'⟩ : ∃ m', m' = t.size - k := ⟨_, rfl⟩
            have hmb : ((m : Int) == 0) = false := beq_eq_false_iff_ne.2 (by omega)
            have hmb' : ((m' : Int) == 0) = false := beq_eq_false_iff_ne.2 (by omega)
            have hmn : ((m : Int) != 0) = true := by rw [bne, hmb]; rfl
            have hmn' : ((m' : Int) != 0) = true := by rw [bne, hmb']; rfl
            have hm0 : ¬ m = 0 := by omega
            have hm0' : ¬ m' = 0 := by omega
            have DSj := fun W hb => DS.out j W hj1 hb
            have DTk := fun W hb => DT.out k W hk1 hb
            rw [← hm, hdec] at DSj
            rw [← hm', hdec'] at DTk
            obtain ⟨cm, hcm⟩ : ∃ cm, cm = c - j := ⟨_, rfl⟩
            obtain ⟨cm', hcm'⟩ : ∃ cm', cm' = c' - k := ⟨_, rfl⟩
            rw [← hcm] at DSj
            rw [← hcm'] at DTk
            rw [← hm, ← hm', ← hcm, ← hcm']
            have HDS := Lib.hid DSj; have HDT := Lib.hid DTk
            have Hm := Lib.hid hm; have Hm' := Lib.hid hm'; have Hcm := Lib.hid hcm; have Hcm' := Lib.hid hcm'
            have hszm : sz ≤ m := by omega
            have hszm' : sz' ≤ m' := by omega
            have hmc : m ≤ cm := by omega
            have hmc' : m' ≤ cm' := by omega
            have hsz1 : (sz : Int) ≤ (m : Int) := by omega
            have hsz2 : (sz' : Int) ≤ (m' : Int) := by omega
            have hsz3 : (0 : Int) ≤ (sz : Int) := by omega
            have hsz4 : (0 : Int) ≤ (sz' : Int) := by omega
            clear DSj DTk hdec hdec' hm hm' hcm hcm' hm1 hm2 DS DT
            go_wp2_with fail
            (with_reducible refine (HDS.out _ hbw).mono ?_); rintro e w2 ⟨rfl, hb2⟩
            have hB2 := hbw.trans (hb2.mono hbw.size)
            go_upto_region 18 with fail
            go_cut [0] from 67 to 128 (fun v wc => w2 = wc ∧ RestAt v b s c (j + sz))
            case first =>
              by_cases hci : cm = sz
              · have hci2 : (sz : Int) = (cm : Int) := by omega
                go_wp2_with fail
                go_meet
                case rel => exact ⟨rfl, by have := Hm.out; omega, some ⟨b, j, none⟩, by rw [show s.size - (j + sz) = m - sz by have := Hm.out; omega, show c - (j + sz) = 0 by have := Hcm.out; omega], fun h => by have := Hm.out; omega⟩
              · have hci2 : ¬ (sz : Int) = (cm : Int) := by omega
                have hci3 : ¬ sz = cm := by omega
                have hci4 : ¬ cm - sz = 0 := by omega
                go_wp2_with fail
                go_meet
                case rel => exact ⟨rfl, by have := Hm.out; omega, _, by rw [show s.size - (j + sz) = m - sz by have := Hm.out; omega, show c - (j + sz) = cm - sz by have := Hcm.out; omega], fun _ => by simp⟩
            case rest =>
              obtain ⟨rfl, hR0⟩ := hcut
              go_wp2_with fail
              (with_reducible refine (HDT.out _ hB2).mono ?_); rintro e w3 ⟨rfl, hb3⟩
              have hB3 := hB2.trans (hb3.mono hB2.size)
              go_upto_region 20 with fail
              go_cut [1] from 67 to 128 (fun v wc => w3 = wc ∧ RestAt v b' t c' (k + sz'))
              case first =>
                by_cases hci : cm' = sz'
                · have hci2 : (sz' : Int) = (cm' : Int) := by omega
                  go_wp2_with fail
                  go_meet
                  case rel => exact ⟨rfl, by have := Hm'.out; omega, some ⟨b', k, none⟩, by rw [show t.size - (k + sz') = m' - sz' by have := Hm'.out; omega, show c' - (k + sz') = 0 by have := Hcm'.out; omega], fun h => by have := Hm'.out; omega⟩
                · have hci2 : ¬ (sz' : Int) = (cm' : Int) := by omega
                  have hci3 : ¬ sz' = cm' := by omega
                  have hci4 : ¬ cm' - sz' = 0 := by omega
                  go_wp2_with fail
                  go_meet
                  case rel => exact ⟨rfl, by have := Hm'.out; omega, _, by rw [show t.size - (k + sz') = m' - sz' by have := Hm'.out; omega, show c' - (k + sz') = cm' - sz' by have := Hcm'.out; omega], fun _ => by simp⟩
              case rest =>
                obtain ⟨rfl, hR1⟩ := hcut
                have hlP : s.size - (j + sz) < gk := by have := Hg.out; omega
                clear hb2 hb3 hB2 hbw HDS HDT Hm Hm' Hcm Hcm' hszm hszm' hmc hmc' hsz1 hsz2 hsz3 hsz4 hmb hmb' hmn hmn' hm0 hm0'
                by_cases hyr : y = r
                · subst hyr
                  have Hn : Hid (eqF (s.data.toList.drop (j + sz)) (t.data.toList.drop (k + sz')) = eqF s.data.toList t.data.toList) := by rw [Hid, ← Hst2.out, foldB_refl, Bool.true_and]
                  go_wp2_with fail
                  go_roundg (s.size - (j + sz))
                  case rel => exact ⟨j + sz, k + sz', rfl, hR0, hR1, hB3, Hn⟩
                  case measure => exact hlP
                · have hyb : ((y : Int) == (r : Int)) = false := beq_eq_false_iff_ne.2 (by omega)
                  obtain ⟨x, z, hxz, hzl, hfo, hcase⟩ : ∃ x z : Nat, x < z ∧ z ≤ 1114111 ∧ foldB r y = foldB x z ∧ ((r = x ∧ y = z) ∨ (y = x ∧ r = z)) := by
                    rcases Nat.lt_or_ge r y with h | h
                    · exact ⟨r, y, h, hqr', rfl, .inl ⟨rfl, rfl⟩⟩
                    · exact ⟨y, r, by omega, hqr, foldB_symm r y, .inr ⟨rfl, rfl⟩⟩
                  rw [hfo] at Hst2
                  go_upto_if 96 with fail
                  go_cut [9, 11] from 67 to 128 (fun a b wc => w3 = wc ∧ a = .int .i32 (x : Int) ∧ b = .int .i32 (z : Int))
                  case first =>
                    rcases hcase with ⟨rfl, rfl⟩ | ⟨rfl, rfl⟩
                    · have hlt : ¬ (y : Int) < (r : Int) := by omega
                      go_wp2_with fail
                      go_meet
                      case rel => exact ⟨rfl, rfl, rfl⟩
                    · have hlt : (y : Int) < (r : Int) := by omega
                      go_wp2_with fail
                      go_meet
                      case rel => exact ⟨rfl, rfl, rfl⟩
                  case rest =>
                    obtain ⟨rfl, rfl, rfl⟩ := hcut
                    clear hcase hyb hyr hfo hqr hqr'
                    have hxzz : (x : Int) < (z : Int) := by omega
                    by_cases hz : z < 128
                    · have hzz : (z : Int) < 128 := by omega
                      rw [fold_ascii hxz hz] at Hst2
                      clear hz
                      have HlP := Lib.hid hlP; clear hlP
                      have HR0 := Lib.hid hR0; have HR1 := Lib.hid hR1; clear hR0 hR1
                      go_wp2
                      all_goals (try simp only [beq_iff_eq, beq_eq_false_iff_ne, ne_eq] at *)
                      all_goals first
                        | (go_roundg (s.size - (j + sz))
                           case measure => exact HlP.out
                           case rel => exact ⟨j + sz, k + sz', rfl, HR0.out, HR1.out, hB3, Lib.hid (by rw [← Hst2.out, decide_eq_true (by omega), Bool.true_and])⟩)
                        | (simp only [Exit.jump]
                           go_ret
                           refine ⟨?_, hB3⟩
                           rw [← Hst2.out, decide_eq_false (by omega), Bool.false_and]
                           rfl)
                    · have hzz : ¬ (z : Int) < 128 := by omega
                      clear hz
                      go_wp2_with fail
                      (with_reducible refine (simpleFold_any x _ (by omega) (hV.below hB3)).mono ?_); rintro e w4 ⟨rfl, q3, rfl⟩
                      go_wp2_with fail
                      have hx0 := sfold_lt (r := x) (by omega)
                      go_loopg [12] 3 (fun g v wx => ∃ (jj rr q3 : Nat), w3.drewN q3 = wx ∧ v = .int .i32 (rr : Int) ∧ rr < 2147483648 ∧ g = 4 - jj ∧ Hid (LoopAt x z jj rr))
                      case atStart => exact ⟨1, sfold x, q3, rfl, rfl, hx0, rfl, LoopAt.start x z⟩
                      case round =>
                        obtain ⟨jj, rr, q4, rfl, rfl, hrl, hgj, Hl⟩ := hrel
                        have Hgj := Lib.hid hgj
                        clear hx0 hgj
                        by_cases hrx : rr = x
                        · have he := Hl.out.end_ hxz (.inl hrx)
                          have hne : decide (rr = z) = false := by rw [decide_eq_false_iff_not]; omega
                          rw [he, hne, Bool.false_and] at Hst2
                          have hz2 : ((rr : Int) == (z : Int)) = false := beq_eq_false_iff_ne.2 (by omega)
                          have hz3 : ((x : Int) == (z : Int)) = false := beq_eq_false_iff_ne.2 (by omega)
                          subst hrx
                          clear he hne Hl
                          go_wp2_with fail
                          simp only [Exit.jump]
                          go_ret
                          exact ⟨by rw [← Hst2.out]; rfl, below_drewN' hB3 q4⟩
                        · have hrb : ((rr : Int) == (x : Int)) = false := beq_eq_false_iff_ne.2 (by omega)
                          have hrn : ((rr : Int) != (x : Int)) = true := by rw [bne, hrb]; rfl
                          by_cases hrz : rr < z
                          · have hrzz : (rr : Int) < (z : Int) := by omega
                            obtain ⟨hj4, hnext⟩ := Hl.out.next hrx hrz
                            have Hn := Lib.hid hnext
                            have hrl2 := sfold_lt hrl
                            clear hnext hrz hrx Hl
                            go_wp2_with fail
                            (with_reducible refine (simpleFold_any rr _ hrl ((hV.below hB3).drewN q4)).mono ?_); rintro e w5 ⟨rfl, q5, rfl⟩
                            go_wp2_with fail
                            go_roundg (4 - (jj + 1))
                            case rel => exact ⟨jj + 1, sfold rr, q4 + q5, rfl, rfl, hrl2, rfl, Hn⟩
                            case measure => have := Hgj.out; omega
                          · have hrzz : ¬ (rr : Int) < (z : Int) := by omega
                            have he := Hl.out.end_ hxz (.inr (by omega))
                            rw [he] at Hst2
                            clear he Hl hrx
                            by_cases hz2 : rr = z
                            · have hzb : ((rr : Int) == (z : Int)) = true := beq_iff_eq.2 (by omega)
                              rw [decide_eq_true hz2, Bool.true_and] at Hst2
                              clear hz2 hrz
                              go_wp2_with fail
                              go_roundg (s.size - (j + sz))
                              case rel => exact ⟨j + sz, k + sz', rfl, hR0, hR1, below_drewN' hB3 q4, Hst2⟩
                              case measure => exact hlP
                            · have hzb : ((rr : Int) == (z : Int)) = false := beq_eq_false_iff_ne.2 (by omega)
                              rw [decide_eq_false hz2, Bool.false_and] at Hst2
                              clear hz2 hrz
                              go_wp2_with fail
                              simp only [Exit.jump]
                              go_ret
                              exact ⟨by rw [← Hst2.out]; rfl, below_drewN' hB3 q4⟩
end Go.Proofs.YtkglbkgbgajbkaaDoor
