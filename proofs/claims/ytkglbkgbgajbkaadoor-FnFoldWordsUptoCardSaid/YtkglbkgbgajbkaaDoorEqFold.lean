/- The contract of strings.EqualFold. Conditions: texts of at most 2 to the 47 bytes; the tables of utf8 and of folding. -/
import Derived.Test.YtkglbkgbgajbkaaDoorSimple
import Derived.Test.YtkglbkgbgajbkaaDoorEqPlain
import Derived.Test.YtkglbkgbgajbkaaDoorEqMem
import Derived.Test.YtkglbkgbgajbkaaDoorIter
import Derived.Test.YtkglbkgbgajbkaaDoorMarked
import Derived.Laws.Strings3
import Derived.WalkMore
import Derived.ScopeJumps
import Derived.Deep.LoopGhost
import Derived.Deep.CutRange
namespace Go.Proofs.YtkglbkgbgajbkaaDoor
open Go.RowKit Go.Lib
set_option linter.unusedVariables false

set_option maxRecDepth 1000000 in
/-- at the jump: the whole frame -/
def FoldJ (s t : ByteArray) (w : World) : Act → World → Prop := fun a' w' => w = w' ∧ ∃ (i : Nat) (u2 u3 u4 u6 u7 u8 u9 u10 u11 u12 u13 u14 u15 u16 u17 u18 u19 u20 u21 u22 u23 u24 u25 u26 u27 u28 u29 u30 u31 u32 u33 u34 u35 u36 u37 u38 u39 u40 u41 u42 u43 u44 u45 u46 u47 u48 u49 u50 u51 u52 u53 u54 u55 u56 u57 u58 u59 u60 u61 u62 u63 u64 u65 u66 u67 u68 u69 u70 u71 u72 u73 u74 u75 u76 u77 u78 u79 u80 u81 u82 u83 u84 u85 u86 u87 u88 u89 u90 u91 u92 u93 u94 u95 u96 u97 u98 u99 u100 u101 u102 u103 u104 u105 u106 u107 u108 u109 u110 u111 u112 u113 u114 u115 u116 u117 u118 u119 u120 u121 u122 : Value), a' = { tmps := #[.string s, .string t, u2, u3, u4, .int .i64 (i : Int), u6, u7, u8, u9, u10, u11, u12, u13, u14, u15, u16, u17, u18, u19, u20, u21, u22, u23, u24, u25, u26, u27, u28, u29, u30, u31, u32, u33, u34, u35, u36, u37, u38, u39, u40, u41, u42, u43, u44, u45, u46, u47, u48, u49, u50, u51, u52, u53, u54, u55, u56, u57, u58, u59, u60, u61, u62, u63, u64, u65, u66, u67, u68, u69, u70, u71, u72, u73, u74, u75, u76, u77, u78, u79, u80, u81, u82, u83, u84, u85, u86, u87, u88, u89, u90, u91, u92, u93, u94, u95, u96, u97, u98, u99, u100, u101, u102, u103, u104, u105, u106, u107, u108, u109, u110, u111, u112, u113, u114, u115, u116, u117, u118, u119, u120, u121, u122], defers := [] } ∧ i ≤ s.size ∧ i ≤ t.size ∧ Hid (eqF (s.data.toList.drop i) (t.data.toList.drop i) = eqF s.data.toList t.data.toList)

set_option maxRecDepth 1000000 in
set_option maxHeartbeats 12800000 in
theorem equalFoldS (s t : ByteArray) (w : World) (hs : s.size ≤ 140737488355328) (ht : t.size ≤ 140737488355328) (hT : Tabs w) (hV : FoldVars w) :
    Calls Tryd.prog 16 #[.string s, .string t] w fun e w' => e = .returned (.bool (eqF s.data.toList t.data.toList)) ∧ Below w.heap.size w w' := by
  obtain ⟨M, hM⟩ : ∃ M : Nat, min (s.size : Int) (t.size : Int) = (M : Int) := ⟨min s.size t.size, by omega⟩
  have hMs : M ≤ s.size := by omega
  have hMt : M ≤ t.size := by omega
  have hMe : M = s.size ∨ M = t.size := by omega
  go_enter Tryd.func16, Tryd.ntmps16
  go_wp2
  refine wp_scope_jumps 0 (FoldJ s t w) (fun _ _ => 0) rfl ?_ ?_
  · go_wp2
    go_loopg [5] M (fun g s5 wx => w = wx ∧ ∃ i : Nat, i + g = M ∧ s5 = .int .i64 i ∧ Hid (eqF (s.data.toList.drop i) (t.data.toList.drop i) = eqF s.data.toList t.data.toList))
    case atStart => exact ⟨rfl, 0, by omega, rfl, rfl⟩
    case round =>
      obtain ⟨rfl, i, hig, rfl, HI⟩ := hrel
      clear hM
      cases gk with
      | zero =>
        have hiM : ¬ ((i : Int) < (M : Int)) := by omega
        obtain rfl : i = M := by omega
        have hE : eqF s.data.toList t.data.toList = decide (s.size = t.size) := by
          rw [← HI.out, eqF_end _ _ (by
            rcases hMe with h | h
            · exact Or.inl (List.drop_eq_nil_of_le (by rw [← Lib.size_eq]; omega))
            · exact Or.inr (List.drop_eq_nil_of_le (by rw [← Lib.size_eq]; omega))), List.length_drop, List.length_drop, ← Lib.size_eq, ← Lib.size_eq]
          exact decide_eq_decide.2 (by omega)
        have HE := Lib.hid hE; clear hE
        by_cases hst : s.size = t.size
        · have hb : ((s.size : Int) == (t.size : Int)) = true := beq_iff_eq.2 (by omega)
          have Hst := Lib.hid hst; clear hst
          go_wp2
          simp only [Exit.jump]
          go_ret
          exact ⟨by rw [HE.out]; simp [Hst.out], Below.refl _ _⟩
        · have hb : ((s.size : Int) == (t.size : Int)) = false := beq_eq_false_iff_ne.2 (by omega)
          have Hst := Lib.hid hst; clear hst
          go_wp2
          simp only [Exit.jump]
          go_ret
          exact ⟨by rw [HE.out]; simp [Hst.out], Below.refl _ _⟩
      | succ g =>
        have hiM : (i : Int) < (M : Int) := by omega
        have hisz : (i : Int) < (s.size : Int) := by omega
        have hitz : (i : Int) < (t.size : Int) := by omega
        obtain ⟨x, hx⟩ : ∃ x : UInt8, s[i]'(by omega) = x := ⟨_, rfl⟩
        obtain ⟨y, hy⟩ : ∃ y : UInt8, t[i]'(by omega) = y := ⟨_, rfl⟩
        have hxl : s.data.toList[i]? = some x := by rw [← hx]; exact Lib.data_getElem? s i (by omega)
        have hyl : t.data.toList[i]? = some y := by rw [← hy]; exact Lib.data_getElem? t i (by omega)
        have hx256 := x.toNat_lt
        have hy256 := y.toNat_lt
        have hor : bits .or .u8 (x.toNat : Int) (y.toNat : Int) = ((x.toNat ||| y.toNat : Nat) : Int) := u8_or_nat _ _ (by omega) (by omega)
        have Hx : Hid (s.data.toList[i]? = some x ∧ t.data.toList[i]? = some y) := ⟨hxl, hyl⟩
        clear hxl hyl
        by_cases hhi : 128 ≤ (x.toNat ||| y.toNat)
        · have hor128 : (128 : Int) ≤ ((x.toNat ||| y.toNat : Nat) : Int) := by omega
          clear hhi
          go_wp2
          go_step3
          refine ⟨rfl, ?_⟩
          unfold FoldJ
          exact ⟨rfl, i, _, _, _, _, _, _, _, _, _, _, _, _, _, _, _, _, _, _, _, _, _, _, _, _, _, _, _, _, _, _, _, _, _, _, _, _, _, _, _, _, _, _, _, _, _, _, _, _, _, _, _, _, _, _, _, _, _, _, _, _, _, _, _, _, _, _, _, _, _, _, _, _, _, _, _, _, _, _, _, _, _, _, _, _, _, _, _, _, _, _, _, _, _, _, _, _, _, _, _, _, _, _, _, _, _, _, _, _, _, _, _, _, _, _, _, _, _, _, _, _, rfl, by omega, by omega, HI⟩
        · have hor128 : ¬ ((128 : Int) ≤ ((x.toNat ||| y.toNat : Nat) : Int)) := by omega
          have hxy := or_low hhi
          have hx128 := hxy.1
          have hy128 := hxy.2
          have hnx := eqF_low hx128 hy128 (s.data.toList.drop (i + 1)) (t.data.toList.drop (i + 1))
          rw [← Lib.drop_at Hx.out.1, ← Lib.drop_at Hx.out.2, HI.out, foldB_low hx128 hy128] at hnx
          have Hnx := Lib.hid hnx
          clear hnx hxy hhi Hx HI
          go_wp2
          all_goals (try simp only [beq_iff_eq, beq_eq_false_iff_ne, ne_eq] at *)
          all_goals first
            | (go_roundg g
               case measure => omega
               case rel => exact ⟨rfl, i + 1, by omega, by first | rfl | simp, Lib.hid (by rw [Hnx.out, decide_eq_true (by omega), Bool.true_and])⟩)
            | (simp only [Exit.jump]
               go_ret
               refine ⟨?_, Below.refl _ _⟩
               rw [Hnx.out, decide_eq_false (by omega), Bool.false_and]
               rfl)
  · intro a' w' hJ
    unfold FoldJ at hJ
    obtain ⟨rfl, i, hJ⟩ := hJ
    obtain ⟨u2, hJ⟩ := hJ
    obtain ⟨u3, hJ⟩ := hJ
    obtain ⟨u4, hJ⟩ := hJ
    obtain ⟨u6, hJ⟩ := hJ
    obtain ⟨u7, hJ⟩ := hJ
    obtain ⟨u8, hJ⟩ := hJ
    obtain ⟨u9, hJ⟩ := hJ
    obtain ⟨u10, hJ⟩ := hJ
    obtain ⟨u11, hJ⟩ := hJ
    obtain ⟨u12, hJ⟩ := hJ
    obtain ⟨u13, hJ⟩ := hJ
    obtain ⟨u14, hJ⟩ := hJ
    obtain ⟨u15, hJ⟩ := hJ
    obtain ⟨u16, hJ⟩ := hJ
    obtain ⟨u17, hJ⟩ := hJ
    obtain ⟨u18, hJ⟩ := hJ
    obtain ⟨u19, hJ⟩ := hJ
    obtain ⟨u20, hJ⟩ := hJ
    obtain ⟨u21, hJ⟩ := hJ
    obtain ⟨u22, hJ⟩ := hJ
    obtain ⟨u23, hJ⟩ := hJ
    obtain ⟨u24, hJ⟩ := hJ
    obtain ⟨u25, hJ⟩ := hJ
    obtain ⟨u26, hJ⟩ := hJ
    obtain ⟨u27, hJ⟩ := hJ
    obtain ⟨u28, hJ⟩ := hJ
    obtain ⟨u29, hJ⟩ := hJ
    obtain ⟨u30, hJ⟩ := hJ
    obtain ⟨u31, hJ⟩ := hJ
    obtain ⟨u32, hJ⟩ := hJ
    obtain ⟨u33, hJ⟩ := hJ
    obtain ⟨u34, hJ⟩ := hJ
    obtain ⟨u35, hJ⟩ := hJ
    obtain ⟨u36, hJ⟩ := hJ
    obtain ⟨u37, hJ⟩ := hJ
    obtain ⟨u38, hJ⟩ := hJ
    obtain ⟨u39, hJ⟩ := hJ
    obtain ⟨u40, hJ⟩ := hJ
    obtain ⟨u41, hJ⟩ := hJ
    obtain ⟨u42, hJ⟩ := hJ
    obtain ⟨u43, hJ⟩ := hJ
    obtain ⟨u44, hJ⟩ := hJ
    obtain ⟨u45, hJ⟩ := hJ
    obtain ⟨u46, hJ⟩ := hJ
    obtain ⟨u47, hJ⟩ := hJ
    obtain ⟨u48, hJ⟩ := hJ
    obtain ⟨u49, hJ⟩ := hJ
    obtain ⟨u50, hJ⟩ := hJ
    obtain ⟨u51, hJ⟩ := hJ
    obtain ⟨u52, hJ⟩ := hJ
    obtain ⟨u53, hJ⟩ := hJ
    obtain ⟨u54, hJ⟩ := hJ
    obtain ⟨u55, hJ⟩ := hJ
    obtain ⟨u56, hJ⟩ := hJ
    obtain ⟨u57, hJ⟩ := hJ
    obtain ⟨u58, hJ⟩ := hJ
    obtain ⟨u59, hJ⟩ := hJ
    obtain ⟨u60, hJ⟩ := hJ
    obtain ⟨u61, hJ⟩ := hJ
    obtain ⟨u62, hJ⟩ := hJ
    obtain ⟨u63, hJ⟩ := hJ
    obtain ⟨u64, hJ⟩ := hJ
    obtain ⟨u65, hJ⟩ := hJ
    obtain ⟨u66, hJ⟩ := hJ
    obtain ⟨u67, hJ⟩ := hJ
    obtain ⟨u68, hJ⟩ := hJ
    obtain ⟨u69, hJ⟩ := hJ
    obtain ⟨u70, hJ⟩ := hJ
    obtain ⟨u71, hJ⟩ := hJ
    obtain ⟨u72, hJ⟩ := hJ
    obtain ⟨u73, hJ⟩ := hJ
    obtain ⟨u74, hJ⟩ := hJ
    obtain ⟨u75, hJ⟩ := hJ
    obtain ⟨u76, hJ⟩ := hJ
    obtain ⟨u77, hJ⟩ := hJ
    obtain ⟨u78, hJ⟩ := hJ
    obtain ⟨u79, hJ⟩ := hJ
    obtain ⟨u80, hJ⟩ := hJ
    obtain ⟨u81, hJ⟩ := hJ
    obtain ⟨u82, hJ⟩ := hJ
    obtain ⟨u83, hJ⟩ := hJ
    obtain ⟨u84, hJ⟩ := hJ
    obtain ⟨u85, hJ⟩ := hJ
    obtain ⟨u86, hJ⟩ := hJ
    obtain ⟨u87, hJ⟩ := hJ
    obtain ⟨u88, hJ⟩ := hJ
    obtain ⟨u89, hJ⟩ := hJ
    obtain ⟨u90, hJ⟩ := hJ
    obtain ⟨u91, hJ⟩ := hJ
    obtain ⟨u92, hJ⟩ := hJ
    obtain ⟨u93, hJ⟩ := hJ
    obtain ⟨u94, hJ⟩ := hJ
    obtain ⟨u95, hJ⟩ := hJ
    obtain ⟨u96, hJ⟩ := hJ
    obtain ⟨u97, hJ⟩ := hJ
    obtain ⟨u98, hJ⟩ := hJ
    obtain ⟨u99, hJ⟩ := hJ
    obtain ⟨u100, hJ⟩ := hJ
    obtain ⟨u101, hJ⟩ := hJ
    obtain ⟨u102, hJ⟩ := hJ
    obtain ⟨u103, hJ⟩ := hJ
    obtain ⟨u104, hJ⟩ := hJ
    obtain ⟨u105, hJ⟩ := hJ
    obtain ⟨u106, hJ⟩ := hJ
    obtain ⟨u107, hJ⟩ := hJ
    obtain ⟨u108, hJ⟩ := hJ
    obtain ⟨u109, hJ⟩ := hJ
    obtain ⟨u110, hJ⟩ := hJ
    obtain ⟨u111, hJ⟩ := hJ
    obtain ⟨u112, hJ⟩ := hJ
    obtain ⟨u113, hJ⟩ := hJ
    obtain ⟨u114, hJ⟩ := hJ
    obtain ⟨u115, hJ⟩ := hJ
    obtain ⟨u116, hJ⟩ := hJ
    obtain ⟨u117, hJ⟩ := hJ
    obtain ⟨u118, hJ⟩ := hJ
    obtain ⟨u119, hJ⟩ := hJ
    obtain ⟨u120, hJ⟩ := hJ
    obtain ⟨u121, hJ⟩ := hJ
    obtain ⟨u122, hJ⟩ := hJ
    obtain ⟨rfl, hi1, hi2, HI⟩ := hJ
    have hiz : (i : Int) ≤ (s.size : Int) := by omega
    have hiz2 : (i : Int) ≤ (t.size : Int) := by omega
    obtain ⟨s2, hs2⟩ : ∃ s2, s2 = s.extract i s.size := ⟨_, rfl⟩
    obtain ⟨t2, ht2⟩ : ∃ t2, t2 = t.extract i t.size := ⟨_, rfl⟩
    have hst : foldP (pcsB s2) (pcsB t2) = eqF s.data.toList t.data.toList := by
      rw [← HI.out, hs2, ht2]
      unfold pcsB eqF
      rw [extract_tail, extract_tail]
    have ht2s : t2.size ≤ 140737488355328 := by rw [ht2]; have := tail_size t i; omega
    have Hst := Lib.hid hst
    clear hst HI hM hMs hMt hMe
    go_wp2_with fail
    rw [← hs2, ← ht2]
    clear hs2 ht2
    go_loopg [1] (pcsB s2).length (fun g v1 wx => ∃ (P : List Pc) (tr : ByteArray), P.length = g ∧ v1 = .string tr ∧ IterAt wx w.heap.size s2 P ∧ Below w.heap.size w wx ∧ tr.size ≤ 140737488355328 ∧ Hid (foldP P (pcsB tr) = eqF s.data.toList t.data.toList) ∧ Hid (∀ q ∈ P, q.1 ≤ 1114111))
    case atStart => exact ⟨pcsB s2, t2, rfl, rfl, by simpa using IterAt.start w s2, (Below.refl _ _).alloc (Nat.le_refl _) _, ht2s, Hst, fun q hq => pcs_rune q hq⟩
    case round =>
      clear Hst
      obtain ⟨P, tr, hl, rfl, hit, hbw, htr, Hst, Hru⟩ := hrel
      cases P with
      | nil =>
        have hnx := iter_end (Pr := Tryd.prog) hit
        have hans : eqF s.data.toList t.data.toList = decide (tr.size = 0) := by
          rw [← Hst.out, foldP_nil_left, decide_eq_decide, pcsB_nil_iff]
        have Hans := Lib.hid hans
        clear hans Hst
        by_cases h0 : tr.size = 0
        · have hb : ((tr.size : Int) == 0) = true := beq_iff_eq.2 (by omega)
          have H0 := Lib.hid h0; clear h0
          go_wp2_with fail
          simp only [Exit.jump]
          go_ret
          exact ⟨by rw [Hans.out]; simp [H0.out], hbw⟩
        · have hb : ((tr.size : Int) == 0) = false := beq_eq_false_iff_ne.2 (by omega)
          have H0 := Lib.hid h0; clear h0
          go_wp2_with fail
          simp only [Exit.jump]
          go_ret
          exact ⟨by rw [Hans.out]; simp [H0.out], hbw⟩
      | cons q P =>
        obtain ⟨pos, w1, hnx, hit1, hb1, hg1, hpos, hplt⟩ := iter_next (Pr := Tryd.prog) hit
        have hbw1 := hbw.trans (hb1 _ (Nat.le_refl _))
        have hq := Hru.out q (by simp)
        have Hru' : Hid (∀ q ∈ P, q.1 ≤ 1114111) := fun x hx => Hru.out x (by simp [hx])
        obtain ⟨r, bs⟩ := q
        simp only at hnx hq
        clear hb1 hg1 hpos hplt hit hbw Hru
        by_cases h0 : tr.size = 0
        · have hb : ((tr.size : Int) == 0) = true := beq_iff_eq.2 (by omega)
          have hans : eqF s.data.toList t.data.toList = false := by
            rw [← Hst.out, (pcsB_nil_iff tr).2 h0]; rfl
          have Hans := Lib.hid hans
          clear hans Hst h0
          go_wp2_with fail
          simp only [Exit.jump]
          go_ret
          exact ⟨by rw [Hans.out]; rfl, hbw1⟩
        · have hb : ((tr.size : Int) == 0) = false := beq_eq_false_iff_ne.2 (by omega)
          obtain ⟨q', Q, hpc, hdec, hql, hq1, hqr, hrest⟩ := dec_first (s := tr) (by omega)
          have hst2 := Hst.out
          rw [hpc] at hst2
          obtain ⟨y, bs'⟩ := q'
          simp only [foldP] at hst2 hdec hql hq1 hqr hrest
          obtain ⟨sz, hsz⟩ : ∃ sz, sz = bs'.length := ⟨_, rfl⟩
          rw [← hsz] at hdec hql hq1 hrest
          obtain ⟨tr2, htr2⟩ : ∃ tr2, tr2 = tr.extract sz tr.size := ⟨_, rfl⟩
          rw [← htr2] at hrest
          rw [← hrest] at hst2
          have htr2s : tr2.size ≤ 140737488355328 := by rw [htr2]; have := tail_size tr sz; omega
          have Hst2 := Lib.hid hst2
          have Htr2 := Lib.hid htr2
          have hlP : P.length < gk := by rw [← hl]; simp
          have hszz : (sz : Int) ≤ (tr.size : Int) := by omega
          clear hpc hst2 hrest hsz htr2 Hst h0 hl
          go_wp2_with fail
          (with_reducible refine (decodeS_any tr _ (hT.below hbw1)).mono ?_); rintro e w2 ⟨rfl, hb2⟩
          rw [hdec]
          have hB2 := hbw1.trans (hb2.mono hbw1.size)
          have hit2 := hit1.below hb2 hit1.lt
          clear hdec hb2 hit1 hnx
          by_cases hyr : y = r
          · subst hyr
            have Hn : Hid (foldP P (pcsB tr2) = eqF s.data.toList t.data.toList) := by rw [Hid, ← Hst2.out, foldB_refl, Bool.true_and]
            go_wp2_with fail
            rw [← Htr2.out]
            go_roundg P.length
            case rel => exact ⟨P, tr2, rfl, rfl, hit2, hB2, htr2s, Hn, Hru'⟩
            case measure => exact hlP
          · have hyb : ((y : Int) == (r : Int)) = false := beq_eq_false_iff_ne.2 (by omega)
            obtain ⟨x, z, hxz, hzl, hfo, hcase⟩ : ∃ x z : Nat, x < z ∧ z ≤ 1114111 ∧ foldB r y = foldB x z ∧ ((r = x ∧ y = z) ∨ (y = x ∧ r = z)) := by
              rcases Nat.lt_or_ge r y with h | h
              · exact ⟨r, y, h, hqr, rfl, .inl ⟨rfl, rfl⟩⟩
              · exact ⟨y, r, by omega, hq, foldB_symm r y, .inr ⟨rfl, rfl⟩⟩
            rw [hfo] at Hst2
            go_upto_if 87 with fail
            rw [← Htr2.out]
            go_cut [10, 11] from 68 to 119 (fun a b wc => w2 = wc ∧ a = .int .i32 (x : Int) ∧ b = .int .i32 (z : Int))
            case first =>
              rcases hcase with ⟨rfl, rfl⟩ | ⟨rfl, rfl⟩
              · have hlt : ¬ (y : Int) < (r : Int) := by omega
                go_wp2_with fail
                go_meet
                case rel => exact ⟨rfl, rfl, rfl⟩
              · have hlt : (y : Int) < (r : Int) := by omega
                go_wp2_with fail
                go_meet
                case rel => exact ⟨rfl, rfl, rfl⟩
            case rest =>
              obtain ⟨rfl, rfl, rfl⟩ := hcut
              clear hcase hyb hyr hfo hq hqr
              have hxzz : (x : Int) < (z : Int) := by omega
              by_cases hz : z < 128
              · have hzz : (z : Int) < 128 := by omega
                rw [fold_ascii hxz hz] at Hst2
                clear hz
                go_wp2
                all_goals (try simp only [beq_iff_eq, beq_eq_false_iff_ne, ne_eq] at *)
                all_goals first
                  | (go_roundg P.length
                     case measure => exact hlP
                     case rel => exact ⟨P, tr2, rfl, rfl, hit2, hB2, htr2s, Lib.hid (by rw [← Hst2.out, decide_eq_true (by omega), Bool.true_and]), Hru'⟩)
                  | (simp only [Exit.jump]
                     go_ret
                     refine ⟨?_, hB2⟩
                     rw [← Hst2.out, decide_eq_false (by omega), Bool.false_and]
                     rfl)
              · have hzz : ¬ (z : Int) < 128 := by omega
                clear hz
                go_wp2_with fail
                (with_reducible refine (simpleFold_any x _ (by omega) (hV.below hB2)).mono ?_); rintro e w3 ⟨rfl, q3, rfl⟩
                go_wp2_with fail
                have hx0 := sfold_lt (r := x) (by omega)
                go_loopg [13] 3 (fun g v wx => ∃ (j rr q3 : Nat), w2.drewN q3 = wx ∧ v = .int .i32 (rr : Int) ∧ rr < 2147483648 ∧ g = 4 - j ∧ Hid (LoopAt x z j rr))
                case atStart => exact ⟨1, sfold x, q3, rfl, rfl, hx0, rfl, LoopAt.start x z⟩
                case round =>
                  obtain ⟨j, rr, q4, rfl, rfl, hrl, hgj, Hl⟩ := hrel
                  have Hgj := Lib.hid hgj
                  clear hx0 hgj
                  by_cases hrx : rr = x
                  · have he := Hl.out.end_ hxz (.inl hrx)
                    have hne : decide (rr = z) = false := by rw [decide_eq_false_iff_not]; omega
                    rw [he, hne, Bool.false_and] at Hst2
                    have hz2 : ((rr : Int) == (z : Int)) = false := beq_eq_false_iff_ne.2 (by omega)
                    have hz3 : ((x : Int) == (z : Int)) = false := beq_eq_false_iff_ne.2 (by omega)
                    subst hrx
                    clear he hne Hl
                    go_wp2_with fail
                    simp only [Exit.jump]
                    go_ret
                    exact ⟨by rw [← Hst2.out]; rfl, below_drewN' hB2 q4⟩
                  · have hrb : ((rr : Int) == (x : Int)) = false := beq_eq_false_iff_ne.2 (by omega)
                    have hrn : ((rr : Int) != (x : Int)) = true := by rw [bne, hrb]; rfl
                    by_cases hrz : rr < z
                    · have hrzz : (rr : Int) < (z : Int) := by omega
                      obtain ⟨hj4, hnext⟩ := Hl.out.next hrx hrz
                      have Hn := Lib.hid hnext
                      have hrl2 := sfold_lt hrl
                      clear hnext hrz hrx Hl
                      go_wp2_with fail
                      (with_reducible refine (simpleFold_any rr _ hrl ((hV.below hB2).drewN q4)).mono ?_); rintro e w5 ⟨rfl, q5, rfl⟩
                      go_wp2_with fail
                      go_roundg (4 - (j + 1))
                      case rel => exact ⟨j + 1, sfold rr, q4 + q5, rfl, rfl, hrl2, rfl, Hn⟩
                      case measure => have := Hgj.out; omega
                    · have hrzz : ¬ (rr : Int) < (z : Int) := by omega
                      have he := Hl.out.end_ hxz (.inr (by omega))
                      rw [he] at Hst2
                      clear he Hl hrx
                      by_cases hz2 : rr = z
                      · have hzb : ((rr : Int) == (z : Int)) = true := beq_iff_eq.2 (by omega)
                        rw [decide_eq_true hz2, Bool.true_and] at Hst2
                        clear hz2 hrz
                        go_wp2_with fail
                        go_roundg P.length
                        case rel => exact ⟨P, tr2, rfl, rfl, hit2, below_drewN' hB2 q4, htr2s, Hst2, Hru'⟩
                        case measure => exact hlP
                      · have hzb : ((rr : Int) == (z : Int)) = false := beq_eq_false_iff_ne.2 (by omega)
                        rw [decide_eq_false hz2, Bool.false_and] at Hst2
                        clear hz2 hrz
                        go_wp2_with fail
                        simp only [Exit.jump]
                        go_ret
                        exact ⟨by rw [← Hst2.out]; rfl, below_drewN' hB2 q4⟩
end Go.Proofs.YtkglbkgbgajbkaaDoor
