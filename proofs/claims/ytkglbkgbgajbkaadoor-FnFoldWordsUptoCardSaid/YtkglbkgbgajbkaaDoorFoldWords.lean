/- The walk of the law FnFoldWords: it returns true; old memory as it was. Conditions: an argument of a bulk of at most 2 to the 20; the tables of the row. -/
import Derived.Test.YtkglbkgbgajbkaaDoorFoldLaws
import Derived.Test.YtkglbkgbgajbkaaDoorWordsB
import Derived.Test.YtkglbkgbgajbkaaDoorFoldWPlain
import Derived.Test.YtkglbkgbgajbkaaDoorFrameUT
import Derived.Test.YtkglbkgbgajbkaaDoorTabsG
namespace Go.Proofs.YtkglbkgbgajbkaaDoor
open Go.RowKit
set_option linter.unusedVariables false

theorem rows_form' {w : World} {v : Value} {L : List (List (List UInt8))} {n : Nat} (h : RowsV w v (L.map texts)) (hn : L.length = n) :
    ∃ A c vs, v = .slice A n c ∧ n ≤ c ∧ Hid (RowAt w 0 w.heap.size A vs) ∧ Hid (vs.length = n) ∧ Hid (∀ (i : Nat) (hi : i < vs.length) (hl : i < L.length), RowV w vs[i] (texts L[i])) := by
  obtain ⟨A, c, vs, rfl, hc, hr, hvl, hin⟩ := h.open_
  have e : (L.map texts).length = n := by rw [List.length_map, hn]
  rw [e] at hc hvl ⊢
  refine ⟨A, c, vs, rfl, hc, hr, hvl, fun i hi hl => ?_⟩
  have := hin i hi (by rw [List.length_map]; exact hl)
  rwa [List.getElem_map] at this
theorem row_pair (w : World) (x y : Value) (e : TypeId) : RowAt (w.alloc (.cells #[x, y] e)) 0 (w.alloc (.cells #[x, y] e)).heap.size (some ⟨w.heap.size, 0, none⟩) [x, y] := fun _ => by
  refine ⟨w.heap.size, 0, rfl, Nat.zero_le _, by simp, fun i hi => ?_⟩
  simp only [List.length_cons, List.length_nil] at hi
  rcases (by omega : i = 0 ∨ i = 1) with rfl | rfl <;> simp [World.cell?, World.alloc, -World.alloc_eq]
theorem folds_pair {x y : List UInt8} (h : eqF x y = true) : folds [x, y] = [0, 0] := by
  have h0 : firstOf [x, y] 0 = 0 := by have := (firstOf_is [x, y] 0).1; omega
  have h1 : firstOf [x, y] 1 = 0 := firstOf_eq ⟨by omega, fun m hm => by omega, by simpa [List.getD] using h⟩
  show (List.range 2).map (firstOf [x, y]) = [0, 0]
  simp [List.range_succ, h0, h1]
/-- words of texts that are equal -/
theorem words_first (L : List (List UInt8)) (i : Nat) (hi : i < L.length) : ∃ (k : Nat) (P Q : List (List UInt8)), k = firstOf L i ∧ P = wordsOf L[i] ∧ (∃ hk : k < L.length, Q = wordsOf L[k]) ∧ Q.length = P.length ∧ ∀ j (ha : j < P.length) (hb : j < Q.length), eqF P[j] Q[j] = true := by
  obtain ⟨h1, _, h3⟩ := firstOf_is L i
  have hk : firstOf L i < L.length := by omega
  rw [show L.getD (firstOf L i) [] = L[firstOf L i] by simp [List.getD, hk], show L.getD i [] = L[i] by simp [List.getD, hi]] at h3
  obtain ⟨h4, h5⟩ := words_fold h3
  exact ⟨_, _, _, rfl, rfl, ⟨hk, rfl⟩, h4, fun j ha hb => by rw [eqF_symm]; exact h5 j hb ha⟩

set_option maxRecDepth 100000 in
set_option maxHeartbeats 3200000 in
theorem fnFoldWords_walk {w : World} (A : Option Addr) (n c : Nat) (L : List (List UInt8)) (hm : TArgU w A n c L) (hT : TabsG w) :
    Calls Tryd.prog 8 #[.slice A n c] w fun e w' => e = .returned (.bool true) ∧ Below w.heap.size w w' := by
  obtain ⟨⟨hn, hnc, hn16, hsz, hat⟩, hbk⟩ := hm
  have Hn := Lib.hid hn
  have hnl : n ≤ 1048576 := by have := bulkT_len L; rw [← hn] at this; omega
  have HLm : Hid (∀ x ∈ L, x.length ≤ 4194304) := Lib.hid (fun x hx => by have := bulkT_mem hx; omega)
  have HLb : Hid (∀ x ∈ L, x.length ≤ 140737488355328) := Lib.hid (fun x hx => by have := HLm.out x hx; omega)
  have Hat := Lib.hid hat
  obtain ⟨hTF, hTB⟩ := hT
  have hT1 : Tabs w := hTF.1
  have hT2 : FoldVars w := hTF.2
  obtain ⟨l, hl⟩ : ∃ l, l = L.map wordsOf := ⟨_, rfl⟩
  have hll : l.length = n := by rw [hl, List.length_map, hn]
  have Hl := Lib.hid hl; have Hll := Lib.hid hll
  clear hn hsz hbk hat hl hll
  go_enter Tryd.func8, Tryd.ntmps8
  go_wp2_with fail
  (with_reducible refine (impl_fold A n c L _ Hn (by omega) HLb.out Hat.out hT1 hT2).mono ?_); rintro e w1 ⟨v1, rfl, h1, hb1⟩
  have hl1 : (intsV (folds L)).length = n := by rw [intsV_length, folds_length]; exact Hn.out.symm
  obtain ⟨A1, c1, rfl, hc1, _⟩ := h1.form
  have hr1 := h1.row.more (Nat.zero_le _) (Nat.le_refl _)
  rw [hl1] at hc1 ⊢
  have Hl1 := Lib.hid hl1
  clear h1 hl1
  go_wp2_with fail
  (with_reducible refine (impl_wordsB A n c L _ Hn (by omega) HLm ((Hat.out.below hb1).more (Nat.le_refl _) hb1.size) (hTB.below hb1)).mono ?_); rintro e w2 ⟨v2, vs2, rfl, h2, k2, hb2⟩
  rw [← Hl.out] at k2
  have hB2 := hb1.trans (hb2.mono hb1.size)
  have hz2 := hB2.size
  obtain ⟨A2, c2, us, rfl, hc2, R2, V2, I2⟩ := rows_form' (k2.rowsV h2) Hll.out
  have R1 := Lib.hid ((hr1.below hb2).more (Nat.le_refl _) hb2.size)
  clear h2 k2 hr1
  go_wp2_with fail
  go_loopw [27] (fun i wr => ∃ k : Nat, k ≤ n ∧ i = .int .i64 k ∧ Below w2.heap.size w2 wr) (fun i _ => n - (intOf i).toNat)
  case atStart => exact ⟨0, Nat.zero_le _, rfl, Below.refl _ _⟩
  case round =>
    obtain ⟨i, hi, rfl, hbw⟩ := hrel
    have hz := hbw.size
    by_cases hlt : i < n
    · have hiL : i < L.length := by rw [← Hn.out]; exact hlt
      obtain ⟨b1, o1, rfl, _, hbl1, hx1⟩ := R1.out.at_ (i := i) (by rw [Hl1.out]; exact hlt)
      rw [intsV_get, folds_get] at hx1
      obtain ⟨k, P, Q, hkf, hP, ⟨hkL, hQ⟩, hwl, hwe⟩ := words_first L i hiL
      rw [← hkf] at hx1
      have hk : k < n := by rw [Hn.out]; exact hkL
      have hiu : i < us.length := by rw [V2.out]; exact hlt
      have hku : k < us.length := by rw [V2.out]; exact hk
      obtain ⟨b2, o2, rfl, _, hbl2, hx2⟩ := R2.out.at_ (i := i) hiu
      obtain ⟨b2', o2', hA2, _, _, hx3⟩ := R2.out.at_ (i := k) hku
      simp only [Option.some.injEq, Addr.mk.injEq, and_true] at hA2
      obtain ⟨rfl, rfl⟩ := hA2
      have e1 := I2.out i hiu (by rw [Hll.out]; exact hlt)
      have e2 := I2.out k hku (by rw [Hll.out]; exact hk)
      have hli : ∀ (j : Nat) (hj : j < L.length) (hj' : j < l.length), l[j] = wordsOf L[j] := fun j hj hj' => by simp only [Hl.out, List.getElem_map]
      rw [hli i hiL] at e1
      rw [hli k hkL] at e2
      have hxi := HLm.out _ (List.getElem_mem hiL)
      have hxk := HLm.out _ (List.getElem_mem hkL)
      have hwli := wordsOf_len L[i]
      have hmem1 : ∀ y ∈ wordsOf L[i], y.length ≤ 140737488355328 := fun y hy => by have := wordsOf_mem hy; omega
      have hmem2 : ∀ y ∈ wordsOf L[k], y.length ≤ 140737488355328 := fun y hy => by have := wordsOf_mem hy; omega
      rw [← hP] at e1 hwli hmem1
      rw [← hQ] at e2 hmem2
      generalize us[i] = u1 at hx2 e1
      generalize us[k] = u2 at hx3 e2
      obtain ⟨Ai, ci, rfl, hci, Ri⟩ := e1
      obtain ⟨Ak, ck, rfl, hck, Rk⟩ := e2
      obtain ⟨m, hm⟩ : ∃ m, m = P.length := ⟨_, rfl⟩
      rw [texts_length, ← hm] at hx2 hci
      rw [texts_length, hwl, ← hm] at hx3 hck
      have hml : m ≤ 4194304 := by omega
      have Hm := Lib.hid hm
      have HmQ : Hid (m = Q.length) := by rw [Hid, hwl]; exact hm
      have Ri' := Lib.hid Ri; have Rk' := Lib.hid Rk; have Hwe := Lib.hid hwe; have Hmem1 := Lib.hid hmem1; have Hmem2 := Lib.hid hmem2
      have H3 := Lib.hid hx3
      have hbl2' := hbl2
      have y1 := (hbw.cell (p := ⟨b1, o1 + i, none⟩) hbl1).trans hx1
      have y2 := (hbw.cell (p := ⟨b2, o2 + i, none⟩) hbl2).trans hx2
      have y3 := (hbw.cell (p := ⟨b2, o2 + k, none⟩) hbl2).trans hx3
      have p1 : (i : Int) < (n : Int) := by omega
      have p2 : (k : Int) < (n : Int) := by omega
      have p3 : (0 : Int) ≤ (i : Int) := by omega
      have p4 : (0 : Int) ≤ (k : Int) := by omega
      obtain ⟨wo, rfl⟩ : ∃ wo, wo = wr := ⟨_, rfl⟩
      clear hx1 hx2 hx3 hkf hwl hwe hP hQ hm hiL hkL hiu hku hli hmem1 hmem2 Ri Rk hwli hxi hxk
      go_wp2_with fail
      go_quiet (fail)
      go_wp2_with fail
      go_loopw [48] (fun jj wx => ∃ j : Nat, j ≤ m ∧ jj = .int .i64 j ∧ Below w2.heap.size w2 wx) (fun jj _ => m - (intOf jj).toNat)
      case atStart => exact ⟨0, Nat.zero_le _, rfl, below_drewN' hbw _⟩
      case round =>
        clear y1 y2 y3
        obtain ⟨j, hj, rfl, hbx⟩ := hrel
        have hzx := hbx.size
        by_cases hjm : j < m
        · have hjP : j < P.length := by rw [← Hm.out]; exact hjm
          have hjQ : j < Q.length := by rw [← HmQ.out]; exact hjm
          obtain ⟨b3, o3, rfl, _, hbl3, z1⟩ := Ri'.out.at_ (i := j) (by rw [texts_length]; exact hjP)
          obtain ⟨b4, o4, rfl, _, hbl4, z2⟩ := Rk'.out.at_ (i := j) (by rw [texts_length]; exact hjQ)
          have heq := Hwe.out j hjP hjQ
          have hmx := Hmem1.out _ (List.getElem_mem hjP)
          have hmy := Hmem2.out _ (List.getElem_mem hjQ)
          rw [show (texts P)[j]'(by rw [texts_length]; exact hjP) = .string (txt P[j]) by simp [texts]] at z1
          rw [show (texts Q)[j]'(by rw [texts_length]; exact hjQ) = .string (txt Q[j]) by simp [texts]] at z2
          generalize P[j] = x at z1 heq hmx
          generalize Q[j] = y at z2 heq hmy
          have y3 := (hbx.cell (p := ⟨b2, o2 + k, none⟩) hbl2').trans H3.out
          have y4 := (hbx.cell (p := ⟨b3, o3 + j, none⟩) hbl3).trans z1
          have y5 := (hbx.cell (p := ⟨b4, o4 + j, none⟩) hbl4).trans z2
          have Hfo := Lib.hid (folds_pair heq)
          have HXY : Hid (∀ u ∈ [x, y], u.length ≤ 140737488355328) := fun u hu => by
            rcases List.mem_cons.1 hu with h | h
            · rw [h]; exact hmx
            · rw [List.mem_singleton] at h; rw [h]; exact hmy
          have hBx := hB2.trans (hbx.mono hz2)
          have hzB := hBx.size
          have hA : Below w.heap.size w (wr.alloc (.cells #[.string (txt x), .string (txt y)] 9)) := hBx.alloc hzB _
          have hA2 : Below w2.heap.size w2 (wr.alloc (.cells #[.string (txt x), .string (txt y)] 9)) := hbx.alloc hzx _
          have hrowp : RowAt (wr.alloc (.cells #[.string (txt x), .string (txt y)] 9)) 0 (wr.alloc (.cells #[.string (txt x), .string (txt y)] 9)).heap.size (some ⟨wr.heap.size, 0, none⟩) (texts [x, y]) := row_pair wr _ _ _
          have q1 : (j : Int) < (m : Int) := by omega
          have q2 : (0 : Int) ≤ (j : Int) := by omega
          have hT1a := hT1.below hA
          have hT2a := hT2.below hA
          have h22 : Hid (2 = [x, y].length) := rfl
          clear z1 z2 heq hmx hmy hjP hjQ
          go_wp2_with fail
          (with_reducible refine (impl_fold _ 2 2 [x, y] _ h22 (by omega) HXY.out hrowp hT1a hT2a).mono ?_); rintro e w6 ⟨v6, rfl, h6, hb6⟩
          rw [Hfo.out] at h6
          have hA6 := hA2.trans (hb6.mono hA2.size)
          have hz6 := hA6.size
          have r6 : RowV (w6.alloc (.cells #[.int .i64 0, .int .i64 0] 3)) v6 (intsV [0, 0]) := h6.rowV.below ((Below.refl _ _).alloc (Nat.le_refl _) _)
          have r7 : RowV (w6.alloc (.cells #[.int .i64 0, .int .i64 0] 3)) (.slice (some ⟨w6.heap.size, 0, none⟩) 2 2) (intsV [0, 0]) := ⟨_, 2, rfl, by simp [intsV], row_pair w6 _ _ _⟩
          have R6 := Lib.hid r6; have R7 := Lib.hid r7
          clear r6 r7 h6
          go_wp2_with fail
          (with_reducible refine (sameInts_v v6 _ [0, 0] _ (by simp) R6.out R7.out).mono ?_); rintro e w' ⟨rfl, m7, rfl⟩
          go_wp2_with fail
          go_roundw
          case rel => exact ⟨j + 1, by omega, by go_num, below_drewN' (hA6.alloc hz6 _) m7⟩
          case measure => simp [intOf]; omega
        · go_wp2_with fail
          go_roundw
          case rel => exact ⟨i + 1, by omega, by go_num, hbx⟩
          case measure => simp [intOf]; omega
    · go_wp2_with fail
      go_ret
      exact ⟨rfl, hB2.trans (hbw.mono hz2)⟩
end Go.Proofs.YtkglbkgbgajbkaaDoor
