/- The contracts of impl.Fold and impl.FoldBytes: for each text the first one that is equal to it under simple folding. Conditions: the reach of the rows; the tables of utf8 and of folding. -/
import Derived.Test.YtkglbkgbgajbkaaDoorEqFold
import Derived.Test.YtkglbkgbgajbkaaDoorEqFoldB
import Derived.Test.YtkglbkgbgajbkaaDoorFoldPlain
import Derived.Test.YtkglbkgbgajbkaaDoorTexts
import Derived.Test.YtkglbkgbgajbkaaDoorRow2
namespace Go.Proofs.YtkglbkgbgajbkaaDoor
open Go.RowKit Go.Lib
set_option linter.unusedVariables false

theorem info_int : (Tryd.prog.info? 3).map (fun i => (i.zero, i.size, i.bytes)) = some (some (.int .i64 0), 1, 8) := by kernel_rfl
def intsV (l : List Nat) : List Value := l.map fun (k : Nat) => .int .i64 (k : Int)
theorem intsV_length (l : List Nat) : (intsV l).length = l.length := by simp [intsV]
/-- numbers in new memory -/
def IntsPost (l : List Nat) (w : World) (e : Ending) (w' : World) : Prop := ∃ v, e = .returned v ∧ Own w' w.heap.size 3 v (intsV l) ∧ Below w.heap.size w w'
/-- a string turned into bytes under a guard that holds -/
theorem wpList_toBG {P : Program} {ops : Array Oper} {rest : List Oper} {o : Oper} {a : Act} {Q : Exit → Act → World → Prop} (w : World) (hw : Region.wanted o (yielded ops a.tmps) = true) (x : Operand) (src dst e : TypeId)
    (ho : o.op = .convert src dst x) {u : TypeDesc} (hs : P.underlying src = some u) (hd : P.underlying dst = some (.slice e)) (he : P.underlying e = some (.int .u8)) (s : ByteArray) (hx : a.eval x = .string s)
    (h : ∀ (c : Nat) (w' : World), s.size ≤ c → BytesAt s w.heap.size 0 w' → Below w.heap.size w w' → w.heap.size + 1 ≤ w'.heap.size → wpList P ops Q rest (a.put o.dst (.slice (some ⟨w.heap.size, 0, none⟩) s.size c)) w') :
    wpList P ops Q (o :: rest) a w := by
  refine wpList_step fun K hK => ?_
  rw [if_pos hw]
  have hrun := Lib.run_convert_string_bytes (P := P) w src dst e s hs hd he
  unfold Oper.wp
  simp [execOp, ho, hx, hrun, Result.andThen]
  refine hK _ _ (h _ _ (grownCap_ge w _ _ _) (bytesAt_of fun i hi => ?_) (below_bytes w e s) (by rw [Lib.bytesWorld_size]; omega))
  rw [Nat.zero_add, Lib.bytesWorld_cell w e s i (by rw [Lib.size_eq]; exact hi)]
  simp only [List.getD, List.getElem?_eq_getElem hi, Option.getD_some]
theorem bytesAt_below {s : ByteArray} {b o B : Nat} {w w' : World} (h : BytesAt s b o w) (hb : Below B w w') (hlt : b < B) : BytesAt s b o w' := fun j hj => (hb.cell (p := ⟨b, o + j, none⟩) hlt).trans (h j hj)


set_option maxRecDepth 100000 in
set_option maxHeartbeats 3200000 in
theorem impl_fold (A : Option Addr) (n c : Nat) (L : List (List UInt8)) (w : World) (hn : Hid (n = L.length)) (hnl : n ≤ 8796093022208) (hL : ∀ x ∈ L, x.length ≤ 140737488355328) (hr : RowAt w 0 w.heap.size A (texts L)) (hT : Tabs w) (hV : FoldVars w) :
    Calls Tryd.prog 9 #[.slice A n c] w (IntsPost (folds L) w) := by
  have HL := Lib.hid hL; have Hrow := Lib.hid hr; clear hL hr
  go_enter Tryd.func9, Tryd.ntmps9
  go_wp2_with fail
  go_loopw [3, 10] (fun v i wr => ∃ j : Nat, j ≤ n ∧ i = .int .i64 j ∧ Own wr w.heap.size 3 v (intsV ((folds L).take j)) ∧ Below w.heap.size w wr) (fun _ i _ => n - (intOf i).toNat)
  case atStart => exact ⟨0, Nat.zero_le _, rfl, by rw [List.take_zero]; exact Own.empty w _ _ _ rfl (Nat.le_refl _), (Below.refl _ _).alloc (Nat.le_refl _) _⟩
  case round =>
    obtain ⟨j, hj, rfl, ho, hbw⟩ := hrel
    by_cases hlt : j < n
    · have hj' : j < L.length := by rw [← hn.out]; exact hlt
      obtain ⟨b, o, rfl, _, hbl, hcell⟩ := (Hrow.out.below hbw).at_ (i := j) (by rw [texts_length]; exact hj')
      have hxjl := HL.out _ (List.getElem_mem hj')
      have hfirst := fun k (h : IsFirst L j k) => folds_next (L := L) hj' h
      have hself := fun k => isFirst_iff (L := L) (k := k) hj'
      obtain ⟨xj, hxj⟩ : ∃ x, x = L[j] := ⟨_, rfl⟩
      rw [show (texts L)[j]'(by rw [texts_length]; exact hj') = .string (txt L[j]) by simp [texts], ← hxj] at hcell
      rw [← hxj] at hxjl
      have Hfirst := Lib.hid hfirst; have Hself := Lib.hid hself
      have Hxj := Lib.hid hxj
      clear hfirst hself hxj
      go_wp2_with fail
      go_loopw [6] (fun kk wx => ∃ k : Nat, k ≤ j ∧ kk = .int .i64 k ∧ Hid (∀ m, m < k → eqF (L.getD m []) (L.getD j []) = false) ∧ Own wx w.heap.size 3 u3 (intsV ((folds L).take j)) ∧ Below w.heap.size w wx) (fun kk _ => j - (intOf kk).toNat)
      case atStart => exact ⟨0, Nat.zero_le _, rfl, fun m h => by omega, ho, hbw⟩
      case round =>
        clear ho hcell hbw hbl
        obtain ⟨k, hk, rfl, Hbef, hox, hbx⟩ := hrel
        by_cases hkj : k < j
        · have hk' : k < L.length := by rw [← hn.out]; omega
          obtain ⟨b1, o1, hA1, _, hbl1, hcell1⟩ := (Hrow.out.below hbx).at_ (i := k) (by rw [texts_length]; exact hk')
          injection hA1 with hA1
          injection hA1 with hA1 hA2 _
          subst hA1 hA2
          have hxkl := HL.out _ (List.getElem_mem hk')
          have hgk : L.getD k [] = L[k] := by simp [List.getD, hk']
          have hgj : L.getD j [] = xj := by rw [Hxj.out]; simp [List.getD, hj']
          obtain ⟨xk, hxk⟩ : ∃ x, x = L[k] := ⟨_, rfl⟩
          rw [show (texts L)[k]'(by rw [texts_length]; exact hk') = .string (txt L[k]) by simp [texts], ← hxk] at hcell1
          rw [← hxk] at hxkl hgk
          have hkz : (k : Int) < (j : Int) := by omega
          have hkz1 : (k : Int) < (n : Int) := by omega
          have hkz0 : (0 : Int) ≤ (k : Int) := by omega
          have hxks : (txt xk).size ≤ 140737488355328 := hxkl
          have hxjs : (txt xj).size ≤ 140737488355328 := hxjl
          obtain ⟨bb, hbb⟩ : ∃ bb, eqF xk xj = bb := ⟨_, rfl⟩
          have Hbb := Lib.hid hbb
          have Hgk := Lib.hid hgk; have Hgj := Lib.hid hgj
          clear hbb hgk hgj hxk
          go_wp2_with fail
          (with_reducible refine (equalFoldS (txt xk) (txt xj) _ hxks hxjs (hT.below hbx) (hV.below hbx)).mono ?_); rintro e w2 ⟨rfl, hb2⟩
          rw [show eqF (txt xk).data.toList (txt xj).data.toList = bb from Hbb.out]
          have hbx2 := hbx.trans (hb2.mono hbx.size)
          have hox2 := hox.below hb2
          clear hb2
          cases bb with
          | true =>
            have Hnext : Hid ((folds L).take (j + 1) = (folds L).take j ++ [k]) := Hfirst.out k ((Hself.out k).2 ⟨hk, Hbef.out, by rw [Hgk.out, Hgj.out]; exact Hbb.out⟩)
            go_wp2_with (at_builtin; refine wpList_push w2 rfl (.tmp 29) (.tmp 31) 23 rfl w.heap.size 3 _ 8 Tryd.underlying23 info_int rfl _ _ (.int .i64 (k : Int)) _ rfl rfl rfl hox2 rfl (by rw [intsV_length, List.length_take, folds_length, ← hn.out]; omega) (by omega) hbx2.size ?_; intro v2 w3 hown3 hbw3 hgr3 hat3)
            go_roundw
            case rel => exact ⟨j + 1, by omega, by go_num, by rw [Hnext.out]; unfold intsV; rw [List.map_append]; exact hown3, hbx2.trans hbw3⟩
            case measure => simp [intOf]; omega
          | false =>
            have Hbef2 : Hid (∀ m, m < k + 1 → eqF (L.getD m []) (L.getD j []) = false) := fun m hm => by
              rcases Nat.lt_or_ge m k with h | h
              · exact Hbef.out m h
              · obtain rfl : m = k := by omega
                rw [Hgk.out, Hgj.out]; exact Hbb.out
            go_wp2_with fail
            go_roundw
            case rel => exact ⟨k + 1, by omega, by go_num, Hbef2, hox2, hbx2⟩
            case measure => simp [intOf]; omega
        · obtain rfl : k = j := by omega
          have Hnext : Hid ((folds L).take (k + 1) = (folds L).take k ++ [k]) := Hfirst.out k ((Hself.out k).2 ⟨Nat.le_refl _, Hbef.out, eqF_refl _⟩)
          have hkz : ¬ (k : Int) < (k : Int) := by omega
          go_wp2_with (at_builtin; refine wpList_push wr rfl (.tmp 29) (.tmp 31) 23 rfl w.heap.size 3 _ 8 Tryd.underlying23 info_int rfl _ _ (.int .i64 (k : Int)) _ rfl rfl rfl hox rfl (by rw [intsV_length, List.length_take, folds_length, ← hn.out]; omega) (by omega) hbx.size ?_; intro v2 w3 hown3 hbw3 hgr3 hat3)
          go_roundw
          case rel => exact ⟨k + 1, by omega, by go_num, by rw [Hnext.out]; unfold intsV; rw [List.map_append]; exact hown3, hbx.trans hbw3⟩
          case measure => simp [intOf]; omega
    · obtain rfl : j = n := by omega
      rw [List.take_of_length_le (by rw [folds_length, ← hn.out]; exact Nat.le_refl _)] at ho
      go_wp2_with fail
      go_ret
      exact ⟨_, rfl, ho, hbw⟩

set_option maxRecDepth 100000 in
set_option maxHeartbeats 3200000 in
theorem impl_foldB (A : Option Addr) (n c : Nat) (L : List (List UInt8)) (w : World) (hn : Hid (n = L.length)) (hnl : n ≤ 8796093022208) (hL : ∀ x ∈ L, x.length ≤ 140737488355328) (hr : RowAt w 0 w.heap.size A (texts L)) (hT : Tabs w) (hV : FoldVars w) :
    Calls Tryd.prog 11 #[.slice A n c] w (IntsPost (folds L) w) := by
  have HL := Lib.hid hL; have Hrow := Lib.hid hr; clear hL hr
  go_enter Tryd.func11, Tryd.ntmps11
  go_wp2_with fail
  go_loopw [3, 10] (fun v i wr => ∃ j : Nat, j ≤ n ∧ i = .int .i64 j ∧ Own wr w.heap.size 3 v (intsV ((folds L).take j)) ∧ Below w.heap.size w wr) (fun _ i _ => n - (intOf i).toNat)
  case atStart => exact ⟨0, Nat.zero_le _, rfl, by rw [List.take_zero]; exact Own.empty w _ _ _ rfl (Nat.le_refl _), (Below.refl _ _).alloc (Nat.le_refl _) _⟩
  case round =>
    obtain ⟨j, hj, rfl, ho, hbw⟩ := hrel
    by_cases hlt : j < n
    · have hj' : j < L.length := by rw [← hn.out]; exact hlt
      obtain ⟨b, o, rfl, _, hbl, hcell⟩ := (Hrow.out.below hbw).at_ (i := j) (by rw [texts_length]; exact hj')
      have hxjl := HL.out _ (List.getElem_mem hj')
      have hfirst := fun k (h : IsFirst L j k) => folds_next (L := L) hj' h
      have hself := fun k => isFirst_iff (L := L) (k := k) hj'
      obtain ⟨xj, hxj⟩ : ∃ x, x = L[j] := ⟨_, rfl⟩
      rw [show (texts L)[j]'(by rw [texts_length]; exact hj') = .string (txt L[j]) by simp [texts], ← hxj] at hcell
      rw [← hxj] at hxjl
      have Hfirst := Lib.hid hfirst; have Hself := Lib.hid hself
      have Hxj := Lib.hid hxj
      clear hfirst hself hxj
      go_wp2_with fail
      go_loopw [6] (fun kk wx => ∃ k : Nat, k ≤ j ∧ kk = .int .i64 k ∧ Hid (∀ m, m < k → eqF (L.getD m []) (L.getD j []) = false) ∧ Own wx w.heap.size 3 u3 (intsV ((folds L).take j)) ∧ Below w.heap.size w wx) (fun kk _ => j - (intOf kk).toNat)
      case atStart => exact ⟨0, Nat.zero_le _, rfl, fun m h => by omega, ho, hbw⟩
      case round =>
        clear ho hcell hbw hbl
        obtain ⟨k, hk, rfl, Hbef, hox, hbx⟩ := hrel
        by_cases hkj : k < j
        · have hk' : k < L.length := by rw [← hn.out]; omega
          obtain ⟨b1, o1, hA1, _, hbl1, hcell1⟩ := (Hrow.out.below hbx).at_ (i := k) (by rw [texts_length]; exact hk')
          injection hA1 with hA1
          injection hA1 with hA1 hA2 _
          subst hA1 hA2
          have hxkl := HL.out _ (List.getElem_mem hk')
          have hgk : L.getD k [] = L[k] := by simp [List.getD, hk']
          have hgj : L.getD j [] = xj := by rw [Hxj.out]; simp [List.getD, hj']
          obtain ⟨xk, hxk⟩ : ∃ x, x = L[k] := ⟨_, rfl⟩
          rw [show (texts L)[k]'(by rw [texts_length]; exact hk') = .string (txt L[k]) by simp [texts], ← hxk] at hcell1
          rw [← hxk] at hxkl hgk
          have hkz : (k : Int) < (j : Int) := by omega
          have hkz1 : (k : Int) < (n : Int) := by omega
          have hkz0 : (0 : Int) ≤ (k : Int) := by omega
          have hxks : (txt xk).size ≤ 140737488355328 := hxkl
          have hxjs : (txt xj).size ≤ 140737488355328 := hxjl
          obtain ⟨bb, hbb⟩ : ∃ bb, eqF xk xj = bb := ⟨_, rfl⟩
          have Hbb := Lib.hid hbb
          have Hgk := Lib.hid hgk; have Hgj := Lib.hid hgj
          clear hbb hgk hgj hxk
          go_wp2_with (first
            | ((with_reducible refine wpList_toBG _ (o := ⟨some 23, _, _, _, _, _⟩) ?hw _ _ _ 5 rfl Tryd.underlying9 Tryd.underlying38 Tryd.underlying5 (txt xk) rfl ?_); (case hw => rfl); intro ck wk hck hbk hbbk hzk)
            | ((with_reducible refine wpList_toBG _ (o := ⟨some 25, _, _, _, _, _⟩) ?hw _ _ _ 5 rfl Tryd.underlying9 Tryd.underlying38 Tryd.underlying5 (txt xj) rfl ?_); (case hw => rfl); intro cj wj hcj hbj hbbj hzj))
          have hbx1 := hbx.trans (hbbk.mono hbx.size)
          have hbx3 := hbx1.trans (hbbj.mono hbx1.size)
          have hox3 := (hox.below hbbk).below hbbj
          (with_reducible refine (equalFoldB (txt xk) (txt xj) _ _ ck cj _ hxks hxjs hck hcj (bytesAt_below hbk hbbj (by omega)) hbj (hT.below hbx3) (hV.below hbx3)).mono ?_); rintro e w2 ⟨rfl, hb2⟩
          rw [show eqF (txt xk).data.toList (txt xj).data.toList = bb from Hbb.out]
          have hbx2 := hbx3.trans (hb2.mono hbx3.size)
          have hox2 := hox3.below hb2
          clear hb2 hox3 hbx1 hbk hbj
          cases bb with
          | true =>
            have Hnext : Hid ((folds L).take (j + 1) = (folds L).take j ++ [k]) := Hfirst.out k ((Hself.out k).2 ⟨hk, Hbef.out, by rw [Hgk.out, Hgj.out]; exact Hbb.out⟩)
            go_wp2_with (at_builtin; refine wpList_push w2 rfl (.tmp 31) (.tmp 33) 23 rfl w.heap.size 3 _ 8 Tryd.underlying23 info_int rfl _ _ (.int .i64 (k : Int)) _ rfl rfl rfl hox2 rfl (by rw [intsV_length, List.length_take, folds_length, ← hn.out]; omega) (by omega) hbx2.size ?_; intro v2 w3 hown3 hbw3 hgr3 hat3)
            go_roundw
            case rel => exact ⟨j + 1, by omega, by go_num, by rw [Hnext.out]; unfold intsV; rw [List.map_append]; exact hown3, hbx2.trans hbw3⟩
            case measure => simp [intOf]; omega
          | false =>
            have Hbef2 : Hid (∀ m, m < k + 1 → eqF (L.getD m []) (L.getD j []) = false) := fun m hm => by
              rcases Nat.lt_or_ge m k with h | h
              · exact Hbef.out m h
              · obtain rfl : m = k := by omega
                rw [Hgk.out, Hgj.out]; exact Hbb.out
            go_wp2_with fail
            go_roundw
            case rel => exact ⟨k + 1, by omega, by go_num, Hbef2, hox2, hbx2⟩
            case measure => simp [intOf]; omega
        · obtain rfl : k = j := by omega
          have Hnext : Hid ((folds L).take (k + 1) = (folds L).take k ++ [k]) := Hfirst.out k ((Hself.out k).2 ⟨Nat.le_refl _, Hbef.out, eqF_refl _⟩)
          have hkz : ¬ (k : Int) < (k : Int) := by omega
          go_wp2_with (at_builtin; refine wpList_push wr rfl (.tmp 31) (.tmp 33) 23 rfl w.heap.size 3 _ 8 Tryd.underlying23 info_int rfl _ _ (.int .i64 (k : Int)) _ rfl rfl rfl hox rfl (by rw [intsV_length, List.length_take, folds_length, ← hn.out]; omega) (by omega) hbx.size ?_; intro v2 w3 hown3 hbw3 hgr3 hat3)
          go_roundw
          case rel => exact ⟨k + 1, by omega, by go_num, by rw [Hnext.out]; unfold intsV; rw [List.map_append]; exact hown3, hbx.trans hbw3⟩
          case measure => simp [intOf]; omega
    · obtain rfl : j = n := by omega
      rw [List.take_of_length_le (by rw [folds_length, ← hn.out]; exact Nat.le_refl _)] at ho
      go_wp2_with fail
      go_ret
      exact ⟨_, rfl, ho, hbw⟩
end Go.Proofs.YtkglbkgbgajbkaaDoor
