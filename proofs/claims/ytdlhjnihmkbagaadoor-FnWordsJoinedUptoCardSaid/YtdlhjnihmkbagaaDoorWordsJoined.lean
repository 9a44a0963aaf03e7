/- The walk of the law FnWordsJoined: it returns true; old memory as it was. Conditions: arguments of a bulk of at most 2 to the 20; the tables of the row. -/
import Derived.Test.YtdlhjnihmkbagaaDoorWordsBoth
import Derived.Test.YtdlhjnihmkbagaaDoorExSS
import Derived.Test.YtdlhjnihmkbagaaDoorSpaceIs
import Derived.Deep.RegionHeld3
namespace Go.Proofs.YtdlhjnihmkbagaaDoor
open Go.RowKit
set_option linter.unusedVariables false

theorem blank_of {x : List UInt8} (h0 : x ≠ []) (h : ∀ q ∈ (pcsB (txt x)), Lib.isSpaceR q.1 = true) : Blank x := ⟨h0, h⟩

set_option maxHeartbeats 1600000 in
theorem blank_any (A : Option Addr) (n c i : Nat) (Bs : List (List UInt8)) (w : World) (hn : Hid (n = Bs.length)) (hnl : n ≤ 1048576) (hi : i ≤ 1048576) (hB : Hid (∀ x ∈ Bs, x.length ≤ 1048576)) (hr : RowAt w 0 w.heap.size A (texts Bs)) :
    Calls Tryd.prog 20 #[.slice A n c, .int .i64 (i : Int)] w fun e w' => ∃ y : List UInt8, e = .returned (.string (txt y)) ∧ Hid (Blank y) ∧ y.length ≤ (Bs.getD i []).length + 1 ∧ Below w.heap.size w w' := by
  have Hr := Lib.hid hr; clear hr
  by_cases hin : n ≤ i
  · have hge : (n : Int) ≤ (i : Int) := by omega
    go_enter Tryd.func20, Tryd.ntmps20
    go_wp2
    go_ret
    exact ⟨[32], rfl, blank_one, by simp, Below.refl _ _⟩
  have hiB : i < Bs.length := by rw [← hn.out]; omega
  obtain ⟨ba, oa, rfl, _, hba, hcell⟩ := Hr.out.at_ (i := i) (by rw [texts_length]; exact hiB)
  have hxl := hB.out _ (List.getElem_mem hiB)
  have hgd : Bs.getD i [] = Bs[i] := by simp [List.getD, hiB]
  rw [hgd]
  obtain ⟨x, hx⟩ : ∃ x, x = Bs[i] := ⟨_, rfl⟩
  rw [show (texts Bs)[i]'(by rw [texts_length]; exact hiB) = .string (txt Bs[i]) by simp [texts], ← hx] at hcell
  rw [← hx] at hxl ⊢
  clear hx hgd
  have hi0 : (0 : Int) ≤ (i : Int) := by omega
  have hi1 : (i : Int) < (n : Int) := by omega
  have hi2 : ¬ (n : Int) ≤ (i : Int) := by omega
  clear hiB hin
  by_cases hx0 : x = []
  · subst hx0
    have e : txt [] = (⟨#[]⟩ : ByteArray) := rfl
    rw [e] at hcell
    clear e
    go_enter Tryd.func20, Tryd.ntmps20
    go_wp2
    go_ret
    exact ⟨[32], rfl, blank_one, by simp, Below.refl _ _⟩
  · have hne : ¬ txt x = (⟨#[]⟩ : ByteArray) := fun e => hx0 (by have := congrArg (fun b : ByteArray => b.data.toList) e; exact this)
    have hte : (txt x).toList.isEmpty = false := by
      rw [ByteArray.toList_eq]
      cases hl : (txt x).data.toList with
      | nil => exact absurd hl hx0
      | cons _ _ => rfl
    have Hx0 := Lib.hid hx0; clear hx0 hne
    have hxs : (txt x).size ≤ 4398046511104 := by rw [txt_len]; omega
    have hpl : (pcsB (txt x)).length ≤ x.length := pcs_len_le _
    go_enter Tryd.func20, Tryd.ntmps20
    go_wp2_with fail
    (with_reducible refine (pieces_any (txt x) _ hxs).mono ?_); rintro e w0 ⟨A5, n5, c5, rfl, hn5, hat5, hb0⟩
    rw [← hn5.out] at hpl
    have hz0 := hb0.size
    go_wp2_with fail
    go_loopw [24] (fun j wx => ∃ k : Nat, k ≤ n5 ∧ j = .int .i64 k ∧ Hid (∀ q ∈ (pcsB (txt x)).take k, Lib.isSpaceR q.1 = true) ∧ Below w0.heap.size w0 wx) (fun j _ => n5 - (intOf j).toNat)
    case atStart => exact ⟨0, Nat.zero_le _, rfl, Lib.hid (fun q hq => by cases hq), Below.refl _ _⟩
    case round =>
      obtain ⟨k, hk, rfl, hsp, hbw⟩ := hrel
      have hz := hbw.size
      by_cases hlt : k < n5
      · have hk' : k < (pcsB (txt x)).length := by rw [← hn5.out]; exact hlt
        obtain ⟨b5, o5, rfl, _, hbl5, hc1, hc2⟩ := (hat5.below hbw).at_ (i := k) (by rw [List.length_map]; exact hk')
        rw [List.getElem_map] at hc1 hc2
        have hst : Lib.isSpaceR (pcsB (txt x))[k].1 = true → ∀ q ∈ (pcsB (txt x)).take (k + 1), Lib.isSpaceR q.1 = true := fun h q hq => by
          rw [List.take_succ_eq_append_getElem hk'] at hq
          rcases List.mem_append.1 hq with h' | h'
          · exact hsp.out q h'
          · rw [List.mem_singleton] at h'; subst h'; exact h
        obtain ⟨q, hq⟩ : ∃ q : Pc, q = (pcsB (txt x))[k] := ⟨_, rfl⟩
        rw [← hq] at hc1 hc2 hst
        clear hq hk' hsp
        obtain ⟨r, bs⟩ := q
        simp only [pcV] at hc1 hc2 hst
        have Hst := Lib.hid hst; clear hst
        have hX : ∀ {w1 : World}, Below (wr.alloc (.cells #[.int .i32 (r : Int), .string (txt bs)] 35)).heap.size (wr.alloc (.cells #[.int .i32 (r : Int), .string (txt bs)] 35)) w1 → Below w0.heap.size w0 w1 := fun hb1 => (hbw.alloc hz _).trans (hb1.mono (by simp; omega))
        cases hs : Lib.isSpaceR r
        · go_wp2_with (go_at_call 30; (with_reducible refine (specSpace_b r _).mono ?_); rw [hs]; rintro e w1 ⟨rfl, hb1⟩)
          go_ret
          exact ⟨[32], rfl, blank_one, by simp, hb0.trans ((hX hb1).mono hz0)⟩
        · have Hnx := Lib.hid (Hst.out hs)
          go_wp2_with (go_at_call 30; (with_reducible refine (specSpace_b r _).mono ?_); rw [hs]; rintro e w1 ⟨rfl, hb1⟩)
          go_roundw
          case rel => exact ⟨k + 1, by omega, by go_num, Hnx, hX hb1⟩
          case measure => simp [intOf]; omega
      · have hkn : k = n5 := by omega
        have hbl : Blank x := blank_of Hx0.out (by
          have := hsp.out
          rwa [hkn, List.take_of_length_le (by rw [← hn5.out]; exact Nat.le_refl _)] at this)
        have Hbl := Lib.hid hbl
        have hB0 := hb0.trans (hbw.mono hz0)
        have hcw := (hB0.cell (p := ⟨ba, oa + i, none⟩) hba).trans hcell
        clear hbl hkn hsp
        go_wp2_with fail
        go_ret
        exact ⟨x, rfl, Hbl, by omega, hB0⟩
/-- the lengths on the way -/
def lensT (L : List (List UInt8)) : Nat := (L.map List.length).sum
theorem lensT_take (L : List (List UInt8)) (k : Nat) (h : k < L.length) : lensT (L.take (k + 1)) = lensT (L.take k) + L[k].length := by
  unfold lensT
  rw [List.take_succ_eq_append_getElem h, List.map_append, List.sum_append]; simp
theorem lensT_getD (L : List (List UInt8)) (k : Nat) : lensT (L.take (k + 1)) = lensT (L.take k) + (L.getD k []).length := by
  rcases Nat.lt_or_ge k L.length with h | h
  · rw [lensT_take L k h]
    simp [List.getD, h]
  · rw [List.take_of_length_le (by omega), List.take_of_length_le h]
    simp [List.getD, List.getElem?_eq_none h]
theorem lensT_le (L : List (List UInt8)) (k : Nat) : lensT (L.take k) + L.length ≤ bulkT L := by
  have h1 : ∀ M : List (List UInt8), lensT M + M.length = bulkT M := by
    intro M
    unfold lensT bulkT
    induction M with
    | nil => rfl
    | cons x r ih => simp only [List.map_cons, List.sum_cons, List.length_cons] at ih ⊢; omega
  have h2 := h1 L
  have h3 : lensT (L.take k) + lensT (L.drop k) = lensT L := by
    unfold lensT
    rw [← List.sum_append, ← List.map_append, List.take_append_drop]
  omega
theorem allWords_len (L : List (List UInt8)) (k : Nat) : ((L.take k).flatMap wordsOf).length ≤ lensT (L.take k) := by
  generalize L.take k = M
  unfold lensT
  induction M with
  | nil => simp
  | cons x r ih =>
    have := wordsOf_len x
    simp only [List.flatMap_cons, List.length_append, List.map_cons, List.sum_cons]
    omega
theorem allWords_next (L : List (List UInt8)) (k : Nat) (h : k < L.length) : (L.take (k + 1)).flatMap wordsOf = (L.take k).flatMap wordsOf ++ wordsOf L[k] := by
  rw [List.take_succ_eq_append_getElem h, List.flatMap_append]; simp
theorem texts_one' (l : List (List UInt8)) : ∀ u ∈ texts l, u.oneCell' = true := by
  intro u hu
  obtain ⟨x, _, rfl⟩ := List.mem_map.1 hu
  rfl
theorem row_single' (w : World) (x : Value) (e : TypeId) : RowAt (w.alloc (.cells #[x] e)) 0 (w.alloc (.cells #[x] e)).heap.size (some ⟨w.heap.size, 0, none⟩) [x] := fun _ => by
  refine ⟨w.heap.size, 0, rfl, Nat.zero_le _, by simp, fun i hi => ?_⟩
  obtain rfl : i = 0 := by simp at hi; omega
  simp [World.cell?, World.alloc, -World.alloc_eq]
/-- a row onto a row of the call's own, with where it lies then -/
theorem wpList_extendAt {P : Program} {ops : Array Oper} {rest : List Oper} {o : Oper} {a : Act} {Q : Exit → Act → World → Prop} (W : World) (hw : Region.wanted o (yielded ops a.tmps) = true) (s x : Operand) (t : TypeId)
    (ho : o.op = .call { callee := .builtin .append, args := #[s, x], argTypes := #[t, t] }) (base : Nat) (e : TypeId) (z : Value) (bytes : Nat) (ht : P.underlying t = some (.slice e))
    (hinf : (P.info? e).map (fun i => (i.zero, i.size, i.bytes)) = some (some z, 1, bytes)) (hzs : z.cells.size = 1)
    (v : Value) (xs : List Value) (hs : a.eval s = v) (hown : Own W base e v xs) (lo hi : Nat) (A : Option Addr) (n c : Nat) (ys : List Value) (hx : a.eval x = .slice A n c) (hn : n = ys.length) (hr : RowAt W lo hi A ys) (h1 : ∀ u ∈ ys, u.oneCell' = true)
    (hbytes : (xs.length + ys.length) * bytes ≤ 140737488355328) (hby : 0 < bytes) (hbase : base ≤ W.heap.size)
    (h : ∀ v' w', Own w' base e v' (xs ++ ys) → Below base W w' → W.grownBy w' v.ownBlock → (v'.ownBlock = v.ownBlock ∨ v'.ownBlock = some W.heap.size) → wpList P ops Q rest (a.put o.dst v') w') :
    wpList P ops Q (o :: rest) a W := by
  subst hn
  obtain ⟨v', w', hrun, h2, h3, h4⟩ := run_extend W t o.type e base z bytes ht hinf hzs v xs hown lo hi A c ys hr h1 hbytes hby hbase
  refine wpList_step fun K hK => ?_
  rw [if_pos hw]
  unfold Oper.wp execOp
  simp only [ho, resolve, invoke, builtin, Sem.run_bind, Sem.run_pure, Result.andThen_ok, List.map_toArray, List.map_cons, List.map_nil, hs, hx, hrun]
  exact hK _ _ (h v' w' h2 ((Below.refl base W).grown h3 hbase (fun k hk => (World.ownsRow.lt hown k hk).1)) h3 h4)
/-- the loop's word: the text that grows, the words that have come, apart from the rows of words -/
def JoinIs (w : World) (L Bs : List (List UInt8)) (lo hi : Nat) (v1 : Value) (ll : List (List Value)) (k : Nat) (t : List UInt8) (v : Value) (wr : World) : Prop :=
  wordsOf t = (L.take k).flatMap wordsOf ∧ t.length ≤ lensT (L.take k) + lensT (Bs.take k) + k ∧ Own wr w.heap.size 9 v (texts ((L.take k).flatMap wordsOf)) ∧ SS wr lo hi v1 ll ∧ hi ≤ wr.heap.size ∧ (∀ g, v.ownBlock = some g → g < lo ∨ hi ≤ g) ∧ Below w.heap.size w wr

set_option maxRecDepth 100000 in
set_option maxHeartbeats 3200000 in
theorem fnWordsJoined_walk {w : World} (A : Option Addr) (n c : Nat) (L : List (List UInt8)) (hm : TArgU w A n c L) (A' : Option Addr) (n' c' : Nat) (Bs : List (List UInt8)) (hm' : TArgU w A' n' c' Bs) (hT : TabsA w) :
    Calls Tryd.prog 6 #[.slice A n c, .slice A' n' c'] w fun e w' => e = .returned (.bool true) ∧ Below w.heap.size w w' := by
  obtain ⟨⟨hn, hnc, hn16, hsz, hat⟩, hbk⟩ := hm
  obtain ⟨⟨hn', hnc', hn16', hsz', hat'⟩, hbk'⟩ := hm'
  have Hn := Lib.hid hn; have Hn' := Lib.hid hn'
  have hnl : n ≤ 1048576 := by have := bulkT_len L; rw [← hn] at this; omega
  have hnl' : n' ≤ 1048576 := by have := bulkT_len Bs; rw [← hn'] at this; omega
  have HLm : Hid (∀ x ∈ L, x.length ≤ 4194304) := Lib.hid (fun x hx => by have := bulkT_mem hx; omega)
  have HBm : Hid (∀ x ∈ Bs, x.length ≤ 1048576) := Lib.hid (fun x hx => by have := bulkT_mem hx; omega)
  have Hat := Lib.hid hat; have Hat' := Lib.hid hat'
  obtain ⟨hTS, hTB⟩ := hT
  have hTT := hTS.t
  have HlL : Hid (∀ k, lensT (L.take k) + n ≤ 1048576) := Lib.hid (fun k => by have := lensT_le L k; rw [← hn] at this; omega)
  have HlB : Hid (∀ k, lensT (Bs.take k) ≤ 1048576) := Lib.hid (fun k => by have := lensT_le Bs k; omega)
  obtain ⟨l, hl⟩ : ∃ l, l = L.map wordsOf := ⟨_, rfl⟩
  have hll : l.length = n := by rw [hl, List.length_map, hn]
  have Hl := Lib.hid hl; have Hll := Lib.hid hll
  clear hn hsz hbk hat hn' hsz' hbk' hat' hl hll
  go_enter Tryd.func6, Tryd.ntmps6
  go_wp2_with fail
  have hw0 : Below w.heap.size w (w.alloc (.cells #[] 9)) := (Below.refl _ _).alloc (Nat.le_refl _) _
  (with_reducible refine (impl_words A n c L _ Hn (by omega) HLm ((Hat.out.below hw0).more (Nat.le_refl _) hw0.size) (hTT.below hw0)).mono ?_); rintro e w1 ⟨v1, vs1, rfl, h1, k1, hb1⟩
  rw [← Hl.out] at k1
  have s1 := SS.of h1 k1
  have hB1 := hw0.trans (hb1.mono hw0.size)
  obtain ⟨A1, c1, us1, hv1, hc1, _, _, _⟩ := rows_form s1.rowsV Hll.out
  have hz1 := hb1.size
  have hown0 : Own w1 w.heap.size 9 (.slice (some ⟨w.heap.size, 0, none⟩) 0 0) [] := (Own.empty w _ _ _ rfl (Nat.le_refl _)).below hb1
  simp only [World.size_alloc] at s1 hz1
  subst hv1
  obtain ⟨lo, hlo⟩ : ∃ lo, lo = w.heap.size + 1 := ⟨_, rfl⟩
  obtain ⟨hi, hhi⟩ : ∃ hi, hi = w1.heap.size := ⟨_, rfl⟩
  rw [← hlo, ← hhi] at s1
  have hJ0 : JoinIs w L Bs lo hi (.slice A1 n c1) (l.map texts) 0 [] (.slice (some ⟨w.heap.size, 0, none⟩) 0 0) w1 := ⟨rfl, Nat.zero_le _, hown0, s1, by omega, fun g hg => by simp only [Value.ownBlock, Option.some.injEq] at hg; omega, hB1⟩
  clear h1 k1 hw0 hown0 s1 hz1 hb1 hlo hhi hB1
  go_wp2_with fail
  go_loopw [5, 6, 15] (fun sv v i wr => ∃ (k : Nat) (t : List UInt8), k ≤ n ∧ i = .int .i64 k ∧ sv = .string (txt t) ∧ JoinIs w L Bs lo hi (.slice A1 n c1) (l.map texts) k t v wr) (fun _ _ i _ => n - (intOf i).toNat)
  case atStart => exact ⟨0, [], Nat.zero_le _, rfl, rfl, hJ0⟩
  case round =>
    clear hJ0
    obtain ⟨k, t, hk, rfl, rfl, hwt, htl, hown, hss, hhi, hapart, hbw⟩ := hrel
    have hz := hbw.size
    have hL1 := HlL.out k
    have hB1 := HlB.out k
    by_cases hlt : k < n
    · have hk' : k < L.length := by rw [← Hn.out]; exact hlt
      have hkl : k < l.length := by rw [Hll.out]; exact hlt
      obtain ⟨ba, oa, rfl, _, hba, hcell⟩ := Hat.out.at_ (i := k) (by rw [texts_length]; exact hk')
      have hcx := (hbw.cell (p := ⟨ba, oa + k, none⟩) hba).trans hcell
      obtain ⟨A2, c2, us, hv, hc2, R, V, I⟩ := rows_form hss.rowsV Hll.out
      simp only [Value.slice.injEq] at hv
      obtain ⟨rfl, -, rfl⟩ := hv
      have hku : k < us.length := by rw [V.out]; exact hlt
      obtain ⟨b1, o1, rfl, _, hb1l, hc1x⟩ := R.out.at_ (i := k) hku
      have hvk := I.out k hku hkl
      have hlk : l[k] = wordsOf L[k] := by simp only [Hl.out, List.getElem_map]
      rw [hlk] at hvk
      have hnw := allWords_next L k hk'
      have hnl1 := lensT_take L k hk'
      have hnl2 := lensT_getD Bs k
      have hL2 := HlL.out (k + 1)
      have hB2 := HlB.out (k + 1)
      have haw := allWords_len L k
      obtain ⟨x, hx⟩ : ∃ x, x = L[k] := ⟨_, rfl⟩
      rw [show (texts L)[k]'(by rw [texts_length]; exact hk') = .string (txt L[k]) by simp [texts], ← hx] at hcx
      rw [← hx] at hvk hnw hnl1
      generalize us[k] = u at hc1x hvk
      obtain ⟨Ak, ck, rfl, hck, Rk⟩ := hvk
      have hxw := wordsOf_len x
      have hxl : x.length ≤ 1048576 := by omega
      have htx : t.length ≤ 4194304 := by omega
      have hgB : (Bs.getD k []).length ≤ 1048576 := by omega
      obtain ⟨m, hm⟩ : ∃ m, m = (texts (wordsOf x)).length := ⟨_, rfl⟩
      rw [← hm] at hc1x hck
      have hml : m ≤ 1048576 := by rw [hm, texts_length]; omega
      have Hm := Lib.hid hm; have Hnw := Lib.hid hnw; have Hwt := Lib.hid hwt
      have hlens : ∀ y : List UInt8, y.length ≤ (Bs.getD k []).length + 1 → (t ++ (y ++ x)).length ≤ lensT (L.take (k + 1)) + lensT (Bs.take (k + 1)) + (k + 1) := fun y hy => by
        rw [List.length_append, List.length_append]; omega
      have Hlens := Lib.hid hlens
      have F1 := Lib.hid (fun (W : World) (hW : Below wr.heap.size wr W) => blank_any A' n' c' k Bs W Hn' hnl' (by omega) HBm (((Hat'.out.below hbw).more (Nat.le_refl _) hz).below hW |>.more (Nat.le_refl _) hW.size))
      have hD : Below wr.heap.size wr wr.drew := (Below.refl _ _).drew
      have hbaw : ba < wr.heap.size := by omega
      have hi0 : (0 : Int) ≤ (k : Int) := by omega
      have hi1 : (k : Int) < (n : Int) := by omega
      have htz : (txt t).size ≤ 4194304 := htx
      have hxz : (txt x).size ≤ 1048576 := hxl
      have haw2 : ((L.take k).flatMap wordsOf).length ≤ 1048576 := by omega
      clear hcell hx hk' hkl hku hlk hm hnw hwt hlens hnl1 hnl2 haw
      go_wp2_with fail
      go_region_held3 (fun w' => w'.cell? ⟨ba, oa + k, none⟩ = some (.string (txt x)))
        (first
          | go_keep
          | exact (hB4.cell (p := ⟨ba, oa + k, none⟩) hbaw).trans hcx)
        (first
          | (go_at_call 20; (with_reducible refine (F1.out _ hD).mono ?_); rintro e w4 ⟨y, rfl, hy, hyl, hb4⟩; have hB4 := hD.trans hb4; have hyz : (txt y).size ≤ 1048577 := (by rw [txt_len]; omega); have hs1 : ¬ 9223372036854775807 < (txt y).size + (txt x).size := (by omega); have hs2 : ¬ 9223372036854775807 < (txt t).size + ((txt y).size + (txt x).size) := (by omega)))
      have hz4 := hB4.size
      go_wp2_with (at_builtin; refine wpList_extendAt w4 rfl (.tmp 30) (.tmp 31) 22 rfl w.heap.size 9 _ 16 Tryd.underlying22 info_string rfl u6 _ rfl (hown.below hB4) 0 wr.heap.size Ak m ck (texts (wordsOf x)) rfl Hm.out (Rk.below hB4) (texts_one' _) (by rw [texts_length, texts_length]; omega) (by omega) (by omega) ?_; intro v5 w5 hown5 hbw5 hgr5 hat5)
      have hss5 := (hss.below hB4 hhi).grown hgr5 (by omega) hapart
      have hz5 := hgr5.size
      have hJn : JoinIs w L Bs lo hi (.slice (some ⟨b1, o1, none⟩) n c1) (l.map texts) (k + 1) (t ++ (y ++ x)) v5 w5 := by
        refine ⟨by rw [words_blank hy.out, Hwt.out, Hnw.out], Hlens.out y hyl, ?_, hss5, by omega, fun g hg => ?_, (hbw.trans (hB4.mono hz)).trans hbw5⟩
        · rw [Hnw.out]; unfold texts; rw [List.map_append]; exact hown5
        · rcases hat5 with e | e
          · exact hapart g (e ▸ hg)
          · rw [e] at hg
            injection hg with hg
            omega
      have HJn := Lib.hid hJn
      clear hJn hss5 hown5 hgr5 hat5
      go_roundw
      case rel => exact ⟨k + 1, t ++ (y ++ x), by omega, by go_num, by rw [txt_append, txt_append], HJn.out⟩
      case measure => simp [intOf]; omega
    · have hkn : k = n := by omega
      have htakeL : L.take n = L := List.take_of_length_le (by rw [← Hn.out]; exact Nat.le_refl _)
      rw [hkn, htakeL] at hwt hown
      rw [hkn] at htl
      have hgB2 := lensT_getD Bs n
      have hB2 := HlB.out (n + 1)
      have hB3 := HlB.out n
      have hL3 := HlL.out n
      have haw := allWords_len L n
      rw [htakeL] at haw hL3 htl
      have htx : t.length ≤ 2097152 := by omega
      have hgB : (Bs.getD n []).length ≤ 1048576 := by omega
      obtain ⟨all, hall⟩ : ∃ all, all = L.flatMap wordsOf := ⟨_, rfl⟩
      rw [← hall] at hwt hown haw
      have hallm : all.length ≤ 1048576 := by omega
      have Hwt := Lib.hid hwt
      have htz : (txt t).size ≤ 2097152 := htx
      obtain ⟨wo, rfl⟩ : ∃ wo, wo = wr := ⟨_, rfl⟩
      have rall := hown.rowV
      have Rall := Lib.hid rall
      clear hwt hown hall haw hkn htakeL hgB2 hB2 hB3 hL3 htl hss hapart hL1 hB1 rall
      go_wp2_with fail
      (with_reducible refine (blank_any A' n' c' n Bs _ Hn' hnl' (by omega) HBm ((Hat'.out.below hbw).more (Nat.le_refl _) hz)).mono ?_); rintro e w4 ⟨y, rfl, hy, hyl, hb4⟩
      have hyz : (txt y).size ≤ 1048577 := by rw [txt_len]; omega
      have hs1 : ¬ 9223372036854775807 < (txt t).size + (txt y).size := by omega
      obtain ⟨z, hz'⟩ : ∃ z, z = t ++ y := ⟨_, rfl⟩
      have he : txt t ++ txt y = txt z := by rw [hz', txt_append]
      have hzl : z.length ≤ 4194304 := by
        have h1 : y.length ≤ 1048577 := by omega
        rw [hz', List.length_append]; omega
      have hwz : wordsOf z = all := by rw [hz', words_end hy.out, Hwt.out]
      have He := Lib.hid he; have Hwz := Lib.hid hwz
      have HZ : Hid (∀ x ∈ [z], x.length ≤ 4194304) := fun x hx => by rw [List.mem_singleton] at hx; rw [hx]; exact hzl
      have hB4 := hbw.trans (hb4.mono hz)
      have hz4 := hB4.size
      clear hz' he hwz hzl
      go_wp2_with fail
      have hA5 : Below w.heap.size w (w4.alloc (.cells #[.string (txt t ++ txt y)] 9)) := hB4.alloc hz4 _
      have hroww4 : RowAt (w4.alloc (.cells #[.string (txt t ++ txt y)] 9)) 0 (w4.alloc (.cells #[.string (txt t ++ txt y)] 9)).heap.size (some ⟨w4.heap.size, 0, none⟩) (texts [z]) := by rw [He.out]; exact row_single' w4 (.string (txt z)) 9
      (with_reducible refine (impl_words _ 1 1 [z] _ (Lib.hid rfl) (by omega) HZ hroww4 (hTT.below hA5)).mono ?_); rintro e w5 ⟨v5, vs5, rfl, h5, k5, hb5⟩
      have r5 := k5.rowsV h5
      have hB5 := hA5.trans (hb5.mono hA5.size)
      have hz5 := hB5.size
      clear h5 k5
      go_wp2_with fail
      have hA6 : Below w5.heap.size w5 (w5.alloc (.cells #[.string (txt t ++ txt y)] 9)) := (Below.refl _ _).alloc (Nat.le_refl _) _
      have hA6w := hB5.trans (hA6.mono hz5)
      have hroww5 : RowAt (w5.alloc (.cells #[.string (txt t ++ txt y)] 9)) 0 (w5.alloc (.cells #[.string (txt t ++ txt y)] 9)).heap.size (some ⟨w5.heap.size, 0, none⟩) (texts [z]) := by rw [He.out]; exact row_single' w5 (.string (txt z)) 9
      (with_reducible refine (impl_wordsB _ 1 1 [z] _ (Lib.hid rfl) (by omega) HZ hroww5 (hTB.below hA6w)).mono ?_); rintro e w6 ⟨v6, vs6, rfl, h6, k6, hb6⟩
      have r6 := k6.rowsV h6
      have hb56 := hA6.trans (hb6.mono hA6.size)
      have hB6 := hB5.trans (hb56.mono hz5)
      have hz6 := hB6.size
      clear h6 k6
      go_wp2_with fail
      (with_reducible refine (impl_words A n c L _ Hn (by omega) HLm ((Hat.out.below hB6).more (Nat.le_refl _) hz6) (hTT.below hB6)).mono ?_); rintro e w7 ⟨v7, vs7, rfl, h7, k7, hb7⟩
      rw [← Hl.out] at k7
      obtain ⟨A7, c7, us7, rfl, hc7, _, _, _⟩ := rows_form (k7.rowsV h7) Hll.out
      have hb57 := hb56.trans (hb7.mono hb56.size)
      have hB7 := hB6.trans (hb7.mono hz6)
      obtain ⟨A5, c5, us5, rfl, hc5, R5, V5, I5⟩ := rows_form (n := 1) (L := [wordsOf z]) (r5.below hb57) rfl
      obtain ⟨A6, c6, us6, rfl, hc6, R6, V6, I6⟩ := rows_form (n := 1) (L := [wordsOf z]) (r6.below hb7) rfl
      have hu5 : 0 < us5.length := by rw [V5.out]; omega
      have hu6 : 0 < us6.length := by rw [V6.out]; omega
      obtain ⟨b5, o5, rfl, _, _, x5⟩ := R5.out.at_ (i := 0) hu5
      obtain ⟨b6, o6, rfl, _, _, x6⟩ := R6.out.at_ (i := 0) hu6
      have e5 := I5.out 0 hu5 (by simp)
      have e6 := I6.out 0 hu6 (by simp)
      simp only [List.getElem_cons_zero, Hwz.out] at e5 e6
      rw [Nat.add_zero] at x5 x6
      generalize us5[0] = q5 at x5 e5
      generalize us6[0] = q6 at x6 e6
      have hb47 : Below wo.heap.size wo w7 := hb4.trans (((Below.refl w4.heap.size w4).alloc (Nat.le_refl _) (.cells #[.string (txt t ++ txt y)] 9)).trans (hb5.mono (by simp)) |>.trans (hb57.mono (by have := hb5.size; simp at this; omega)) |>.mono (hb4.size))
      have rall7 := Rall.out.below hb47
      have HE5 := Lib.hid e5; have HE6 := Lib.hid e6; have HR7 := Lib.hid rall7
      clear h7 k7 r5 r6 e5 e6 rall7 hu5 hu6
      go_wp2_with (first
        | (go_at_call 19; (with_reducible refine (sameTexts_t q5 _ all w7 (by omega) HE5.out HR7.out).mono ?_); rintro e w' ⟨rfl, m7, rfl⟩; have x6d : (w7.drewN m7).cell? ⟨b6, o6, none⟩ = some q6 := x6)
        | (go_at_call 19; (with_reducible refine (sameTexts_t q6 _ all (w7.drewN m7) (by omega) (HE6.out.drewN m7) (HR7.out.drewN m7)).mono ?_); rintro e w' ⟨rfl, m8, rfl⟩))
      go_ret
      exact ⟨rfl, below_drewN' hB7 (m7 + m8)⟩
end Go.Proofs.YtdlhjnihmkbagaaDoor
