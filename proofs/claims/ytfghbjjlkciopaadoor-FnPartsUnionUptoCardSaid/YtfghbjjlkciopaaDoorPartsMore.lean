/- The walks of the laws FnPartsOrder and FnPartsUnion: they return true; old memory as it was. Conditions: arguments of a bulk of at most 2 to the 20; the tables of utf8. -/
import Derived.Test.YtfghbjjlkciopaaDoorPartsBoth
import Derived.Test.YtfghbjjlkciopaaDoorPartsLaw
import Derived.Test.YtfghbjjlkciopaaDoorValid
import Derived.Deep.RegionHeld3
namespace Go.Proofs.YtfghbjjlkciopaaDoor
open Go.RowKit
set_option linter.unusedVariables false

/-- a row onto a row of the call's own, as a step of a region whose order is drawn -/
theorem step_extend {P : Program} {ops : Array Oper} {o : Oper} {a : Act} {K : Act → World → Prop} {Q : Exit → Act → World → Prop} {E : Prop} (W : World) (hgd : o.guard = none) (s x : Operand) (t : TypeId)
    (ho : o.op = .call { callee := .builtin .append, args := #[s, x], argTypes := #[t, t] }) (base : Nat) (e : TypeId) (z : Value) (bytes : Nat) (ht : P.underlying t = some (.slice e))
    (hinf : (P.info? e).map (fun i => (i.zero, i.size, i.bytes)) = some (some z, 1, bytes)) (hzs : z.cells.size = 1)
    (v : Value) (xs : List Value) (ys : List Value) (A : Option Addr) (n c lo hi : Nat) (hs : a.eval s = v) (hx : a.eval x = .slice A n c) (hown : Own W base e v xs) (hn : n = ys.length) (hr : RowAt W lo hi A ys) (h1 : ∀ u ∈ ys, u.oneCell' = true) (hbytes : (xs.length + ys.length) * bytes ≤ 140737488355328) (hby : 0 < bytes) (hbase : base ≤ W.heap.size)
    (h : ∀ v' w', Own w' base e v' (xs ++ ys) → Below base W w' → W.grownBy w' v.ownBlock → K (a.put o.dst v') w') :
    if Region.wanted o (yielded ops a.tmps) = true then Oper.wp P o a W K Q else E := by
  have hw : Region.wanted o (yielded ops a.tmps) = true := by simp [Region.wanted, hgd]
  rw [if_pos hw]
  subst hn
  obtain ⟨v', w', hrun, h2, h3, _⟩ := run_extend (P := P) W t o.type e base z bytes ht hinf hzs v xs hown lo hi A c ys hr h1 hbytes hby hbase
  unfold Oper.wp execOp
  simp only [ho, resolve, invoke, builtin, Sem.run_bind, Sem.run_pure, Result.andThen_ok, List.map_toArray, List.map_cons, List.map_nil, hs, hx, hrun]
  exact h v' w' h2 ((Below.refl base W).grown h3 hbase (fun k hk => (World.ownsRow.lt hown k hk).1)) h3
theorem own_texts {w : World} {base : Nat} {e : TypeId} {v : Value} {l : List (List UInt8)} (h : Own w base e v (texts l)) {n : Nat} (hn : l.length = n) : ∃ A c, v = .slice A n c ∧ n ≤ c := by
  obtain ⟨A, c, rfl, hc, _⟩ := h.form
  rw [texts_length, hn] at hc ⊢
  exact ⟨A, c, rfl, hc⟩
theorem row_two (w : World) (x y : Value) (e : TypeId) : RowAt (w.alloc (.cells #[x, y] e)) 0 (w.heap.size + 1) (some ⟨w.heap.size, 0, none⟩) [x, y] := fun _ => by
  refine ⟨w.heap.size, 0, rfl, Nat.zero_le _, by omega, fun i hi => ?_⟩
  simp only [List.length_cons, List.length_nil] at hi
  rcases (by omega : i = 0 ∨ i = 1) with rfl | rfl <;> simp [World.cell?, World.alloc, -World.alloc_eq]
theorem Own.drew {w : World} {base : Nat} {e : TypeId} {v : Value} {xs : List Value} (h : Own w base e v xs) : Own w.drew base e v xs := h
def twice (L : List (List UInt8)) : List (List UInt8) := L.reverse.flatMap fun x => [x, x]
theorem twice_step (L : List (List UInt8)) (j : Nat) (h : j < L.length) : twice (L.drop j) = twice (L.drop (j + 1)) ++ [L[j], L[j]] := by
  unfold twice
  rw [List.drop_eq_getElem_cons h, List.reverse_cons, List.flatMap_append]
  simp
theorem twice_len (L : List (List UInt8)) : (twice L).length = 2 * L.length := by
  induction L with
  | nil => rfl
  | cons x L ih =>
    unfold twice at ih ⊢
    rw [List.reverse_cons, List.flatMap_append, List.length_append, ih]
    simp; omega

set_option maxRecDepth 100000 in
set_option maxHeartbeats 3200000 in
theorem fnPartsOrder_walk {w : World} (s : ByteArray) (hs : s.size ≤ 1048576) (A : Option Addr) (n c : Nat) (L : List (List UInt8)) (hm : TArgU w A n c L) (hT : Tabs w) :
    Calls Tryd.prog 9 #[.string s, .slice A n c] w fun e w' => e = .returned (.bool true) ∧ Below w.heap.size w w' := by
  obtain ⟨⟨hn, hnc, hn16, hsz, hat⟩, hbk⟩ := hm
  have hnl : n ≤ 1048576 := by have := bulkT_len L; rw [← hn] at this; omega
  have Hn := Lib.hid hn; clear hn hsz hbk
  obtain ⟨l, hl⟩ : ∃ l, l = partsOf (L.map txt) s.data.toList := ⟨_, rfl⟩
  have hll : l.length ≤ 1048577 := by rw [hl]; exact parts_len hs
  have hl2 : partsOf ((twice L).map txt) s.data.toList = l := by rw [hl]; exact partsOf_same (twice_mem L) _
  have Hl := Lib.hid hl; have Hl2 := Lib.hid hl2; clear hl hl2
  go_enter Tryd.func9, Tryd.ntmps9
  go_wp2_with fail
  go_loopw [5, 6] (fun v i wr => ∃ k : Nat, k ≤ n ∧ i = .int .i64 ((k : Int) - 1) ∧ Own wr w.heap.size 9 v (texts (twice (L.drop k))) ∧ Below w.heap.size w wr) (fun _ i _ => (intOf i + 1).toNat)
  case atStart => exact ⟨n, Nat.le_refl _, rfl, by rw [List.drop_of_length_le (by rw [Hn.out]; exact Nat.le_refl _)]; exact Own.empty w _ _ _ rfl (Nat.le_refl _), (Below.refl _ _).alloc (Nat.le_refl _) _⟩
  case round =>
    obtain ⟨k, hk, rfl, ho, hbw⟩ := hrel
    have hzw := hbw.size
    by_cases hlt : 0 < k
    · obtain ⟨j, rfl⟩ : ∃ j, k = j + 1 := ⟨k - 1, by omega⟩
      have hj : j < L.length := by rw [← Hn.out]; omega
      obtain ⟨b, o, rfl, hb1, hb2, hcell⟩ := (hat.below hbw).at_ (i := j) (by rw [texts_length]; exact hj)
      have hst := twice_step L j hj
      have hlen : (twice (L.drop (j + 1))).length ≤ 2 * n := by rw [twice_len, List.length_drop, ← Hn.out]; omega
      obtain ⟨x, hx⟩ : ∃ x, x = L[j] := ⟨_, rfl⟩
      rw [show (texts L)[j]'(by rw [texts_length]; exact hj) = .string (txt L[j]) by simp [texts], ← hx] at hcell
      rw [← hx] at hst
      have Hst := Lib.hid hst
      clear hst hx hj
      rw [show ((j + 1 : Nat) : Int) - 1 = (j : Int) by omega]
      have hi1 : (0 : Int) ≤ (j : Int) := by omega
      have hi2 : (j : Int) < (n : Int) := by omega
      have hlw := cell_lt hcell
      go_wp2_with fail
      go_region_held3 (fun w' => w'.cell? ⟨b, o + j, none⟩ = some (.string (txt x)))
        (first
          | go_keep
          | (go_split_ands
             exact (hbw4.cell (p := ⟨b, o + j, none⟩) hb2).trans (by assumption)))
        (first
          | (refine step_extend _ (by rfl) _ _ _ (by rfl) w.heap.size 9 _ 16 Tryd.underlying22 info_string rfl u5 (texts (twice (L.drop (j + 1)))) [.string (txt x), .string (txt x)] (some ⟨wr.heap.size, 0, none⟩) 2 2 0 (wr.heap.size + 1) (by rfl) (by rfl) (by exact (Own.drew ho).alloc _) (by rfl) (by exact row_two _ _ _ _) (by simp [Value.oneCell']) (by rw [texts_length]; simp; omega) (by omega) (by simp; omega) ?_; intro v4 w4 hown4 hbw4 hgr4))
      go_wp2
      have hfin : Below w.heap.size w w4 := (hbw.drew.alloc (by simpa using hzw) (.cells #[.string (txt x), .string (txt x)] 9)).trans hbw4
      go_roundw
      case rel => exact ⟨j, by omega, by go_num, by rw [Hst.out]; unfold texts; rw [List.map_append]; exact hown4, hfin⟩
      case measure => simp [intOf]
    · have hk0 : k = 0 := by omega
      subst hk0
      rw [List.drop_zero] at ho
      obtain ⟨n5, hn5⟩ : ∃ n5, n5 = (twice L).length := ⟨_, rfl⟩
      have hn5l : n5 ≤ 2097152 := by rw [hn5, twice_len, ← Hn.out]; omega
      have Hn5 := Lib.hid hn5; clear hn5
      obtain ⟨A5, c5, rfl, _⟩ := own_texts ho Hn5.out.symm
      go_wp2_with fail
      (with_reducible refine (impl_partsB s none 0 0 [] _ (Lib.hid rfl) (by omega) (row_none _) (by omega) (hT.below hbw)).mono ?_); rintro e w2 ⟨v2, rfl, h2, hb2⟩
      obtain ⟨b2, c2, rfl, hlt2, hc2⟩ := whole_form h2
      have hB2 := hbw.trans (hb2.mono hzw)
      have hr5 := (ho.row.more (Nat.zero_le _) (Nat.le_refl _)).below hb2
      have Hr5 := Lib.hid (hr5.more (Nat.le_refl _) hb2.size); clear hr5 h2
      go_wp2_with fail
      (with_reducible refine (impl_parts s A5 n5 c5 (twice L) _ Hn5 (by omega) Hr5.out (by omega) (hT.below hB2)).mono ?_); rintro e w3 ⟨v3, rfl, h3, hb3⟩
      rw [Hl2.out] at h3
      have hB3 := hB2.trans (hb3.mono hB2.size)
      go_wp2_with fail
      (with_reducible refine (impl_parts s A n c L _ Hn (by omega) ((hat.below hB3).more (Nat.le_refl _) hB3.size) (by omega) (hT.below hB3)).mono ?_); rintro e w4 ⟨v4, rfl, h4, hb4⟩
      rw [← Hl.out] at h4
      have hb24 := hb3.trans (hb4.mono hb3.size)
      go_wp2_with fail
      (with_reducible refine (sameTexts_t _ _ l _ (by omega) (h3.rowV.below hb4) h4.rowV).mono ?_); rintro e w' ⟨rfl, m4, rfl⟩
      have hb4' : Below w2.heap.size w2 (w4.drewN m4) := below_drewN' hb24 m4
      have hB4' := hB2.trans (hb4'.mono hB2.size)
      clear h3 h4
      go_wp2_with fail
      (with_reducible refine (impl_partsB s A5 n5 c5 (twice L) _ Hn5 (by omega) ((Hr5.out.below hb4').more (Nat.le_refl _) hb4'.size) (by omega) (hT.below hB4')).mono ?_); rintro e w5 ⟨v5, rfl, h5, hb5⟩
      rw [Hl2.out] at h5
      have hB5 := hB4'.trans (hb5.mono hB4'.size)
      go_wp2_with fail
      (with_reducible refine (impl_partsB s A n c L _ Hn (by omega) ((hat.below hB5).more (Nat.le_refl _) hB5.size) (by omega) (hT.below hB5)).mono ?_); rintro e w6 ⟨v6, rfl, h6, hb6⟩
      rw [← Hl.out] at h6
      have hb26 := hb4'.trans ((hb5.trans (hb6.mono hb5.size)).mono hb4'.size)
      go_wp2_with fail
      (with_reducible refine (sameTexts_t _ _ l _ (by omega) (h5.rowV.below hb6) h6.rowV).mono ?_); rintro e w' ⟨rfl, m6, rfl⟩
      have hc6 : (w6.drewN m6).cell? ⟨b2, 0, none⟩ = some (.string s) := (hb26.cell (p := ⟨b2, 0, none⟩) hlt2).trans hc2
      go_wp2_with fail
      go_ret
      exact ⟨rfl, below_drewN' (hB2.trans (hb26.mono hB2.size)) m6⟩

/-- on the way: the texts that are behind are well-formed -/
def AllGood (L : List (List UInt8)) : Prop := ∀ x ∈ L, ∀ q ∈ pcs x, ¬ badP q
theorem AllGood.step {L : List (List UInt8)} {k : Nat} (h : AllGood (L.take k)) (hk : k < L.length) (hx : okB (txt L[k]) = true) : AllGood (L.take (k + 1)) := fun x hm => by
  rw [List.take_succ_eq_append_getElem hk] at hm
  rcases List.mem_append.1 hm with h' | h'
  · exact h x h'
  · rw [List.mem_singleton] at h'
    subst h'
    intro q hq hb
    have := List.all_eq_true.1 hx q hq
    simp [hb] at this
theorem flatten_len (L : List (List UInt8)) : L.flatten.length ≤ bulkT L := by
  induction L with
  | nil => exact Nat.zero_le _
  | cons x L ih => simp only [bulkT, List.map_cons, List.sum_cons, List.flatten_cons, List.length_append] at ih ⊢; omega
theorem flatten_take (L : List (List UInt8)) (k : Nat) (hk : k < L.length) : (L.take (k + 1)).flatten = (L.take k).flatten ++ L[k] := by
  rw [List.take_succ_eq_append_getElem hk, List.flatten_append]
  simp only [List.flatten_cons, List.flatten_nil, List.append_nil]
theorem flatten_take_len (L : List (List UInt8)) (k : Nat) : (L.take k).flatten.length ≤ bulkT L := by
  have h1 := flatten_len (L.take k)
  have h2 : bulkT L = bulkT (L.take k) + bulkT (L.drop k) := by
    unfold bulkT
    rw [← List.sum_append, ← List.map_append, List.take_append_drop]
  omega
theorem row_one (w : World) (x : List UInt8) (e : TypeId) : RowAt (w.alloc (.cells #[.string (txt x)] e)) 0 (w.alloc (.cells #[.string (txt x)] e)).heap.size (some ⟨w.heap.size, 0, none⟩) (texts [x]) := fun _ => by
  refine ⟨w.heap.size, 0, rfl, Nat.zero_le _, by simp, fun i hi => ?_⟩
  rw [texts_length] at hi
  obtain rfl : i = 0 := by simp at hi; omega
  simp [texts, World.cell?, World.alloc, -World.alloc_eq]

set_option maxRecDepth 100000 in
set_option maxHeartbeats 3200000 in
theorem fnPartsUnion_walk {w : World} (s : ByteArray) (hs : s.size ≤ 1048576) (A : Option Addr) (n c : Nat) (L : List (List UInt8)) (hm : TArgU w A n c L) (hT : Tabs w) :
    Calls Tryd.prog 10 #[.string s, .slice A n c] w fun e w' => e = .returned (.bool true) ∧ Below w.heap.size w w' := by
  obtain ⟨⟨hn, hnc, hn16, hsz, hat⟩, hbk⟩ := hm
  have hnl : n ≤ 1048576 := by have := bulkT_len L; rw [← hn] at this; omega
  have Hlm := Lib.hid (fun x (hx : x ∈ L) => (by have := bulkT_mem hx; omega : x.length ≤ 1048576))
  have Hfl := Lib.hid (fun k => (by have := flatten_take_len L k; omega : (L.take k).flatten.length ≤ 1048576))
  have Hn := Lib.hid hn; clear hn hsz hbk
  obtain ⟨l, hl⟩ : ∃ l, l = partsOf (L.map txt) s.data.toList := ⟨_, rfl⟩
  have hll : l.length ≤ 1048577 := by rw [hl]; exact parts_len hs
  have Hl := Lib.hid hl; clear hl
  go_enter Tryd.func10, Tryd.ntmps10
  go_wp2_with fail
  go_loopw [5, 12] (fun a i wr => ∃ k : Nat, k ≤ n ∧ i = .int .i64 k ∧ a = .string (txt (L.take k).flatten) ∧ Hid (AllGood (L.take k)) ∧ Below w.heap.size w wr) (fun _ i _ => n - (intOf i).toNat)
  case atStart => exact ⟨0, Nat.zero_le _, rfl, rfl, Lib.hid (fun x hx => by cases hx), Below.refl _ _⟩
  case round =>
    obtain ⟨k, hk, rfl, rfl, hg, hbw⟩ := hrel
    have hzw := hbw.size
    by_cases hlt : k < n
    · have hk' : k < L.length := by rw [← Hn.out]; exact hlt
      obtain ⟨b, o, rfl, _, hb2, hcell⟩ := (hat.below hbw).at_ (i := k) (by rw [texts_length]; exact hk')
      have hxl := Hlm.out _ (List.getElem_mem hk')
      have hfl := Hfl.out k
      have hft := flatten_take L k hk'
      have hstep := fun h => AllGood.step (L := L) (k := k) hg.out hk' h
      obtain ⟨x, hx⟩ : ∃ x, x = L[k] := ⟨_, rfl⟩
      rw [show (texts L)[k]'(by rw [texts_length]; exact hk') = .string (txt L[k]) by simp [texts], ← hx] at hcell
      rw [← hx] at hxl hft hstep
      obtain ⟨y, hy⟩ : ∃ y, y = (L.take k).flatten := ⟨_, rfl⟩
      rw [← hy] at hfl hft ⊢
      have Hft := Lib.hid hft; have Hstep := Lib.hid hstep
      clear hx hft hstep hk' hy
      have hxs : (txt x).size ≤ 1048576 := hxl
      have hsum : (txt y).size + (txt x).size ≤ 9223372036854775807 := by show y.length + x.length ≤ _; omega
      cases hok : okB (txt x) with
      | false =>
        have Hok := Lib.hid hok; clear hok
        go_wp2_with ((with_reducible refine (valid_any (txt x) _ (by omega)).mono ?_); rw [Hok.out]; rintro e w1 ⟨rfl, hb1⟩)
        go_ret
        exact ⟨rfl, hbw.trans (hb1.mono hzw)⟩
      | true =>
        have hgn := Hstep.out hok
        have Hgn := Lib.hid hgn
        have Hok := Lib.hid hok; clear hok hgn
        go_wp2_with ((with_reducible refine (valid_any (txt x) _ (by omega)).mono ?_); rw [Hok.out]; rintro e w1 ⟨rfl, hb1⟩)
        go_roundw
        case rel => exact ⟨k + 1, by omega, by go_num, by rw [Hft.out, txt_append], Hgn, hbw.trans (hb1.mono hzw)⟩
        case measure => simp [intOf]; omega
    · have hkn : k = n := by omega
      rw [hkn, List.take_of_length_le (by rw [← Hn.out]; exact Nat.le_refl _)] at hg ⊢
      clear hkn
      by_cases hn0 : n = 0
      · have hL0 : L = [] := List.eq_nil_of_length_eq_zero (by rw [← Hn.out]; exact hn0)
        subst hn0
        subst hL0
        go_wp2_with fail
        (with_reducible refine (impl_partsB s A 0 c [] _ (Lib.hid rfl) (by omega) ((hat.below hbw).more (Nat.le_refl _) hbw.size) (by omega) (hT.below hbw)).mono ?_); rintro e w2 ⟨v2, rfl, h2, hb2⟩
        obtain ⟨b2, c2, rfl, hlt2, hc2⟩ := whole_form h2
        go_wp2_with fail
        go_ret
        exact ⟨rfl, hbw.trans (hb2.mono hzw)⟩
      · have hne : L ≠ [] := by
          rintro rfl
          have := Hn.out
          simp at this
          omega
        have hn0' : ¬ (n : Int) = 0 := by omega
        have hn0b : ((n : Int) == 0) = false := by rw [beq_eq_false_iff_ne]; exact hn0'
        have hu : partsOf ([L.flatten].map txt) s.data.toList = l := by rw [Hl.out]; exact partsOf_union L hg.out hne _
        have Hu := Lib.hid hu
        clear hu hne
        obtain ⟨a, ha⟩ : ∃ a, a = L.flatten := ⟨_, rfl⟩
        rw [← ha] at Hu ⊢
        clear ha hg
        go_wp2_with fail
        (with_reducible refine (impl_parts s A n c L _ Hn (by omega) ((hat.below hbw).more (Nat.le_refl _) hbw.size) (by omega) (hT.below hbw)).mono ?_); rintro e w1 ⟨v1, rfl, h1, hb1⟩
        rw [← Hl.out] at h1
        have hB1 := hbw.trans (hb1.mono hzw)
        go_wp2_with fail
        (with_reducible refine (impl_parts s none 0 0 [] _ (Lib.hid rfl) (by omega) (row_none _) (by omega) (hT.below hB1)).mono ?_); rintro e w2 ⟨v2, rfl, h2, hb2⟩
        obtain ⟨b2, c2, rfl, hlt2, hc2⟩ := whole_form h2
        have hB2 := hB1.trans (hb2.mono hB1.size)
        have r1 := h1.rowV.below hb2
        clear h1 h2
        have hBa : Below w2.heap.size w2 (w2.alloc (.cells #[.string (txt a)] 9)) := (Below.refl _ _).alloc (Nat.le_refl _) _
        have Hone := Lib.hid (row_one w2 a 9)
        go_wp2_with fail
        (with_reducible refine (impl_parts s _ 1 1 [a] _ (Lib.hid rfl) (by omega) Hone.out (by omega) (hT.below (hB2.trans (hBa.mono hB2.size)))).mono ?_); rintro e w3 ⟨v3, rfl, h3, hb3⟩
        rw [Hu.out] at h3
        have hb23 := hBa.trans (hb3.mono hBa.size)
        go_wp2_with fail
        (with_reducible refine (sameTexts_t _ _ l _ (by omega) (r1.below hb23) h3.rowV).mono ?_); rintro e w' ⟨rfl, m3, rfl⟩
        have hb3' : Below w2.heap.size w2 (w3.drewN m3) := below_drewN' hb23 m3
        have hB3' := hB2.trans (hb3'.mono hB2.size)
        clear h3 Hone hBa
        go_wp2_with fail
        (with_reducible refine (impl_partsB s A n c L _ Hn (by omega) ((hat.below hB3').more (Nat.le_refl _) hB3'.size) (by omega) (hT.below hB3')).mono ?_); rintro e w4 ⟨v4, rfl, h4, hb4⟩
        rw [← Hl.out] at h4
        have hB4 := hB3'.trans (hb4.mono hB3'.size)
        have hBa : Below w4.heap.size w4 (w4.alloc (.cells #[.string (txt a)] 9)) := (Below.refl _ _).alloc (Nat.le_refl _) _
        have Hone := Lib.hid (row_one w4 a 9)
        go_wp2_with fail
        (with_reducible refine (impl_partsB s _ 1 1 [a] _ (Lib.hid rfl) (by omega) Hone.out (by omega) (hT.below (hB4.trans (hBa.mono hB4.size)))).mono ?_); rintro e w5 ⟨v5, rfl, h5, hb5⟩
        rw [Hu.out] at h5
        have hb45 := hBa.trans (hb5.mono hBa.size)
        have hB5 := hB4.trans (hb45.mono hB4.size)
        go_wp2_with fail
        (with_reducible refine (sameTexts_t _ _ l _ (by omega) (h4.rowV.below hb45) h5.rowV).mono ?_); rintro e w' ⟨rfl, m5, rfl⟩
        go_wp2_with fail
        go_ret
        exact ⟨rfl, below_drewN' hB5 m5⟩
end Go.Proofs.YtfghbjjlkciopaaDoor
