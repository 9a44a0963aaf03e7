/- The walk of the law FnFoldPairs: it returns true; old memory as it was. Conditions: arguments of a bulk of at most 2 to the 20; the tables of the row. -/
import Derived.Test.YtkglbkgbgajbkaaDoorFoldTurned
import Derived.Test.YtkglbkgbgajbkaaDoorFoldTwice
import Derived.Test.YtkglbkgbgajbkaaDoorPairsPlain
import Derived.Test.YtkglbkgbgajbkaaDoorStepExt
import Derived.Test.YtkglbkgbgajbkaaDoorBad
import Derived.Test.YtkglbkgbgajbkaaDoorFrameUT
namespace Go.Proofs.YtkglbkgbgajbkaaDoor
open Go.RowKit
set_option linter.unusedVariables false

/-- the pairs -/
def pairs (M M' : List (List UInt8)) : List (List UInt8) := (M.zip M').map fun p => p.1 ++ [124] ++ p.2
theorem pairs_length {M M' : List (List UInt8)} {n : Nat} (h : M.length = n) (h' : M'.length = n) : (pairs M M').length = n := by simp [pairs, h, h']
theorem pairs_get {M M' : List (List UInt8)} {n i : Nat} (h : M.length = n) (h' : M'.length = n) (hi : i < n) : (pairs M M').getD i [] = M.getD i [] ++ [124] ++ M'.getD i [] := by
  have h1 : i < M.length := by omega
  have h2 : i < M'.length := by omega
  have h3 : i < (pairs M M').length := by rw [pairs_length h h']; exact hi
  simp only [List.getD, List.getElem?_eq_getElem h1, List.getElem?_eq_getElem h2, List.getElem?_eq_getElem h3, Option.getD_some]
  simp [pairs]
theorem pairs_iff {M M' : List (List UInt8)} {n i k : Nat} (h : M.length = n) (h' : M'.length = n) (hg : ∀ x ∈ M, Plain x) (hi : i < n) (hk : k < n) :
    firstOf (pairs M M') i = firstOf (pairs M M') k ↔ (firstOf M i = firstOf M k ∧ firstOf M' i = firstOf M' k) := by
  have g : ∀ j, j < n → Plain (M.getD j []) := fun j hj => by
    have : j < M.length := by omega
    rw [show M.getD j [] = M[j] by simp [List.getD, this]]
    exact hg _ (List.getElem_mem this)
  rw [firstOf_iff, firstOf_iff, firstOf_iff, pairs_get h h' hi, pairs_get h h' hk, eqF_pair (g i hi) (g k hk), Bool.and_eq_true]
theorem pairs_next {M M' : List (List UInt8)} {j : Nat} (h : j < M.length) (h' : j < M'.length) : pairs (M.take (j + 1)) (M'.take (j + 1)) = pairs (M.take j) (M'.take j) ++ [M[j] ++ [124] ++ M'[j]] := by
  unfold pairs
  rw [List.take_succ_eq_append_getElem h, List.take_succ_eq_append_getElem h', List.zip_append (by simp; omega)]
  simp
/-- on the way through a text's pieces -/
def PlainTo (P : List Pc) : Prop := ∀ q ∈ P, ¬ badP q ∧ q.1 ≠ 124
theorem PlainTo.next {P : List Pc} {k : Nat} (h : PlainTo (P.take k)) (hk : k < P.length) (h1 : ¬ badP P[k]) (h2 : P[k].1 ≠ 124) : PlainTo (P.take (k + 1)) := fun q hq => by
  rw [List.take_succ_eq_append_getElem hk] at hq
  rcases List.mem_append.1 hq with h' | h'
  · exact h q h'
  · rw [List.mem_singleton] at h'; subst h'; exact ⟨h1, h2⟩
def AllPlain (L : List (List UInt8)) : Prop := ∀ x ∈ L, Plain x
theorem AllPlain.next {L : List (List UInt8)} {k : Nat} (h : AllPlain (L.take k)) (hk : k < L.length) (h1 : Plain L[k]) : AllPlain (L.take (k + 1)) := fun x hx => by
  rw [List.take_succ_eq_append_getElem hk] at hx
  rcases List.mem_append.1 hx with h' | h'
  · exact h x h'
  · rw [List.mem_singleton] at h'; subst h'; exact h1
theorem RowAt.take {w : World} {lo hi : Nat} {A : Option Addr} {xs : List Value} (h : RowAt w lo hi A xs) (k : Nat) : RowAt w lo hi A (xs.take k) := fun hn => by
  obtain ⟨b, o, rfl, h1, h2, hc⟩ := h (by rintro rfl; simp at hn)
  refine ⟨b, o, rfl, h1, h2, fun i hi => ?_⟩
  have hi' : i < xs.length := by rw [List.length_take] at hi; omega
  rw [List.getElem_take]
  exact hc i hi'
theorem texts_take (L : List (List UInt8)) (k : Nat) : texts (L.take k) = (texts L).take k := by unfold texts; rw [List.map_take]
theorem row_single (w : World) (x : Value) (e : TypeId) : RowAt (w.alloc (.cells #[x] e)) 0 (w.heap.size + 1) (some ⟨w.heap.size, 0, none⟩) [x] := fun _ => by
  refine ⟨w.heap.size, 0, rfl, Nat.zero_le _, by omega, fun i hi => ?_⟩
  obtain rfl : i = 0 := by simp at hi; omega
  simp [World.cell?, World.alloc, -World.alloc_eq]
theorem texts_at {L : List (List UInt8)} {k : Nat} (h : k < (texts L).length) (h' : k < L.length) : (texts L)[k] = .string (txt L[k]) := by simp [texts]
theorem keep_two {B b o b' o' : Nat} {w w' : World} {x y : Value} (hb : Below B w w') (h1 : b < B) (h2 : b' < B) (h : w.cell? ⟨b, o, none⟩ = some x ∧ w.cell? ⟨b', o', none⟩ = some y) : w'.cell? ⟨b, o, none⟩ = some x ∧ w'.cell? ⟨b', o', none⟩ = some y :=
  ⟨(hb.cell (p := ⟨b, o, none⟩) h1).trans h.1, (hb.cell (p := ⟨b', o', none⟩) h2).trans h.2⟩
theorem pc_held (w : World) (x y : Value) (e : TypeId) : (w.alloc (.cells #[x, y] e)).cell? ⟨w.heap.size, 0, none⟩ = some x := by
  simp [World.cell?, World.alloc, -World.alloc_eq]
theorem iff_bool {a b : Nat} {p q r s : Nat} (h : a = b ↔ (p = q ∧ r = s)) : ((a : Int) == (b : Int)) = (((p : Int) == (q : Int)) && ((r : Int) == (s : Int))) := by
  rw [Bool.eq_iff_iff, Bool.and_eq_true, beq_iff_eq, beq_iff_eq, beq_iff_eq]
  omega

set_option maxRecDepth 100000 in
set_option maxHeartbeats 6400000 in
theorem fnFoldPairs_walk {w : World} (A : Option Addr) (n0 c : Nat) (L : List (List UInt8)) (hm : TArgU w A n0 c L) (A' : Option Addr) (n1 c' : Nat) (L' : List (List UInt8)) (hm' : TArgU w A' n1 c' L') (hT : TabsF w) :
    Calls Tryd.prog 5 #[.slice A n0 c, .slice A' n1 c'] w fun e w' => e = .returned (.bool true) ∧ Below w.heap.size w w' := by
  obtain ⟨⟨hn, hnc, hn16, hsz, hat⟩, hbk⟩ := hm
  obtain ⟨⟨hn', hnc', hn16', hsz', hat'⟩, hbk'⟩ := hm'
  have hT1 : Tabs w := hT.1
  have hT2 : FoldVars w := hT.2
  have hnl : n0 ≤ 1048576 := by have := bulkT_len L; rw [← hn] at this; omega
  have hnl' : n1 ≤ 1048576 := by have := bulkT_len L'; rw [← hn'] at this; omega
  have hLm : ∀ x ∈ L, x.length ≤ 1048576 := fun x hx => by have := bulkT_mem hx; omega
  have hLm' : ∀ x ∈ L', x.length ≤ 1048576 := fun x hx => by have := bulkT_mem hx; omega
  obtain ⟨n, hM⟩ : ∃ n : Nat, min (n0 : Int) (n1 : Int) = (n : Int) := ⟨min n0 n1, by omega⟩
  have hnn : n ≤ n0 := by omega
  have hnn' : n ≤ n1 := by omega
  obtain ⟨M, hMM⟩ : ∃ M, M = L.take n := ⟨_, rfl⟩
  obtain ⟨M', hMM'⟩ : ∃ M', M' = L'.take n := ⟨_, rfl⟩
  have hMl : M.length = n := by rw [hMM, List.length_take, ← hn]; omega
  have hMl' : M'.length = n := by rw [hMM', List.length_take, ← hn']; omega
  have hMb : ∀ x ∈ M, x.length ≤ 1048576 := fun x hx => hLm x (by rw [hMM] at hx; exact List.mem_of_mem_take hx)
  have hMb' : ∀ x ∈ M', x.length ≤ 1048576 := fun x hx => hLm' x (by rw [hMM'] at hx; exact List.mem_of_mem_take hx)
  have hatM : RowAt w 0 w.heap.size A (texts M) := by rw [hMM, texts_take]; exact hat.take n
  have hatM' : RowAt w 0 w.heap.size A' (texts M') := by rw [hMM', texts_take]; exact hat'.take n
  have hi1 : (0 : Int) ≤ (n : Int) := by omega
  have hi2 : (n : Int) ≤ (c : Int) := by omega
  have hi3 : (n : Int) ≤ (c' : Int) := by omega
  obtain ⟨n2, hn2⟩ : ∃ n2, n2 = 2 * n := ⟨_, rfl⟩
  have hn2b : n2 ≤ 2097152 := by omega
  have Hn2 := Lib.hid hn2; clear hn2
  have Hat := Lib.hid hatM; have Hat' := Lib.hid hatM'
  have Hl := Lib.hid hMl; have Hl' := Lib.hid hMl'
  have Hb := Lib.hid hMb; have Hb' := Lib.hid hMb'
  have hn1048 : n ≤ 1048576 := by omega
  clear hn hn' hsz hsz' hbk hbk' hat hat' hLm hLm' hMM hMM' hMl hMl' hMb hMb' hatM hatM' hn16 hn16'
  go_enter Tryd.func5, Tryd.ntmps5
  go_wp2_with fail
  have hl3 : Hid (([] ++ texts M ++ texts M').length = n2) := by rw [Hid, List.nil_append, List.length_append, texts_length, texts_length, Hl.out, Hl'.out, Hn2.out]; omega
  go_region_held3 (fun w' => w.heap.size ≤ w'.heap.size)
    (first
      | exact hS3
      | exact hS2
      | (simp)
      | (simp; omega))
    (first
      | (refine step_extend (o := ⟨some 26, _, _, _, _, _⟩) _ (by rfl) _ _ _ (by rfl) w.heap.size 9 _ 16 Tryd.underlying22 info_string rfl _ [] (texts M) A n c 0 w.heap.size (by rfl) (by rfl) (by exact (Own.empty w _ _ _ rfl (Nat.le_refl _))) (by rw [texts_length]; exact Hl.out.symm) (by exact Hat.out.below (((Below.refl _ w).drew).alloc (Nat.le_refl _) _)) (texts_one M) (by rw [texts_length, Hl.out]; simp; omega) (by omega) (by simp) ?_; intro v2 w2 hown2 hbw2 hgr2; have hS2 : w.heap.size ≤ w2.heap.size := (by have := hbw2.size; simp at this; omega))
      | (refine step_extend (o := ⟨some 30, _, _, _, _, _⟩) _ (by rfl) _ _ _ (by rfl) w.heap.size 9 _ 16 Tryd.underlying22 info_string rfl v2 _ (texts M') A' n c' 0 w.heap.size (by rfl) (by rfl) (by exact hown2) (by rw [texts_length]; exact Hl'.out.symm) (by exact Hat'.out.below ((((Below.refl _ w).drew).alloc (Nat.le_refl _) _).trans hbw2)) (texts_one M') (by rw [List.nil_append, texts_length, texts_length, Hl.out, Hl'.out]; omega) (by omega) (by have := hbw2.size; simp at this; omega) ?_; intro v3 w3 hown3 hbw3 hgr3; have hS3 : w.heap.size ≤ w3.heap.size := (by have := hbw3.size; omega); obtain ⟨A3, c3, rfl, hc3, _⟩ := hown3.form; rw [hl3.out] at hc3 ⊢))
  have hB3 : Below w.heap.size w w3 := ((((Below.refl _ w).drew).alloc (Nat.le_refl _) _).trans hbw2).trans hbw3
  have e3 : [] ++ texts M ++ texts M' = texts (M ++ M') := by unfold texts; rw [List.map_append]; rfl
  rw [e3] at hown3
  have hr3 := hown3.row
  have Hr3 := Lib.hid hr3
  have Hbb : Hid (∀ x ∈ M ++ M', x.length ≤ 1048576) := fun x hx => by
    rcases List.mem_append.1 hx with h | h
    · exact Hb.out x h
    · exact Hb'.out x h
  have Hll : Hid ((M ++ M').length = n2) := by rw [Hid, List.length_append, Hl.out, Hl'.out, Hn2.out]; omega
  clear hown2 hown3 e3 hr3 hgr2 hgr3 hbw2 hbw3 hS2 hS3
  go_wp2_with fail
  go_loopw [32] (fun i wx => ∃ k : Nat, k ≤ n2 ∧ i = .int .i64 k ∧ Hid (AllPlain ((M ++ M').take k)) ∧ Below w3.heap.size w3 wx) (fun i _ => n2 - (intOf i).toNat)
  case atStart => exact ⟨0, Nat.zero_le _, rfl, Lib.hid (fun q hq => by cases hq), Below.refl _ _⟩
  case round =>
    obtain ⟨k, hk, rfl, hap, hbw⟩ := hrel
    have hz := hbw.size
    by_cases hlt : k < n2
    · have hk' : k < (M ++ M').length := by rw [Hll.out]; exact hlt
      obtain ⟨b, o, rfl, _, hbl, hcell⟩ := (Hr3.out.below hbw).at_ (i := k) (by rw [texts_length]; exact hk')
      have hxl := Hbb.out _ (List.getElem_mem hk')
      have hnx : Plain (M ++ M')[k] → AllPlain ((M ++ M').take (k + 1)) := fun h => hap.out.next hk' h
      obtain ⟨x, hx⟩ : ∃ x, x = (M ++ M')[k] := ⟨_, rfl⟩
      rw [show (texts (M ++ M'))[k]'(by rw [texts_length]; exact hk') = .string (txt (M ++ M')[k]) by exact texts_at _ _, ← hx] at hcell
      rw [← hx] at hxl hnx
      have Hnx := Lib.hid hnx
      clear hx hnx hk' hap
      have hxs : (txt x).size ≤ 4398046511104 := by show x.length ≤ _; omega
      have hpl : (pcsB (txt x)).length ≤ x.length := pcs_len_le _
      go_wp2_with fail
      (with_reducible refine (pieces_any (txt x) _ hxs).mono ?_); rintro e w5 ⟨A5, n5, c5, rfl, hn5, hat5, hb5⟩
      rw [← hn5.out] at hpl
      have hz5 := hb5.size
      obtain ⟨wo, rfl⟩ : ∃ wo, wo = wr := ⟨_, rfl⟩
      go_wp2_with fail
      go_loopw [39] (fun j wx => ∃ k2 : Nat, k2 ≤ n5 ∧ j = .int .i64 k2 ∧ Hid (PlainTo ((pcsB (txt x)).take k2)) ∧ Below w5.heap.size w5 wx) (fun j _ => n5 - (intOf j).toNat)
      case atStart => exact ⟨0, Nat.zero_le _, rfl, Lib.hid (fun q hq => by cases hq), Below.refl _ _⟩
      case round =>
        obtain ⟨k2, hk2, rfl, hpt, hbw2⟩ := hrel
        have hz2 := hbw2.size
        by_cases hlt2 : k2 < n5
        · have hk2' : k2 < (pcsB (txt x)).length := by rw [← hn5.out]; exact hlt2
          obtain ⟨b5, o5, rfl, _, hbl5, hc1, hc2⟩ := (hat5.below hbw2).at_ (i := k2) (by rw [List.length_map]; exact hk2')
          rw [List.getElem_map] at hc1 hc2
          have hbs : ((pcsB (txt x))[k2]).2.length ≤ (txt x).size := by
            have := mid_le (s := txt x) (D := (pcsB (txt x)).take k2) (q := (pcsB (txt x))[k2]) (P := (pcsB (txt x)).drop (k2 + 1)) (by rw [← List.drop_eq_getElem_cons hk2', List.take_append_drop])
            omega
          have hst : ¬ badP (pcsB (txt x))[k2] → (pcsB (txt x))[k2].1 ≠ 124 → PlainTo ((pcsB (txt x)).take (k2 + 1)) := fun h1 h2 => hpt.out.next hk2' h1 h2
          obtain ⟨q, hq⟩ : ∃ q : Pc, q = (pcsB (txt x))[k2] := ⟨_, rfl⟩
          rw [← hq] at hc1 hc2 hbs hst
          clear hq hk2'
          obtain ⟨r, bs⟩ := q
          simp only [pcV] at hc1 hc2 hbs hst
          have Hst := Lib.hid hst; clear hst
          have hX : ∀ {w1 : World}, Below (wr.alloc (.cells #[.int .i32 (r : Int), .string (txt bs)] 30)).heap.size (wr.alloc (.cells #[.int .i32 (r : Int), .string (txt bs)] 30)) w1 → Below w5.heap.size w5 w1 := fun hb1 => (hbw2.alloc hz2 _).trans (hb1.mono (by simp; omega))
          have hY : ∀ {w1 : World}, Below w5.heap.size w5 w1 → Below w.heap.size w w1 := fun h => hB3.trans ((hbw.trans ((hb5.trans (h.mono hz5)).mono hz)).mono hB3.size)
          cases hbad : decide (badP (r, bs))
          · have Hgood := Lib.hid (show ¬ badP (r, bs) from of_decide_eq_false hbad)
            by_cases hr : r = 124
            · have Hr := Lib.hid hr; clear hr
              go_wp2_with (go_at_call 13; (with_reducible refine (bad_any r bs _ (by omega)).mono ?_); rw [hbad]; rintro e w1 ⟨rfl, hb1⟩; have hpc := (hb1.cell (p := ⟨wr.heap.size, 0, none⟩) (by simp)).trans (pc_held wr _ _ _); have hreq : ((r : Int) == 124) = true := by rw [beq_iff_eq, Hr.out]; rfl)
              go_ret
              exact ⟨rfl, hY (hX hb1)⟩
            · have hrne : ((r : Int) == 124) = false := by rw [beq_eq_false_iff_ne]; omega
              have Hnext := Lib.hid (Hst.out Hgood.out hr)
              go_wp2_with (go_at_call 13; (with_reducible refine (bad_any r bs _ (by omega)).mono ?_); rw [hbad]; rintro e w1 ⟨rfl, hb1⟩; have hpc := (hb1.cell (p := ⟨wr.heap.size, 0, none⟩) (by simp)).trans (pc_held wr _ _ _))
              go_roundw
              case rel => exact ⟨k2 + 1, by omega, by go_num, Hnext, hX hb1⟩
              case measure => simp [intOf]; omega
          · go_wp2_with (go_at_call 13; (with_reducible refine (bad_any r bs _ (by omega)).mono ?_); rw [hbad]; rintro e w1 ⟨rfl, hb1⟩)
            go_ret
            exact ⟨rfl, hY (hX hb1)⟩
        · have hkn : k2 = n5 := by omega
          subst hkn
          have hpx : Plain x := by
            have := hpt.out
            rwa [List.take_of_length_le (by rw [← hn5.out]; exact Nat.le_refl _)] at this
          have Hap := Lib.hid (Hnx.out hpx)
          clear hpt hpx
          go_wp2_with fail
          go_roundw
          case rel => exact ⟨k + 1, by omega, by go_num, Hap, hbw.trans ((hb5.trans (hbw2.mono hz5)).mono hz)⟩
          case measure => simp [intOf]; omega
    · have hkn : k = n2 := by omega
      have hg0 : AllPlain (M ++ M') := by
        have := hap.out
        rwa [hkn, List.take_of_length_le (by rw [Hll.out]; exact Nat.le_refl _)] at this
      have hg : ∀ x ∈ M, Plain x := fun x hx => hg0 x (List.mem_append_left _ hx)
      have Hg := Lib.hid hg
      have hBw := hB3.trans (hbw.mono hB3.size)
      clear hg0 hg hap hkn hz hbw
      obtain ⟨wo, rfl⟩ : ∃ wo, wo = wr := ⟨_, rfl⟩
      have hwz := hBw.size
      go_wp2_with fail
      clear hlt hk Hll Hbb Hr3 hB3
      go_loopw [10, 54] (fun v i wx => ∃ j : Nat, j ≤ n ∧ i = .int .i64 j ∧ Own wx w.heap.size 9 v (texts (pairs (M.take j) (M'.take j))) ∧ Below w.heap.size w wx) (fun _ i _ => n - (intOf i).toNat)
      case atStart => exact ⟨0, Nat.zero_le _, rfl, Own.empty wo _ _ _ rfl hwz, hBw.alloc hwz _⟩
      case round =>
        obtain ⟨j, hj, rfl, hown, hbx⟩ := hrel
        have hzx := hbx.size
        by_cases hjn : j < n
        · have hjM : j < M.length := by rw [Hl.out]; exact hjn
          have hjM' : j < M'.length := by rw [Hl'.out]; exact hjn
          obtain ⟨b, o, rfl, _, hbl, hcell⟩ := Hat.out.at_ (i := j) (by rw [texts_length]; exact hjM)
          obtain ⟨b', o', rfl, _, hbl', hcell'⟩ := Hat'.out.at_ (i := j) (by rw [texts_length]; exact hjM')
          rw [texts_at _ hjM] at hcell
          rw [texts_at _ hjM'] at hcell'
          have hnx := pairs_next hjM hjM'
          have hx1 := Hb.out _ (List.getElem_mem hjM)
          have hx2 := Hb'.out _ (List.getElem_mem hjM')
          have hpl : (pairs (M.take j) (M'.take j)).length ≤ n := by
            rw [pairs_length (n := min j n) (by rw [List.length_take, Hl.out]) (by rw [List.length_take, Hl'.out])]; omega
          obtain ⟨x, hx⟩ : ∃ x, x = M[j] := ⟨_, rfl⟩
          obtain ⟨y, hy⟩ : ∃ y, y = M'[j] := ⟨_, rfl⟩
          rw [← hx] at hcell hnx hx1
          rw [← hy] at hcell' hnx hx2
          obtain ⟨T, hT0⟩ : ∃ T, T = pairs (M.take j) (M'.take j) := ⟨_, rfl⟩
          rw [← hT0] at hown hnx hpl
          have Hnx := Lib.hid hnx
          clear hnx hx hy hT0 hjM hjM'
          have hs1 : (txt x).size + (⟨#[124]⟩ : ByteArray).size ≤ 9223372036854775807 := by show x.length + 1 ≤ _; omega
          have hs2 : (txt x ++ ⟨#[124]⟩).size + (txt y).size ≤ 9223372036854775807 := by
            rw [ByteArray.size_append]; show x.length + 1 + y.length ≤ _; omega
          have hs3 : (txt x).size + 1 ≤ 9223372036854775807 := hs1
          have hs4 : (txt x).size + 1 + (txt y).size ≤ 9223372036854775807 := by show x.length + 1 + y.length ≤ _; omega
          have hs5 : ¬ 9223372036854775807 < (txt x).size + 1 := by omega
          have hs6 : ¬ 9223372036854775807 < (txt x).size + 1 + (txt y).size := by omega
          have he : txt x ++ (⟨#[124]⟩ : ByteArray) ++ txt y = txt (x ++ [124] ++ y) := by rw [← txt_append, ← txt_append]; rfl
          obtain ⟨z, hz⟩ : ∃ z, z = txt x ++ (⟨#[124]⟩ : ByteArray) ++ txt y := ⟨_, rfl⟩
          have Hz := Lib.hid (hz.trans he)
          have Hze := Lib.hid hz
          clear he hz
          have hc1 := (hbx.cell (p := ⟨b, o + j, none⟩) hbl).trans hcell
          have hc2 := (hbx.cell (p := ⟨b', o' + j, none⟩) hbl').trans hcell'
          have hp1 : (j : Int) < (n0 : Int) := by omega
          have hp2 : (j : Int) < (n1 : Int) := by omega
          have hp0 : (0 : Int) ≤ (j : Int) := by omega
          clear hcell hcell'
          go_wp2_with fail
          go_region_held3 (fun w' => w'.cell? ⟨b, o + j, none⟩ = some (.string (txt x)) ∧ w'.cell? ⟨b', o' + j, none⟩ = some (.string (txt y)))
            (first
              | go_keep
              | (go_split_ands
                 exact keep_two hbw4 hbl hbl' ⟨by assumption, by assumption⟩))
            (first
              | (refine step_extend _ (by rfl) _ _ _ (by rfl) w.heap.size 9 _ 16 Tryd.underlying22 info_string rfl u10 (texts T) [.string (txt (x ++ [124] ++ y))] (some ⟨wr.heap.size, 0, none⟩) 1 1 0 (wr.heap.size + 1) (by rfl) (by rfl) (by exact (Own.drew hown).alloc _) (by rfl) (by rw [← Hz.out, Hze.out]; exact row_single _ _ _) (by simp [Value.oneCell']) (by rw [texts_length]; simp; omega) (by omega) (by simp; omega) ?_; intro v4 w4 hown4 hbw4 hgr4))
          go_wp2
          have hfin : Below w.heap.size w w4 := (hbx.drew.alloc (by simpa using hzx) _).trans hbw4
          go_roundw
          case rel => exact ⟨j + 1, by omega, by go_num, by rw [Hnx.out]; unfold texts; rw [List.map_append]; exact hown4, hfin⟩
          case measure => simp [intOf]; omega
        · have hjn' : j = n := by omega
          have hZl : (pairs M M').length = n := pairs_length Hl.out Hl'.out
          have hZm : ∀ x ∈ pairs M M', x.length ≤ 140737488355328 := fun x hx => by
            unfold pairs at hx
            obtain ⟨q, hq, rfl⟩ := List.mem_map.1 hx
            have h1 := Hb.out _ (List.of_mem_zip hq).1
            have h2 := Hb'.out _ (List.of_mem_zip hq).2
            simp only [List.length_append, List.length_cons, List.length_nil]
            omega
          have hpif : ∀ i k, i < n → k < n → (firstOf (pairs M M') i = firstOf (pairs M M') k ↔ (firstOf M i = firstOf M k ∧ firstOf M' i = firstOf M' k)) := fun i k hi hk => pairs_iff Hl.out Hl'.out Hg.out hi hk
          rw [hjn', List.take_of_length_le (Nat.le_of_eq Hl.out), List.take_of_length_le (Nat.le_of_eq Hl'.out)] at hown
          obtain ⟨Z, hZ⟩ : ∃ Z, Z = pairs M M' := ⟨_, rfl⟩
          rw [← hZ] at hown hZl hZm hpif
          have Hpif := Lib.hid hpif; have HZm := Lib.hid hZm; have HZl := Lib.hid hZl.symm
          obtain ⟨Az, cz, rfl, hcz, _⟩ := hown.form
          rw [texts_length, hZl] at hown hcz ⊢
          have hzr := hown.row.more (Nat.zero_le _) (Nat.le_refl _)
          have HM : Hid (n = M.length) := Hl.out.symm
          have HM' : Hid (n = M'.length) := Hl'.out.symm
          have HMb : Hid (∀ x ∈ M, x.length ≤ 140737488355328) := fun x hx => by have := Hb.out x hx; omega
          have HMb' : Hid (∀ x ∈ M', x.length ≤ 140737488355328) := fun x hx => by have := Hb'.out x hx; omega
          have hr1 := (Hat.out.below hbx).more (Nat.le_refl _) hzx
          have hr2 := (Hat'.out.below hbx).more (Nat.le_refl _) hzx
          have Hr1 := Lib.hid hr1; have Hr2 := Lib.hid hr2; have Hzr := Lib.hid hzr
          obtain ⟨wo, rfl⟩ : ∃ wo, wo = wr := ⟨_, rfl⟩
          have F1 := Lib.hid (fun (W : World) (hW : Below wo.heap.size wo W) => impl_fold A n c M W HM (by omega) HMb.out ((Hr1.out.below hW).more (Nat.le_refl _) hW.size) ((hT1.below hbx).below hW) ((hT2.below hbx).below hW))
          have F2 := Lib.hid (fun (W : World) (hW : Below wo.heap.size wo W) => impl_foldB A' n c' M' W HM' (by omega) HMb'.out ((Hr2.out.below hW).more (Nat.le_refl _) hW.size) ((hT1.below hbx).below hW) ((hT2.below hbx).below hW))
          have F3 := Lib.hid (fun (W : World) (hW : Below wo.heap.size wo W) => impl_fold Az n cz Z W HZl (by omega) HZm.out ((Hzr.out.below hW).more (Nat.le_refl _) hW.size) ((hT1.below hbx).below hW) ((hT2.below hbx).below hW))
          have hD : Below wo.heap.size wo wo.drew := (Below.refl _ _).drew
          clear hZ hZl hZm hpif hown hr1 hr2 hzr Hb Hb' Hat Hat' Hl Hl' HMb HMb' HZm Hr1 Hr2 Hzr
          go_wp2_with fail
          go_region_held3 (fun w' => wo.heap.size ≤ w'.heap.size)
            (first
              | exact hS7
              | exact hS6
              | exact hS5
              | (simp))
            (first
              | (go_at_call 9; (with_reducible refine (F1.out _ hD).mono ?_); rintro e w5 ⟨v5, rfl, h5, hb5⟩; have hB5 := hD.trans hb5; have hS5 := hB5.size)
              | (go_at_call 11; (with_reducible refine (F2.out _ hB5).mono ?_); rintro e w6 ⟨v6, rfl, h6, hb6⟩; have hB6 := hB5.trans (hb6.mono hS5); have hS6 := hB6.size)
              | (go_at_call 9; (with_reducible refine (F3.out _ hB6).mono ?_); rintro e w7 ⟨v7, rfl, h7, hb7⟩; have hB7 := hB6.trans (hb7.mono hS6); have hS7 := hB7.size))
          have hl1 : (intsV (folds M)).length = n := by rw [intsV_length, folds_length]; exact HM.out.symm
          have hl2 : (intsV (folds M')).length = n := by rw [intsV_length, folds_length]; exact HM'.out.symm
          have hl3 : (intsV (folds Z)).length = n := by rw [intsV_length, folds_length]; exact HZl.out.symm
          obtain ⟨A5, c5, rfl, hc5, _⟩ := h5.form
          obtain ⟨A6, c6, rfl, hc6, _⟩ := h6.form
          obtain ⟨A7, c7, rfl, hc7, _⟩ := h7.form
          have R5 := Lib.hid (h5.row.below (hb6.trans (hb7.mono hb6.size)))
          have R6 := Lib.hid (h6.row.below hb7)
          have R7 := Lib.hid h7.row
          have hBf := hbx.trans (hB7.mono hzx)
          rw [hl1] at hc5 ⊢
          rw [hl2] at hc6 ⊢
          rw [hl3] at hc7 ⊢
          have Hl1 := Lib.hid hl1; have Hl2 := Lib.hid hl2; have Hl3 := Lib.hid hl3
          clear hl1 hl2 hl3 h5 h6 h7 F1 F2 F3
          go_wp2_with fail
          clear hjn hj
          go_loopw [98] (fun i wr => ∃ k m : Nat, k ≤ n ∧ i = .int .i64 k ∧ wr = w7.drewN m) (fun i _ => n - (intOf i).toNat)
          case atStart => exact ⟨0, 0, Nat.zero_le _, rfl, rfl⟩
          case round =>
            obtain ⟨i, m, hi, rfl, rfl⟩ := hrel
            by_cases hlt : i < n
            · go_wp2_with fail
              go_loopw [102] (fun jj wr => ∃ k m : Nat, k ≤ n ∧ jj = .int .i64 k ∧ wr = w7.drewN m) (fun jj _ => n - (intOf jj).toNat)
              case atStart => exact ⟨0, m, Nat.zero_le _, rfl, rfl⟩
              case round =>
                obtain ⟨k, m2, hk, rfl, rfl⟩ := hrel
                by_cases hkn : k < n
                · have hne : ∀ l : List Nat, (intsV l).length = n → intsV l ≠ [] := fun l hl e => by rw [e] at hl; simp at hl; omega
                  obtain ⟨b5, o5, rfl, _, _, q5⟩ := R5.out (hne _ Hl1.out)
                  obtain ⟨b6, o6, rfl, _, _, q6⟩ := R6.out (hne _ Hl2.out)
                  obtain ⟨b7, o7, rfl, _, _, q7⟩ := R7.out (hne _ Hl3.out)
                  have d1 := q5 i (by rw [Hl1.out]; exact hlt)
                  have d2 := q5 k (by rw [Hl1.out]; exact hkn)
                  have d3 := q6 i (by rw [Hl2.out]; exact hlt)
                  have d4 := q6 k (by rw [Hl2.out]; exact hkn)
                  have d5 := q7 i (by rw [Hl3.out]; exact hlt)
                  have d6 := q7 k (by rw [Hl3.out]; exact hkn)
                  rw [intsV_get, folds_get] at d1 d2 d3 d4 d5 d6
                  have hbe := iff_bool (Hpif.out i k hlt hkn)
                  obtain ⟨f1, hf1⟩ : ∃ f, f = firstOf M i := ⟨_, rfl⟩
                  obtain ⟨f2, hf2⟩ : ∃ f, f = firstOf M k := ⟨_, rfl⟩
                  obtain ⟨f3, hf3⟩ : ∃ f, f = firstOf M' i := ⟨_, rfl⟩
                  obtain ⟨f4, hf4⟩ : ∃ f, f = firstOf M' k := ⟨_, rfl⟩
                  obtain ⟨f5, hf5⟩ : ∃ f, f = firstOf Z i := ⟨_, rfl⟩
                  obtain ⟨f6, hf6⟩ : ∃ f, f = firstOf Z k := ⟨_, rfl⟩
                  rw [← hf1] at d1 hbe
                  rw [← hf2] at d2 hbe
                  rw [← hf3] at d3 hbe
                  rw [← hf4] at d4 hbe
                  rw [← hf5] at d5 hbe
                  rw [← hf6] at d6 hbe
                  have p1 : (i : Int) < (n : Int) := by omega
                  have p2 : (k : Int) < (n : Int) := by omega
                  have p5 : (0 : Int) ≤ (i : Int) := by omega
                  have p6 : (0 : Int) ≤ (k : Int) := by omega
                  clear q5 q6 q7 hf1 hf2 hf3 hf4 hf5 hf6 hne
                  cases hxb : ((f1 : Int) == (f2 : Int)) with
                  | true =>
                    cases hyb : ((f3 : Int) == (f4 : Int)) with
                    | true =>
                      rw [hxb, hyb] at hbe
                      simp only [Bool.and_true] at hbe
                      go_wp2
                      go_quiet (fail)
                      go_wp2
                      go_roundw
                      case rel => exact ⟨k + 1, _, by omega, by go_num, by first | rfl | (simp only [World.drewN_drewN]; rfl)⟩
                      case measure => simp [intOf]; omega
                    | false =>
                      rw [hxb, hyb] at hbe
                      simp only [Bool.and_false] at hbe
                      go_wp2
                      go_quiet (fail)
                      go_wp2
                      go_roundw
                      case rel => exact ⟨k + 1, _, by omega, by go_num, by first | rfl | (simp only [World.drewN_drewN]; rfl)⟩
                      case measure => simp [intOf]; omega
                  | false =>
                    rw [hxb] at hbe
                    simp only [Bool.false_and] at hbe
                    go_wp2
                    go_quiet (fail)
                    go_wp2
                    go_roundw
                    case rel => exact ⟨k + 1, _, by omega, by go_num, by first | rfl | (simp only [World.drewN_drewN]; rfl)⟩
                    case measure => simp [intOf]; omega
                · have hkz : ¬ (k : Int) < (n : Int) := by omega
                  go_wp2_with fail
                  go_roundw
                  case rel => exact ⟨i + 1, m2, by omega, by go_num, rfl⟩
                  case measure => simp [intOf]; omega
            · go_wp2_with fail
              go_ret
              exact ⟨rfl, below_drewN' hBf m⟩
end Go.Proofs.YtkglbkgbgajbkaaDoor
