/- The walks of the laws FnMendBoth, FnMendLinear, FnMendApart and FnMendTogether: they return true; old memory as it was. Conditions: arguments of a bulk of at most 2 to the 20; the tables of utf8. -/
import Derived.Test.YtahlgmnjdkimmaaDoorMendImpl
import Derived.Test.YtahlgmnjdkimmaaDoorSameT
import Derived.Test.YtahlgmnjdkimmaaDoorValid
import Derived.Test.YtahlgmnjdkimmaaDoorFrameUT
namespace Go.Proofs.YtahlgmnjdkimmaaDoor
open Go.RowKit
set_option linter.unusedVariables false

theorem flatten_bulk (L : List (List UInt8)) : L.flatten.length ≤ bulkT L := by
  induction L with
  | nil => exact Nat.zero_le _
  | cons x L ih => simp only [bulkT, List.map_cons, List.sum_cons, List.flatten_cons, List.length_append] at ih ⊢; omega
theorem arg_facts {w : World} {A : Option Addr} {n c : Nat} {L : List (List UInt8)} (hm : TArgU w A n c L) {s : ByteArray} (hs : s.size ≤ 1048576) :
    n ≤ 1048576 ∧ Fits s L ∧ L.flatten.length ≤ 1048576 ∧ L.flatten.length + runs false (pcs L.flatten) * s.size ≤ 70368744177664 := by
  obtain ⟨⟨hn, _, _, _, _⟩, hbk⟩ := hm
  have hfl := flatten_bulk L
  refine ⟨by have := bulkT_len L; omega, fun x hx => fits_small ?_, by omega, fits_small ?_⟩
  · have h1 := bulkT_mem hx
    have h2 : x.length * s.size ≤ 1048576 * 1048576 := Nat.mul_le_mul (by omega) hs
    omega
  · have h2 : L.flatten.length * s.size ≤ 1048576 * 1048576 := Nat.mul_le_mul (by omega) hs
    omega
theorem own_texts {w : World} {base : Nat} {e : TypeId} {v : Value} {l : List (List UInt8)} (h : Own w base e v (texts l)) {n : Nat} (hn : l.length = n) : ∃ A c, v = .slice A n c ∧ n ≤ c := by
  obtain ⟨A, c, rfl, hc, _⟩ := h.form
  rw [texts_length, hn] at hc ⊢
  exact ⟨A, c, rfl, hc⟩
theorem str_one (s : ByteArray) : (Value.string s).oneCell' = true := rfl
theorem str_zero : (Value.string ByteArray.empty).cells.size = 1 := rfl
theorem mended_a : mended [] [97] = [97] := mended_good [] (by
  rw [pcs_ascii (l := [97]) (by decide)]
  intro q hq
  simp only [List.map_cons, List.map_nil, List.mem_singleton] at hq
  subst hq
  intro h
  have := h.1
  simp at this)
/-- the law's last word: a text of one letter stays -/
theorem mendAll_a0 (w : World) (hT : Tabs w) :
    Calls Tryd.prog 23 #[.slice (some ⟨w.heap.size, 0, none⟩) 1 1, .string ⟨#[]⟩] (w.alloc (.cells #[.string ⟨#[97]⟩] 9)) fun e w' => e = .returned (.string ⟨#[97]⟩) ∧ Below w.heap.size w w' := by
  have hb : Below w.heap.size w (w.alloc (.cells #[.string ⟨#[97]⟩] 9)) := (Below.refl _ _).alloc (Nat.le_refl _) _
  have hrow : RowAt (w.alloc (.cells #[.string ⟨#[97]⟩] 9)) 0 (w.alloc (.cells #[.string ⟨#[97]⟩] 9)).heap.size (some ⟨w.heap.size, 0, none⟩) (texts [[97]]) := fun _ => by
    refine ⟨w.heap.size, 0, rfl, Nat.zero_le _, by simp, fun i hi => ?_⟩
    rw [texts_length] at hi
    obtain rfl : i = 0 := by simp at hi; omega
    simp [texts, txt, World.cell?, World.alloc, -World.alloc_eq]
  refine (impl_mendAll _ 1 1 [[97]] ⟨#[]⟩ _ (Lib.hid rfl) (by omega) ?_ (by decide) hrow (hT.below hb)).mono ?_
  · exact fits_small (by decide)
  · rintro e w' ⟨rfl, hb'⟩
    refine ⟨?_, hb.trans (hb'.mono hb.size)⟩
    show Ending.returned (.string (txt (mended [] [97]))) = _
    rw [mended_a]; rfl

theorem mendAll_a (w : World) (g : Nat) (hg : g = w.heap.size) (hT : Tabs w) :
    Calls Tryd.prog 23 #[.slice (some ⟨g, 0, none⟩) 1 1, .string ⟨#[]⟩] (w.alloc (.cells #[.string ⟨#[97]⟩] 9)) fun e w' => e = .returned (.string ⟨#[97]⟩) ∧ Below w.heap.size w w' := by
  subst hg
  exact mendAll_a0 w hT

set_option maxRecDepth 100000 in
set_option maxHeartbeats 1600000 in
theorem fnMendBoth_walk {w : World} (A : Option Addr) (n c : Nat) (L : List (List UInt8)) (hm : TArgU w A n c L) (s : ByteArray) (hs : s.size ≤ 1048576) (hT : Tabs w) :
    Calls Tryd.prog 10 #[.slice A n c, .string s] w fun e w' => e = .returned (.bool true) ∧ Below w.heap.size w w' := by
  obtain ⟨hnl, hF, hfl, hfit⟩ := arg_facts hm hs
  obtain ⟨⟨hn, hnc, hn16, hsz, hat⟩, hbk⟩ := hm
  have HF := Lib.hid hF; have Hfit := Lib.hid hfit
  have Hn := Lib.hid hn; clear hn hsz hbk hF hfit hfl
  obtain ⟨l, hl⟩ : ∃ l, l = L.map (mended s.data.toList) := ⟨_, rfl⟩
  have hll : l.length = n := by rw [hl, List.length_map, Hn.out]
  have Hl := Lib.hid hl; have Hll := Lib.hid hll; clear hl hll
  go_enter Tryd.func10, Tryd.ntmps10
  go_wp2_with fail
  (with_reducible refine (impl_mend A n c L s _ Hn (by omega) HF hs hat hT).mono ?_); rintro e w1 ⟨v1, rfl, h1, hb1⟩
  rw [← Hl.out] at h1
  obtain ⟨A1, c1, rfl, _⟩ := own_texts h1 Hll.out
  go_wp2_with fail
  (with_reducible refine (impl_mendB A n c L s _ Hn (by omega) HF hs ((hat.below hb1).more (Nat.le_refl _) hb1.size) (hT.below hb1)).mono ?_); rintro e w2 ⟨v2, rfl, h2, hb2⟩
  rw [← Hl.out] at h2
  have hB2 := hb1.trans (hb2.mono hb1.size)
  go_wp2_with fail
  (with_reducible refine (sameTexts_t _ _ l _ (by rw [Hll.out]; omega) (h1.rowV.below hb2) h2.rowV).mono ?_); rintro e w' ⟨rfl, m2, rfl⟩
  have hB2' : Below w.heap.size w (w2.drewN m2) := below_drewN' hB2 m2
  clear h1 h2
  go_wp2_with fail
  (with_reducible refine (impl_mendAll A n c L s _ Hn (by omega) Hfit.out hs ((hat.below hB2').more (Nat.le_refl _) hB2'.size) (hT.below hB2')).mono ?_); rintro e w3 ⟨rfl, hb3⟩
  have hB3 := hB2'.trans (hb3.mono hB2'.size)
  go_wp2_with fail
  (with_reducible refine (impl_mendAllB A n c L s _ Hn (by omega) Hfit.out hs ((hat.below hB3).more (Nat.le_refl _) hB3.size) (hT.below hB3)).mono ?_); rintro e w4 ⟨rfl, hb4⟩
  have hB4 := hB3.trans (hb4.mono hB3.size)
  go_wp2_with fail
  (with_reducible refine (mendAll_a w4 _ rfl (hT.below hB4)).mono ?_); rintro e w5 ⟨rfl, hb5⟩
  go_wp2_with fail
  go_ret
  exact ⟨rfl, hB4.trans (hb5.mono hB4.size)⟩

set_option maxRecDepth 100000 in
set_option maxHeartbeats 1600000 in
theorem fnMendLinear_walk {w : World} (A : Option Addr) (n c : Nat) (L : List (List UInt8)) (hm : TArgU w A n c L) (s : ByteArray) (hs : s.size ≤ 1048576) (hT : Tabs w) :
    Calls Tryd.prog 7 #[.slice A n c, .string s] w fun e w' => e = .returned (.bool true) ∧ Below w.heap.size w w' := by
  by_cases hbig : 4096 < s.size
  · go_enter Tryd.func7, Tryd.ntmps7
    go_wp2_with fail
    go_ret
    exact ⟨rfl, Below.refl _ _⟩
  obtain ⟨hnl, _, hfl, hfit⟩ := arg_facts hm hs
  obtain ⟨_, _, _, hfit0⟩ := arg_facts hm (s := ⟨#[]⟩) (by decide)
  obtain ⟨_, _, _, hfit1⟩ := arg_facts hm (s := ⟨#[120]⟩) (by decide)
  obtain ⟨⟨hn, hnc, hn16, hsz, hat⟩, hbk⟩ := hm
  have e2 := mended_len [120] L.flatten
  have e3 := mended_len s.data.toList L.flatten
  have hr := runs_len L.flatten
  have hm0 := mended_le [] L.flatten
  rw [← Lib.size_eq] at e3
  simp only [List.length_singleton, Nat.mul_one] at e2
  simp only [List.length_nil, Nat.mul_zero, Nat.add_zero] at hm0
  obtain ⟨r, hrr⟩ : ∃ r, r = runs false (pcs L.flatten) := ⟨_, rfl⟩
  rw [← hrr] at e2 e3 hr
  obtain ⟨p, hp⟩ : ∃ p, p = r * s.size := ⟨_, rfl⟩
  have hpb : p ≤ 1048576 * 4096 := by rw [hp]; exact Nat.mul_le_mul (by omega) (by omega)
  rw [← hp] at e3
  have hmul : (r : Int) * (s.size : Int) = (p : Int) := by rw [hp]; exact (Int.natCast_mul r s.size).symm
  obtain ⟨m1, hm1⟩ : ∃ m1, m1 = txt (mended [] L.flatten) := ⟨_, rfl⟩
  obtain ⟨m2, hm2⟩ : ∃ m2, m2 = txt (mended [120] L.flatten) := ⟨_, rfl⟩
  obtain ⟨m3, hm3⟩ : ∃ m3, m3 = txt (mended s.data.toList L.flatten) := ⟨_, rfl⟩
  have z1 : m1.size ≤ 1048576 := by rw [hm1]; show (mended [] L.flatten).length ≤ _; omega
  have z2 : m2.size = m1.size + r := by rw [hm1, hm2]; exact e2
  have z3 : m3.size = m1.size + p := by rw [hm1, hm3]; exact e3
  have hrb : r ≤ 1048576 := by omega
  have hcan : (m1.size : Int) + (r : Int) - (m1.size : Int) = (r : Int) := by omega
  have HM1 := Lib.hid hm1; have HM2 := Lib.hid hm2; have HM3 := Lib.hid hm3
  have Hfit := Lib.hid hfit; have Hfit0 := Lib.hid hfit0; have Hfit1 := Lib.hid hfit1
  have Hn := Lib.hid hn
  clear hn hsz hbk hfit hfit0 hfit1 e2 e3 hr hm0 hrr hp hm1 hm2 hm3 hfl
  go_enter Tryd.func7, Tryd.ntmps7
  go_wp2_with fail
  (with_reducible refine (impl_mendAll A n c L ⟨#[]⟩ _ Hn (by omega) Hfit0.out (by decide) hat hT).mono ?_); rintro e w1 ⟨rfl, hb1⟩
  rw [show (⟨#[]⟩ : ByteArray).data.toList = [] from rfl, ← HM1.out]
  go_wp2_with fail
  (with_reducible refine (impl_mendAllB A n c L ⟨#[120]⟩ _ Hn (by omega) Hfit1.out (by decide) ((hat.below hb1).more (Nat.le_refl _) hb1.size) (hT.below hb1)).mono ?_); rintro e w2 ⟨rfl, hb2⟩
  rw [show (⟨#[120]⟩ : ByteArray).data.toList = [120] from rfl, ← HM2.out]
  have hB2 := hb1.trans (hb2.mono hb1.size)
  go_wp2_with fail
  (with_reducible refine (impl_mendAll A n c L s _ Hn (by omega) Hfit.out hs ((hat.below hB2).more (Nat.le_refl _) hB2.size) (hT.below hB2)).mono ?_); rintro e w3 ⟨rfl, hb3⟩
  rw [← HM3.out]
  have hB3 := hB2.trans (hb3.mono hB2.size)
  go_wp2_with fail
  (with_reducible refine (mendAll_a w3 _ rfl (hT.below hB3)).mono ?_); rintro e w5 ⟨rfl, hb5⟩
  go_wp2_with fail
  go_ret
  exact ⟨rfl, hB3.trans (hb5.mono hB3.size)⟩

/-- the texts with another one between them, as a list -/
def apart (b : List UInt8) : List (List UInt8) → List (List UInt8)
  | [] => []
  | x :: r => x :: r.flatMap fun y => [b, y]
theorem apart_snoc (b : List UInt8) (l : List (List UInt8)) (x : List UInt8) : apart b (l ++ [x]) = if l = [] then [x] else apart b l ++ [b, x] := by
  cases l with
  | nil => simp [apart]
  | cons y r => simp [apart]
theorem apart_flatten (b : List UInt8) (L : List (List UInt8)) : (apart b L).flatten = jn b L := by
  cases L with
  | nil => rfl
  | cons x r =>
    simp only [apart, jn, List.flatten_cons]
    congr 1
    induction r with
    | nil => rfl
    | cons y r ih => simp only [List.flatMap_cons, List.flatten_append, ih]; simp
theorem apart_len (b : List UInt8) (L : List (List UInt8)) : (apart b L).length ≤ 2 * L.length := by
  cases L with
  | nil => simp [apart]
  | cons x r =>
    have : ∀ r : List (List UInt8), (r.flatMap fun y => [b, y]).length = 2 * r.length := by
      intro r
      induction r with
      | nil => rfl
      | cons y r ih => simp only [List.flatMap_cons, List.length_append, ih, List.length_cons, List.length_nil]; omega
    simp only [apart, List.length_cons, this]
    omega
theorem jn_len (b : List UInt8) (l : List (List UInt8)) : (jn b l).length ≤ lens l + l.length * b.length := by
  cases l with
  | nil => simp [jn, lens]
  | cons x r =>
    have h : ∀ r : List (List UInt8), (r.flatMap (b ++ ·)).length = lens r + r.length * b.length := by
      intro r
      induction r with
      | nil => simp [lens]
      | cons y r ih =>
        simp only [List.flatMap_cons, List.length_append, lens, List.map_cons, List.sum_cons, List.length_cons, Nat.succ_mul] at ih ⊢
        omega
    simp only [jn, List.length_append, h, lens, List.map_cons, List.sum_cons, List.length_cons, Nat.succ_mul]
    omega
theorem lens_bulk (L : List (List UInt8)) : lens L ≤ bulkT L := by
  induction L with
  | nil => exact Nat.zero_le _
  | cons x L ih => simp only [lens, bulkT, List.map_cons, List.sum_cons] at ih ⊢; omega
theorem lens_mended (rep : List UInt8) (L : List (List UInt8)) : lens (L.map (mended rep)) ≤ lens L + lens L * rep.length := by
  induction L with
  | nil => simp [lens]
  | cons x L ih =>
    have := mended_le rep x
    simp only [lens, List.map_cons, List.sum_cons, Nat.add_mul] at ih ⊢
    omega
theorem runs_jn {b : List UInt8} (hb : b ≠ []) (hg : ∀ q ∈ pcs b, ¬ badP q) (L : List (List UInt8)) : runs false (pcs (jn b L)) ≤ lens L := by
  have many : ∀ (r : List (List UInt8)) (x : List UInt8), runs false (pcs (x ++ r.flatMap (b ++ ·))) ≤ x.length + lens r := by
    intro r
    induction r with
    | nil => intro x; simp [lens]; exact runs_len x
    | cons y r ih =>
      intro x
      simp only [List.flatMap_cons, List.append_assoc]
      rw [runs_between hb hg]
      have h1 := runs_len x
      have h2 := ih y
      simp only [lens, List.map_cons, List.sum_cons] at h2 ⊢
      omega
  cases L with
  | nil => simp [jn, pcs_nil, runs]
  | cons x r =>
    have := many r x
    simp only [jn, lens, List.map_cons, List.sum_cons] at this ⊢
    exact this
theorem mended_jn {b : List UInt8} (hb : b ≠ []) (hg : ∀ q ∈ pcs b, ¬ badP q) (rep : List UInt8) (L : List (List UInt8)) : mended rep (jn b L) = jn b (L.map (mended rep)) := by
  cases L with
  | nil => rfl
  | cons x r => simp only [jn, List.map_cons]; exact mended_many hb hg rep r x

set_option maxRecDepth 100000 in
set_option maxHeartbeats 3200000 in
theorem fnMendApart_walk {w : World} (A : Option Addr) (n c : Nat) (L : List (List UInt8)) (hm : TArgU w A n c L) (s : ByteArray) (hs : s.size ≤ 1048576) (b : ByteArray) (hb : b.size ≤ 1048576) (hT : Tabs w) :
    Calls Tryd.prog 8 #[.slice A n c, .string s, .string b] w fun e w' => e = .returned (.bool true) ∧ Below w.heap.size w w' := by
  by_cases hz0 : b.size = 0
  · obtain rfl : b = ByteArray.empty := by
      rw [← Lib.mk_data b, List.eq_nil_of_length_eq_zero (l := b.data.toList) (by rw [← Lib.size_eq]; exact hz0)]; rfl
    clear hz0
    go_enter Tryd.func8, Tryd.ntmps8
    go_wp2_with fail
    go_ret
    exact ⟨rfl, Below.refl _ _⟩
  have hne : b.data.toList ≠ [] := fun e => hz0 (by rw [Lib.size_eq, e]; rfl)
  have hsp : b.toList.isEmpty = false := by
    have e2 : b.toList = b.data.toList := by rw [Lib.toList_data]
    rw [e2]
    cases e : b.data.toList with
    | nil => exact absurd e hne
    | cons x r => rfl
  cases hok : okB b with
  | false =>
    have Hok := Lib.hid hok; have Hne := Lib.hid hne; clear hok hz0 hne
    go_enter Tryd.func8, Tryd.ntmps8
    go_wp2_with ((with_reducible refine (valid_any b _ (by omega)).mono ?_); rw [Hok.out]; rintro e w1 ⟨rfl, hb1⟩)
    go_ret
    exact ⟨rfl, hb1⟩
  | true =>
    have hg : ∀ q ∈ pcs b.data.toList, ¬ badP q := fun q hq hbad => by
      have := List.all_eq_true.1 hok q hq
      simp [hbad] at this
    obtain ⟨hnl, hF, hfl, _⟩ := arg_facts hm hs
    obtain ⟨⟨hn, hnc, hn16, hsz, hat⟩, hbk⟩ := hm
    have hlb : lens L ≤ 1048576 := by have := lens_bulk L; omega
    have hmul1 : n * b.size ≤ 1048576 * 1048576 := Nat.mul_le_mul hnl hb
    have hmul2 : lens L * s.size ≤ 1048576 * 1048576 := Nat.mul_le_mul hlb hs
    have hjl : (jn b.data.toList L).length ≤ 1099512676352 := by
      have := jn_len b.data.toList L
      rw [← hn, ← Lib.size_eq] at this
      omega
    have hjl2 : (jn b.data.toList (L.map (mended s.data.toList))).length ≤ 1152921504606846976 := by
      have h1 := jn_len b.data.toList (L.map (mended s.data.toList))
      have h2 := lens_mended s.data.toList L
      rw [List.length_map, ← hn, ← Lib.size_eq] at h1
      rw [← Lib.size_eq] at h2
      omega
    have hfit2 : (apart b.data.toList L).flatten.length + runs false (pcs (apart b.data.toList L).flatten) * s.size ≤ 70368744177664 := by
      rw [apart_flatten]
      have h1 := runs_jn hne hg L
      have h2 : runs false (pcs (jn b.data.toList L)) * s.size ≤ lens L * s.size := Nat.mul_le_mul_right _ h1
      omega
    have hmj := mended_jn hne hg s.data.toList L
    rw [← apart_flatten] at hmj
    have hpl := apart_len b.data.toList L
    obtain ⟨l, hl⟩ : ∃ l, l = L.map (mended s.data.toList) := ⟨_, rfl⟩
    have hll : l.length = n := by rw [hl, List.length_map, hn]
    rw [← hl] at hjl2 hmj
    obtain ⟨J, hJ⟩ : ∃ J, J = jn b.data.toList l := ⟨_, rfl⟩
    rw [← hJ] at hmj
    have Hl := Lib.hid hl; have Hll := Lib.hid hll; have HJ := Lib.hid hJ; have Hmj := Lib.hid hmj; have HF := Lib.hid hF; have Hfit2 := Lib.hid hfit2; have Hjl2 := Lib.hid hjl2; have Hn := Lib.hid hn; have Hok := Lib.hid hok; have Hpl := Lib.hid hpl
    clear hl hll hJ hmj hF hfit2 hjl2 hn hok hsz hbk hmul1 hmul2 hjl hg hne hz0 hlb hfl hpl
    go_enter Tryd.func8, Tryd.ntmps8
    go_wp2_with ((with_reducible refine (valid_any b _ (by omega)).mono ?_); rw [Hok.out]; rintro e w1 ⟨rfl, hb1⟩)
    (with_reducible refine (impl_mend A n c L s _ Hn (by omega) HF hs ((hat.below hb1).more (Nat.le_refl _) hb1.size) (hT.below hb1)).mono ?_); rintro e w2 ⟨v2, rfl, h2, hb2⟩
    rw [← Hl.out] at h2
    have hB2 := hb1.trans (hb2.mono hb1.size)
    go_wp2_with fail
    (with_reducible refine (joined_any v2 l b _ (by rw [Hll.out]; omega) (by omega) Hjl2.out h2.rowV).mono ?_); rintro e w' ⟨rfl, rfl⟩
    rw [← HJ.out]
    clear h2
    have hz2 := hB2.size
    go_wp2_with fail
    go_loopw [8, 26] (fun v i wr => ∃ k : Nat, k ≤ n ∧ i = .int .i64 k ∧ Own wr w.heap.size 9 v (texts (apart b.data.toList (L.take k))) ∧ Below w.heap.size w wr) (fun _ i _ => n - (intOf i).toNat)
    case atStart => exact ⟨0, Nat.zero_le _, rfl, Own.empty w' _ _ _ rfl hz2, hB2.alloc hz2 _⟩
    case round =>
      obtain ⟨k, hk, rfl, hown, hbw⟩ := hrel
      have hz := hbw.size
      by_cases hlt : k < n
      · have hk' : k < L.length := by rw [← Hn.out]; exact hlt
        obtain ⟨ba, oa, rfl, _, hba, hcell⟩ := (hat.below hbw).at_ (i := k) (by rw [texts_length]; exact hk')
        have hst : apart b.data.toList (L.take (k + 1)) = if L.take k = [] then [L[k]] else apart b.data.toList (L.take k) ++ [b.data.toList, L[k]] := by rw [List.take_succ_eq_append_getElem hk', apart_snoc]
        have hlen := apart_len b.data.toList (L.take k)
        rw [List.length_take] at hlen
        have hlen2 : (apart b.data.toList (L.take k)).length ≤ 2097152 := by omega
        obtain ⟨x, hx⟩ : ∃ x, x = L[k] := ⟨_, rfl⟩
        rw [show (texts L)[k]'(by rw [texts_length]; exact hk') = .string (txt L[k]) by simp [texts], ← hx] at hcell
        rw [← hx] at hst
        by_cases hk0 : k = 0
        · have e0 : L.take k = [] := by rw [hk0]; rfl
          rw [if_pos e0] at hst
          have Hst := Lib.hid hst
          have hown0 : Own wr w.heap.size 9 u8 [] := by rw [e0] at hown; exact hown
          have hk1 : ¬ (0 : Int) < (k : Int) := by omega
          clear hst hx hk' hlen hlen2 hown e0 hk0
          go_wp2_with (at_builtin; refine wpList_push wr rfl (.tmp 37) (.tmp 39) 22 rfl w.heap.size 9 _ 16 Tryd.underlying22 info_string rfl _ _ (.string (txt x)) _ rfl rfl rfl hown0 rfl (by simp) (by omega) (by omega) ?_; intro v4 w4 hown4 hbw4 hgr4 hat4)
          go_roundw
          case rel => exact ⟨k + 1, by omega, by go_num, by rw [Hst.out]; exact hown4, hbw.trans hbw4⟩
          case measure => simp [intOf]; omega
        · have htne : ¬ L.take k = [] := fun e => by
            have := congrArg List.length e
            rw [List.length_take, List.length_nil] at this
            omega
          rw [if_neg htne] at hst
          have Hst := Lib.hid hst
          have hk1 : (0 : Int) < (k : Int) := by omega
          clear hst hx hk' hlen htne
          obtain ⟨T, hT0⟩ : ∃ T, T = apart b.data.toList (L.take k) := ⟨_, rfl⟩
          rw [← hT0] at hown hlen2
          have HT0 := Lib.hid hT0; clear hT0
          go_wp2_with (first
            | (at_builtin; (refine wpList_push wr (o := ⟨some 36, _, _, _, _, _⟩) rfl (.tmp 33) (.tmp 35) 22 rfl w.heap.size 9 _ 16 Tryd.underlying22 info_string str_zero _ _ (.string b) _ rfl rfl rfl hown (str_one b) (by rw [texts_length]; omega) (by omega) (by omega) ?_); intro v4 w4 hown4 hbw4 hgr4 hat4)
            | (at_builtin; (refine wpList_push w4 (o := ⟨some 40, _, _, _, _, _⟩) rfl (.tmp 37) (.tmp 39) 22 rfl w.heap.size 9 _ 16 Tryd.underlying22 info_string str_zero _ _ (.string (txt x)) _ rfl rfl rfl hown4 (str_one _) (by rw [List.length_append, texts_length]; simp; omega) (by omega) (by have := hgr4.size; omega) ?_); intro v5 w5 hown5 hbw5 hgr5 hat5))
          go_roundw
          case rel => exact ⟨k + 1, by omega, by go_num, by
            rw [Hst.out, ← HT0.out]
            have e : texts (T ++ [b.data.toList, x]) = texts T ++ [.string b] ++ [.string (txt x)] := by simp [texts, txt_self]
            rw [e]; exact hown5, (hbw.trans hbw4).trans hbw5⟩
          case measure => simp [intOf]; omega
      · have hkn : k = n := by omega
        rw [hkn, List.take_of_length_le (by rw [← Hn.out]; exact Nat.le_refl _)] at hown
        clear hkn
        obtain ⟨n5, hn5⟩ : ∃ n5, n5 = (apart b.data.toList L).length := ⟨_, rfl⟩
        have hn5l : n5 ≤ 2097152 := by have := Hpl.out; rw [hn5]; rw [← Hn.out] at this; omega
        have Hn5 := Lib.hid hn5; clear hn5
        obtain ⟨A5, c5, rfl, _⟩ := own_texts hown Hn5.out.symm
        go_wp2_with fail
        (with_reducible refine (impl_mend A n c L s _ Hn (by omega) HF hs ((hat.below hbw).more (Nat.le_refl _) hbw.size) (hT.below hbw)).mono ?_); rintro e w3 ⟨v3, rfl, h3, hb3⟩
        rw [← Hl.out] at h3
        obtain ⟨A3, c3, rfl, _⟩ := own_texts h3 Hll.out
        have hB3 := hbw.trans (hb3.mono hz)
        have hr5 := (hown.row.more (Nat.zero_le _) (Nat.le_refl _)).below hb3
        have Hr5 := Lib.hid (hr5.more (Nat.le_refl _) hb3.size)
        clear hr5 h3 hown
        go_wp2_with fail
        (with_reducible refine (impl_mendAll A5 n5 c5 (apart b.data.toList L) s _ Hn5 (by omega) Hfit2.out hs Hr5.out (hT.below hB3)).mono ?_); rw [Hmj.out]; rintro e w4 ⟨rfl, hb4⟩
        have hB4 := hB3.trans (hb4.mono hB3.size)
        go_wp2_with fail
        (with_reducible refine (impl_mendAllB A5 n5 c5 (apart b.data.toList L) s _ Hn5 (by omega) Hfit2.out hs ((Hr5.out.below hb4).more (Nat.le_refl _) hb4.size) (hT.below hB4)).mono ?_); rw [Hmj.out]; rintro e w5 ⟨rfl, hb5⟩
        have hB5 := hB4.trans (hb5.mono hB4.size)
        go_wp2_with fail
        (with_reducible refine (mendAll_a w5 _ rfl (hT.below hB5)).mono ?_); rintro e w6 ⟨rfl, hb6⟩
        go_wp2_with fail
        go_ret
        exact ⟨rfl, hB5.trans (hb6.mono hB5.size)⟩

def goods (L : List (List UInt8)) : List (List UInt8) := L.filter fun x => okB (txt x)
theorem goods_snoc (L : List (List UInt8)) (k : Nat) (hk : k < L.length) : goods (L.take (k + 1)) = if okB (txt L[k]) then goods (L.take k) ++ [L[k]] else goods (L.take k) := by
  unfold goods
  rw [List.take_succ_eq_append_getElem hk, List.filter_append]
  cases h : okB (txt L[k]) <;> simp [h]
theorem goods_good (L : List (List UInt8)) : ∀ x ∈ goods L, ∀ q ∈ pcs x, ¬ badP q := fun x hx q hq hb => by
  have h := (List.mem_filter.1 hx).2
  have := List.all_eq_true.1 h q hq
  simp [hb] at this
theorem goods_len (L : List (List UInt8)) : (goods L).length ≤ L.length := List.length_filter_le _ _
theorem goods_flatten (L : List (List UInt8)) : (goods L).flatten.length ≤ L.flatten.length := by
  induction L with
  | nil => exact Nat.le_refl _
  | cons x L ih =>
    unfold goods at ih ⊢
    rw [List.filter_cons]
    split
    · simp only [List.flatten_cons, List.length_append]; omega
    · simp only [List.flatten_cons, List.length_append]; omega

set_option maxRecDepth 100000 in
set_option maxHeartbeats 3200000 in
theorem fnMendTogether_walk {w : World} (A : Option Addr) (n c : Nat) (L : List (List UInt8)) (hm : TArgU w A n c L) (s : ByteArray) (hs : s.size ≤ 1048576) (hT : Tabs w) :
    Calls Tryd.prog 9 #[.slice A n c, .string s] w fun e w' => e = .returned (.bool true) ∧ Below w.heap.size w w' := by
  obtain ⟨hnl, hF, hfl, _⟩ := arg_facts hm hs
  obtain ⟨⟨hn, hnc, hn16, hsz, hat⟩, hbk⟩ := hm
  have HLm := Lib.hid (fun x (hx : x ∈ L) => (by have := bulkT_mem hx; omega : x.length ≤ 1048576))
  have hgl := goods_len L
  have hgf := goods_flatten L
  have hG : mended s.data.toList (goods L).flatten = (goods L).flatten := mended_good _ (good_flatten _ (goods_good L))
  have hGm : (goods L).map (mended s.data.toList) = goods L := by
    conv => rhs; rw [← List.map_id (goods L)]
    exact List.map_congr_left fun x hx => mended_good _ (goods_good L x hx)
  have hGF : Fits s (goods L) := fun x hx => hF x (List.mem_filter.1 hx).1
  have hfit : (goods L).flatten.length + runs false (pcs (goods L).flatten) * s.size ≤ 70368744177664 := fits_small (by
    have h2 : (goods L).flatten.length * s.size ≤ 1048576 * 1048576 := Nat.mul_le_mul (by omega) hs
    omega)
  have hjj : (jn [] (goods L)).length ≤ 1152921504606846976 := by rw [jn_nil]; omega
  rw [← hn] at hgl
  have HG := Lib.hid hG; have HGm := Lib.hid hGm; have HGF := Lib.hid hGF; have Hfit := Lib.hid hfit; have Hjj := Lib.hid hjj; have Hgl := Lib.hid hgl
  have Hn := Lib.hid hn
  clear hn hsz hbk hF hfl hG hGm hGF hfit hjj hgl hgf
  go_enter Tryd.func9, Tryd.ntmps9
  go_wp2_with fail
  go_loopw [5, 11] (fun v i wr => ∃ k : Nat, k ≤ n ∧ i = .int .i64 k ∧ Own wr w.heap.size 9 v (texts (goods (L.take k))) ∧ Below w.heap.size w wr) (fun _ i _ => n - (intOf i).toNat)
  case atStart => exact ⟨0, Nat.zero_le _, rfl, Own.empty w _ _ _ rfl (Nat.le_refl _), (Below.refl _ _).alloc (Nat.le_refl _) _⟩
  case round =>
    obtain ⟨k, hk, rfl, hown, hbw⟩ := hrel
    have hz := hbw.size
    by_cases hlt : k < n
    · have hk' : k < L.length := by rw [← Hn.out]; exact hlt
      obtain ⟨ba, oa, rfl, _, hba, hcell⟩ := (hat.below hbw).at_ (i := k) (by rw [texts_length]; exact hk')
      have hst := goods_snoc L k hk'
      have hxl := HLm.out _ (List.getElem_mem hk')
      have hlen := goods_len (L.take k)
      rw [List.length_take] at hlen
      have hlen2 : (goods (L.take k)).length ≤ 1048576 := by omega
      obtain ⟨x, hx⟩ : ∃ x, x = L[k] := ⟨_, rfl⟩
      rw [show (texts L)[k]'(by rw [texts_length]; exact hk') = .string (txt L[k]) by simp [texts], ← hx] at hcell
      rw [← hx] at hst hxl
      have hxs : (txt x).size ≤ 1048576 := hxl
      clear hx hk' hlen
      cases hok : okB (txt x) with
      | false =>
        rw [hok] at hst
        simp only [Bool.false_eq_true, if_false] at hst
        have Hst := Lib.hid hst; have Hok := Lib.hid hok; clear hst hok
        go_wp2_with ((with_reducible refine (valid_any (txt x) _ (by omega)).mono ?_); rw [Hok.out]; rintro e w1 ⟨rfl, hb1⟩)
        go_roundw
        case rel => exact ⟨k + 1, by omega, by go_num, by rw [Hst.out]; exact hown.below hb1, hbw.trans (hb1.mono hz)⟩
        case measure => simp [intOf]; omega
      | true =>
        rw [hok] at hst
        simp only [if_true] at hst
        have Hst := Lib.hid hst; have Hok := Lib.hid hok; clear hst hok
        go_wp2_with fail
        (with_reducible refine (valid_any (txt x) _ (by omega)).mono ?_); rw [Hok.out]; rintro e w1 ⟨rfl, hb1⟩
        have hz1 := hb1.size
        go_wp2_with (at_builtin; refine wpList_push w1 rfl (.tmp 17) (.tmp 19) 22 rfl w.heap.size 9 _ 16 Tryd.underlying22 info_string rfl _ _ (.string (txt x)) _ rfl rfl rfl (hown.below hb1) rfl (by rw [texts_length]; omega) (by omega) (by omega) ?_; intro v4 w4 hown4 hbw4 hgr4 hat4)
        go_roundw
        case rel => exact ⟨k + 1, by omega, by go_num, by rw [Hst.out]; unfold texts; rw [List.map_append]; exact hown4, (hbw.trans (hb1.mono hz)).trans hbw4⟩
        case measure => simp [intOf]; omega
    · have hkn : k = n := by omega
      rw [hkn, List.take_of_length_le (by rw [← Hn.out]; exact Nat.le_refl _)] at hown
      clear hkn
      obtain ⟨n5, hn5⟩ : ∃ n5, n5 = (goods L).length := ⟨_, rfl⟩
      have hn5l : n5 ≤ 1048576 := by have := Hgl.out; omega
      have Hn5 := Lib.hid hn5; clear hn5
      obtain ⟨A5, c5, rfl, _⟩ := own_texts hown Hn5.out.symm
      have hrow := hown.row.more (Nat.zero_le w.heap.size) (Nat.le_refl _)
      have Hrow := Lib.hid hrow
      clear hrow
      go_wp2_with fail
      (with_reducible refine (impl_mendAll A5 n5 c5 (goods L) s _ Hn5 (by omega) Hfit.out hs Hrow.out (hT.below hbw)).mono ?_); rw [HG.out]; rintro e w2 ⟨rfl, hb2⟩
      have hB2 := hbw.trans (hb2.mono hz)
      go_wp2_with fail
      (with_reducible refine (joined_any _ (goods L) ⟨#[]⟩ _ (by rw [← Hn5.out]; omega) (by decide) Hjj.out (hown.rowV.below hb2)).mono ?_); rw [show (⟨#[]⟩ : ByteArray).data.toList = [] from rfl, jn_nil]; rintro e w' ⟨rfl, rfl⟩
      go_wp2_with fail
      (with_reducible refine (impl_mendAllB A5 n5 c5 (goods L) s _ Hn5 (by omega) Hfit.out hs ((Hrow.out.below hb2).more (Nat.le_refl _) hb2.size) (hT.below hB2)).mono ?_); rw [HG.out]; rintro e w3 ⟨rfl, hb3⟩
      have hb23 := hb2.trans (hb3.mono hb2.size)
      have hB3 := hB2.trans (hb3.mono hB2.size)
      go_wp2_with fail
      (with_reducible refine (joined_any _ (goods L) ⟨#[]⟩ _ (by rw [← Hn5.out]; omega) (by decide) Hjj.out (hown.rowV.below hb23)).mono ?_); rw [show (⟨#[]⟩ : ByteArray).data.toList = [] from rfl, jn_nil]; rintro e w' ⟨rfl, rfl⟩
      go_wp2_with fail
      (with_reducible refine (impl_mendB A5 n5 c5 (goods L) s _ Hn5 (by omega) HGF hs ((Hrow.out.below hb23).more (Nat.le_refl _) hb23.size) (hT.below hB3)).mono ?_); rw [HGm.out]; rintro e w4 ⟨v4, rfl, h4, hb4⟩
      have hB4 := hB3.trans (hb4.mono hB3.size)
      go_wp2_with fail
      (with_reducible refine (sameTexts_t _ _ (goods L) _ (by rw [← Hn5.out]; omega) h4.rowV (hown.rowV.below (hb23.trans (hb4.mono hb23.size)))).mono ?_); rintro e w' ⟨rfl, m4, rfl⟩
      have hB4' : Below w.heap.size w (w4.drewN m4) := below_drewN' hB4 m4
      go_wp2_with fail
      (with_reducible refine (mendAll_a (w4.drewN m4) w4.heap.size (by simp) (hT.below hB4')).mono ?_); rintro e w6 ⟨rfl, hb6⟩
      go_wp2_with fail
      go_ret
      exact ⟨rfl, hB4'.trans (hb6.mono hB4'.size)⟩
end Go.Proofs.YtahlgmnjdkimmaaDoor
