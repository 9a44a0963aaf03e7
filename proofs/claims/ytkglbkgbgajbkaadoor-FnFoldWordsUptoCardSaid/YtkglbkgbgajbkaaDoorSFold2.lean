/- Plain law: simple folding of code points: what the searches of the two tables tell; to be in one orbit is an equivalence; the loop that looks for a code point in an orbit. Conditions: none. -/
import Derived.Test.YtkglbkgbgajbkaaDoorSFold
namespace Go.Proofs.YtkglbkgbgajbkaaDoor
open Go Go.Lib

theorem lookO_cons (r : Nat) (x : Nat × Nat) (T : List (Nat × Nat)) : lookO r (x :: T) = bif Nat.beq x.1 r then some x.2 else lookO r T := rfl
theorem lookO_none_of {r : Nat} : ∀ {T : List (Nat × Nat)}, (∀ x ∈ T, x.1 ≠ r) → lookO r T = none
  | [], _ => rfl
  | x :: T, h => by
    have hx : Nat.beq x.1 r = false := by
      cases e : Nat.beq x.1 r with
      | false => rfl
      | true => exact absurd (Nat.eq_of_beq_eq_true e) (h x (by simp))
    rw [lookO_cons, hx]
    exact lookO_none_of fun y hy => h y (by simp [hy])
theorem lookO_at {r : Nat} : ∀ {T : List (Nat × Nat)} {i : Nat} (hi : i < T.length), T[i].1 = r → (∀ j (h : j < i), (T[j]'(by omega)).1 ≠ r) → lookO r T = some T[i].2
  | [], i, hi, _, _ => by simp at hi
  | x :: T, 0, hi, hr, _ => by
    have hx : Nat.beq x.1 r = true := by simp at hr; rw [hr]; exact Nat.beq_refl r
    rw [lookO_cons, hx]; rfl
  | x :: T, i + 1, hi, hr, hlt => by
    have hx : Nat.beq x.1 r = false := by
      cases e : Nat.beq x.1 r with
      | false => rfl
      | true => exact absurd (Nat.eq_of_beq_eq_true e) (hlt 0 (by omega))
    rw [lookO_cons, hx]
    exact lookO_at (T := T) (i := i) (by simpa using hi) (by simpa using hr) fun j hj => by
      have := hlt (j + 1) (by omega)
      simpa using this
theorem lookR_cons (r : Nat) (x : CaseRow) (T : List CaseRow) : lookR r (x :: T) = bif Nat.ble r x.2.1 then (bif Nat.ble x.1 r then some x else none) else lookR r T := rfl
theorem lookR_some {r : Nat} {x : CaseRow} : ∀ {T : List CaseRow}, lookR r T = some x → x ∈ T ∧ x.1 ≤ r ∧ r ≤ x.2.1
  | [], h => by cases h
  | y :: T, h => by
    rw [lookR_cons] at h
    cases h1 : Nat.ble r y.2.1 with
    | false =>
      rw [h1] at h
      have := lookR_some (T := T) h
      exact ⟨by simp [this.1], this.2⟩
    | true =>
      rw [h1] at h
      cases h2 : Nat.ble y.1 r with
      | false => rw [h2] at h; cases h
      | true =>
        rw [h2] at h
        cases h
        exact ⟨by simp, Nat.le_of_ble_eq_true h2, Nat.le_of_ble_eq_true h1⟩
theorem lookR_at {r : Nat} : ∀ {T : List CaseRow} {i : Nat} (hi : i < T.length), (∀ j (h : j < i), (T[j]'(by omega)).2.1 < r) → T[i].1 ≤ r → r ≤ T[i].2.1 → lookR r T = some T[i]
  | [], i, hi, _, _, _ => by simp at hi
  | x :: T, 0, hi, _, h1, h2 => by
    simp only [List.getElem_cons_zero] at h1 h2
    rw [lookR_cons, Nat.ble_eq_true_of_le h2, Nat.ble_eq_true_of_le h1]; rfl
  | x :: T, i + 1, hi, hlt, h1, h2 => by
    have hx : Nat.ble r x.2.1 = false := by
      cases e : Nat.ble r x.2.1 with
      | false => rfl
      | true =>
        have := Nat.le_of_ble_eq_true e
        have h0 := hlt 0 (by omega)
        simp at h0
        omega
    rw [lookR_cons, hx]
    exact lookR_at (T := T) (i := i) (by simpa using hi) (fun j hj => by have := hlt (j + 1) (by omega); simpa using this) (by simpa using h1) (by simpa using h2)
theorem sorted_next {α : Type} (f g : α → Nat) : ∀ (T : List α), (T.zip (T.drop 1)).all (fun x => Nat.blt (f x.1) (g x.2)) = true → ∀ i (hi : i + 1 < T.length), f T[i] < g T[i + 1]
  | [], _, i, hi => by simp at hi
  | [x], _, i, hi => by simp at hi
  | x :: y :: T, h, i, hi => by
    simp only [List.drop_succ_cons, List.drop_zero, List.zip_cons_cons, List.all_cons, Bool.and_eq_true] at h
    cases i with
    | zero =>
      have := Nat.le_of_ble_eq_true h.1
      exact this
    | succ i =>
      have := sorted_next f g (y :: T) (by simpa using h.2) i (by simpa using hi)
      simpa using this
theorem sorted_lt {α : Type} (f g : α → Nat) (T : List α) (h : (T.zip (T.drop 1)).all (fun x => Nat.blt (f x.1) (g x.2)) = true) (hle : ∀ x ∈ T, g x ≤ f x) : ∀ j (hj : j < T.length) i (hi : i < j), f T[i] < g T[j] := by
  intro j
  induction j with
  | zero => intro _ i hi; omega
  | succ j ih =>
    intro hj i hi
    have h1 := sorted_next f g T h j hj
    rcases Nat.lt_or_ge i j with hij | hij
    · have h2 := ih (by omega) i hij
      have h3 := hle T[j] (List.getElem_mem _)
      omega
    · obtain rfl : i = j := by omega
      exact h1
theorem orbit_lt {i j : Nat} (hj : j < orbitT.length) (hi : i < j) : (orbitT[i]'(by omega)).1 < orbitT[j].1 := sorted_lt (fun x => x.1) (fun x => x.1) orbitT sorted_orb (fun _ _ => Nat.le_refl _) j hj i hi
theorem row_le {x : CaseRow} (hx : x ∈ caseT) : x.1 ≤ x.2.1 ∧ x.2.1 ≤ 1114111 := by
  have := List.all_eq_true.1 rows_le x hx
  rw [Bool.and_eq_true] at this
  exact ⟨Nat.le_of_ble_eq_true this.1, Nat.le_of_ble_eq_true this.2⟩
set_option maxRecDepth 100000 in
theorem rows_lt {i j : Nat} (hj : j < caseT.length) (hi : i < j) : (caseT[i]'(by omega)).2.1 < caseT[j].1 := sorted_lt (fun x => x.2.1) (fun x => x.1) caseT sorted_rows (fun _ hx => (row_le hx).1) j hj i hi
theorem caseA_get {i : Nat} (hi : i < caseT.length) : caseA.getD i (0, 0, 0, 0, 0) = caseT[i] := by simp [caseA, Array.getD, hi]
theorem caseA_len : caseA.size = caseT.length := by simp [caseA]
theorem lookupIdx_none (r : Int) : ∀ (f lo hi : Nat), hi ≤ caseT.length → hi < f + lo → lookupIdx caseA r f lo hi = none → ∀ i (h : i < caseT.length), lo ≤ i → i < hi → ¬ ((caseT[i].1 : Int) ≤ r ∧ r ≤ (caseT[i].2.1 : Int))
  | 0, lo, hi, _, hf, _, i, _, h1, h2 => by omega
  | f + 1, lo, hi, hs, hf, h, i, hi', h1, h2 => by
    unfold lookupIdx at h
    rw [if_pos (by omega)] at h
    have hm : (lo + hi) / 2 < caseT.length := by omega
    rw [caseA_get hm] at h
    split at h
    · cases h
    · rename_i hnot
      intro hin
      split at h
      · rename_i hlt
        rcases Nat.lt_or_ge i ((lo + hi) / 2) with hc | hc
        · exact lookupIdx_none r f lo ((lo + hi) / 2) (by omega) (by omega) h i hi' h1 hc hin
        · rcases Nat.eq_or_lt_of_le hc with rfl | hc
          · exact hnot hin
          · have := rows_lt hi' hc
            have h3 := (row_le (List.getElem_mem hm)).1
            omega
      · rename_i hge
        rcases Nat.lt_or_ge ((lo + hi) / 2) i with hc | hc
        · exact lookupIdx_none r f ((lo + hi) / 2 + 1) hi hs (by omega) h i hi' (by omega) h2 hin
        · rcases Nat.eq_or_lt_of_le hc with hc | hc
          · subst hc
            exact hnot hin
          · have := rows_lt hm hc
            omega
/-! ### What the searches tell -/
theorem sfold_ascii {r : Nat} (h : r < 128) : sfold r = asciiF r := by
  have : Nat.ble 128 r = false := by
    cases e : Nat.ble 128 r with
    | false => rfl
    | true => have := Nat.le_of_ble_eq_true e; omega
  unfold sfold; rw [this]; rfl
theorem sfold_orbit {r i : Nat} (h : 128 ≤ r) (hi : i < orbitT.length) (hr : orbitT[i].1 = r) : sfold r = orbitT[i].2 := by
  have e : orb r = some orbitT[i].2 := lookO_at hi hr fun j hj => by have := orbit_lt hi hj; omega
  unfold sfold; rw [Nat.ble_eq_true_of_le h, e]; rfl
theorem sfold_row {r i : Nat} (h : 128 ≤ r) (ho : ∀ x ∈ orbitT, x.1 ≠ r) (hi : lookupIdx caseA (r : Int) (caseA.size + 1) 0 caseA.size = some i) : sfold r = (rowFold r (caseA.getD i (0, 0, 0, 0, 0))).toNat ∧ i < caseT.length := by
  obtain ⟨h1, h2, h3⟩ := lookupIdx_some caseA (r : Int) _ _ _ i hi
  rw [caseA_len] at h1
  rw [caseA_get h1] at h2 h3 ⊢
  have e : rowOf r = some caseT[i] := lookR_at h1 (fun j hj => by have := rows_lt h1 hj; omega) (by omega) (by omega)
  refine ⟨?_, h1⟩
  have eo : orb r = none := lookO_none_of ho
  unfold sfold; rw [Nat.ble_eq_true_of_le h, eo, e]; rfl
theorem sfold_none {r : Nat} (h : 128 ≤ r) (ho : ∀ x ∈ orbitT, x.1 ≠ r) (hi : lookupIdx caseA (r : Int) (caseA.size + 1) 0 caseA.size = none) : sfold r = r := by
  have eo : orb r = none := lookO_none_of ho
  have e : rowOf r = none := by
    cases e : rowOf r with
    | none => rfl
    | some x =>
      obtain ⟨hm, h1, h2⟩ := lookR_some (T := caseT) e
      obtain ⟨j, hj, rfl⟩ := List.mem_iff_getElem.1 hm
      rw [caseA_len] at hi
      exact absurd ⟨by omega, by omega⟩ (lookupIdx_none (r : Int) _ _ _ (Nat.le_refl _) (by omega) hi j hj (Nat.zero_le _) hj)
  unfold sfold; rw [Nat.ble_eq_true_of_le h, eo, e]; rfl
/-! ### Orbits -/
theorem sfold_out {x : Nat} (h : x ∉ cased) : sfold x = x := by
  unfold cased at h
  simp only [List.mem_append, not_or] at h
  obtain ⟨⟨h0, h1⟩, h2⟩ := h
  have hx : 128 ≤ x := by
    rw [List.mem_range] at h0
    omega
  have eo : orb x = none := lookO_none_of fun y hy e => h1 (by rw [← e]; exact List.mem_map.2 ⟨y, hy, rfl⟩)
  have e : rowOf x = none := by
    cases e : rowOf x with
    | none => rfl
    | some y =>
      obtain ⟨hm, h3, h4⟩ := lookR_some (T := caseT) e
      exact absurd (List.mem_flatMap.2 ⟨y, hm, by rw [List.mem_range']; exact ⟨x - y.1, by omega, by omega⟩⟩) h2
  unfold sfold; rw [Nat.ble_eq_true_of_le hx, eo, e]; rfl
theorem okF_all (x : Nat) : okF x = true := by
  by_cases h : x ∈ cased
  · exact List.all_eq_true.1 cased_all x h
  · have e := sfold_out h
    unfold okF
    simp only [force_eq, e, Nat.beq_refl, cond_true]
theorem okF_spec (x : Nat) : (sfold (sfold x) = x ∨ sfold (sfold (sfold x)) = x ∨ sfold (sfold (sfold (sfold x))) = x) ∧ (x < sfold (sfold x) → sfold x < sfold (sfold x)) ∧
    (x < sfold (sfold (sfold x)) → sfold (sfold x) ≠ x → sfold x < sfold (sfold (sfold x)) ∧ sfold (sfold x) < sfold (sfold (sfold x))) := by
  have h := okF_all x
  unfold okF at h
  simp only [force_eq] at h
  have hblt : ∀ a b : Nat, Nat.blt a b = decide (a < b) := fun a b => by
    unfold Nat.blt
    cases e : Nat.ble (a + 1) b with
    | true => have := Nat.le_of_ble_eq_true e; simp; omega
    | false =>
      have : ¬ a + 1 ≤ b := fun h => by rw [Nat.ble_eq_true_of_le h] at e; cases e
      simp; omega
  have hbeq : ∀ a b : Nat, Nat.beq a b = decide (a = b) := fun a b => by
    cases e : Nat.beq a b with
    | true => have := Nat.eq_of_beq_eq_true e; simp [this]
    | false => have := Nat.ne_of_beq_eq_false e; simp [this]
  simp only [hblt, hbeq] at h
  by_cases h1 : sfold (sfold x) = x
  · exact ⟨.inl h1, fun h => by omega, fun _ h => absurd h1 h⟩
  · simp only [h1, decide_false, cond_false] at h
    by_cases h2 : sfold (sfold (sfold x)) = x
    · simp only [h2, decide_true, cond_true, Bool.or_eq_true, Bool.not_eq_true', decide_eq_false_iff_not, decide_eq_true_eq] at h
      exact ⟨.inr (.inl h2), fun h' => by omega, fun h' => by omega⟩
    · simp only [h2, decide_false, cond_false, Bool.and_eq_true, Bool.or_eq_true, Bool.not_eq_true', decide_eq_false_iff_not, decide_eq_true_eq] at h
      refine ⟨.inr (.inr h.1.1), fun h' => by omega, fun h' _ => by omega⟩
/-- so many steps on -/
noncomputable def it : Nat → Nat → Nat
  | 0, x => x
  | k + 1, x => it k (sfold x)
theorem it_add : ∀ (j k x : Nat), it (j + k) x = it k (it j x)
  | 0, k, x => by rw [Nat.zero_add]; rfl
  | j + 1, k, x => by rw [show j + 1 + k = (j + k) + 1 by omega]; exact it_add j k (sfold x)
theorem it_succ (j x : Nat) : it (j + 1) x = sfold (it j x) := it_add j 1 x
theorem it_mul {n x : Nat} (h : it n x = x) : ∀ m, it (m * n) x = x
  | 0 => by rw [Nat.zero_mul]; rfl
  | m + 1 => by rw [Nat.succ_mul, it_add, it_mul h m, h]
theorem it_cyc (x : Nat) : ∃ n, 2 ≤ n ∧ n ≤ 4 ∧ it n x = x := by
  rcases (okF_spec x).1 with h | h | h
  · exact ⟨2, by omega, by omega, h⟩
  · exact ⟨3, by omega, by omega, h⟩
  · exact ⟨4, by omega, by omega, h⟩
theorem it12 (x : Nat) : it 12 x = x := by
  rcases (okF_spec x).1 with h | h | h
  · exact it_mul (n := 2) h 6
  · exact it_mul (n := 3) h 4
  · exact it_mul (n := 4) h 3
/-- two code points that are equal under simple folding -/
def sameO (x y : Nat) : Prop := ∃ k, it k x = y
theorem sameO.refl (x : Nat) : sameO x x := ⟨0, rfl⟩
theorem sameO.symm {x y : Nat} : sameO x y → sameO y x := fun ⟨k, h⟩ => ⟨11 * k, by
  rw [← h, ← it_add, show k + 11 * k = k * 12 by omega]
  exact it_mul (it12 x) k⟩
theorem sameO.trans {x y z : Nat} : sameO x y → sameO y z → sameO x z := fun ⟨j, h⟩ ⟨k, h'⟩ => ⟨j + k, by rw [it_add, h, h']⟩
theorem sameO_iff (x y : Nat) : sameO x y ↔ (y = x ∨ y = sfold x ∨ y = sfold (sfold x) ∨ y = sfold (sfold (sfold x))) := by
  constructor
  · rintro ⟨k, rfl⟩
    obtain ⟨n, h2, h4, hn⟩ := it_cyc x
    have e : it k x = it (k % n) x := by
      conv => lhs; rw [← Nat.div_add_mod k n, it_add, Nat.mul_comm, it_mul hn]
    have hlt := Nat.mod_lt k (show 0 < n by omega)
    rw [e]
    generalize k % n = m at hlt
    match m, (show m < 4 by omega) with
    | 0, _ => exact .inl rfl
    | 1, _ => exact .inr (.inl rfl)
    | 2, _ => exact .inr (.inr (.inl rfl))
    | 3, _ => exact .inr (.inr (.inr rfl))
  · rintro (h | h | h | h)
    · exact ⟨0, h.symm⟩
    · exact ⟨1, h.symm⟩
    · exact ⟨2, h.symm⟩
    · exact ⟨3, h.symm⟩
noncomputable def foldB (x y : Nat) : Bool := Nat.beq y x || Nat.beq y (sfold x) || Nat.beq y (sfold (sfold x)) || Nat.beq y (sfold (sfold (sfold x)))
theorem foldB_iff (x y : Nat) : foldB x y = true ↔ sameO x y := by
  have hb : ∀ a b : Nat, Nat.beq a b = true ↔ a = b := fun a b => ⟨Nat.eq_of_beq_eq_true, fun h => by rw [h]; exact Nat.beq_refl b⟩
  rw [sameO_iff]
  unfold foldB
  simp only [Bool.or_eq_true, hb, or_assoc]
theorem foldB_refl (x : Nat) : foldB x x = true := (foldB_iff x x).2 (sameO.refl x)
theorem foldB_symm (x y : Nat) : foldB x y = foldB y x := by
  rw [Bool.eq_iff_iff, foldB_iff, foldB_iff]
  exact ⟨sameO.symm, sameO.symm⟩
theorem foldB_trans {x y z : Nat} (h1 : foldB x y = true) (h2 : foldB y z = true) : foldB x z = true := (foldB_iff x z).2 (((foldB_iff x y).1 h1).trans ((foldB_iff y z).1 h2))
/-- one that stands alone -/
theorem foldB_alone {x y : Nat} (hx : sfold x = x) : foldB x y = true ↔ y = x := by
  rw [foldB_iff, sameO_iff, hx, hx, hx]
  simp
/-! ### The loop that looks for y in the orbit of x -/
def LoopAt (x y j r : Nat) : Prop := r = it j x ∧ 1 ≤ j ∧ j ≤ 4 ∧ ∀ i, 0 < i → i < j → it i x ≠ x ∧ it i x < y
theorem LoopAt.start (x y : Nat) : LoopAt x y 1 (sfold x) := ⟨rfl, by omega, by omega, fun i h1 h2 => by omega⟩
theorem LoopAt.next {x y j r : Nat} (h : LoopAt x y j r) (h1 : r ≠ x) (h2 : r < y) : j < 4 ∧ LoopAt x y (j + 1) (sfold r) := by
  obtain ⟨hr, hj1, hj4, hi⟩ := h
  have hj : j < 4 := by
    rcases Nat.lt_or_ge j 4 with h | h
    · exact h
    · exfalso
      obtain rfl : j = 4 := by omega
      obtain ⟨n, n2, n4, hn⟩ := it_cyc x
      rcases Nat.lt_or_ge n 4 with h4 | h4
      · exact (hi n (by omega) h4).1 hn
      · obtain rfl : n = 4 := by omega
        exact h1 (hr.trans hn)
  refine ⟨hj, by rw [it_succ, ← hr], by omega, by omega, fun i h0 h3 => ?_⟩
  rcases Nat.lt_or_ge i j with h | h
  · exact hi i h0 h
  · obtain rfl : i = j := by omega
    rw [← hr]
    exact ⟨h1, h2⟩
theorem LoopAt.end_ {x y j r : Nat} (hxy : x < y) (h : LoopAt x y j r) (he : r = x ∨ y ≤ r) : foldB x y = decide (r = y) := by
  obtain ⟨hr, hj1, hj4, hi⟩ := h
  rw [Bool.eq_iff_iff, foldB_iff, decide_eq_true_eq]
  constructor
  · intro hs
    rw [sameO_iff] at hs
    obtain ⟨_, q2, q3⟩ := okF_spec x
    have e1 : it 1 x = sfold x := rfl
    have e2 : it 2 x = sfold (sfold x) := rfl
    have e3 : it 3 x = sfold (sfold (sfold x)) := rfl
    have e4 : it 4 x = sfold (sfold (sfold (sfold x))) := rfl
    have f1 : sfold x = x → sfold (sfold x) = x ∧ sfold (sfold (sfold x)) = x := fun h => by rw [h, h, h]; exact ⟨rfl, rfl⟩
    have f2 : sfold (sfold x) = x → sfold (sfold (sfold x)) = sfold x := fun h => by rw [h]
    have i1 := hi 1
    have i2 := hi 2
    have i3 := hi 3
    rw [e1] at i1
    rw [e2] at i2
    rw [e3] at i3
    generalize sfold (sfold (sfold x)) = c at *
    generalize sfold (sfold x) = b at *
    generalize sfold x = a at *
    have hj : j = 1 ∨ j = 2 ∨ j = 3 ∨ j = 4 := by omega
    rcases hj with rfl | rfl | rfl | rfl
    · rw [e1] at hr
      omega
    · rw [e2] at hr
      omega
    · rw [e3] at hr
      omega
    · omega
  · rintro rfl
    exact ⟨j, hr.symm⟩
/-! ### ASCII, white space, the stroke -/
theorem ascii_check : ((List.range 128).all fun x => (List.range 128).all fun y => !Nat.blt x y || (foldB x y == (Nat.ble 65 x && Nat.ble x 90 && Nat.beq y (x + 32)))) = true := by decide +kernel
theorem fold_ascii {x y : Nat} (hxy : x < y) (hy : y < 128) : foldB x y = decide (65 ≤ x ∧ x ≤ 90 ∧ y = x + 32) := by
  have h := List.all_eq_true.1 (List.all_eq_true.1 ascii_check x (by rw [List.mem_range]; omega)) y (by rw [List.mem_range]; omega)
  have hb : Nat.blt x y = true := Nat.ble_eq_true_of_le hxy
  rw [hb] at h
  have e := eq_of_beq (show (foldB x y == (Nat.ble 65 x && Nat.ble x 90 && Nat.beq y (x + 32))) = true by simpa using h)
  rw [e, Bool.eq_iff_iff, decide_eq_true_eq, Bool.and_eq_true, Bool.and_eq_true]
  constructor
  · rintro ⟨⟨h1, h2⟩, h3⟩
    exact ⟨Nat.le_of_ble_eq_true h1, Nat.le_of_ble_eq_true h2, Nat.eq_of_beq_eq_true h3⟩
  · rintro ⟨h1, h2, h3⟩
    exact ⟨⟨Nat.ble_eq_true_of_le h1, Nat.ble_eq_true_of_le h2⟩, by rw [h3]; exact Nat.beq_refl _⟩
theorem stroke_alone : sfold 124 = 124 := by decide +kernel
theorem rowFold_bounds {r : Nat} {x : CaseRow} (hx : x ∈ caseT) (h1 : x.1 ≤ r) (h2 : r ≤ x.2.1) (c : Nat) (hc : c < 3) : 0 ≤ convertR c r x ∧ convertR c r x < 2147483648 := by
  have hf := List.all_eq_true.1 rowsFit x hx
  have hw := convert_fits x hf c hc (r : Int) (by omega) (by omega)
  have hlt : convertR c r x < 2147483648 := by rw [← hw]; unfold RowKit.wrap32; omega
  refine ⟨?_, hlt⟩
  simp only [rowFits, Bool.and_eq_true, decide_eq_true_eq, List.all_cons, List.all_nil, Bool.or_eq_true, Bool.and_true] at hf
  obtain ⟨⟨g1, g2⟩, d0, d1, d2⟩ := hf
  have hd : x.delta c > 1114111 ∨ (0 ≤ (x.1 : Int) + x.delta c ∧ (x.2.1 : Int) + x.delta c < 2147483648) := by
    match c, hc with
    | 0, _ => exact d0
    | 1, _ => exact d1
    | 2, _ => exact d2
  unfold convertR
  split
  · omega
  · omega
end Go.Proofs.YtkglbkgbgajbkaaDoor
