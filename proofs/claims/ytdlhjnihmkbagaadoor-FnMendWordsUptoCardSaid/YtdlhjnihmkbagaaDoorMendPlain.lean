/- Plain law: a text with a replacement for each run of bytes that are no UTF-8. Conditions: none. -/
import Derived.Test.YtdlhjnihmkbagaaDoorJoinPlain
import Derived.Test.YtdlhjnihmkbagaaDoorFieldsIt
namespace Go.Proofs.YtdlhjnihmkbagaaDoor
open Go Go.Lib

/-- from here on; whether the piece before was bad -/
def md (rep : List UInt8) : Bool → List Pc → List UInt8
  | _, [] => []
  | bad, q :: P => if badP q then (if bad then [] else rep) ++ md rep true P else q.2 ++ md rep false P
/-- whether the last piece was bad -/
def mdEnd : Bool → List Pc → Bool
  | bad, [] => bad
  | _, q :: P => mdEnd (decide (badP q)) P
def mended (rep x : List UInt8) : List UInt8 := md rep false (pcs x)
theorem md_append (rep : List UInt8) : ∀ (A : List Pc) (b : Bool) (B : List Pc), md rep b (A ++ B) = md rep b A ++ md rep (mdEnd b A) B
  | [], b, B => rfl
  | q :: A, b, B => by
    simp only [List.cons_append, md, mdEnd]
    by_cases h : badP q
    · simp only [h, if_true, decide_true, md_append rep A, List.append_assoc]
    · simp only [h, if_false, decide_false, md_append rep A, List.append_assoc]
theorem mdEnd_append : ∀ (A : List Pc) (b : Bool) (B : List Pc), mdEnd b (A ++ B) = mdEnd (mdEnd b A) B
  | [], _, _ => rfl
  | _ :: A, _, B => mdEnd_append A _ B
theorem mdEnd_snoc (A : List Pc) (b : Bool) (q : Pc) : mdEnd b (A ++ [q]) = decide (badP q) := by rw [mdEnd_append]; rfl
theorem md_snoc (rep : List UInt8) (A : List Pc) (b : Bool) (q : Pc) : md rep b (A ++ [q]) = md rep b A ++ (if badP q then (if mdEnd b A then [] else rep) else q.2) := by
  rw [md_append]
  congr 1
  simp only [md]
  split <;> simp
theorem md_good (rep : List UInt8) : ∀ (P : List Pc) (b : Bool), (∀ q ∈ P, ¬ badP q) → md rep b P = flat P ∧ (P ≠ [] → mdEnd b P = false)
  | [], _, _ => ⟨rfl, fun h => absurd rfl h⟩
  | q :: P, b, h => by
    have hq := h q (by simp)
    obtain ⟨h1, h2⟩ := md_good rep P (decide (badP q)) (fun x hx => h x (by simp [hx]))
    refine ⟨?_, fun _ => ?_⟩
    · simp only [md, hq, if_false, flat_cons]
      rw [← h1]
      simp [hq]
    · simp only [mdEnd]
      by_cases hP : P = []
      · subst hP; simp [mdEnd, hq]
      · exact h2 hP
theorem mended_good {x : List UInt8} (rep : List UInt8) (h : ∀ q ∈ pcs x, ¬ badP q) : mended rep x = x := by
  unfold mended
  rw [(md_good rep _ _ h).1, flat_pcs]
/-! ### How long -/
def runs : Bool → List Pc → Nat
  | _, [] => 0
  | bad, q :: P => if badP q then (if bad then 0 else 1) + runs true P else runs false P
theorem md_len (rep : List UInt8) : ∀ (P : List Pc) (b : Bool), (md rep b P).length = (md [] b P).length + runs b P * rep.length
  | [], _ => by simp [md, runs]
  | q :: P, b => by
    simp only [md, runs]
    by_cases h : badP q
    · simp only [h, if_true, List.length_append, md_len rep P true]
      cases b
      · simp only [if_false, Bool.false_eq_true, List.length_nil]
        rw [Nat.add_mul]; omega
      · simp
    · simp only [h, if_false, List.length_append, md_len rep P false]
      omega
theorem mended_len (rep x : List UInt8) : (mended rep x).length = (mended [] x).length + runs false (pcs x) * rep.length := md_len rep _ _
theorem runs_le : ∀ (P : List Pc) (b : Bool), (∀ q ∈ P, q.2 ≠ []) → runs b P + (md [] b P).length ≤ (flat P).length
  | [], _, _ => by simp [runs, md]
  | q :: P, b, h => by
    have hq := List.length_pos_iff.2 (h q (by simp))
    have h1 := fun b => runs_le P b (fun x hx => h x (by simp [hx]))
    simp only [runs, md, flat_cons, List.length_append]
    by_cases hb : badP q
    · have := h1 true
      simp only [hb, if_true]
      cases b <;> simp <;> omega
    · have := h1 false
      simp only [hb, if_false, List.length_append]
      omega
theorem mended_le (rep x : List UInt8) : (mended rep x).length ≤ x.length + x.length * rep.length := by
  have h := runs_le (pcs x) false (fun q hq => pcs_pos q hq)
  rw [flat_pcs] at h
  rw [mended_len]
  have h2 : runs false (pcs x) * rep.length ≤ x.length * rep.length := Nat.mul_le_mul_right _ (by omega)
  have h3 : (mended [] x).length = (md [] false (pcs x)).length := rfl
  omega
theorem runs_append : ∀ (A : List Pc) (b : Bool) (B : List Pc), runs b (A ++ B) = runs b A + runs (mdEnd b A) B
  | [], b, B => by simp [runs, mdEnd]
  | q :: A, b, B => by
    simp only [List.cons_append, runs, mdEnd]
    by_cases h : badP q
    · simp only [h, if_true, decide_true, runs_append A true B]; omega
    · simp only [h, if_false, decide_false, runs_append A false B]
theorem runs_good : ∀ (P : List Pc) (b : Bool), (∀ q ∈ P, ¬ badP q) → runs b P = 0
  | [], _, _ => rfl
  | q :: P, b, h => by
    simp only [runs, h q (by simp), if_false]
    exact runs_good P false (fun x hx => h x (by simp [hx]))
theorem runs_len (x : List UInt8) : runs false (pcs x) ≤ x.length := by
  have h := runs_le (pcs x) false (fun q hq => pcs_pos q hq)
  rw [flat_pcs] at h
  omega
/-! ### Side by side -/
theorem mended_between {b : List UInt8} (hb : b ≠ []) (hg : ∀ q ∈ pcs b, ¬ badP q) (rep x y : List UInt8) : mended rep (x ++ (b ++ y)) = mended rep x ++ (b ++ mended rep y) := by
  unfold mended
  rw [pcs_append_fresh _ (fresh_app hb (good_fresh hg)), pcs_append_good _ _ hg, md_append, md_append]
  have hne : pcs b ≠ [] := by rw [pcs_cons hb]; simp
  have h := md_good rep (pcs b) (mdEnd false (pcs x)) hg
  rw [h.1, h.2 hne, flat_pcs]
theorem runs_between {b : List UInt8} (hb : b ≠ []) (hg : ∀ q ∈ pcs b, ¬ badP q) (x y : List UInt8) : runs false (pcs (x ++ (b ++ y))) = runs false (pcs x) + runs false (pcs y) := by
  rw [pcs_append_fresh _ (fresh_app hb (good_fresh hg)), pcs_append_good _ _ hg, runs_append, runs_append, runs_good _ _ hg, (md_good [] (pcs b) _ hg).2 (by rw [pcs_cons hb]; simp)]
  omega
theorem mended_many {b : List UInt8} (hb : b ≠ []) (hg : ∀ q ∈ pcs b, ¬ badP q) (rep : List UInt8) : ∀ (r : List (List UInt8)) (x : List UInt8), mended rep (x ++ r.flatMap (b ++ ·)) = mended rep x ++ (r.map (mended rep)).flatMap (b ++ ·)
  | [], x => by simp
  | y :: r, x => by
    simp only [List.flatMap_cons, List.map_cons, List.append_assoc]
    rw [mended_between hb hg, mended_many hb hg rep r y]
theorem good_flatten : ∀ (L : List (List UInt8)), (∀ x ∈ L, ∀ q ∈ pcs x, ¬ badP q) → ∀ q ∈ pcs L.flatten, ¬ badP q
  | [], _, q, hq => by simp [pcs_nil] at hq
  | x :: L, h, q, hq => by
    rw [List.flatten_cons, pcs_append_good _ _ (h x (by simp))] at hq
    rcases List.mem_append.1 hq with h' | h'
    · exact h x (by simp) q h'
    · exact good_flatten L (fun y hy => h y (by simp [hy])) q h'

/-! ### On the way through a text -/
/-- the pieces D are behind: what is there, where it stands, whether the last one was bad -/
def MIs (rep : List UInt8) (s : ByteArray) (b0 : List UInt8) (out : List UInt8) (i : Nat) (bad : Bool) : Prop :=
  ∃ D P : List Pc, pcsB s = D ++ P ∧ i = (flat D).length ∧ out = b0 ++ md rep false D ∧ bad = mdEnd false D
theorem MIs.start (rep : List UInt8) (s : ByteArray) (b0 : List UInt8) : MIs rep s b0 b0 0 false := ⟨[], pcsB s, rfl, rfl, by simp [md], rfl⟩
theorem MIs.le {rep : List UInt8} {s : ByteArray} {b0 out : List UInt8} {i : Nat} {bad : Bool} (h : MIs rep s b0 out i bad) : i ≤ s.size := by
  obtain ⟨D, P, h1, rfl, _, _⟩ := h
  have h0 := size_flat s
  rw [h1, flat_append, List.length_append] at h0
  omega
theorem MIs.len {rep : List UInt8} {s : ByteArray} {b0 out : List UInt8} {i : Nat} {bad : Bool} (h : MIs rep s b0 out i bad) : out.length ≤ b0.length + (s.size + runs false (pcsB s) * rep.length) := by
  have hle := h.le
  obtain ⟨D, P, h1, rfl, rfl, _⟩ := h
  have hpos : ∀ q ∈ D, q.2 ≠ [] := fun q hq => pcs_pos q (show q ∈ pcs s.data.toList by rw [show pcs s.data.toList = D ++ P from h1]; simp [hq])
  have h2 := runs_le D false hpos
  have h3 := md_len rep D false
  have h5 : runs false D ≤ runs false (pcsB s) := by rw [h1, runs_append]; omega
  have h4 : runs false D * rep.length ≤ runs false (pcsB s) * rep.length := Nat.mul_le_mul_right _ h5
  rw [List.length_append]
  omega
theorem MIs.more {rep : List UInt8} {s : ByteArray} {b0 out : List UInt8} {i : Nat} {bad : Bool} (h : MIs rep s b0 out i bad) (hi : i < s.size) :
    ∃ q : Pc, decodeGo (s.extract i s.size) = (q.1, q.2.length) ∧ 1 ≤ q.2.length ∧ i + q.2.length ≤ s.size ∧ s.extract i (i + q.2.length) = txt q.2 ∧
      ((s.get! i).toNat < 128 → MIs rep s b0 (out ++ [s.get! i]) (i + 1) false) ∧
      (¬ (s.get! i).toNat < 128 → q.2.length = 1 → MIs rep s b0 (if bad then out else out ++ rep) (i + 1) true) ∧
      (¬ q.2.length = 1 → MIs rep s b0 (out ++ q.2) (i + q.2.length) false) := by
  obtain ⟨D, P, h1, rfl, rfl, rfl⟩ := h
  have h0 := size_flat s
  rw [h1, flat_append, List.length_append] at h0
  cases P with
  | nil => simp [flat_nil] at h0; omega
  | cons q P =>
    have hd := decode_at h1
    have hN : Norm (q :: P) := by
      have : Norm (D ++ q :: P) := by rw [← h1]; exact norm_pcs _
      exact this.right
    have hql := pc_len hN
    rw [flat_cons, List.length_append] at h0
    have hA : pcsB s = (D ++ [q]) ++ P := by rw [h1]; simp
    have hfl : (flat (D ++ [q])).length = (flat D).length + q.2.length := by rw [flat_append, flat_cons, flat_nil]; simp
    have hget : s.get! (flat D).length = q.2.getD 0 0 := by
      rw [← getD_get!]
      have : s.data.toList = flat D ++ (q.2 ++ flat P) := by
        have := flat_pcs s.data.toList
        rw [show pcs s.data.toList = D ++ q :: P from h1, flat_append, flat_cons] at this
        exact this.symm
      rw [this, getD_app_r _ _ _ (Nat.le_refl _), Nat.sub_self, getD_app_l _ _ _ (by omega)]
    have hone : q.2.length = 1 → q.2 = [q.2.getD 0 0] := fun h => by
      obtain ⟨x, hx⟩ := List.length_eq_one_iff.1 h
      rw [hx]; rfl
    refine ⟨q, hd, hql.1, by omega, mid_eq h1, ?_, ?_, ?_⟩
    · intro ha
      rw [hget] at ha ⊢
      have hq1 := pc_ascii hN ha
      have hnb : ¬ badP q := fun hb => by
        have := hb.1
        rw [hq1.1] at this
        omega
      refine ⟨D ++ [q], P, hA, by rw [hfl, hq1.2], ?_, by rw [mdEnd_snoc]; simp [hnb]⟩
      rw [md_snoc, if_neg hnb, List.append_assoc, ← hone hq1.2]
    · intro ha h1'
      rw [hget] at ha
      have hb : badP q := ⟨pc_one_bad hN h1' (by omega), h1'⟩
      refine ⟨D ++ [q], P, hA, by rw [hfl, h1'], ?_, by rw [mdEnd_snoc]; simp [hb]⟩
      rw [md_snoc, if_pos hb]
      cases mdEnd false D <;> simp
    · intro hne
      have hnb : ¬ badP q := fun hb => hne hb.2
      refine ⟨D ++ [q], P, hA, hfl.symm, ?_, by rw [mdEnd_snoc]; simp [hnb]⟩
      rw [md_snoc, if_neg hnb, List.append_assoc]
theorem MIs.end_ {rep : List UInt8} {s : ByteArray} {b0 out : List UInt8} {i : Nat} {bad : Bool} (h : MIs rep s b0 out i bad) (hi : ¬ i < s.size) : out = b0 ++ mended rep s.data.toList := by
  obtain ⟨D, P, h1, rfl, rfl, rfl⟩ := h
  have h0 := size_flat s
  rw [h1, flat_append, List.length_append] at h0
  have hP : P = [] := by
    by_cases hP : P = []
    · exact hP
    · have : 0 < (flat P).length := flat_nil_iff (fun q hq => pcs_pos q (show q ∈ pcs s.data.toList by rw [show pcs s.data.toList = D ++ P from h1]; simp [hq])) hP
      omega
  subst hP
  rw [List.append_nil] at h1
  unfold mended
  rw [show pcs s.data.toList = D from h1]
/-- good pieces ahead of a rest -/
theorem mended_ahead (rep : List UInt8) {s : ByteArray} {D P : List Pc} (h : pcsB s = D ++ P) (hg : ∀ q ∈ D, ¬ badP q) : mended rep s.data.toList = flat D ++ mended rep (flat P) := by
  have hN : Norm (D ++ P) := by rw [← h]; exact norm_pcs _
  have hP : pcs (flat P) = P := hN.right
  unfold mended
  rw [show pcs s.data.toList = D ++ P from h, md_append, (md_good rep D false hg).1, hP]
  by_cases hD : D = []
  · subst hD; rfl
  · rw [(md_good rep D false hg).2 hD]
end Go.Proofs.YtdlhjnihmkbagaaDoor
