/- Plain law: the code points of a text with their bytes, from the front and from the end; of a text that is put together of two. No program is in sight. Conditions: none. -/
import Derived.Lib.TrimUEq
import Derived.Lib.SpaceUEq
import Derived.Lib.FieldsU
namespace Go.Proofs.YtdlhjnihmkbagaaDoor
open Go Go.Lib

/-! ### The decoder, in numbers -/
set_option maxRecDepth 100000 in
set_option maxHeartbeats 4000000 in
/-- what is well-formed decodes the same whatever follows -/
theorem decodeN_good (n n' b0 b1 b2 b3 c1 c2 c3 : Nat) (hg : decodeN n b0 b1 b2 b3 ≠ (65533, 1)) (hw : (decodeN n b0 b1 b2 b3).2 ≤ n')
    (e1 : 2 ≤ (decodeN n b0 b1 b2 b3).2 → c1 = b1) (e2 : 3 ≤ (decodeN n b0 b1 b2 b3).2 → c2 = b2) (e3 : 4 ≤ (decodeN n b0 b1 b2 b3).2 → c3 = b3) :
    decodeN n' b0 c1 c2 c3 = decodeN n b0 b1 b2 b3 := by
  unfold decodeN at hg hw e1 e2 e3 ⊢
  by_cases h1 : b0 < 128
  · simp only [h1, if_true]
  · simp only [h1, if_false] at hg hw e1 e2 e3 ⊢
    by_cases h2 : b0 / 32 = 6 ∧ (1 < n ∧ b1 / 64 = 2)
    · rw [if_pos h2] at hg hw e1 e2 e3 ⊢
      split at hg
      · rename_i h3
        rw [if_pos h3] at hw e1 e2 e3 ⊢
        have := e1 (by omega)
        subst c1
        rw [if_pos (by simp only at hw; omega), if_pos h3]
      · exact absurd rfl hg
    · rw [if_neg h2] at hg hw e1 e2 e3 ⊢
      by_cases h3 : b0 / 16 = 14 ∧ (1 < n ∧ b1 / 64 = 2) ∧ (2 < n ∧ b2 / 64 = 2)
      · rw [if_pos h3] at hg hw e1 e2 e3 ⊢
        split at hg
        · rename_i h4
          rw [if_pos h4] at hw e1 e2 e3 ⊢
          have := e1 (by omega)
          have := e2 (by omega)
          subst c1 c2
          rw [if_neg (by omega), if_pos (by simp only at hw; omega), if_pos h4]
        · exact absurd rfl hg
      · rw [if_neg h3] at hg hw e1 e2 e3 ⊢
        by_cases h4 : b0 / 8 = 30 ∧ (1 < n ∧ b1 / 64 = 2) ∧ (2 < n ∧ b2 / 64 = 2) ∧ (3 < n ∧ b3 / 64 = 2)
        · rw [if_pos h4] at hg hw e1 e2 e3 ⊢
          split at hg
          · rename_i h5
            rw [if_pos h5] at hw e1 e2 e3 ⊢
            have := e1 (by omega)
            have := e2 (by omega)
            have := e3 (by omega)
            subst c1 c2 c3
            rw [if_neg (by omega), if_neg (by omega), if_pos (by simp only at hw; omega), if_pos h5]
          · exact absurd rfl hg
        · rw [if_neg h4] at hg
          exact absurd rfl hg

/-- bytes that are none stay so where no more continuation bytes follow -/
theorem decodeN_bad (n n' b0 b1 b2 b3 c1 c2 c3 : Nat) (hb : decodeN n b0 b1 b2 b3 = (65533, 1)) (hn : 1 ≤ n)
    (e1 : 1 < n' → c1 / 64 = 2 → 1 < n ∧ c1 = b1) (e2 : 2 < n' → c1 / 64 = 2 → c2 / 64 = 2 → 2 < n ∧ c2 = b2) (e3 : 3 < n' → c1 / 64 = 2 → c2 / 64 = 2 → c3 / 64 = 2 → 3 < n ∧ c3 = b3) :
    decodeN n' b0 c1 c2 c3 = (65533, 1) := by
  by_cases hg : decodeN n' b0 c1 c2 c3 = (65533, 1)
  · exact hg
  · exfalso
    obtain ⟨k1, k2, k3, k4⟩ := decodeN_conts n' b0 c1 c2 c3
    have g := decodeN_good n' n b0 c1 c2 c3 b1 b2 b3 hg (by
      have hge := decodeN_ge1 n' b0 c1 c2 c3
      rcases Nat.lt_or_ge (decodeN n' b0 c1 c2 c3).2 2 with h | h
      · omega
      · have a1 := k1 h
        have f1 := e1 a1.2 a1.1
        rcases Nat.lt_or_ge (decodeN n' b0 c1 c2 c3).2 3 with h' | h'
        · omega
        · have a2 := k2 h'
          have f2 := e2 a2.2 a1.1 a2.1
          rcases Nat.lt_or_ge (decodeN n' b0 c1 c2 c3).2 4 with h'' | h''
          · omega
          · have a3 := k3 h''
            have f3 := e3 a3.2 a1.1 a2.1 a3.1
            omega)
      (fun h => ((e1 (k1 h).2 (k1 h).1).2).symm) (fun h => ((e2 (k2 h).2 (k1 (by omega)).1 (k2 h).1).2).symm) (fun h => ((e3 (k3 h).2 (k1 (by omega)).1 (k2 (by omega)).1 (k3 h).1).2).symm)
    rw [hb] at g
    exact hg g.symm

/-! ### The decoder, at lists -/
def badD (l : List UInt8) : Prop := decodeL l = (65533, 1)
instance (l : List UInt8) : Decidable (badD l) := inferInstanceAs (Decidable (_ = _))
theorem width_le (l : List UInt8) (h : l ≠ []) : (decodeL l).2 ≤ l.length := by
  rw [decodeL_N]; exact decodeN_le_n' _ _ _ _ _ (List.length_pos_iff.2 h)
theorem width_ge (l : List UInt8) : 1 ≤ (decodeL l).2 := decodeL_width l
theorem getD_app_l (a b : List UInt8) (k : Nat) (h : k < a.length) : (a ++ b).getD k 0 = a.getD k 0 := by
  simp [List.getD, List.getElem?_append_left h]

theorem decodeL_good {l : List UInt8} (hl : l ≠ []) (hg : ¬ badD l) (t : List UInt8) : decodeL (l.take (decodeL l).2 ++ t) = decodeL l := by
  have hw := width_le l hl
  have hge := width_ge l
  have e : ∀ k, k < (decodeL l).2 → (l.take (decodeL l).2 ++ t).getD k 0 = l.getD k 0 := by
    intro k hk
    rw [getD_app_l _ _ _ (by rw [List.length_take]; omega), getD_takeU _ _ _ hk]
  have e0 := e 0 (by omega)
  generalize hl' : l.take (decodeL l).2 ++ t = l' at *
  have hlen : (decodeL l).2 ≤ l'.length := by rw [← hl', List.length_append, List.length_take]; omega
  clear hl'
  unfold badD at hg
  rw [decodeL_N] at hg hw e hlen hge
  rw [decodeL_N l', decodeL_N l, e0]
  exact decodeN_good _ _ _ _ _ _ _ _ _ hg hlen (fun h => by rw [e 1 (by omega)]) (fun h => by rw [e 2 (by omega)]) (fun h => by rw [e 3 (by omega)])

theorem bad_rel {x : UInt8} {r r' : List UInt8} (hb : badD (x :: r)) (h : ∀ i, i < r'.length → (∀ j, j ≤ i → (r'.getD j 0).toNat / 64 = 2) → i < r.length ∧ r'.getD i 0 = r.getD i 0) : badD (x :: r') := by
  unfold badD at hb ⊢
  rw [decodeL_N] at hb ⊢
  have g : ∀ (q : List UInt8) k, (x :: q).getD (k + 1) 0 = q.getD k 0 := fun q k => rfl
  simp only [g, List.getD_cons_zero, List.length_cons] at hb ⊢
  refine decodeN_bad _ _ _ _ _ _ _ _ _ hb (by omega) ?_ ?_ ?_
  · intro h1 h2
    have := h 0 (by omega) (fun j hj => by
      obtain rfl : j = 0 := by omega
      exact h2)
    exact ⟨by omega, by rw [this.2]⟩
  · intro h1 h2 h3
    have := h 1 (by omega) (fun j hj => by
      rcases (by omega : j = 0 ∨ j = 1) with rfl | rfl
      · exact h2
      · exact h3)
    exact ⟨by omega, by rw [this.2]⟩
  · intro h1 h2 h3 h4
    have := h 2 (by omega) (fun j hj => by
      rcases (by omega : j = 0 ∨ j = 1 ∨ j = 2) with rfl | rfl | rfl
      · exact h2
      · exact h3
      · exact h4)
    exact ⟨by omega, by rw [this.2]⟩
theorem bad_take {x : UInt8} {r : List UInt8} (hb : badD (x :: r)) (m : Nat) : badD (x :: r.take m) := by
  refine bad_rel hb fun i hi _ => ?_
  rw [List.length_take] at hi
  exact ⟨by omega, getD_takeU _ _ _ (by omega)⟩
/-- a text that does not begin with a continuation byte -/
def fresh (b : List UInt8) : Prop := b = [] ∨ (b.getD 0 0).toNat / 64 ≠ 2
theorem bad_app {x : UInt8} {r b : List UInt8} (hb : badD (x :: r)) (hf : fresh b) : badD (x :: (r ++ b)) := by
  refine bad_rel hb fun i hi hc => ?_
  rcases Nat.lt_or_ge i r.length with h | h
  · exact ⟨h, getD_app_l _ _ _ h⟩
  · exfalso
    have := hc r.length h
    rcases hf with rfl | hf
    · simp at hi; omega
    · apply hf
      have e : (r ++ b).getD r.length 0 = b.getD 0 0 := by simp only [List.getD]; rw [List.getElem?_append_right (Nat.le_refl _), Nat.sub_self]
      rw [← e]; exact this

/-! ### The pieces -/
abbrev Pc := Nat × List UInt8
def pcsF : Nat → List UInt8 → List Pc
  | 0, _ => []
  | f + 1, l => if l = [] then [] else ((decodeL l).1, l.take (decodeL l).2) :: pcsF f (l.drop (decodeL l).2)
def pcs (l : List UInt8) : List Pc := pcsF l.length l
theorem pcsF_nil (f : Nat) : pcsF f [] = [] := by cases f <;> rfl
theorem pcsF_fuel : ∀ (f g : Nat) (l : List UInt8), l.length ≤ f → l.length ≤ g → pcsF f l = pcsF g l
  | 0, g, l, h, _ => by
    obtain rfl : l = [] := List.eq_nil_of_length_eq_zero (by omega)
    rw [pcsF_nil, pcsF_nil]
  | f + 1, 0, l, _, h => by
    obtain rfl : l = [] := List.eq_nil_of_length_eq_zero (by omega)
    rw [pcsF_nil, pcsF_nil]
  | f + 1, g + 1, l, h1, h2 => by
    simp only [pcsF]
    split
    · rfl
    · have hw := width_ge l
      rw [pcsF_fuel f g (l.drop (decodeL l).2) (by rw [List.length_drop]; omega) (by rw [List.length_drop]; omega)]
theorem pcs_nil : pcs [] = [] := rfl
theorem pcs_cons {l : List UInt8} (h : l ≠ []) : pcs l = ((decodeL l).1, l.take (decodeL l).2) :: pcs (l.drop (decodeL l).2) := by
  have hl := List.length_pos_iff.2 h
  have hw := width_ge l
  conv => lhs; unfold pcs
  obtain ⟨k, hk⟩ : ∃ k, l.length = k + 1 := ⟨l.length - 1, by omega⟩
  rw [hk, pcsF, if_neg h]
  congr 1
  exact pcsF_fuel _ _ _ (by rw [List.length_drop]; omega) (Nat.le_refl _)

def flat (P : List Pc) : List UInt8 := P.flatMap fun p => p.2
theorem flat_append (P Q : List Pc) : flat (P ++ Q) = flat P ++ flat Q := by simp [flat]
theorem flat_cons (p : Pc) (Q : List Pc) : flat (p :: Q) = p.2 ++ flat Q := by simp [flat]
theorem flat_nil : flat [] = [] := rfl

theorem len_ind {motive : List UInt8 → Prop} (h : ∀ l, (∀ l', l'.length < l.length → motive l') → motive l) : ∀ l, motive l := by
  intro l
  have : ∀ n l, l.length ≤ n → motive l := by
    intro n
    induction n with
    | zero => intro l hl; exact h l (fun l' h' => absurd h' (by omega))
    | succ n ih => intro l hl; exact h l (fun l' h' => ih l' (by omega))
  exact this l.length l (Nat.le_refl _)
theorem drop_lt {l : List UInt8} (h : l ≠ []) : (l.drop (decodeL l).2).length < l.length := by
  have := width_ge l
  have := List.length_pos_iff.2 h
  rw [List.length_drop]; omega

theorem flat_pcs (l : List UInt8) : flat (pcs l) = l := by
  induction l using len_ind with
  | h l ih =>
    by_cases hl : l = []
    · subst hl; rfl
    · rw [pcs_cons hl, flat_cons, ih _ (drop_lt hl)]
      exact List.take_append_drop _ _
theorem pcs_pos {l : List UInt8} : ∀ p ∈ pcs l, p.2 ≠ [] := by
  induction l using len_ind with
  | h l ih =>
    intro p hp
    by_cases hl : l = []
    · subst hl; cases hp
    · rw [pcs_cons hl] at hp
      rcases List.mem_cons.1 hp with rfl | hp
      · intro h
        have h1 := width_ge l
        have h2 := List.length_pos_iff.2 hl
        have := congrArg List.length h
        simp only [List.length_take, List.length_nil] at this
        omega
      · exact ih _ (drop_lt hl) p hp
theorem pcs_rune {l : List UInt8} : ∀ p ∈ pcs l, p.1 ≤ 1114111 := by
  induction l using len_ind with
  | h l ih =>
    intro p hp
    by_cases hl : l = []
    · subst hl; cases hp
    · rw [pcs_cons hl] at hp
      rcases List.mem_cons.1 hp with rfl | hp
      · exact decodeL_rune l
      · exact ih _ (drop_lt hl) p hp

theorem bad_width {l : List UInt8} (h : badD l) : (decodeL l).2 = 1 := by unfold badD at h; rw [h]
/-- where the second text begins afresh, the pieces are those of both -/
theorem pcs_append_fresh (b : List UInt8) (hf : fresh b) : ∀ a : List UInt8, pcs (a ++ b) = pcs a ++ pcs b := by
  intro a
  induction a using len_ind with
  | h a ih =>
    by_cases ha : a = []
    · subst ha; simp [pcs_nil]
    · have hab : a ++ b ≠ [] := by simp [ha]
      have hw := width_le a ha
      have hdec : decodeL (a ++ b) = decodeL a := by
        by_cases hb : badD a
        · obtain ⟨x, r, rfl⟩ : ∃ x r, a = x :: r := by cases a with
            | nil => exact absurd rfl ha
            | cons x r => exact ⟨x, r, rfl⟩
          have := bad_app hb hf
          unfold badD at hb this
          rw [List.cons_append, this, hb]
        · have := decodeL_good ha hb (a.drop (decodeL a).2 ++ b)
          rw [← List.append_assoc, List.take_append_drop] at this
          exact this
      rw [pcs_cons hab, pcs_cons ha, hdec, List.take_append_of_le_length hw, List.drop_append_of_le_length hw, ih _ (drop_lt ha), List.cons_append]
def badP (p : Pc) : Prop := p.1 = 65533 ∧ p.2.length = 1
instance (p : Pc) : Decidable (badP p) := inferInstanceAs (Decidable (_ ∧ _))
theorem badP_iff {l : List UInt8} (hl : l ≠ []) : badP ((decodeL l).1, l.take (decodeL l).2) ↔ badD l := by
  unfold badP badD
  simp only [List.length_take]
  have := width_le l hl
  constructor
  · rintro ⟨h1, h2⟩
    exact Prod.ext h1 (by simp only; omega)
  · intro h
    rw [h]
    have := List.length_pos_iff.2 hl
    exact ⟨rfl, by simp only; omega⟩
/-- well-formed pieces stay, whatever follows -/
theorem pcs_append_good (b : List UInt8) : ∀ a : List UInt8, (∀ p ∈ pcs a, ¬ badP p) → pcs (a ++ b) = pcs a ++ pcs b := by
  intro a
  induction a using len_ind with
  | h a ih =>
    intro hg
    by_cases ha : a = []
    · subst ha; simp [pcs_nil]
    · have hab : a ++ b ≠ [] := by simp [ha]
      have hw := width_le a ha
      rw [pcs_cons ha] at hg
      have hb : ¬ badD a := fun h => hg _ (List.mem_cons_self ..) ((badP_iff ha).2 h)
      have hdec : decodeL (a ++ b) = decodeL a := by
        have := decodeL_good ha hb (a.drop (decodeL a).2 ++ b)
        rw [← List.append_assoc, List.take_append_drop] at this
        exact this
      rw [pcs_cons hab, pcs_cons ha, hdec, List.take_append_of_le_length hw, List.drop_append_of_le_length hw, ih _ (drop_lt ha) (fun p hp => hg p (List.mem_cons_of_mem _ hp)), List.cons_append]

/-- the first pieces, put together, are these pieces -/
theorem pcs_take (l : List UInt8) : ∀ k, pcs (flat ((pcs l).take k)) = (pcs l).take k ∧ ∃ m, flat ((pcs l).take k) = l.take m := by
  induction l using len_ind with
  | h l ih =>
    intro k
    by_cases hl : l = []
    · subst hl; simp [pcs_nil, flat_nil]
    · cases k with
      | zero => exact ⟨by simp [flat_nil, pcs_nil], 0, by simp [flat_nil]⟩
      | succ k =>
        obtain ⟨h1, m, h2⟩ := ih _ (drop_lt hl) k
        have hw := width_le l hl
        have hge := width_ge l
        rw [pcs_cons hl, List.take_succ_cons, flat_cons]
        simp only
        have hdec : decodeL (l.take (decodeL l).2 ++ flat ((pcs (l.drop (decodeL l).2)).take k)) = decodeL l := by
          by_cases hb : badD l
          · obtain ⟨x, r, rfl⟩ : ∃ x r, l = x :: r := by cases l with
              | nil => exact absurd rfl hl
              | cons x r => exact ⟨x, r, rfl⟩
            have hw1 := bad_width hb
            rw [hw1] at h2 ⊢
            rw [h2]
            have := bad_take hb m
            unfold badD at hb this
            simpa [hb] using this
          · exact decodeL_good hl hb _
        have hne : l.take (decodeL l).2 ++ flat ((pcs (l.drop (decodeL l).2)).take k) ≠ [] := by
          intro h
          have := congrArg List.length h
          simp only [List.length_append, List.length_take, List.length_nil] at this
          have := List.length_pos_iff.2 hl
          omega
        have hlt : (l.take (decodeL l).2).length = (decodeL l).2 := by rw [List.length_take]; omega
        refine ⟨?_, (decodeL l).2 + m, ?_⟩
        · rw [pcs_cons hne, hdec]
          congr 1
          · rw [List.take_append_of_le_length (by omega), List.take_of_length_le (by omega)]
          · rw [List.drop_append_of_le_length (by omega), List.drop_of_length_le (by omega), List.nil_append, h1]
        · rw [h2, List.take_add]
theorem pcs_drop (l : List UInt8) : ∀ k, pcs (flat ((pcs l).drop k)) = (pcs l).drop k := by
  induction l using len_ind with
  | h l ih =>
    intro k
    cases k with
    | zero => rw [List.drop_zero, flat_pcs]
    | succ k =>
      by_cases hl : l = []
      · subst hl; simp [pcs_nil, flat_nil]
      · rw [pcs_cons hl, List.drop_succ_cons]
        exact ih _ (drop_lt hl) k
/-- pieces that stand side by side in a text -/
def Norm (P : List Pc) : Prop := pcs (flat P) = P
theorem norm_pcs (l : List UInt8) : Norm (pcs l) := by unfold Norm; rw [flat_pcs]
theorem Norm.take {P : List Pc} (h : Norm P) (k : Nat) : Norm (P.take k) := by
  unfold Norm at h ⊢
  have := (pcs_take (flat P) k).1
  rwa [h] at this
theorem Norm.drop {P : List Pc} (h : Norm P) (k : Nat) : Norm (P.drop k) := by
  unfold Norm at h ⊢
  have := pcs_drop (flat P) k
  rwa [h] at this
theorem Norm.left {P Q : List Pc} (h : Norm (P ++ Q)) : Norm P := by
  have := h.take P.length
  rwa [List.take_left] at this
theorem Norm.right {P Q : List Pc} (h : Norm (P ++ Q)) : Norm Q := by
  have := h.drop P.length
  rwa [List.drop_left] at this
end Go.Proofs.YtdlhjnihmkbagaaDoor
