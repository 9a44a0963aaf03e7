/- Plain law: tokens with a well-formed set between them have these tokens again; the tokens of a text of one-byte code points read from behind. Conditions: none. -/
import Derived.Test.YtdlhjnihmkbagaaDoorSegsMore
namespace Go.Proofs.YtdlhjnihmkbagaaDoor
open Go Go.Lib

theorem segs_infix (p : Nat → Bool) (P : List Pc) : ∀ T ∈ segs p P, T ≠ [] ∧ (∀ q ∈ T, p q.1 = false) ∧ ∃ A B, P = A ++ (T ++ B) := by
  induction P using segs_ind p with
  | h0 P h =>
    intro T hT
    rw [segs_none p h] at hT
    by_cases e : P = []
    · rw [if_pos e] at hT; cases hT
    · rw [if_neg e, List.mem_singleton] at hT
      subst hT
      exact ⟨e, h, [], [], by simp⟩
  | h1 A q B hq hA hB =>
    intro T hT
    rw [segs_split p hq] at hT
    rcases List.mem_append.1 hT with h | h
    · obtain ⟨h1, h2, C, D, h3⟩ := hA T h
      exact ⟨h1, h2, C, D ++ q :: B, by rw [h3]; simp⟩
    · obtain ⟨h1, h2, C, D, h3⟩ := hB T h
      exact ⟨h1, h2, A ++ q :: C, D, by rw [h3]; simp⟩
theorem norm_seg {p : Nat → Bool} {P : List Pc} (hN : Norm P) {T : List Pc} (hT : T ∈ segs p P) : Norm T := by
  obtain ⟨_, _, A, B, h⟩ := segs_infix p P T hT
  rw [h] at hN
  exact hN.right.left
theorem good_fresh {l : List UInt8} (h : ∀ q ∈ pcs l, ¬ badP q) : fresh l := by
  by_cases hl : l = []
  · exact .inl hl
  · refine .inr fun hc => ?_
    rw [pcs_cons hl] at h
    refine h _ (List.mem_cons_self ..) ((badP_iff hl).2 ?_)
    unfold badD
    rw [decodeL_N, decodeN_cont _ _ _ _ _ hc]
theorem fresh_app {a b : List UInt8} (ha : a ≠ []) (h : fresh a) : fresh (a ++ b) := by
  rcases h with h | h
  · exact absurd h ha
  · refine .inr ?_
    rwa [getD_app_l _ _ _ (List.length_pos_iff.2 ha)]
theorem pcs_between {b : List UInt8} (hb : b ≠ []) (hg : ∀ q ∈ pcs b, ¬ badP q) : ∀ L : List (List Pc), (∀ T ∈ L, Norm T) → pcs (b ++ (L.map flat).flatMap (· ++ b)) = pcs b ++ L.flatMap (· ++ pcs b)
  | [], _ => by simp
  | T :: L, h => by
    have ih := pcs_between hb hg L (fun T hT => h T (by simp [hT]))
    have hT : Norm T := h T (by simp)
    unfold Norm at hT
    rw [pcs_append_good _ _ hg]
    congr 1
    simp only [List.map_cons, List.flatMap_cons, List.append_assoc]
    rw [pcs_append_fresh _ (fresh_app hb (good_fresh hg)), hT, ih]
theorem flatMap_turn (b : List UInt8) : ∀ r : List (List UInt8), r.flatMap (b ++ ·) ++ b = b ++ r.flatMap (· ++ b)
  | [] => by simp
  | x :: r => by
    have := flatMap_turn b r
    simp only [List.flatMap_cons, List.append_assoc, this]
theorem segs_skip (p : Nat → Bool) : ∀ (A X : List Pc), (∀ q ∈ A, p q.1 = true) → segs p (A ++ X) = segs p X
  | [], X, _ => rfl
  | q :: A, X, h => by
    rw [List.cons_append, segs_take p (h q (by simp)), segs_skip p A X fun x hx => h x (by simp [hx])]
theorem segs_between (p : Nat → Bool) {S : List Pc} (hS : S ≠ []) (hp : ∀ q ∈ S, p q.1 = true) : ∀ L : List (List Pc), (∀ T ∈ L, T ≠ [] ∧ ∀ q ∈ T, p q.1 = false) → segs p (L.flatMap (· ++ S)) = L
  | [], _ => rfl
  | T :: L, h => by
    have ih := segs_between p hS hp L (fun T hT => h T (by simp [hT]))
    obtain ⟨h1, h2⟩ := h T (by simp)
    obtain ⟨q, Q, rfl⟩ : ∃ q Q, S = q :: Q := by cases S with
      | nil => exact absurd rfl hS
      | cons q Q => exact ⟨q, Q, rfl⟩
    rw [List.flatMap_cons, List.append_assoc, List.cons_append, segs_split p (hp q (by simp)), segs_only p T h2 h1, segs_skip p Q _ (fun x hx => hp x (by simp [hx])), ih]
    rfl
/-- put together with the set ahead, between and behind: the same tokens -/
theorem segs_joined {p : Nat → Bool} {b : List UInt8} (hb : b ≠ []) (hg : ∀ q ∈ pcs b, ¬ badP q) (hp : ∀ q ∈ pcs b, p q.1 = true) (P : List Pc) (hN : Norm P) :
    segs p (pcs (b ++ ((segs p P).map flat).flatMap (· ++ b))) = segs p P := by
  have hne : pcs b ≠ [] := by rw [pcs_cons hb]; simp
  rw [pcs_between hb hg _ (fun T hT => norm_seg hN hT), segs_skip p _ _ hp, segs_between p hne hp _ (fun T hT => ⟨(segs_infix p P T hT).1, (segs_infix p P T hT).2.1⟩)]
theorem segs_nothing {p : Nat → Bool} {b : List UInt8} (hg : ∀ q ∈ pcs b, ¬ badP q) (hp : ∀ q ∈ pcs b, p q.1 = true) : segs p (pcs (b ++ b)) = [] := by
  rw [pcs_append_good _ _ hg, segs_skip p _ _ hp, ← List.append_nil (pcs b), segs_skip p _ _ hp]
  rfl

/-! ### One byte each -/
theorem ascii_of {l : List UInt8} : (∀ q ∈ pcs l, q.2.length ≤ 1 ∧ ¬ badP q) → ∀ b ∈ l, b.toNat < 128 := by
  induction l using len_ind with
  | h l ih =>
    intro h b hb
    have hl : l ≠ [] := by rintro rfl; cases hb
    have hN := norm_pcs l
    have hw := width_ge l
    have hle := width_le l hl
    rw [pcs_cons hl] at h hN
    have h0 := h _ (List.mem_cons_self ..)
    have h1 : (decodeL l).2 = 1 := by
      have := h0.1
      simp only [List.length_take] at this
      omega
    obtain ⟨x, r, rfl⟩ : ∃ x r, l = x :: r := by cases l with
      | nil => exact absurd rfl hl
      | cons x r => exact ⟨x, r, rfl⟩
    have hx : x.toNat < 128 := by
      rcases Nat.lt_or_ge x.toNat 128 with hx | hx
      · exact hx
      · exfalso
        have := pc_one_bad hN (by simp only [h1]; rfl) (by simp only [h1]; exact hx)
        exact h0.2 ⟨this, by simp only [h1]; rfl⟩
    rcases List.mem_cons.1 hb with rfl | hb
    · exact hx
    · refine ih _ (drop_lt hl) (fun q hq => h q (List.mem_cons_of_mem _ hq)) b ?_
      rw [h1]; exact hb
theorem pcs_ascii : ∀ {l : List UInt8}, (∀ b ∈ l, b.toNat < 128) → pcs l = l.map fun b => (b.toNat, [b])
  | [], _ => rfl
  | x :: r, h => by
    have hd : decodeL (x :: r) = (x.toNat, 1) := by
      rw [decodeL_N, decodeN_ascii]
      · rfl
      · exact h x (by simp)
    rw [pcs_cons (by simp), hd]
    simp only [List.take_succ_cons, List.take_zero, List.drop_succ_cons, List.drop_zero, List.map_cons]
    rw [pcs_ascii fun b hb => h b (by simp [hb])]
theorem flat_turn : ∀ {P : List Pc}, (∀ q ∈ P, q.2.length = 1) → flat P.reverse = (flat P).reverse
  | [], _ => rfl
  | q :: P, h => by
    have h1 := h q (by simp)
    obtain ⟨x, hx⟩ := List.length_eq_one_iff.1 h1
    rw [List.reverse_cons, flat_append, flat_turn fun x hx => h x (by simp [hx]), flat_cons, flat_cons, flat_nil, hx]
    simp
/-- read from behind: the tokens from the last one to the first one, each from behind -/
theorem segs_turned (p : Nat → Bool) {l : List UInt8} (h : ∀ b ∈ l, b.toNat < 128) :
    (segs p (pcs l.reverse)).map flat = (((segs p (pcs l)).map flat).map List.reverse).reverse := by
  have e : pcs l.reverse = (pcs l).reverse := by
    rw [pcs_ascii h, pcs_ascii (fun b hb => h b (by simpa using hb)), List.map_reverse]
  rw [e, segs_reverse, List.map_reverse, List.map_map, List.map_map]
  congr 1
  apply List.map_congr_left
  intro T hT
  refine flat_turn fun q hq => ?_
  obtain ⟨_, _, A, B, hP⟩ := segs_infix p _ T hT
  have hm : q ∈ pcs l := by rw [hP]; simp [hq]
  rw [pcs_ascii h] at hm
  obtain ⟨b, _, rfl⟩ := List.mem_map.1 hm
  rfl
end Go.Proofs.YtdlhjnihmkbagaaDoor
