/- Plain law: what is trimmed and split by a test of code points, told by pieces; the last piece is what the decoder from the end tells. Conditions: none. -/
import Derived.Test.YtdlhjnihmkbagaaDoorPcs
import Derived.Shelf.GgClosure.StringsTrimFunc
import Derived.Lib.FieldsP
namespace Go.Proofs.YtdlhjnihmkbagaaDoor
open Go Go.Lib

/-- the pieces of a string -/
def pcsB (s : ByteArray) : List Pc := pcs s.data.toList

/-! ### The last piece -/
theorem decode_pc {P : List Pc} {q : Pc} (h : Norm (q :: P)) : decodeL (flat (q :: P)) = (q.1, q.2.length) := by
  unfold Norm at h
  by_cases hn : flat (q :: P) = []
  · rw [hn, pcs_nil] at h; cases h
  · rw [pcs_cons hn] at h
    injection h with h1 h2
    have hw := width_le _ hn
    clear h2
    generalize decodeL (flat (q :: P)) = d at h1 hw ⊢
    generalize flat (q :: P) = l at h1 hw
    obtain ⟨a, b⟩ := d
    simp only at h1 hw
    subst h1
    simp only [List.length_take]
    rw [Nat.min_eq_left hw]
theorem pc_conts {P : List Pc} {q : Pc} (h : Norm (q :: P)) : ∀ i, 0 < i → i < q.2.length → (q.2.getD i 0).toNat / 64 = 2 := by
  intro i h0 hi
  have hd := decode_pc h
  have e : ∀ k, k < q.2.length → (flat (q :: P)).getD k 0 = q.2.getD k 0 := fun k hk => by rw [flat_cons]; exact getD_app_l _ _ _ hk
  rw [decodeL_N] at hd
  obtain ⟨k1, k2, k3, k4⟩ := decodeN_conts (flat (q :: P)).length ((flat (q :: P)).getD 0 0).toNat ((flat (q :: P)).getD 1 0).toNat ((flat (q :: P)).getD 2 0).toNat ((flat (q :: P)).getD 3 0).toNat
  rw [hd] at k1 k2 k3 k4
  simp only at k1 k2 k3 k4
  rcases (by omega : i = 1 ∨ i = 2 ∨ i = 3) with rfl | rfl | rfl
  · rw [← e 1 hi]; exact (k1 (by omega)).1
  · rw [← e 2 hi]; exact (k2 (by omega)).1
  · rw [← e 3 hi]; exact (k3 (by omega)).1
theorem pc_len {P : List Pc} {q : Pc} (h : Norm (q :: P)) : 1 ≤ q.2.length ∧ q.2.length ≤ 4 := by
  have hd := decode_pc h
  have h1 := width_ge (flat (q :: P))
  rw [hd] at h1
  rw [decodeL_N] at hd
  have h2 := (decodeN_conts (flat (q :: P)).length ((flat (q :: P)).getD 0 0).toNat ((flat (q :: P)).getD 1 0).toNat ((flat (q :: P)).getD 2 0).toNat ((flat (q :: P)).getD 3 0).toNat).2.2.2
  rw [hd] at h2
  exact ⟨h1, h2⟩
theorem pc_fresh {P : List Pc} {q : Pc} (h : Norm (q :: P)) (hw : 2 ≤ q.2.length) : (q.2.getD 0 0).toNat / 64 ≠ 2 := by
  intro hc
  have hd := decode_pc h
  rw [decodeL_N, flat_cons, getD_app_l _ _ _ (by omega), decodeN_cont _ _ _ _ _ hc] at hd
  have := congrArg Prod.snd hd
  simp only at this
  omega
theorem pc_ascii {P : List Pc} {q : Pc} (h : Norm (q :: P)) (ha : (q.2.getD 0 0).toNat < 128) : q.1 = (q.2.getD 0 0).toNat ∧ q.2.length = 1 := by
  have hd := decode_pc h
  have hl := pc_len h
  rw [decodeL_N, flat_cons, getD_app_l _ _ _ (by omega), decodeN_ascii _ _ _ _ _ ha] at hd
  have h1 := congrArg Prod.fst hd
  have h2 := congrArg Prod.snd hd
  exact ⟨h1.symm, h2.symm⟩
theorem pc_one_bad {P : List Pc} {q : Pc} (h : Norm (q :: P)) (h1 : q.2.length = 1) (ha : 128 ≤ (q.2.getD 0 0).toNat) : q.1 = 65533 := by
  have hd := decode_pc h
  rw [decodeL_N, flat_cons, getD_app_l _ _ _ (by omega)] at hd
  rcases decodeN_cases (q.2 ++ flat P).length (q.2.getD 0 0).toNat ((q.2 ++ flat P).getD 1 0).toNat ((q.2 ++ flat P).getD 2 0).toNat ((q.2 ++ flat P).getD 3 0).toNat with ⟨h2, _⟩ | ⟨_, _, _, _, h2⟩ | ⟨_, _, _, _, _, h2⟩ | ⟨_, h2⟩ | h2
  · omega
  · rw [h2] at hd; have := congrArg Prod.snd hd; simp only at this; omega
  · rw [h2] at hd; have := congrArg Prod.snd hd; simp only at this; omega
  · rw [hd] at h2; simp only at h2; omega
  · rw [h2] at hd; exact (congrArg Prod.fst hd).symm

theorem getD_app_r (a b : List UInt8) (k : Nat) (h : a.length ≤ k) : (a ++ b).getD k 0 = b.getD (k - a.length) 0 := by
  simp only [List.getD]; rw [List.getElem?_append_right h]

/-- the decoder from the end tells the last piece -/
theorem decodeLast_pc {P : List Pc} {q : Pc} (h : Norm (P ++ [q])) : decodeLastL (flat (P ++ [q])) = (q.1, q.2.length) := by
  have hq : Norm [q] := h.right
  have hl := pc_len hq
  have hlen : (flat (P ++ [q])).length = (flat P).length + q.2.length := by rw [flat_append, flat_cons, flat_nil, List.append_nil, List.length_append]
  have hne : flat (P ++ [q]) ≠ [] := by intro e; rw [e] at hlen; simp at hlen; omega
  have hlast : (flat (P ++ [q])).getD ((flat (P ++ [q])).length - 1) 0 = q.2.getD (q.2.length - 1) 0 := by
    rw [hlen, flat_append, flat_cons, flat_nil, List.append_nil, getD_app_r _ _ _ (by omega)]
    congr 1; omega
  unfold decodeLastL
  rw [if_neg hne, hlast]
  by_cases ha : (q.2.getD (q.2.length - 1) 0).toNat < 128
  · rw [if_pos ha]
    have h1 : q.2.length = 1 := by
      rcases Nat.lt_or_ge 1 q.2.length with h2 | h2
      · have := pc_conts hq (q.2.length - 1) (by omega) (by omega)
        omega
      · omega
    rw [h1] at ha ⊢
    have := pc_ascii hq ha
    exact Prod.ext this.1.symm rfl
  · rw [if_neg ha]
    simp only
    -- where the piece is longer than one byte, the search stops at its first one
    have hst : 2 ≤ q.2.length → lastStart (flat (P ++ [q])) = (flat P).length := by
      intro h2
      have hs : ∀ k, 1 ≤ k → k ≤ q.2.length → (flat (P ++ [q])).getD ((flat (P ++ [q])).length - k) 0 = q.2.getD (q.2.length - k) 0 := by
        intro k hk1 hk
        rw [hlen, flat_append, flat_cons, flat_nil, List.append_nil, getD_app_r _ _ _ (by omega)]
        congr 1; omega
      have hf := pc_fresh hq h2
      have hstart : ∀ k, 1 ≤ k → k < q.2.length → runeStartB ((flat (P ++ [q])).getD ((flat (P ++ [q])).length - k) 0) = false := by
        intro k hk1 hk
        rw [hs k hk1 (by omega)]
        have := pc_conts hq (q.2.length - k) (by omega) (by omega)
        unfold runeStartB; rw [this]; rfl
      have hat : runeStartB ((flat (P ++ [q])).getD ((flat (P ++ [q])).length - q.2.length) 0) = true := by
        rw [hs _ (by omega) (Nat.le_refl _), Nat.sub_self]
        unfold runeStartB; simpa using hf
      unfold lastStart
      simp only
      rcases (by omega : q.2.length = 2 ∨ q.2.length = 3 ∨ q.2.length = 4) with e | e | e
      · rw [e] at hat
        rw [if_neg (by omega), if_pos hat]; omega
      · rw [e] at hat
        rw [if_neg (by omega), if_neg (by rw [hstart 2 (by omega) (by omega)]; simp), if_neg (by omega), if_pos hat]; omega
      · rw [e] at hat
        rw [if_neg (by omega), if_neg (by rw [hstart 2 (by omega) (by omega)]; simp), if_neg (by omega), if_neg (by rw [hstart 3 (by omega) (by omega)]; simp), if_neg (by omega), if_pos hat]; omega
    rcases Nat.lt_or_ge q.2.length 2 with h1 | h2
    · have hq1 : q.2.length = 1 := by omega
      have hb := pc_one_bad hq hq1 (by rw [hq1, Nat.sub_self] at ha; omega)
      rw [hb, hq1]
      split
      · rename_i hend
        -- a longer piece that ends here would be the last piece
        have hslt := lastStart_lt' _ hne
        by_cases hd1 : (decodeL ((flat (P ++ [q])).drop (lastStart (flat (P ++ [q]))))).2 = 1
        · have e1 : lastStart (flat (P ++ [q])) = (flat P).length := by omega
          rw [e1, flat_append, List.drop_left, decode_pc hq, hb, hq1]
        · exfalso
          have hdne : (flat (P ++ [q])).drop (lastStart (flat (P ++ [q]))) ≠ [] := by
            intro e
            have := congrArg List.length e
            rw [List.length_drop] at this
            simp at this; omega
          have hw := width_ge ((flat (P ++ [q])).drop (lastStart (flat (P ++ [q]))))
          have hfr : fresh ((flat (P ++ [q])).drop (lastStart (flat (P ++ [q])))) := by
            right
            intro hc
            apply hd1
            rw [decodeL_N, decodeN_cont _ _ _ _ _ hc]
          have happ := pcs_append_fresh _ hfr ((flat (P ++ [q])).take (lastStart (flat (P ++ [q]))))
          rw [List.take_append_drop] at happ
          have h' := h
          unfold Norm at h'
          rw [h'] at happ
          rw [pcs_cons hdne] at happ
          have hdrop : ((flat (P ++ [q])).drop (lastStart (flat (P ++ [q])))).drop (decodeL ((flat (P ++ [q])).drop (lastStart (flat (P ++ [q]))))).2 = [] := by
            apply List.drop_eq_nil_of_le
            rw [List.length_drop]; omega
          rw [hdrop, pcs_nil] at happ
          have := (List.append_inj_right' happ rfl)
          injection this with h3 _
          have h4 := congrArg (fun p : Pc => p.2.length) h3
          simp only [List.length_take, List.length_drop] at h4
          omega
      · rfl
    · rw [hst h2, flat_append, List.drop_left, decode_pc hq]
      rw [if_pos (by rw [← flat_append, hlen])]
end Go.Proofs.YtdlhjnihmkbagaaDoor
