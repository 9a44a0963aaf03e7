/- Plain law: the first and the last piece of a text, told by its bytes; sets of ASCII. Conditions: none. -/
import Derived.Test.YthgigchablajbaaDoorFieldsIt
import Derived.Test.YthgigchablajbaaDoorShaveSteps
namespace Go.Proofs.YthgigchablajbaaDoor
open Go Go.Lib

theorem decodeN_high (n b0 b1 b2 b3 : Nat) (h : 128 ≤ b0) : 128 ≤ (decodeN n b0 b1 b2 b3).1 := by
  unfold decodeN
  repeat' split
  all_goals (first | omega | (simp only []; omega))
theorem pc_high {P : List Pc} {q : Pc} (h : Norm (q :: P)) (ha : 128 ≤ (q.2.getD 0 0).toNat) : 128 ≤ q.1 := by
  have hd := decode_pc h
  have hl := pc_len h
  rw [decodeL_N, flat_cons, getD_app_l _ _ _ (by omega)] at hd
  have h1 := congrArg Prod.fst hd
  simp only at h1
  rw [← h1]
  exact decodeN_high _ _ _ _ _ ha
theorem get_getD (s : ByteArray) (i : Nat) : s.get! i = s.data.toList.getD i 0 := (getD_get! s i).symm
theorem extract_tail_data (s : ByteArray) (k : Nat) : (s.extract k s.size).data.toList = s.data.toList.drop k := by
  rw [extract_data, List.take_of_length_le]
  rw [List.length_drop, size_eq]; omega
theorem extract_head_data (s : ByteArray) (k : Nat) : (s.extract 0 k).data.toList = s.data.toList.take k := by
  rw [extract_data, List.drop_zero, Nat.sub_zero]
/-- the first piece -/
theorem left_step (p : Nat → Bool) (s : ByteArray) (h : 0 < s.size) : ∃ q : Pc, decodeGo s = (q.1, q.2.length) ∧ 1 ≤ q.2.length ∧ q.2.length ≤ s.size ∧ ((s.get! 0).toNat < 128 → q.1 = (s.get! 0).toNat ∧ q.2.length = 1) ∧ (128 ≤ (s.get! 0).toNat → 128 ≤ q.1) ∧
    (p q.1 = true → trimL p (pcsB s) = trimL p (pcsB (s.extract q.2.length s.size))) ∧ (p q.1 = false → trimL p (pcsB s) = pcsB s) := by
  cases e : pcsB s with
  | nil => rw [pcsB_nil_iff] at e; omega
  | cons q P =>
    have hN : Norm (q :: P) := by rw [← e]; exact norm_pcsB s
    have hl := pc_len hN
    have hfl : s.data.toList = q.2 ++ flat P := by rw [← flat_pcsB, e, flat_cons]
    have hd := decode_at (A := []) (P := P) (q := q) (s := s) e
    have h0 : s.extract (flat []).length s.size = s := by
      rw [← mk_data (s.extract _ _), extract_tail_data]
      simp [flat_nil]
    rw [h0] at hd
    have hg : s.get! 0 = q.2.getD 0 0 := by rw [get_getD, hfl]; exact getD_app_l _ _ 0 (by omega)
    refine ⟨q, hd, hl.1, ?_, ?_, ?_, ?_, ?_⟩
    · rw [size_eq, hfl, List.length_append]; omega
    · rw [hg]; exact pc_ascii hN
    · rw [hg]; exact pc_high hN
    · intro hp
      have : pcsB (s.extract q.2.length s.size) = P := pcsB_flat (by rw [extract_tail_data, hfl, List.drop_left]) (Norm.right (P := [q]) hN)
      rw [this]
      simp [trimL, hp]
    · intro hp; simp [trimL, hp]
/-- the last piece -/
theorem right_step (p : Nat → Bool) (s : ByteArray) (h : 0 < s.size) : ∃ q : Pc, decodeLastL s.data.toList = (q.1, q.2.length) ∧ 1 ≤ q.2.length ∧ q.2.length ≤ s.size ∧ ((s.get! (s.size - 1)).toNat < 128 → q.1 = (s.get! (s.size - 1)).toNat ∧ q.2.length = 1) ∧ (128 ≤ (s.get! (s.size - 1)).toNat → 128 ≤ q.1) ∧
    (p q.1 = true → trimR p (pcsB s) = trimR p (pcsB (s.extract 0 (s.size - q.2.length)))) ∧ (p q.1 = false → trimR p (pcsB s) = pcsB s) := by
  have hne : pcsB s ≠ [] := fun e => by rw [pcsB_nil_iff] at e; omega
  obtain ⟨P, q, e⟩ : ∃ P q, pcsB s = P ++ [q] := ⟨_, _, (List.dropLast_concat_getLast hne).symm⟩
  have hN : Norm (P ++ [q]) := by rw [← e]; exact norm_pcsB s
  have hq : Norm [q] := hN.right
  have hl := pc_len hq
  have hfl : s.data.toList = flat P ++ q.2 := by rw [← flat_pcsB, e, flat_append, flat_cons, flat_nil, List.append_nil]
  have hd := decodeLast_pc hN
  rw [← e, flat_pcsB] at hd
  have hsz : s.size = (flat P).length + q.2.length := by rw [size_eq, hfl, List.length_append]
  have hg : s.get! (s.size - 1) = q.2.getD (q.2.length - 1) 0 := by
    rw [get_getD, hfl, getD_app_r _ _ _ (by omega)]
    congr 1; omega
  have hlow : (q.2.getD (q.2.length - 1) 0).toNat < 128 → q.2.length = 1 := fun hx => by
    rcases Nat.lt_or_ge 1 q.2.length with h1 | h1
    · have := pc_conts hq (q.2.length - 1) (by omega) (by omega)
      omega
    · omega
  refine ⟨q, hd, hl.1, by omega, ?_, ?_, ?_, ?_⟩
  · rw [hg]
    intro hx
    have h1 := hlow hx
    rw [h1] at hx ⊢
    exact ⟨(pc_ascii hq hx).1, rfl⟩
  · rw [hg]
    intro hx
    refine pc_high hq ?_
    rcases Nat.lt_or_ge (q.2.getD 0 0).toNat 128 with h1 | h1
    · have h2 := (pc_ascii hq h1).2
      rw [h2] at hx
      exact hx
    · exact h1
  · intro hp
    have : pcsB (s.extract 0 (s.size - q.2.length)) = P := pcsB_flat (by rw [extract_head_data, hfl, hsz, Nat.add_sub_cancel, List.take_left]) hN.left
    rw [this, e, trimR_snoc, if_pos hp]
  · intro hp; rw [e, trimR_snoc, hp]; rfl

/-! ### Sets of ASCII -/
def asciiB (l : List UInt8) : Bool := l.all fun b => decide (b.toNat < 128)
theorem ascii_pcs : ∀ l : List UInt8, asciiB l = true → pcs l = l.map fun b => (b.toNat, [b])
  | [], _ => rfl
  | b :: r, h => by
    simp only [asciiB, List.all_cons, Bool.and_eq_true, decide_eq_true_eq] at h
    have hN : Norm (pcs (b :: r)) := norm_pcs _
    have hc := pcs_cons (l := b :: r) (by simp)
    rw [hc] at hN
    have hf : flat (((decodeL (b :: r)).1, (b :: r).take (decodeL (b :: r)).2) :: pcs ((b :: r).drop (decodeL (b :: r)).2)) = b :: r := by rw [← hc]; exact flat_pcs _
    have hw := decodeL_width (b :: r)
    have ha := pc_ascii hN (by
      have : ((b :: r).take (decodeL (b :: r)).2).getD 0 0 = b := by
        obtain ⟨k, hk⟩ : ∃ k, (decodeL (b :: r)).2 = k + 1 := ⟨(decodeL (b :: r)).2 - 1, by omega⟩
        rw [hk]; rfl
      simp only [this]; exact h.1)
    simp only at ha
    have hle := width_le (b :: r) (by simp)
    have h1 : (decodeL (b :: r)).2 = 1 := by
      have := ha.2
      rw [List.length_take] at this
      omega
    rw [hc]
    rw [h1] at ha ⊢
    simp only [List.take_succ_cons, List.take_zero, List.drop_succ_cons, List.drop_zero, List.getD_cons_zero] at ha ⊢
    rw [ha.1, ascii_pcs r h.2]
    rfl
theorem ascii_inSet {set : ByteArray} (h : asciiB set.data.toList = true) (b : UInt8) : inSet set b.toNat = set.data.toList.contains b := by
  unfold inSet pcsB
  rw [ascii_pcs _ h, List.any_map]
  rw [Bool.eq_iff_iff, List.any_eq_true, List.contains_iff_mem]
  constructor
  · rintro ⟨x, hx, he⟩
    simp only [Function.comp, beq_iff_eq] at he
    rw [← UInt8.toNat_inj.1 he]; exact hx
  · intro hb; exact ⟨b, hb, by simp⟩
theorem ascii_inSet_high {set : ByteArray} (h : asciiB set.data.toList = true) {x : Nat} (hx : 128 ≤ x) : inSet set x = false := by
  unfold inSet pcsB
  rw [ascii_pcs _ h, List.any_map]
  rw [Bool.eq_false_iff]
  intro he
  obtain ⟨b, hb, he⟩ := List.any_eq_true.1 he
  simp only [Function.comp, beq_iff_eq] at he
  have := List.all_eq_true.1 h b hb
  simp only [decide_eq_true_eq] at this
  omega
theorem ascii_contains_high {l : List UInt8} (h : asciiB l = true) {b : UInt8} (hb : 128 ≤ b.toNat) : l.contains b = false := by
  rw [Bool.eq_false_iff]
  intro he
  have := List.all_eq_true.1 h b (List.contains_iff_mem.1 he)
  simp only [decide_eq_true_eq] at this
  omega
/-- the first piece at a set of ASCII: the first byte tells -/
theorem left_ascii {set : ByteArray} (hset : asciiB set.data.toList = true) (s : ByteArray) (h : 0 < s.size) :
    (set.data.toList.contains (s.get! 0) = true → trimL (inSet set) (pcsB s) = trimL (inSet set) (pcsB (s.extract 1 s.size))) ∧ (set.data.toList.contains (s.get! 0) = false → trimL (inSet set) (pcsB s) = pcsB s) := by
  obtain ⟨q, _, _, _, h4, h5, h6, h7⟩ := left_step (inSet set) s h
  rcases Nat.lt_or_ge (s.get! 0).toNat 128 with hx | hx
  · obtain ⟨e1, e2⟩ := h4 hx
    rw [e1, ascii_inSet hset, e2] at h6
    rw [e1, ascii_inSet hset] at h7
    exact ⟨h6, h7⟩
  · rw [ascii_contains_high hset hx]
    refine ⟨fun e => Bool.noConfusion e, fun _ => h7 (ascii_inSet_high hset (h5 hx))⟩
theorem right_ascii {set : ByteArray} (hset : asciiB set.data.toList = true) (s : ByteArray) (h : 0 < s.size) :
    (set.data.toList.contains (s.get! (s.size - 1)) = true → trimR (inSet set) (pcsB s) = trimR (inSet set) (pcsB (s.extract 0 (s.size - 1)))) ∧ (set.data.toList.contains (s.get! (s.size - 1)) = false → trimR (inSet set) (pcsB s) = pcsB s) := by
  obtain ⟨q, _, _, _, h4, h5, h6, h7⟩ := right_step (inSet set) s h
  rcases Nat.lt_or_ge (s.get! (s.size - 1)).toNat 128 with hx | hx
  · obtain ⟨e1, e2⟩ := h4 hx
    rw [e1, ascii_inSet hset, e2] at h6
    rw [e1, ascii_inSet hset] at h7
    exact ⟨h6, h7⟩
  · rw [ascii_contains_high hset hx]
    refine ⟨fun e => Bool.noConfusion e, fun _ => h7 (ascii_inSet_high hset (h5 hx))⟩
end Go.Proofs.YthgigchablajbaaDoor
