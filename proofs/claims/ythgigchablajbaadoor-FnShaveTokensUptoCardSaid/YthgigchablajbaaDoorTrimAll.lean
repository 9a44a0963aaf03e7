/- Contracts of bytes.Trim, TrimLeft, TrimRight at any set: what is left, told by pieces. Conditions: lengths within 2 to the 47; the tables of utf8. -/
import Derived.Test.YthgigchablajbaaDoorBW
import Derived.Test.YthgigchablajbaaDoorTrimGen
import Derived.Test.YthgigchablajbaaDoorShelfV
import Derived.Shelf.Bytes.SlTrim
namespace Go.Proofs.YthgigchablajbaaDoor
open Go.RowKit
set_option linter.unusedVariables false

theorem size_ind {motive : ByteArray → Prop} (h : ∀ s, (∀ t, t.size < s.size → motive t) → motive s) : ∀ s, motive s := fun s => by
  have : ∀ n (s : ByteArray), s.size ≤ n → motive s := by
    intro n
    induction n with
    | zero => exact fun s hs => h s fun t ht => by omega
    | succ n ih => exact fun s hs => h s fun t ht => ih t (by omega)
  exact this s.size s (Nat.le_refl _)
theorem leftS_is {set : ByteArray} (hset : asciiB set.data.toList = true) : ∀ s : ByteArray, flat (trimL (inSet set) (pcsB s)) = Lib.trimLeftS s.data.toList set.data.toList := by
  apply size_ind
  intro s ih
  rcases Nat.eq_zero_or_pos s.size with h0 | h0
  · rw [(pcsB_nil_iff s).2 h0, show s.data.toList = [] from List.eq_nil_of_length_eq_zero (by rw [← Lib.size_eq]; exact h0)]
    rfl
  · obtain ⟨h1, h2⟩ := left_ascii hset s h0
    obtain ⟨x, r, hl⟩ : ∃ x r, s.data.toList = x :: r := by
      cases e : s.data.toList with
      | nil => rw [Lib.size_eq, e] at h0; cases h0
      | cons x r => exact ⟨x, r, rfl⟩
    have hx : s.get! 0 = x := by rw [get_getD, hl]; rfl
    rw [hx] at h1 h2
    unfold Lib.trimLeftS
    rw [hl, List.dropWhile_cons]
    cases hc : set.data.toList.contains x with
    | true =>
      rw [h1 hc, ih _ (by rw [tail_len]; omega), extract_tail_data, hl]
      rfl
    | false => rw [h2 hc, flat_pcsB, hl]; rfl
theorem rightS_is {set : ByteArray} (hset : asciiB set.data.toList = true) : ∀ s : ByteArray, flat (trimR (inSet set) (pcsB s)) = Lib.trimRightS s.data.toList set.data.toList := by
  apply size_ind
  intro s ih
  rcases Nat.eq_zero_or_pos s.size with h0 | h0
  · rw [(pcsB_nil_iff s).2 h0, show s.data.toList = [] from List.eq_nil_of_length_eq_zero (by rw [← Lib.size_eq]; exact h0)]
    rfl
  · obtain ⟨h1, h2⟩ := right_ascii hset s h0
    have hne : s.data.toList ≠ [] := fun e => by rw [Lib.size_eq, e] at h0; cases h0
    obtain ⟨r, x, hl⟩ : ∃ r x, s.data.toList = r ++ [x] := ⟨_, _, (List.dropLast_concat_getLast hne).symm⟩
    have hsz : s.size = r.length + 1 := by rw [Lib.size_eq, hl, List.length_append]; rfl
    have hx : s.get! (s.size - 1) = x := by
      rw [get_getD, hl, getD_app_r _ _ _ (by omega), hsz]
      simp
    rw [hx] at h1 h2
    unfold Lib.trimRightS
    rw [hl, List.reverse_append, List.reverse_singleton, List.singleton_append, List.dropWhile_cons]
    cases hc : set.data.toList.contains x with
    | true =>
      rw [h1 hc, ih _ (by rw [head_sz s _ (by omega)]; omega), extract_head_data, hl, hsz, Nat.add_sub_cancel, List.take_left]
      rfl
    | false =>
      rw [h2 hc, flat_pcsB, hl]
      simp
theorem inSet_none {set : ByteArray} (h : set.size = 0) : inSet set = fun _ => false := by
  funext x
  unfold inSet
  rw [(pcsB_nil_iff set).2 h]; rfl
theorem trimL_none (P : List Pc) : trimL (fun _ => false) P = P := by cases P <;> simp [trimL]
theorem trimR_none (P : List Pc) : trimR (fun _ => false) P = P := by
  unfold trimR
  have : (P.reverse.dropWhile fun _ : Pc => false) = P.reverse := by cases P.reverse <;> simp
  rw [this, List.reverse_reverse]
theorem take_right {l cs : List UInt8} : Lib.trimRightS l cs = l.take (Lib.trimRightS l cs).length := Lib.trimRightS_eq_take l cs
theorem drop_left {l cs : List UInt8} : Lib.trimLeftS l cs = l.drop (l.length - (Lib.trimLeftS l cs).length) := List.suffix_iff_eq_drop.1 (List.dropWhile_suffix _)
theorem left_le {l cs : List UInt8} : (Lib.trimLeftS l cs).length ≤ l.length := (List.dropWhile_suffix _).length_le
theorem txt_self (s : ByteArray) : txt s.data.toList = s := Lib.mk_data s
theorem head_txt (s : ByteArray) (cs : List UInt8) : s.extract 0 (Lib.trimRightS s.data.toList cs).length = txt (Lib.trimRightS s.data.toList cs) := by
  rw [← txt_self (s.extract _ _), extract_head_data, ← take_right]
theorem tail_txt (s : ByteArray) (cs : List UInt8) : s.extract (s.size - (Lib.trimLeftS s.data.toList cs).length) s.size = txt (Lib.trimLeftS s.data.toList cs) := by
  rw [← txt_self (s.extract _ _), extract_tail_data, Lib.size_eq, ← drop_left]
theorem sets (set : ByteArray) : set.size = 0 ∨ (∃ x : UInt8, set = ⟨#[x]⟩ ∧ x.toNat < 128) ∨ (2 ≤ set.size ∨ ∃ x : UInt8, set = ⟨#[x]⟩ ∧ 128 ≤ x.toNat) := by
  cases e : set.data.toList with
  | nil => exact .inl (by rw [Lib.size_eq, e]; rfl)
  | cons x r =>
    cases r with
    | nil =>
      have hs : set = ⟨#[x]⟩ := by rw [← txt_self set, e]; rfl
      rcases Nat.lt_or_ge x.toNat 128 with h | h
      · exact .inr (.inl ⟨x, hs, h⟩)
      · exact .inr (.inr (.inr ⟨x, hs, h⟩))
    | cons y r => exact .inr (.inr (.inl (by rw [Lib.size_eq, e]; simp)))
theorem zeroSet (w : World) : (zeroValue 69).run Tryd.prog w = .ok (.agg (Array.replicate 256 (.bool false))) w := (zero_of_info (n := 256) (by kernel_rfl)).1 w
theorem infoSet : (Tryd.prog.info? 69).map (·.size) = some 256 := by kernel_rfl
theorem makeSet (set : ByteArray) (w : World) (h : set.size ≤ 140737488355328) : Calls Tryd.prog 50 #[.string set] w (SetPost set w) := gMakeSet Tryd.laysV_11 zeroSet infoSet set w h

theorem trimRight_all (s set : ByteArray) (v : Value) (lo B : Nat) (w : World) (hs : s.size ≤ 140737488355328) (hset : set.size ≤ 140737488355328) (hv : BW w lo B v s) (hT : Tabs w) (hB : B ≤ w.heap.size) :
    Calls Tryd.prog 33 #[v, .string set] w (GiveB lo B (flat (trimR (inSet set) (pcsB s))) w) := by
  obtain ⟨p, c, rfl, hnc, hbig, hat, hk, hj⟩ := hv.lib
  have hk' : ∀ cs, BW w lo B (.slice p (Lib.trimRightS s.data.toList cs).length c) (txt (Lib.trimRightS s.data.toList cs)) := fun cs => by
    rw [← head_txt]; exact hk _ (by rw [Lib.size_eq]; exact Lib.trimRightS_len_le _ _)
  by_cases h0 : s.size = 0
  · refine (Any.bytes_TrimRight_empty Tryd.laysV_7 p s.size c set w (.inl h0)).mono ?_
    rintro e w' ⟨rfl, rfl⟩
    exact ⟨_, rfl, by rw [(pcsB_nil_iff s).2 h0]; rw [show txt (flat (trimR (inSet set) [])) = s by rw [← txt_self s, List.eq_nil_of_length_eq_zero (by rw [← Lib.size_eq]; exact h0 : s.data.toList.length = 0)]; rfl]; exact hv, Below.refl _ _⟩
  · rcases sets set with h1 | ⟨x, rfl, hx⟩ | h2
    · refine (Any.bytes_TrimRight_empty Tryd.laysV_7 p s.size c set w (.inr h1)).mono ?_
      rintro e w' ⟨rfl, rfl⟩
      exact ⟨_, rfl, by rw [inSet_none h1, trimR_none, flat_pcsB, txt_self]; exact hv, Below.refl _ _⟩
    · refine (Any.bytes_TrimRight_one Tryd.laysV_7 p s.size c s.data.toList x w (Lib.size_eq s).symm hnc hbig hat (by omega) hx).mono ?_
      rintro e w' ⟨rfl, rfl⟩
      exact ⟨_, rfl, by rw [rightS_is (by simp [asciiB, hx])]; exact hk' _, Below.refl _ _⟩
    · refine (gTrimRight (ρ := Tryd.laysV_7_ren) Tryd.laysV_7 zeroSet infoSet p s.size c set w (fun v w' => BW w' lo B v (txt (flat (trimR (inSet set) (pcsB s))))) (by omega) h2 (makeSet set w hset) ?_ ?_)
      · intro W b hb hS ha
        refine (Any.bytes_trimRightASCII (ρ := Tryd.laysV_7_ren) { Tryd.laysV_7 with } p s.size c s.data.toList b set.data.toList W (Lib.size_eq s).symm hnc (by omega) (hat.below hb) hS).mono ?_
        rintro e w' ⟨rfl, rfl⟩
        exact ⟨_, rfl, by rw [rightS_is ha]; exact (hk' _).below (hb.mono hB), Below.refl _ _⟩
      · intro W hb
        exact trimRU s set _ lo B W hs (hv.below (hb.mono hB)) (hT.below hb) (Nat.le_trans hB hb.size)
theorem trimLeft_all (s set : ByteArray) (v : Value) (lo B : Nat) (w : World) (hs : s.size ≤ 140737488355328) (hset : set.size ≤ 140737488355328) (hv : BW w lo B v s) (hT : Tabs w) (hB : B ≤ w.heap.size) :
    Calls Tryd.prog 32 #[v, .string set] w (GiveB lo B (flat (trimL (inSet set) (pcsB s))) w) := by
  obtain ⟨p, c, rfl, hnc, hbig, hat, hk, hj⟩ := hv.lib
  have hj' : ∀ cs, BW w lo B (Lib.leftV p s.size c (s.size - (Lib.trimLeftS s.data.toList cs).length)) (txt (Lib.trimLeftS s.data.toList cs)) := fun cs => by
    rw [← tail_txt]; exact hj _ (by omega)
  by_cases h0 : s.size = 0
  · have hcall := Any.bytes_TrimLeft_none Tryd.laysV_8 p c set w
    rw [← h0] at hcall
    refine hcall.mono ?_
    rintro e w' ⟨rfl, rfl⟩
    exact ⟨_, rfl, .inr ⟨by rw [h0], by rw [(pcsB_nil_iff s).2 h0]; rfl⟩, Below.refl _ _⟩
  · rcases sets set with h1 | ⟨x, rfl, hx⟩ | h2
    · refine (Any.bytes_TrimLeft_nocut Tryd.laysV_8 p s.size c set w (by omega) h1).mono ?_
      rintro e w' ⟨rfl, rfl⟩
      exact ⟨_, rfl, by rw [inSet_none h1, trimL_none, flat_pcsB, txt_self]; exact hv, Below.refl _ _⟩
    · refine (Any.bytes_TrimLeft_one Tryd.laysV_8 p s.size c s.data.toList x w (Lib.size_eq s).symm hnc hbig hat (by omega) hx).mono ?_
      rintro e w' ⟨rfl, rfl⟩
      exact ⟨_, rfl, by rw [leftS_is (by simp [asciiB, hx])]; exact hj' _, Below.refl _ _⟩
    · refine (gTrimLeft (ρ := Tryd.laysV_8_ren) Tryd.laysV_8 zeroSet infoSet p s.size c set w (fun v w' => BW w' lo B v (txt (flat (trimL (inSet set) (pcsB s))))) (by omega) h2 (makeSet set w hset) ?_ ?_)
      · intro W b hb hS ha
        refine (Any.bytes_trimLeftASCII (ρ := Tryd.laysV_8_ren) { Tryd.laysV_8 with } p s.size c s.data.toList b set.data.toList W (Lib.size_eq s).symm hnc hbig (hat.below hb) hS).mono ?_
        rintro e w' ⟨rfl, rfl⟩
        exact ⟨_, rfl, by rw [leftS_is ha]; exact (hj' _).below (hb.mono hB), Below.refl _ _⟩
      · intro W hb
        exact trimLU s set _ lo B W hs (hv.below (hb.mono hB)) (hT.below hb) (Nat.le_trans hB hb.size)
theorem trimB_sides (p : Nat → Bool) (P : List Pc) : trimB p P = trimL p (trimR p P) := trim_sides p p P
theorem trim_all (s set : ByteArray) (v : Value) (lo B : Nat) (w : World) (hs : s.size ≤ 140737488355328) (hset : set.size ≤ 140737488355328) (hv : BW w lo B v s) (hT : Tabs w) (hB : B ≤ w.heap.size) :
    Calls Tryd.prog 31 #[v, .string set] w (GiveB lo B (flat (trimB (inSet set) (pcsB s))) w) := by
  obtain ⟨p, c, rfl, hnc, hbig, hat, hk, hj⟩ := hv.lib
  have hk' : ∀ cs, BW w lo B (.slice p (Lib.trimRightS s.data.toList cs).length c) (txt (Lib.trimRightS s.data.toList cs)) := fun cs => by
    rw [← head_txt]; exact hk _ (by rw [Lib.size_eq]; exact Lib.trimRightS_len_le _ _)
  have hpc : pcsB (txt (flat (trimR (inSet set) (pcsB s)))) = trimR (inSet set) (pcsB s) := pcsB_flat (by rw [txt_data]) ((norm_pcsB s).trimR _)
  have hlen : (txt (flat (trimR (inSet set) (pcsB s)))).size ≤ s.size := by
    obtain ⟨Q, hQ⟩ := trimR_prefix (inSet set) (pcsB s)
    have := congrArg List.length (congrArg flat hQ)
    rw [flat_pcsB, flat_append, List.length_append] at this
    rw [txt_size', Lib.size_eq]
    omega
  by_cases h0 : s.size = 0
  · have hcall := Any.bytes_Trim_none Tryd.laysV_6 p c set w
    rw [← h0] at hcall
    refine hcall.mono ?_
    rintro e w' ⟨rfl, rfl⟩
    exact ⟨_, rfl, .inr ⟨by rw [h0], by rw [(pcsB_nil_iff s).2 h0]; rfl⟩, Below.refl _ _⟩
  · rcases sets set with h1 | ⟨x, rfl, hx⟩ | h2
    · refine (Any.bytes_Trim_nocut Tryd.laysV_6 p s.size c set w (by omega) h1).mono ?_
      rintro e w' ⟨rfl, rfl⟩
      exact ⟨_, rfl, by rw [inSet_none h1, trimB_sides, trimR_none, trimL_none, flat_pcsB, txt_self]; exact hv, Below.refl _ _⟩
    · have ha : asciiB (⟨#[x]⟩ : ByteArray).data.toList = true := by simp [asciiB, hx]
      refine (Any.bytes_Trim_one Tryd.laysV_6 p s.size c s.data.toList x w (Lib.size_eq s).symm hnc hbig hat (by omega) hx).mono ?_
      rintro e w' ⟨rfl, q, rfl⟩
      have hb : Below w.heap.size w (w.drewN q) := ⟨rfl, rfl, rfl, Nat.le_refl _, fun _ _ => rfl⟩
      refine ⟨_, rfl, ?_, hb⟩
      obtain ⟨p2, c2, e2, _, _, _, _, hj2⟩ := (hk' [x]).lib
      rw [trimB_sides, ← hpc, leftS_is ha, txt_data, rightS_is ha]
      have h3 := hj2 ((txt (Lib.trimRightS s.data.toList [x])).size - (Lib.trimLeftS (txt (Lib.trimRightS s.data.toList [x])).data.toList [x]).length) (by omega)
      rw [tail_txt] at h3
      injection e2 with e21 e22 e23
      subst e21 e23
      rw [txt_size', txt_data] at h3
      exact h3.below (hb.mono hB)
    · refine (gTrim (ρ := Tryd.laysV_6_ren) Tryd.laysV_6 zeroSet infoSet p s.size c set w (fun v w' => BW w' lo B v (txt (flat (trimB (inSet set) (pcsB s))))) (by omega) h2 (makeSet set w hset) (fun v w' => BW w' lo B v (txt (flat (trimR (inSet set) (pcsB s))))) ?_ ?_ ?_ ?_)
      · intro W b hb hS ha
        refine (Any.bytes_trimRightASCII (ρ := Tryd.laysV_6_ren) { Tryd.laysV_6 with } p s.size c s.data.toList b set.data.toList W (Lib.size_eq s).symm hnc (by omega) (hat.below hb) hS).mono ?_
        rintro e w' ⟨rfl, rfl⟩
        exact ⟨_, rfl, ⟨by rw [rightS_is ha]; exact (hk' _).below (hb.mono hB), hS⟩, Below.refl _ _⟩
      · rintro v W b hb ⟨hv1, hS⟩ ha
        obtain ⟨p1, c1, rfl, hnc1, hbig1, hat1, _, hj1⟩ := hv1.lib
        refine (Any.bytes_trimLeftASCII (ρ := Tryd.laysV_6_ren) { Tryd.laysV_6 with } p1 _ c1 _ b set.data.toList W (Lib.size_eq _).symm hnc1 hbig1 hat1 hS).mono ?_
        rintro e w' ⟨rfl, rfl⟩
        refine ⟨_, rfl, ?_, Below.refl _ _⟩
        rw [trimB_sides, ← hpc, leftS_is ha, ← tail_txt, hpc]
        exact hj1 _ (by omega)
      · intro W hb
        exact trimRU s set _ lo B W hs (hv.below (hb.mono hB)) (hT.below hb) (Nat.le_trans hB hb.size)
      · intro v W hb hv1
        have := trimLU (txt (flat (trimR (inSet set) (pcsB s)))) set v lo B W (by omega) hv1 (hT.below hb) (Nat.le_trans hB hb.size)
        rw [hpc, ← trimB_sides] at this
        exact this
end Go.Proofs.YthgigchablajbaaDoor
