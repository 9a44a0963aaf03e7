/- The walk of the law FnPeelMirror: it returns true; old memory as it was. Conditions: the reach of the rows. -/
import Derived.Test.YtjpaboomgicjaaaSides
import Derived.Test.YtjpaboomgicjaaaBackward
import Derived.Deep.RegionHeld3
import Derived.Deep.AppendLies
namespace Go.Proofs.Ytjpaboomgicjaaa
open Go.RowKit
set_option linter.unusedVariables false

def turnM (m : Mb) (r : ByteArray) : Mb := (!m.1, r)

/-- a row of marks onto a row of marks of the call's own, as a step of a region whose order is drawn -/
theorem step_extendM {P : Program} {ops : Array Oper} {o : Oper} {a : Act} {K : Act → World → Prop} {Q : Exit → Act → World → Prop} {E : Prop} (W : World) (hgd : o.guard = none) (s x : Operand) (t : TypeId)
    (ho : o.op = .call { callee := .builtin .append, args := #[s, x], argTypes := #[t, t] }) (base : Nat) (e : TypeId) (z : Value) (ht : P.underlying t = some (.slice e))
    (hinf : (P.info? e).map (fun i => (i.zero, i.size, i.bytes)) = some (some z, 2, 24)) (hzs : z.cells.size = 2)
    (v : Value) (ms : List Mb) (m : Mb) (ad : Addr) (hs : a.eval s = v) (hx : a.eval x = .slice (some ad) 1 1) (hown : OwnM W base e v ms) (hcells : W.cell? ad = some (.bool m.1) ∧ W.cell? (ad.add 1) = some (.string m.2)) (hbytes : (ms.length + 1) * 24 ≤ 140737488355328) (hbase : base ≤ W.heap.size)
    (h : ∀ v' w', OwnM w' base e v' (ms ++ [m]) → Below base W w' → W.grownBy w' v.ownBlock → K (a.put o.dst v') w') :
    if Region.wanted o (yielded ops a.tmps) = true then Oper.wp P o a W K Q else E := by
  have hw : Region.wanted o (yielded ops a.tmps) = true := by simp [Region.wanted, hgd]
  rw [if_pos hw]
  obtain ⟨i, hi', hz0, hz1, hz2⟩ := info_parts hinf
  have hc : ∀ j u, (mcells [m])[j]? = some u → W.cell? (ad.add j) = some u := by
    intro j u hu
    match j, hu with
    | 0, hu => simp [mcells] at hu; subst hu; simpa [Addr.add] using hcells.1
    | 1, hu => simp [mcells] at hu; subst hu; exact hcells.2
    | j + 2, hu => simp [mcells] at hu
  obtain ⟨v', w', hrun, h2, h3, _, h5⟩ := run_append_own_at (P := P) W base t o.type e i z 2 24 ht hi' hz0 hz1 hz2 hzs (by omega) v ms.length (mcells ms) hown ad 1 1 (mcells [m]) (by simp [mcells]) hc (mcells_oneCell [m]) (by unfold maxLen; omega) hbytes hbase
  unfold Oper.wp execOp
  simp only [ho, resolve, invoke, builtin, Sem.run_bind, Sem.run_pure, Result.andThen_ok, List.map_toArray, List.map_cons, List.map_nil, hs, hx, hrun]
  refine h v' w' ?_ ((Below.refl base W).grown h3 hbase (fun k hk => (World.ownsRow.lt hown k hk).1)) h3
  unfold OwnM
  rw [List.length_append, mcells_append]
  exact h2

theorem OwnM.drew {w : World} {base : Nat} {e : TypeId} {v : Value} {ms : List Mb} (h : OwnM w base e v ms) : OwnM w.drew base e v ms := h
theorem mark_new (w : World) (b : Bool) (t : ByteArray) (e : TypeId) : (w.alloc (.cells #[.bool b, .string t] e)).cell? ⟨w.heap.size, 0, none⟩ = some (.bool b) ∧ (w.alloc (.cells #[.bool b, .string t] e)).cell? ((⟨w.heap.size, 0, none⟩ : Addr).add 1) = some (.string t) := by
  rw [Go.WideShapes.add_plain]
  simp [World.cell?, World.alloc, -World.alloc_eq]
theorem keep_below {B g : Nat} {w w' : World} {x y : Value} (hb : Below B w w') (hg : g < B) (h : w.cell? ⟨g, 0, none⟩ = some x ∧ w.cell? ⟨g, 1, none⟩ = some y) : w'.cell? ⟨g, 0, none⟩ = some x ∧ w'.cell? ⟨g, 1, none⟩ = some y :=
  ⟨(hb.cell (p := ⟨g, 0, none⟩) hg).trans h.1, (hb.cell (p := ⟨g, 1, none⟩) hg).trans h.2⟩
theorem keep_grown {g : Nat} {w w' : World} {x y u : Value} (hne : u.ownBlock ≠ some g) (hgr : w.grownBy w' u.ownBlock) (hg : g < w.heap.size) (h : w.cell? ⟨g, 0, none⟩ = some x ∧ w.cell? ⟨g, 1, none⟩ = some y) : w'.cell? ⟨g, 0, none⟩ = some x ∧ w'.cell? ⟨g, 1, none⟩ = some y :=
  ⟨(World.cell?_of_block (hgr.block g hg (Ne.symm hne))).trans h.1, (World.cell?_of_block (hgr.block g hg (Ne.symm hne))).trans h.2⟩
/-- the loop's word: the marks, each read from behind -/
def TurnIs (L : List Mb) (w : World) (k : Nat) (T : List Mb) (v : Value) (wr : World) : Prop :=
  T.map mk = ((L.take k).map mk).map flip1 ∧ OwnM wr w.heap.size 42 v T ∧ Below w.heap.size w wr

theorem turn_next {L : List Mb} {w w3 : World} {k : Nat} {T : List Mb} {v3 : Value} {bq : Bool} {tq r : ByteArray} (hk : k < L.length) (hT : Hid (T.map mk = ((L.take k).map mk).map flip1)) (hq : Hid ((bq, tq) = L[k])) (hr : Hid (r.data.toList = tq.data.toList.reverse))
    (ho : OwnM w3 w.heap.size 42 v3 (T ++ [(!bq, r)])) (hb : Below w.heap.size w w3) : TurnIs L w (k + 1) (T ++ [(!bq, r)]) v3 w3 := by
  refine ⟨?_, ho, hb⟩
  rw [List.take_succ_eq_append_getElem hk, ← hq.out]
  simp only [List.map_append, List.map_cons, List.map_nil, hT.out]
  congr 1
  simp only [mk, flip1, hr.out]
theorem mirror_eq {s sb : ByteArray} {L T : List Mb} (hT : Hid (T.map mk = (L.map mk).map flip1)) (hs : Hid (sb.data.toList = s.data.toList.reverse)) : (peelB sb T).1 = (peelB s L).1.reverse ∧ (peelB sb T).2 = (peelB s L).2 := by
  unfold peelB
  rw [hT.out, hs.out, peelL_flip]
  exact ⟨rfl, rfl⟩

set_option maxHeartbeats 1600000 in
theorem fnPeelMirror_walk {w : World} (s : ByteArray) (hs : s.size ≤ 140737488351232) (A : Option Addr) (n c : Nat) (L : List Mb) (hm : MArg w A n c L) :
    Calls Try.prog 10 #[.string s, .slice A n c] w fun e w' => e = .returned (.bool true) ∧ Below w.heap.size w w' := by
  obtain ⟨hn, hnc, hn24, hsz, hat⟩ := hm
  have Hn := Lib.hid hn; clear hn
  have Hsz := Lib.hid hsz; clear hsz
  go_enter Try.func10, Try.ntmps10
  go_wp2
  go_loopw [5, 15] (fun v i wr => ∃ (k : Nat) (T : List Mb), k ≤ n ∧ i = .int .i64 k ∧ TurnIs L w k T v wr) (fun _ i _ => n - (intOf i).toNat)
  case atStart => exact ⟨0, [], Nat.zero_le _, rfl, rfl, OwnM.empty w _ _ _ rfl (Nat.le_refl _), (Below.refl _ _).alloc (Nat.le_refl _) _⟩
  case round =>
    obtain ⟨k, T, hk, rfl, hT, hown, hbw⟩ := hrel
    have hz := hbw.size
    by_cases hlt : k < n
    · have hk' : k < L.length := by rw [← Hn.out]; exact hlt
      obtain ⟨b, o, rfl, _, hbl, hc1, hc2⟩ := (hat.below hbw).at_ hk'
      have htq := Hsz.out _ (List.getElem_mem hk')
      obtain ⟨q, hq⟩ : ∃ q : Mb, q = L[k] := ⟨_, rfl⟩
      rw [← hq] at hc1 hc2 htq
      have Hq := Lib.hid hq; clear hq
      obtain ⟨bq, tq⟩ := q
      simp only at hc1 hc2 htq
      have HT := Lib.hid hT; clear hT
      have hne : u5.ownBlock ≠ some wr.heap.size := fun h => Nat.lt_irrefl _ (World.ownsRow.lt hown _ h).2
      have HL : Hid (T.length = k) := by
        have := congrArg List.length HT.out
        simp only [List.length_map, List.length_take] at this
        rw [← Hn.out] at this
        show _ = _
        omega
      go_wp2_with fail
      go_region_held3 (fun w' => w'.cell? ⟨wr.heap.size, 0, none⟩ = some (.bool bq) ∧ w'.cell? ⟨wr.heap.size, 1, none⟩ = some (.string tq))
        (first
          | go_keep
          | (go_split_ands
             exact keep_grown hne hgr3 (by have := hb2.size; simp at this ⊢; omega) ⟨by assumption, by assumption⟩)
          | (go_split_ands
             exact keep_below hb2 (by simp) ⟨by assumption, by assumption⟩))
        (first
          | (refine step_extendM _ (by rfl) _ _ _ (by rfl) w.heap.size 42 _ Try.underlying27 info_mark rfl u5 T (!bq, r) ⟨w2.heap.size, 0, none⟩ (by rfl) (by rfl) (by exact World.ownsRow.alloc (OwnM.below (OwnM.drew (World.ownsRow.alloc hown _)) hb2) _) (by exact mark_new _ _ _ _) (by rw [HL.out]; omega) (by simp; have := hb2.size; simp at this; omega) ?_; intro v3 w3 hown3 hbw3 hgr3)
          | (go_at_call 34; refine (backward_any tq _ htq).mono ?_; rintro e w2 ⟨r, rfl, hr, hb2⟩))
      go_wp2
      have hbz := hb2.size
      have hfin : Below w.heap.size w w3 := (hbw.trans ((((Below.refl w.heap.size wr).alloc hz (.cells #[.bool bq, .string tq] 42)).drew.trans (hb2.mono (by simp; omega))).alloc (by simp at hbz; omega) (.cells #[.bool !bq, .string r] 42))).trans hbw3
      have hn' := turn_next hk' HT Hq hr hown3 hfin
      go_roundw
      case rel => exact ⟨k + 1, _, by omega, by go_num, hn'⟩
      case measure => simp [intOf]; omega
    · have hkn : k = n := by omega
      subst hkn
      have hT2 : T.map mk = (L.map mk).map flip1 := by rw [List.take_of_length_le (Nat.le_of_eq Hn.out.symm)] at hT; exact hT
      have hTl : k = T.length := by have := congrArg List.length hT2; simp only [List.length_map] at this; rw [this]; exact Hn.out
      have HT := Lib.hid hT2; have HTl := Lib.hid hTl
      clear hT hT2 hTl
      obtain ⟨A5, c5, hv5, _⟩ := hown.form
      rw [← HTl.out] at hv5
      subst hv5
      have hmt := hown.mat.more (Nat.zero_le _) (Nat.le_refl _)
      go_wp2_with fail
      (with_reducible refine (impl_peel s A k c L _ (by unfold maxLen; omega) Hn.out (by omega) ((hat.below hbw).more (Nat.le_refl _) hbw.size)).mono ?_); rintro e w1 ⟨r1, A1, c1, rfl, hr1, hown1, hb1⟩
      rw [← Hn.out] at hown1 ⊢
      have R1 := Lib.hid hr1; clear hr1
      go_wp2_with fail
      (with_reducible refine (backward_any s _ hs).mono ?_); rintro e w2 ⟨sb, rfl, hsb, hb2⟩
      have hsl : sb.size ≤ 140737488351232 := by rw [Lib.size_eq, hsb.out, List.length_reverse, ← Lib.size_eq]; exact hs
      have hb12 := hb1.trans (hb2.mono hb1.size)
      go_wp2_with fail
      (with_reducible refine (impl_peelB sb A5 k c5 T _ (by unfold maxLen; omega) HTl.out (by omega) ((hmt.below hb12).more (Nat.le_refl _) hb12.size)).mono ?_); rintro e w3 ⟨r3, A3, c3, rfl, hr3, hown3, hb3⟩
      obtain ⟨e1, e2⟩ := mirror_eq (s := s) (L := L) HT hsb
      rw [e2, ← HTl.out] at hown3
      rw [← HTl.out]
      have hl3 : r3.size ≤ 140737488351232 := by
        have : r3.size ≤ sb.size := by rw [Lib.size_eq, Lib.size_eq, hr3]; exact peelL_le _ _
        omega
      have R3 := Lib.hid (hr3.trans e1); clear hr3 e1 e2
      go_wp2_with fail
      (with_reducible refine (backward_any r3 _ hl3).mono ?_); rintro e w4 ⟨r4, rfl, h4, hb4⟩
      obtain rfl : r4 = r1 := eq_of_data (h4.out.trans (by rw [R3.out, List.reverse_reverse]; exact R1.out.symm))
      clear h4 R3 R1
      have hb24 := (hb2.trans (hb3.mono hb2.size)).trans (hb4.mono (hb2.trans (hb3.mono hb2.size)).size)
      have hb14 := hb1.trans (hb24.mono hb1.size)
      go_wp2_with fail
      (with_reducible refine (sameBools_v _ _ (peelB s L).2 _ (by rw [peelB_len, ← Hn.out]; omega) (hown1.rowV.below hb24) (hown3.rowV.below hb4)).mono ?_); rintro e w' ⟨rfl, m1', rfl⟩
      go_wp2
      go_ret
      exact ⟨rfl, below_drewN (hbw.trans (hb14.mono hbw.size)) _⟩
end Go.Proofs.Ytjpaboomgicjaaa
