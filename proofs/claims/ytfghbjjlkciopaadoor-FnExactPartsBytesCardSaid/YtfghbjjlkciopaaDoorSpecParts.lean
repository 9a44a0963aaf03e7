/- Contract of spec.Parts: parts of parts, set by set, in new memory. Conditions: a text of at most 2 to the 41 bytes, sets of at most 2 to the 42. -/
import Derived.Test.YtfghbjjlkciopaaDoorFields
import Derived.Test.YtfghbjjlkciopaaDoorPartsPlain
import Derived.Test.YtfghbjjlkciopaaDoorMarked
import Derived.Laws.OwnMore
namespace Go.Proofs.YtfghbjjlkciopaaDoor
open Go.RowKit
set_option linter.unusedVariables false

theorem wpList_extend2 {P : Program} {ops : Array Oper} {rest : List Oper} {o : Oper} {a : Act} {Q : Exit → Act → World → Prop} (W : World) (hw : Region.wanted o (yielded ops a.tmps) = true) (s x : Operand) (t : TypeId)
    (ho : o.op = .call { callee := .builtin .append, args := #[s, x], argTypes := #[t, t] }) (base : Nat) (e : TypeId) (z : Value) (bytes : Nat) (ht : P.underlying t = some (.slice e))
    (hinf : (P.info? e).map (fun i => (i.zero, i.size, i.bytes)) = some (some z, 1, bytes)) (hzs : z.cells.size = 1)
    (v : Value) (xs : List Value) (hs : a.eval s = v) (hown : Own W base e v xs) (lo hi : Nat) (A : Option Addr) (n c : Nat) (ys : List Value) (hx : a.eval x = .slice A n c) (hn : n = ys.length) (hr : RowAt W lo hi A ys) (h1 : ∀ u ∈ ys, u.oneCell' = true)
    (hbytes : (xs.length + ys.length) * bytes ≤ 140737488355328) (hby : 0 < bytes) (hbase : base ≤ W.heap.size)
    (h : ∀ v' w', Own w' base e v' (xs ++ ys) → Below base W w' → W.grownBy w' v.ownBlock → (v'.ownBlock = v.ownBlock ∨ v'.ownBlock = some W.heap.size) → wpList P ops Q rest (a.put o.dst v') w') :
    wpList P ops Q (o :: rest) a W := by
  subst hn
  obtain ⟨v', w', hrun, h2, h3, h4⟩ := run_extend W t o.type e base z bytes ht hinf hzs v xs hown lo hi A c ys hr h1 hbytes hby hbase
  refine wpList_step fun K hK => ?_
  rw [if_pos hw]
  unfold Oper.wp execOp
  simp only [ho, resolve, invoke, builtin, Sem.run_bind, Sem.run_pure, Result.andThen_ok, List.map_toArray, List.map_cons, List.map_nil, hs, hx, hrun]
  exact hK _ _ (h v' w' h2 ((Below.refl base W).grown h3 hbase (fun k hk => (World.ownsRow.lt hown k hk).1)) h3 h4)

/-- the inner loop's word: the row v2 grows, the row vo lies apart -/
def SPIs (w : World) (vo : Value) (out : List (List UInt8)) (T : List (List UInt8)) (v2 : Value) (W : World) : Prop :=
  Own W w.heap.size 9 v2 (texts T) ∧ Own W w.heap.size 9 vo (texts out) ∧ (∀ g, v2.ownBlock = some g → vo.ownBlock ≠ some g) ∧ Below w.heap.size w W

set_option maxRecDepth 100000 in
set_option maxHeartbeats 1600000 in
theorem spec_parts (s : ByteArray) (A : Option Addr) (n c : Nat) (L : List (List UInt8)) (w : World) (hn : Hid (n = L.length)) (hnl : n ≤ 4398046511104) (hLm : Hid (∀ x ∈ L, x.length ≤ 4398046511104)) (hr : RowAt w 0 w.heap.size A (texts L)) (hs : s.size ≤ 2199023255552) :
    Calls Tryd.prog 15 #[.string s, .slice A n c] w (TextsPost (partsOf (L.map txt) s.data.toList) w) := by
  have Hr := Lib.hid hr; clear hr
  go_enter Tryd.func15, Tryd.ntmps15
  go_wp2_with fail
  go_loopw [5, 15] (fun v i wr => ∃ (k : Nat), k ≤ n ∧ i = .int .i64 k ∧ Own wr w.heap.size 9 v (texts (partsOf ((L.take k).map txt) s.data.toList)) ∧ Below w.heap.size w wr) (fun _ i _ => n - (intOf i).toNat)
  case atStart =>
    refine ⟨0, Nat.zero_le _, rfl, ?_, (Below.refl _ _).alloc (Nat.le_refl _) _⟩
    have := World.ownsRow_lit (base := w.heap.size) (e := 9) (size := 1) w #[.string s] 1 (Nat.le_refl _) (by unfold maxLen; omega) (by simp)
    simpa [Own, texts, partsOf, txt, Lib.mk_data] using this
  case round =>
    obtain ⟨k, hk, rfl, hown, hbw⟩ := hrel
    have hz := hbw.size
    obtain ⟨hpb, hpl⟩ := partsOf_bound ((L.take k).map txt) s.data.toList
    rw [← Lib.size_eq] at hpb hpl
    by_cases hlt : k < n
    · have hk' : k < L.length := by rw [← hn.out]; exact hlt
      obtain ⟨ba, oa, rfl, _, hba, hcell⟩ := Hr.out.at_ (i := k) (by rw [texts_length]; exact hk')
      replace hcell := (hbw.cell (p := ⟨ba, oa + k, none⟩) hba).trans hcell
      have hst : (L.take (k + 1)).map txt = (L.take k).map txt ++ [txt L[k]] := by rw [List.take_succ_eq_append_getElem hk', List.map_append]; rfl
      have hSl := hLm.out _ (List.getElem_mem hk')
      obtain ⟨S, hS⟩ : ∃ S, S = L[k] := ⟨_, rfl⟩
      rw [show (texts L)[k]'(by rw [texts_length]; exact hk') = .string (txt L[k]) by simp [texts], ← hS] at hcell
      rw [← hS] at hst hSl
      have Hst := Lib.hid hst
      clear hst hS hk'
      obtain ⟨out, hout⟩ : ∃ out, out = partsOf ((L.take k).map txt) s.data.toList := ⟨_, rfl⟩
      rw [← hout] at hown hpb hpl
      have Hout := Lib.hid hout; clear hout
      obtain ⟨m, hm⟩ : ∃ m, m = out.length := ⟨_, rfl⟩
      obtain ⟨Ao, co, rfl, hco, _⟩ := hown.form
      rw [texts_length, ← hm] at hown hco ⊢
      rw [← hm] at hpb
      have Hm := Lib.hid hm; clear hm
      have hP0 : SPIs w (.slice Ao m co) out [] (.slice (some ⟨wr.heap.size, 0, none⟩) 0 0) (wr.alloc (.cells #[] 9)) := by
        refine ⟨Own.empty wr _ _ _ rfl hz, hown.alloc _, ?_, hbw.alloc hz _⟩
        intro g hg e
        simp only [Value.ownBlock, Option.some.injEq] at hg
        subst hg
        have := (World.ownsRow.lt hown _ e).2
        omega
      clear hown
      go_wp2_with fail
      go_loopw [8, 22] (fun v i wx => ∃ (j : Nat), j ≤ m ∧ i = .int .i64 j ∧ SPIs w (.slice Ao m co) out (partStep (txt S) (out.take j)) v wx) (fun _ i _ => m - (intOf i).toNat)
      case atStart => exact ⟨0, Nat.zero_le _, rfl, hP0⟩
      case round =>
        clear hP0
        obtain ⟨j, hj, rfl, hP⟩ := hrel
        by_cases hjm : j < m
        · have hj' : j < out.length := by rw [← Hm.out]; exact hjm
          obtain ⟨q2, q3, q4, q6⟩ := hP
          obtain ⟨bo, oo, rfl, _, hbo, hpc⟩ := q3.row.at_ (i := j) (by rw [texts_length]; exact hj')
          have hnext := partStep_take (txt S) out j hj'
          obtain ⟨part, hpart⟩ : ∃ part, part = out[j] := ⟨_, rfl⟩
          rw [show (texts out)[j]'(by rw [texts_length]; exact hj') = .string (txt out[j]) by simp [texts], ← hpart] at hpc
          rw [← hpart] at hnext
          have hpartl : part.length ≤ s.size := by
            have := mem_len_sum (l := out) (x := part) (by rw [hpart]; exact List.getElem_mem hj')
            unfold lens at hpl
            omega
          have hTl := (partStep_bound (txt S) (out.take j)).1
          have hTl2 := lens_take out j
          obtain ⟨T, hT0⟩ : ∃ T, T = partStep (txt S) (out.take j) := ⟨_, rfl⟩
          rw [← hT0] at q2 hnext hTl
          have Hnext := Lib.hid hnext
          have hcb := (cutBy_bound (txt S) part).1
          have Q4 := Lib.hid q4
          clear hnext hpart hT0 hj' q4
          have hps : (txt part).size ≤ 4398046511104 := by show part.length ≤ _; omega
          have hSs : (txt S).size ≤ 4398046511104 := hSl
          go_wp2_with fail
          (with_reducible refine (fields_set (txt part) (txt S) _ hps hSs).mono ?_); rintro e w1 ⟨v1, rfl, h1, hb1⟩
          rw [show (segs (inSet (txt S)) (pcsB (txt part))).map flat = cutBy (txt S) part from rfl] at h1
          obtain ⟨A1, c1, rfl, hc1, _⟩ := h1.form
          rw [texts_length] at h1 ⊢
          have hz1 := hb1.size
          have hzw := q6.size
          go_wp2_with (at_builtin; refine wpList_extend2 _ rfl (.tmp 26) (.tmp 29) 22 rfl w.heap.size 9 _ 16 Tryd.underlying22 info_string rfl _ _ rfl (q2.below hb1) _ _ A1 _ c1 (texts (cutBy (txt S) part)) rfl (by rw [texts_length]) h1.row (by intro u hu; obtain ⟨b, _, rfl⟩ := List.mem_map.1 hu; rfl) (by rw [texts_length, texts_length]; omega) (by omega) (by omega) ?_; intro v4 w4 hown4 hbw4 hgr4 hat4)
          go_roundw
          case rel => exact ⟨j + 1, by omega, by go_num, by rw [Hnext.out]; unfold texts; rw [List.map_append]; exact hown4, World.ownsRow.kept (q3.below hb1) hgr4 (.inr (fun e => Q4.out _ e.symm rfl)), fun g hg e => by
            rcases hat4 with h | h
            · exact Q4.out g (h ▸ hg) e
            · rw [h] at hg
              injection hg with hg
              have := (World.ownsRow.lt q3 g e).2
              omega, (q6.trans (hb1.mono hzw)).trans hbw4⟩
          case measure => simp [intOf]; omega
        · have hjm' : j = m := by omega
          rw [hjm', List.take_of_length_le (by rw [← Hm.out]; exact Nat.le_refl _)] at hP
          obtain ⟨q2, q3, q4, q6⟩ := hP
          rw [Hout.out, ← partsOf_snoc, ← Hst.out] at q2
          have Q2 := Lib.hid q2
          clear q2 q3 q4 hjm'
          go_wp2_with fail
          go_roundw
          case rel => exact ⟨k + 1, by omega, by go_num, Q2.out, q6⟩
          case measure => simp [intOf]; omega
    · have hkn : k = n := by omega
      rw [hkn, List.take_of_length_le (by rw [← hn.out]; exact Nat.le_refl _)] at hown
      clear hpb hpl hkn
      go_wp2_with fail
      go_ret
      exact ⟨_, rfl, hown, hbw⟩
end Go.Proofs.YtfghbjjlkciopaaDoor
