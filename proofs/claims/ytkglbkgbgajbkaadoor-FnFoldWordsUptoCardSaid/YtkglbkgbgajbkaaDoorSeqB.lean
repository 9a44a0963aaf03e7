/- The iterator that bytes.FieldsSeq hands out: it yields slices of the argument's own bytes, the words. Conditions: a text of at most 2 to the 42 bytes; the tables of utf8 and of white space. -/
import Derived.Test.YtkglbkgbgajbkaaDoorRangeMem
import Derived.Test.YtkglbkgbgajbkaaDoorSpans
import Derived.Test.YtkglbkgbgajbkaaDoorDecB
import Derived.Test.YtkglbkgbgajbkaaDoorTabsB0
import Derived.Lib.TrimAscii
namespace Go.Proofs.YtkglbkgbgajbkaaDoor
open Go.RowKit Go.Shelf
set_option linter.unusedVariables false
attribute [local go_sem] Oper.semAt_some

/-- what the iterator reads: the slice's box, its bytes; what lay in w0 is as it was -/
def ItB (w0 : World) (s : ByteArray) (b1 b c : Nat) (W : World) : Prop :=
  W.cell? ⟨b1, 0, none⟩ = some (.slice (some ⟨b, 0, none⟩) s.size c) ∧ BytesAt s b 0 W ∧ b < W.heap.size ∧ Below w0.heap.size w0 W
theorem ItB.below {w0 : World} {s : ByteArray} {b1 b c : Nat} {W W' : World} (h : ItB w0 s b1 b c W) (hb : Below W.heap.size W W') : ItB w0 s b1 b c W' :=
  ⟨(hb.cell (p := ⟨b1, 0, none⟩) (cell_lt h.1)).trans h.1, fun j hj => (hb.cell (p := ⟨b, 0 + j, none⟩) h.2.2.1).trans (h.2.1 j hj), by have := hb.size; have := h.2.2.1; omega, h.2.2.2.trans (hb.mono h.2.2.2.size)⟩
theorem ItB.keep {w0 : World} {s : ByteArray} {b1 b c : Nat} {W W' : World} (hb : Below w0.heap.size W W') (hk : ∀ x ∈ [b1, b], W'.heap[x]? = W.heap[x]?) (h : ItB w0 s b1 b c W) : ItB w0 s b1 b c W' :=
  ⟨(World.cell?_of_block (hk b1 (by simp))).trans h.1, fun j hj => (World.cell?_of_block (hk b (by simp))).trans (h.2.1 j hj), by have := hb.size; have := h.2.2.1; omega, h.2.2.2.trans hb⟩
theorem isSpace_any (x : Nat) (W : World) (hx : x ≤ 1114111) (hW : Lib.WhiteTab 4 W) : Calls Tryd.prog 23 #[.int .i32 (x : Int)] W fun e w' => e = .returned (.bool (Lib.isSpaceR x)) ∧ Below W.heap.size W w' := by
  have h := Tryd.unicode_IsSpace_any (x : Int) W (by omega) (by omega) hW
  rw [Lib.isSpaceZ_nat] at h
  exact h
theorem decodeGo_low {t : ByteArray} (h : 0 < t.size) (ha : (t.get! 0).toNat < 128) : Lib.decodeGo t = ((t.get! 0).toNat, 1) := by
  obtain ⟨x, r, hx⟩ : ∃ x r, t.data.toList = x :: r := by
    cases e : t.data.toList with
    | nil => rw [Lib.size_eq, e] at h; simp at h
    | cons x r => exact ⟨x, r, rfl⟩
  have hg : t.get! 0 = x := by
    rw [get!_toList t 0 (by rw [hx]; simp)]
    simp [hx]
  rw [hg] at ha ⊢
  unfold Lib.decodeGo
  rw [if_neg (by omega), ← Lib.decodeL_ascii x r ha, ← hx]
  unfold Lib.decodeL
  rw [Lib.mk_data]
theorem table_at {W : World} (hT : TabsB W) (x : UInt8) : W.cell? ⟨0, x.toNat, none⟩ = some (.int .u8 (if Lib.isSp x then 1 else 0)) := by
  rw [hT.2.cell gB x.toNat (by rw [Lib.asciiSpaceTab_length]; exact x.toNat_lt), Lib.asciiSpaceTab_at x.toNat x.toNat_lt, UInt8.ofNat_toNat]
def SeqPost (s : ByteArray) (J Jx : List (Nat × Nat) → World → Prop) (e : Ending) (W' : World) : Prop :=
  (∃ v, e = .returned v) ∧ ((∃ ys : List (Nat × Nat), ys.map (spanOf s) = (segs Lib.isSpaceR (pcsB s)).map flat ∧ (∀ q ∈ ys, q.1 < q.2 ∧ q.2 ≤ s.size) ∧ J ys W') ∨ (∃ pre : List (Nat × Nat), True ∧ Jx pre W'))
/-- the loop's word -/
def SeqIs (w0 : World) (s : ByteArray) (b1 b c : Nat) (J : List (Nat × Nat) → World → Prop) (st iv : Value) (wr : World) : Prop :=
  ∃ (sp : List (Nat × Nat)) (a : Int) (i : Nat), st = .int .i64 a ∧ iv = .int .i64 i ∧ Hid (SpIs Lib.isSpaceR s sp a i) ∧ ItB w0 s b1 b c wr ∧ J sp wr

set_option maxRecDepth 100000 in
set_option maxHeartbeats 3200000 in
theorem seqB_in (w0 : World) (hT0 : TabsB w0) (n l B b1 b c : Nat) (s : ByteArray) (hs : s.size ≤ 4398046511104) (hc : s.size ≤ c) (J Jx : List (Nat × Nat) → World → Prop) (hJ : AbidesFrom B J)
    (hY : ∀ pre q W, J pre W → pre.length < s.size → q.1 < q.2 → q.2 ≤ s.size → YieldAt Fence.wide (n - 1) Tryd.prog l #[cutV b 0 q] W fun e W' =>
      (e = .returned (.bool true) ∧ J (pre ++ [q]) W' ∧ (ItB w0 s b1 b c W → ItB w0 s b1 b c W')) ∨ (e = .returned (.bool false) ∧ Jx (pre ++ [q]) W'))
    (W : World) (hK : ItB w0 s b1 b c W) (h0 : J [] W) :
    CallsIn Fence.wide n Tryd.prog 22 #[.func (.yield l) #[] #[], .pointer (some ⟨b1, 0, none⟩)] W (SeqPost s J Jx) := by
  refine callsIn_of_wp Tryd.func22 rfl trivial ?_ rfl
  simp only [Tryd.ntmps22, List.size_toArray, List.length_cons, List.length_nil, Nat.reduceAdd, Nat.reduceSub, Array.replicate_succ, Array.replicate_zero, List.push_toArray, List.append_toArray, List.nil_append, List.cons_append]
  gi_wp2
  gi_loopw [3, 4] (fun st iv wr => SeqIs w0 s b1 b c J st iv wr) (fun _ iv _ => s.size - (intOf iv).toNat)
  case atStart => exact ⟨[], -1, 0, rfl, rfl, SpIs.start _ _, hK, h0⟩
  case round =>
    obtain ⟨sp, a, i, rfl, rfl, hF, hit, hj⟩ := hrel
    obtain ⟨hil, hst⟩ := hF.out.1.le
    have hit0 := hit
    obtain ⟨hc1, hat, hbl, hbw0⟩ := hit
    have hT : TabsB wr := hT0.below hbw0
    have Hat := Lib.hid hat; clear hat
    obtain ⟨n9, hn9⟩ : ∃ n9, n9 = s.size := ⟨_, rfl⟩
    have Hn9 := Lib.hid hn9
    by_cases hlt : i < s.size
    · obtain ⟨q, hd, hru, hq1, hq2, hA, hB, hC, hD⟩ := hF.out.more hlt
      have hcnt := hF.out.count
      obtain ⟨x, hx⟩ : ∃ x, x = s.get! i := ⟨_, rfl⟩
      have hcx : wr.cell? ⟨b, i, none⟩ = some (.int .u8 (x.toNat : Int)) := by
        have := Hat.out i hlt
        rw [Nat.zero_add, ← hx] at this
        exact this
      have hx8 : x.toNat < 256 := x.toNat_lt
      have hx8i : (x.toNat : Int) < 256 := by omega
      have hxz : (0 : Int) ≤ (x.toNat : Int) := by omega
      have htb := table_at hT x
      have hlow : x.toNat < 128 → q.1 = x.toNat ∧ q.2.length = 1 := fun h => by
        have h1 : (s.extract i s.size).get! 0 = x := by rw [Lib.tail_get! s i 0, Nat.add_zero]; exact hx.symm
        have h2 := decodeGo_low (t := s.extract i s.size) (by rw [tail_len]; omega) (by rw [h1]; exact h)
        rw [hd, h1] at h2
        injection h2 with h3 h4
        exact ⟨h3, h4⟩
      obtain ⟨r, bs⟩ := q
      simp only at hd hru hq1 hq2 hA hB hC hD hlow
      have Hd := Lib.hid hd; have HA := Lib.hid hA; have HB := Lib.hid hB; have HC := Lib.hid hC; have HD := Lib.hid hD; have Hlow := Lib.hid hlow
      have hi1 : (i : Int) < (s.size : Int) := by omega
      have hi0 : (0 : Int) ≤ (i : Int) := by omega
      clear hd hA hB hC hD hlow hx hn9
      by_cases hasc : x.toNat < 128
      · have h128 : ¬ (128 : Int) ≤ (x.toNat : Int) := by omega
        obtain ⟨hr, hbs⟩ := Hlow.out hasc
        have Hr := Lib.hid hr; have Hbs := Lib.hid hbs; clear hr hbs
        cases hsx : Lib.isSp x with
        | true =>
          have hin : Lib.isSpaceR r = true := by rw [Hr.out]; exact (Lib.isSp_true hsx).2
          rw [hsx] at htb
          simp only [if_true] at htb
          have hin0 := hin
          have Hin := Lib.hid hin0
          clear hsx hin hin0
          rcases hst with rfl | ⟨k, rfl, hki⟩
          · have Hn := Lib.hid (by have := HA.out Hin.out rfl; rw [Hbs.out] at this; exact this)
            gi_wp2_with fail
            go_roundw
            case rel => exact ⟨sp, -1, i + 1, rfl, by go_num, Hn, hit0, hj⟩
            case measure => simp [intOf]; omega
          · have Hn := Lib.hid (by have := HB.out Hin.out k rfl; rw [Hbs.out] at this; exact this)
            have hlen : sp.length < s.size := by
              have := Hn.out.count
              rw [List.length_append, List.length_singleton] at this
              omega
            obtain ⟨fn, tmps, assign, body, hy, hR⟩ := hY sp (k, i) wr hj hlen hki hil
            simp only [cutV, Nat.zero_add] at hy
            have hk0 : (0 : Int) ≤ (k : Int) := by omega
            have hk1 : (k : Int) ≤ (i : Int) := by omega
            have hkc : ¬ (k : Int) = (c : Int) := by omega
            have hkc2 : ¬ k = c := by omega
            have hki2 : ¬ k = i := by omega
            have hsc : (i : Int) ≤ (c : Int) := by omega
            gi_wp2_with fail
            refine ⟨wide_room, hR.mono ?_⟩
            rintro e W3 (⟨rfl, hj3, hk3⟩ | ⟨rfl, hjx3⟩)
            · have hit3 := hk3 hit0
              clear hR hy
              gi_wp2_with fail
              go_roundw
              case rel => exact ⟨sp ++ [(k, i)], -1, i + 1, rfl, by go_num, Hn, hit3, hj3⟩
              case measure => simp [intOf]; omega
            · clear hR hy
              gi_wp2_with fail
              refine bodyPost_ret (results_none rfl _ _ _) rfl ?_
              exact ⟨⟨_, rfl⟩, .inr ⟨sp ++ [(k, i)], trivial, hjx3⟩⟩
        | false =>
          have hin : Lib.isSpaceR r = false := by rw [Hr.out]; exact Lib.isSp_false hsx hasc
          rw [hsx] at htb
          simp only [Bool.false_eq_true, if_false] at htb
          have Hin := Lib.hid hin
          clear hsx hin
          rcases hst with rfl | ⟨k, rfl, hki⟩
          · have Hn := Lib.hid (by have := HC.out Hin.out rfl; rw [Hbs.out] at this; exact this)
            gi_wp2_with fail
            go_roundw
            case rel => exact ⟨sp, i, i + 1, rfl, by go_num, Hn, hit0, hj⟩
            case measure => simp [intOf]; omega
          · have Hn := Lib.hid (by have := HD.out Hin.out k rfl; rw [Hbs.out] at this; exact this)
            gi_wp2_with fail
            go_roundw
            case rel => exact ⟨sp, k, i + 1, rfl, by go_num, Hn, hit0, hj⟩
            case measure => simp [intOf]; omega
      · have h128 : (128 : Int) ≤ (x.toNat : Int) := by omega
        obtain ⟨tv, htv⟩ : ∃ tv : Int, tv = if Lib.isSp x then 1 else 0 := ⟨_, rfl⟩
        rw [← htv] at htb
        clear htv
        have hic : ¬ (i : Int) = (c : Int) := by omega
        have hic2 : ¬ i = c := by omega
        have hic3 : (i : Int) ≤ (s.size : Int) := by omega
        have hdec := decodeB_any (s.extract i s.size) b (0 + i) (c - i) wr hT.1.1 (Hat.out.tail _)
        rw [tail_len, Hd.out, Nat.zero_add] at hdec
        have Hdec := Lib.hid hdec; clear hdec
        gi_wp2_with fail
        (with_reducible refine enter_wide Hdec.out ?_); rintro e w1 ⟨rfl, hb1⟩
        have hit1 := hit0.below hb1
        have hW1 : Lib.WhiteTab 4 w1 := by
          obtain ⟨_, _, _, hb01⟩ := hit1
          exact (hT0.below hb01).1.2
        have hj1 := abides_below hJ hj hb1
        gi_wp2_with fail
        (with_reducible refine enter_wide (isSpace_any r _ hru hW1) ?_)
        cases hin : Lib.isSpaceR r with
        | true =>
          rintro e w2 ⟨rfl, hb2⟩
          have hit2 := hit1.below hb2
          have hj2 := abides_below hJ hj1 hb2
          have hit2' := hit2
          obtain ⟨hd1, hd2, hd3, hT2⟩ := hit2'
          have Hin := Lib.hid hin
          have Hd2 := Lib.hid hd2
          clear hin hd2
          rcases hst with rfl | ⟨k, rfl, hki⟩
          · have Hn := Lib.hid (HA.out Hin.out rfl)
            gi_wp2_with fail
            go_roundw
            case rel => exact ⟨sp, -1, i + bs.length, rfl, by go_num, Hn, hit2, hj2⟩
            case measure => simp [intOf]; omega
          · have Hn := Lib.hid (HB.out Hin.out k rfl)
            have hlen : sp.length < s.size := by
              have := Hn.out.count
              rw [List.length_append, List.length_singleton] at this
              omega
            obtain ⟨fn, tmps, assign, body, hy, hR⟩ := hY sp (k, i) w2 hj2 hlen hki hil
            simp only [cutV, Nat.zero_add] at hy
            have hk0 : (0 : Int) ≤ (k : Int) := by omega
            have hk1 : (k : Int) ≤ (i : Int) := by omega
            have hkc : ¬ (k : Int) = (c : Int) := by omega
            have hkc2 : ¬ k = c := by omega
            have hki2 : ¬ k = i := by omega
            have hsc : (i : Int) ≤ (c : Int) := by omega
            gi_wp2_with fail
            refine ⟨wide_room, hR.mono ?_⟩
            rintro e W3 (⟨rfl, hj3, hk3⟩ | ⟨rfl, hjx3⟩)
            · have hit3 := hk3 hit2
              clear hR hy
              gi_wp2_with fail
              go_roundw
              case rel => exact ⟨sp ++ [(k, i)], -1, i + bs.length, rfl, by go_num, Hn, hit3, hj3⟩
              case measure => simp [intOf]; omega
            · clear hR hy
              gi_wp2_with fail
              refine bodyPost_ret (results_none rfl _ _ _) rfl ?_
              exact ⟨⟨_, rfl⟩, .inr ⟨sp ++ [(k, i)], trivial, hjx3⟩⟩
        | false =>
          rintro e w2 ⟨rfl, hb2⟩
          have hit2 := hit1.below hb2
          have hj2 := abides_below hJ hj1 hb2
          have hit2' := hit2
          obtain ⟨hd1, hd2, hd3, hT2⟩ := hit2'
          have Hin := Lib.hid hin
          have Hd2 := Lib.hid hd2
          clear hin hd2
          rcases hst with rfl | ⟨k, rfl, hki⟩
          · have Hn := Lib.hid (HC.out Hin.out rfl)
            gi_wp2_with fail
            go_roundw
            case rel => exact ⟨sp, i, i + bs.length, rfl, by go_num, Hn, hit2, hj2⟩
            case measure => simp [intOf]; omega
          · have Hn := Lib.hid (HD.out Hin.out k rfl)
            gi_wp2_with fail
            go_roundw
            case rel => exact ⟨sp, k, i + bs.length, rfl, by go_num, Hn, hit2, hj2⟩
            case measure => simp [intOf]; omega
    · obtain ⟨hE1, hE2⟩ := hF.out.last hlt
      have hval := hF.out.2
      have hcnt := hF.out.count
      have HE1 := Lib.hid hE1; have HE2 := Lib.hid hE2; have Hval := Lib.hid hval
      clear hE1 hE2 hval hn9
      have hi1 : ¬ (i : Int) < (s.size : Int) := by omega
      rcases hst with rfl | ⟨k, rfl, hki⟩
      · have He := Lib.hid (HE1.out rfl)
        gi_wp2_with fail
        go_end0
        exact ⟨⟨_, rfl⟩, .inl ⟨sp, He.out, Hval.out, hj⟩⟩
      · obtain ⟨he, hks⟩ := HE2.out k rfl
        have hpl : sp.length < s.size := by
          have h1 := congrArg List.length he
          rw [List.length_map, List.length_map, List.length_append, List.length_singleton] at h1
          have h2 := segs_size Lib.isSpaceR s
          omega
        have hval2 : ∀ q ∈ sp ++ [(k, s.size)], q.1 < q.2 ∧ q.2 ≤ s.size := fun q hq => by
          rcases List.mem_append.1 hq with h | h
          · exact Hval.out q h
          · rw [List.mem_singleton] at h; subst h; exact ⟨hks, Nat.le_refl _⟩
        have He := Lib.hid he; have HVal2 := Lib.hid hval2
        obtain ⟨fn, tmps, assign, body, hy, hR⟩ := hY sp (k, s.size) wr hj hpl hks (Nat.le_refl _)
        simp only [cutV, Nat.zero_add] at hy
        have hk0 : (0 : Int) ≤ (k : Int) := by omega
        have hk1 : (k : Int) ≤ (s.size : Int) := by omega
        have hkc : ¬ (k : Int) = (c : Int) := by omega
        have hkc2 : ¬ k = c := by omega
        have hks2 : ¬ k = s.size := by omega
        have hsc : (s.size : Int) ≤ (c : Int) := by omega
        clear he hval2 hpl
        gi_wp2_with fail
        refine ⟨wide_room, hR.mono ?_⟩
        rintro e W3 (⟨rfl, hj3, hk3⟩ | ⟨rfl, hjx3⟩)
        · clear hR hy
          gi_wp2_with fail
          go_end0
          exact ⟨⟨_, rfl⟩, .inl ⟨sp ++ [(k, s.size)], He.out, HVal2.out, hj3⟩⟩
        · clear hR hy
          gi_wp2_with fail
          go_end0
          exact ⟨⟨_, rfl⟩, .inr ⟨sp ++ [(k, s.size)], trivial, hjx3⟩⟩
/-- the value that bytes.FieldsSeq hands out -/
theorem seqB_stops (w0 : World) (hT0 : TabsB w0) (n b1 b c : Nat) (s : ByteArray) (hs : s.size ≤ 4398046511104) (hc : s.size ≤ c) (w : World) (hK : ItB w0 s b1 b c w) :
    SeqStopsK Fence.wide n Tryd.prog 22 #[.pointer (some ⟨b1, 0, none⟩)] (fun q : {q : Nat × Nat // q.1 < q.2 ∧ q.2 ≤ s.size} => #[cutV b 0 q.1]) (fun W W' => ItB w0 s b1 b c W → ItB w0 s b1 b c W')
      (fun ys => (ys.map fun q => spanOf s q.1) = (segs Lib.isSpaceR (pcsB s)).map flat) (fun _ => True) s.size w := fun l J Jx W hW hJ hJx hY h0 => by
  have h := seqB_in w0 hT0 n l W.heap.size b1 b c s hs hc (fun sp W' => ∃ ys : List {q : Nat × Nat // q.1 < q.2 ∧ q.2 ≤ s.size}, ys.map (·.1) = sp ∧ J ys W') (fun sp W' => ∃ ys : List {q : Nat × Nat // q.1 < q.2 ∧ q.2 ≤ s.size}, ys.map (·.1) = sp ∧ Jx ys W')
    (fun sp W1 W2 row ⟨ys, e, h1⟩ hg hr => ⟨ys, e, hJ ys W1 W2 row h1 hg hr⟩)
    (fun pre q W1 ⟨ys, e, h1⟩ hl hq1 hq2 => by
      obtain ⟨fn, tmps, assign, body, hy, hR⟩ := hY ys ⟨q, hq1, hq2⟩ W1 h1 (by rw [← e, List.length_map] at hl; exact hl)
      refine ⟨fn, tmps, assign, body, hy, hR.mono ?_⟩
      rintro e' W' (⟨a1, a2, a3⟩ | ⟨a1, a2⟩)
      · exact .inl ⟨a1, ⟨_, by rw [List.map_append, e]; rfl, a2⟩, a3⟩
      · exact .inr ⟨a1, _, by rw [List.map_append, e]; rfl, a2⟩)
    W (hK.below hW) ⟨[], rfl, h0⟩
  refine h.mono ?_
  rintro e' W' ⟨h1, ⟨sp, h2, _, ys, h3, h4⟩ | ⟨sp, _, ys, h3, h4⟩⟩
  · refine ⟨h1, .inl ⟨ys, ?_, h4⟩⟩
    rw [← h2, ← h3, List.map_map]; rfl
  · exact ⟨h1, .inr ⟨ys, trivial, h4⟩⟩
theorem seqB_made (s : ByteArray) (b c : Nat) (w : World) :
    Calls Tryd.prog 18 #[.slice (some ⟨b, 0, none⟩) s.size c] w fun e w' => e = .returned (.func (.func 22) #[] #[.pointer (some ⟨w.heap.size, 0, none⟩)]) ∧
      w'.cell? ⟨w.heap.size, 0, none⟩ = some (.slice (some ⟨b, 0, none⟩) s.size c) ∧ Below w.heap.size w w' := by
  go_enter Tryd.func18, Tryd.ntmps18
  go_wp2
  go_ret
  exact ⟨rfl, by simp [World.cell?, World.alloc, -World.alloc_eq], (Below.refl _ _).alloc (Nat.le_refl _) _⟩
end Go.Proofs.YtkglbkgbgajbkaaDoor
