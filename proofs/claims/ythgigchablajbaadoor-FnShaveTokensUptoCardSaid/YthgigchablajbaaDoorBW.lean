/- Words for values that are byte slices of a sound capacity; what bytes.trimLeftUnicode and trimRightUnicode leave. Conditions: lengths within 2 to the 47; the tables of utf8. -/
import Derived.Test.YthgigchablajbaaDoorEndSteps
import Derived.Test.YthgigchablajbaaDoorDecB
import Derived.Shelf.Spec.DecodeLastRune
import Derived.Shelf.Bytes.SlTrimWalks
namespace Go.Proofs.YthgigchablajbaaDoor
open Go.RowKit
set_option linter.unusedVariables false

/-- a value that is a slice of these bytes, within blocks below B -/
def BW (w : World) (lo B : Nat) (v : Value) (s : ByteArray) : Prop :=
  (∃ b o c, v = .slice (some ⟨b, o, none⟩) s.size c ∧ (s.size ≤ c ∧ c ≤ 9223372036854775807) ∧ (lo ≤ b ∧ b < B) ∧ BytesAt s b o w) ∨ (v = .slice none 0 0 ∧ s.size = 0)
theorem BW.bv {w : World} {lo B : Nat} {v : Value} {s : ByteArray} (h : BW w lo B v s) : BV w lo B v s := by
  rcases h with ⟨b, o, c, rfl, h1, h2, h3⟩ | h
  · exact .inl ⟨b, o, c, rfl, h1.1, h2, h3⟩
  · exact .inr h
theorem BW.below {w w' : World} {lo B : Nat} {v : Value} {s : ByteArray} (h : BW w lo B v s) (hb : Below B w w') : BW w' lo B v s := by
  rcases h with ⟨b, o, c, rfl, h1, h2, h3⟩ | h
  · exact .inl ⟨b, o, c, rfl, h1, h2, fun j hj => (hb.cell (p := ⟨b, o + j, none⟩) h2.2).trans (h3 j hj)⟩
  · exact .inr h
theorem head_sz (s : ByteArray) (k : Nat) (hk : k ≤ s.size) : (s.extract 0 k).size = k := head_size s k hk
/-- the bytes as the library's contracts want them; cut at either end -/
theorem BW.lib {w : World} {lo B : Nat} {v : Value} {s : ByteArray} (h : BW w lo B v s) : ∃ p c, v = .slice p s.size c ∧ s.size ≤ c ∧ c ≤ 9223372036854775807 ∧ Lib.BytesAt w p s.size s.data.toList ∧
    (∀ k, k ≤ s.size → BW w lo B (.slice p k c) (s.extract 0 k)) ∧ (∀ j, j ≤ s.size → BW w lo B (Lib.leftV p s.size c j) (s.extract j s.size)) := by
  rcases h with ⟨b, o, c, rfl, h1, h2, h3⟩ | ⟨rfl, h⟩
  · refine ⟨_, c, rfl, h1.1, h1.2, fun _ => ⟨b, o, rfl, fun i hi => ?_⟩, fun k hk => ?_, fun j hj => ?_⟩
    · rw [h3 i hi, get_getD]
    · exact .inl ⟨b, o, c, by rw [head_sz s k hk], ⟨by rw [head_sz s k hk]; omega, h1.2⟩, h2, h3.head k hk⟩
    · unfold Lib.leftV
      split
      · refine .inr ⟨rfl, by rw [tail_len]; omega⟩
      · unfold Lib.fromV
        rw [if_neg (by omega)]
        exact .inl ⟨b, o + j, c - j, by rw [tail_len]; simp [Addr.add], ⟨by rw [tail_len]; omega, by omega⟩, h2, h3.tail j⟩
  · refine ⟨none, 0, by rw [h], by omega, by omega, fun h0 => by omega, fun k hk => ?_, fun j hj => ?_⟩
    · obtain rfl : k = 0 := by omega
      exact .inr ⟨rfl, by rw [head_sz s 0 (by omega)]⟩
    · obtain rfl : j = 0 := by omega
      unfold Lib.leftV
      rw [if_pos (by omega)]
      exact .inr ⟨rfl, by rw [tail_len]; omega⟩
/-- a string turned into bytes: new memory that holds them -/
theorem wpList_toBW {P : Program} {ops : Array Oper} {rest : List Oper} {o : Oper} {a : Act} {Q : Exit → Act → World → Prop} (w : World) (hgd : o.guard = none) (x : Operand) (src dst e : TypeId)
    (ho : o.op = .convert src dst x) {u : TypeDesc} (hs : P.underlying src = some u) (hd : P.underlying dst = some (.slice e)) (he : P.underlying e = some (.int .u8)) (s : ByteArray) (hx : a.eval x = .string s) (hl : s.size ≤ 9223372036854775807)
    (h : ∀ (v : Value) (w' : World), BW w' w.heap.size (w.heap.size + 1) v s → Below w.heap.size w w' → w.heap.size + 1 ≤ w'.heap.size → wpList P ops Q rest (a.put o.dst v) w') :
    wpList P ops Q (o :: rest) a w := by
  refine wpList_plain hgd fun K hK => ?_
  have hrun := Lib.run_convert_string_bytes (P := P) w src dst e s hs hd he
  unfold Oper.wp
  simp [execOp, ho, hx, hrun, Result.andThen]
  refine hK _ _ (h _ _ (.inl ⟨w.heap.size, 0, _, rfl, ⟨grownCap_ge w _ _ _, grownCap_le_maxLen w _ _ _ hl⟩, ⟨Nat.le_refl _, by omega⟩, bytesAt_of fun i hi => ?_⟩) (below_bytes w e s) (by rw [Lib.bytesWorld_size]; omega))
  rw [Nat.zero_add, Lib.bytesWorld_cell w e s i (by rw [Lib.size_eq]; exact hi)]
  simp only [List.getD, List.getElem?_eq_getElem hi, Option.getD_some]
/-- of a text that is a list -/
theorem txt_size' (l : List UInt8) : (txt l).size = l.length := by rw [Lib.size_eq]; rfl

set_option maxHeartbeats 400000 in
theorem containsRune_any (set : ByteArray) (x : Nat) (W : World) :
    Calls Tryd.prog 64 #[.string set, .int .i32 (x : Int)] W fun e w' => e = .returned (.bool (inSet set x)) ∧ Below W.heap.size W w' := by
  go_enter Tryd.func64, Tryd.ntmps64
  go_wp2
  go_loopg [] (pcsB set).length (fun gf wx => ∃ P : List Pc, P.length = gf ∧ IterAt wx W.heap.size set P ∧ Below W.heap.size W wx ∧ Hid (inSet set x = P.any fun q => q.1 == x))
  case atStart => exact ⟨_, rfl, IterAt.start W set, (Below.refl _ _).alloc (Nat.le_refl _) _, rfl⟩
  case round =>
    obtain ⟨P, hl, hit, hbw, hin⟩ := hrel
    cases P with
    | nil =>
      have hnx := iter_end (Pr := Tryd.prog) hit
      go_wp2
      go_ret
      exact ⟨by rw [hin.out]; rfl, hbw⟩
    | cons q P =>
      obtain ⟨pos, w1, hnx, hit1, hb1, hg1, _, _⟩ := iter_next (Pr := Tryd.prog) hit
      have hb := hbw.trans (hb1 _ (Nat.le_refl _))
      clear hb1 hg1
      obtain ⟨r, bs⟩ := q
      simp only at hnx
      by_cases hrx : r = x
      · subst hrx
        go_wp2
        go_ret
        exact ⟨by rw [hin.out]; simp, hb⟩
      · have hrx' : (((r : Nat) : Int) == ((x : Nat) : Int)) = false := by rw [beq_eq_false_iff_ne]; omega
        have Hrx := Lib.hid hrx; clear hrx
        go_wp2
        go_roundg P.length
        case rel => exact ⟨P, rfl, hit1, hb, by rw [Hid, hin.out, List.any_cons]; simp [Hrx.out]⟩
        case measure => simp only [List.length_cons] at hl; omega
theorem decodeLastB_any (s : ByteArray) (b o c : Nat) (w : World) (hc : s.size ≤ c) (hp : BytesAt s b o w) (hs : s.size ≤ 9223372036854775807) (hT : Tabs w) :
    Calls Tryd.prog 65 #[.slice (some ⟨b, o, none⟩) s.size c] w fun e w' => e = .returned (.tuple #[.int .i32 (Lib.decodeLastL s.data.toList).1, .int .i64 (Lib.decodeLastL s.data.toList).2]) ∧ Below w.heap.size w w' :=
  Any7.utf8_DecodeLastRune Tryd.lays7_33 s b o c w hc hp hs hT
def GiveB (lo B : Nat) (l : List UInt8) (w : World) (e : Ending) (w' : World) : Prop := ∃ v, e = .returned v ∧ BW w' lo B v (txt l) ∧ Below w.heap.size w w'

set_option maxRecDepth 100000 in
set_option maxHeartbeats 800000 in
theorem trimLU (s set : ByteArray) (v : Value) (lo B : Nat) (w : World) (hs : s.size ≤ 140737488355328) (hv : BW w lo B v s) (hT : Tabs w) (hB : B ≤ w.heap.size) :
    Calls Tryd.prog 53 #[v, .string set] w (GiveB lo B (flat (trimL (inSet set) (pcsB s))) w) := by
  go_enter Tryd.func53, Tryd.ntmps53
  go_wp2_with fail
  go_loopw [0] (fun v wr => ∃ rest : ByteArray, BW wr lo B v rest ∧ Hid (trimL (inSet set) (pcsB s) = trimL (inSet set) (pcsB rest)) ∧ rest.size ≤ s.size ∧ Below w.heap.size w wr) (fun v _ => match v with | .slice _ n _ => n | _ => 0)
  case atStart => exact ⟨s, hv, rfl, Nat.le_refl _, Below.refl _ _⟩
  case round =>
    obtain ⟨rest, hv, hp, hsz, hbw⟩ := hrel
    have hz := hbw.size
    by_cases hlt : 0 < rest.size
    · obtain ⟨q, h1, h2, h3, _, _, h6, h7⟩ := left_step (inSet set) rest hlt
      obtain ⟨r, bs⟩ := q
      simp only at h1 h2 h3 h6 h7
      rcases hv with ⟨b, o, c, rfl, hc, hb, hat⟩ | ⟨rfl, h⟩
      · have hdec := decodeB_any rest b o c wr (hT.below hbw) hat
        rw [h1] at hdec
        simp only at hdec
        have Hdec := Lib.hid hdec; have Hat := Lib.hid hat; have H6 := Lib.hid h6; have H7 := Lib.hid h7
        clear hdec hat h6 h7 h1
        go_wp2_with fail
        (with_reducible refine Hdec.out.mono ?_); rintro e w1 ⟨rfl, hb1⟩
        have hB1 := hbw.trans (hb1.mono hz)
        have hz1 := hb1.size
        go_wp2_with fail
        (with_reducible refine (containsRune_any set r _).mono ?_); rintro e w2 ⟨rfl, hb2⟩
        have hB2 := hB1.trans (hb2.mono (by omega))
        have hz2 := hb2.size
        have hl1 : b < wr.heap.size := by omega
        have hl2 : b < w1.heap.size := by omega
        have hat2 : BytesAt rest b o w2 := fun j hj => ((hb2.cell (p := ⟨b, o + j, none⟩) hl2).trans (hb1.cell (p := ⟨b, o + j, none⟩) hl1)).trans (Hat.out j hj)
        have Hat2 := Lib.hid hat2; clear hat2
        cases hin : inSet set r with
        | true =>
          have Hn := Lib.hid (H6.out hin)
          by_cases hkc : c = bs.length
          · have hkc' : (bs.length : Int) = (c : Int) := by omega
            subst hkc
            have hr0 : rest.size = bs.length := by omega
            go_wp2_with fail
            go_roundw
            case rel => exact ⟨rest.extract bs.length rest.size, .inl ⟨b, o, 0, by rw [tail_len, hr0]; simp, ⟨by rw [tail_len]; omega, by omega⟩, hb, fun j hj => by rw [tail_len] at hj; omega⟩, by rw [Hid, hp.out]; exact Hn.out, by rw [tail_len]; omega, hB2⟩
            case measure => simp; omega
          · have hkc' : ¬ (bs.length : Int) = (c : Int) := by omega
            have hkc2 : ¬ bs.length = c := by omega
            go_wp2_with fail
            go_roundw
            case rel => exact ⟨rest.extract bs.length rest.size, .inl ⟨b, o + bs.length, c - bs.length, by rw [tail_len], ⟨by rw [tail_len]; omega, by omega⟩, hb, Hat2.out.tail _⟩, by rw [Hid, hp.out]; exact Hn.out, by rw [tail_len]; omega, hB2⟩
            case measure => simp; omega
        | false =>
          have Hn := Lib.hid (H7.out hin)
          have hne : ((rest.size : Int) == 0) = false := beq_eq_false_iff_ne.2 (by omega)
          go_wp2_with fail
          go_ret
          refine ⟨_, rfl, .inl ⟨b, o, c, ?_, ?_, hb, ?_⟩, hB2⟩
          all_goals rw [show txt (flat (trimL (inSet set) (pcsB s))) = rest by rw [hp.out, Hn.out, flat_pcsB]; exact Lib.mk_data rest]
          · rfl
          · exact hc
          · exact Hat2.out
      · omega
    · have h0 : rest.size = 0 := by omega
      have hnil : (txt (flat (trimL (inSet set) (pcsB s)))).size = 0 := by
        rw [hp.out, (pcsB_nil_iff rest).2 h0]; rfl
      rcases hv with ⟨b, o, c, rfl, hc, hb, hat⟩ | ⟨rfl, h⟩
      · rw [h0]
        go_wp2_with fail
        go_ret
        exact ⟨_, rfl, .inr ⟨rfl, hnil⟩, hbw⟩
      · go_wp2_with fail
        go_ret
        exact ⟨_, rfl, .inr ⟨rfl, hnil⟩, hbw⟩

set_option maxRecDepth 100000 in
set_option maxHeartbeats 800000 in
theorem trimRU (s set : ByteArray) (v : Value) (lo B : Nat) (w : World) (hs : s.size ≤ 140737488355328) (hv : BW w lo B v s) (hT : Tabs w) (hB : B ≤ w.heap.size) :
    Calls Tryd.prog 54 #[v, .string set] w (GiveB lo B (flat (trimR (inSet set) (pcsB s))) w) := by
  go_enter Tryd.func54, Tryd.ntmps54
  go_wp2_with fail
  go_loopw [0] (fun v wr => ∃ rest : ByteArray, BW wr lo B v rest ∧ Hid (trimR (inSet set) (pcsB s) = trimR (inSet set) (pcsB rest)) ∧ rest.size ≤ s.size ∧ Below w.heap.size w wr) (fun v _ => match v with | .slice _ n _ => n | _ => 0)
  case atStart => exact ⟨s, hv, rfl, Nat.le_refl _, Below.refl _ _⟩
  case round =>
    obtain ⟨rest, hv, hp, hsz, hbw⟩ := hrel
    have hz := hbw.size
    by_cases hlt : 0 < rest.size
    · obtain ⟨q, h1, h2, h3, h4, _, h6, h7⟩ := right_step (inSet set) rest hlt
      obtain ⟨r, bs⟩ := q
      simp only at h1 h2 h3 h4 h6 h7
      rcases hv with ⟨b, o, c, rfl, hc, hb, hat⟩ | ⟨rfl, h⟩
      · obtain ⟨m, hm⟩ : ∃ m, rest.size = m + 1 := ⟨rest.size - 1, by omega⟩
        have hmb : m ≤ 140737488355328 := by omega
        have hml : m + 1 ≤ s.size := by omega
        have hmc : m + 1 ≤ c := by omega
        have hbm : bs.length ≤ m + 1 := by omega
        have hmc2 : (m : Int) ≤ (c : Int) := by omega
        have hcell := hat m (by omega)
        rw [hm, Nat.add_sub_cancel] at h4
        obtain ⟨x, hx⟩ : ∃ x, x = rest.get! m := ⟨_, rfl⟩
        rw [← hx] at hcell h4
        have hx8 : x.toNat < 256 := x.toNat_lt
        have hl1 : b < wr.heap.size := by omega
        have hdec := decodeLastB_any rest b o c wr hc.1 hat (by omega) (hT.below hbw)
        rw [h1] at hdec
        simp only at hdec
        have hms : ((m + 1 : Nat) : Int) - 1 = (m : Int) := by omega
        have Hdec := Lib.hid hdec; have Hat := Lib.hid hat; have H6 := Lib.hid h6; have H7 := Lib.hid h7; have H4 := Lib.hid h4; have Hx := Lib.hid hx; have Hm := Lib.hid hm
        clear hdec hat h6 h7 h1 h4 hx
        have fin : ∀ w2 : World, Below wr.heap.size wr w2 → inSet set r = false → GiveB lo B (flat (trimR (inSet set) (pcsB s))) w (.returned (.slice (some ⟨b, o, none⟩) rest.size c)) w2 := fun w2 hb2 hin => by
          refine ⟨_, rfl, .inl ⟨b, o, c, ?_, ?_, hb, ?_⟩, hbw.trans (hb2.mono hz)⟩
          all_goals rw [show txt (flat (trimR (inSet set) (pcsB s))) = rest by rw [hp.out, H7.out hin, flat_pcsB]; exact Lib.mk_data rest]
          · exact hc
          · exact fun j hj => (hb2.cell (p := ⟨b, o + j, none⟩) hl1).trans (Hat.out j hj)
        have nxt : ∀ w2 : World, Below wr.heap.size wr w2 → inSet set r = true → ∃ rest' : ByteArray, rest'.size = m + 1 - bs.length ∧ BW w2 lo B (.slice (some ⟨b, o, none⟩) (m + 1 - bs.length) c) rest' ∧ Hid (trimR (inSet set) (pcsB s) = trimR (inSet set) (pcsB rest')) ∧ Below w.heap.size w w2 := fun w2 hb2 hin => by
          have hk : rest.size - bs.length ≤ rest.size := by omega
          have hsz' := head_sz rest (rest.size - bs.length) hk
          refine ⟨rest.extract 0 (rest.size - bs.length), by rw [hsz', Hm.out], .inl ⟨b, o, c, by rw [hsz', Hm.out], ⟨by rw [hsz']; omega, hc.2⟩, hb, ?_⟩, by rw [Hid, hp.out]; exact H6.out hin, hbw.trans (hb2.mono hz)⟩
          exact BytesAt.head (s := rest) (fun j hj => (hb2.cell (p := ⟨b, o + j, none⟩) hl1).trans (Hat.out j hj)) _ hk
        have Hfin := Lib.hid fin; have Hnxt := Lib.hid nxt
        clear fin nxt
        rw [hm] at Hdec Hfin ⊢
        clear hm
        by_cases hasc : x.toNat < 128
        · obtain ⟨h41, h42⟩ := H4.out hasc
          have hx0 : ¬ (128 : Int) ≤ (x.toNat : Int) := by omega
          rw [h42] at Hnxt
          rw [h41] at Hfin Hnxt
          have hbs := Lib.hid h42
          clear h41 h42 hms
          cases hin : inSet set x.toNat with
          | true =>
            obtain hN := Hnxt.out
            go_wp2_with fail
            (with_reducible refine (containsRune_any set x.toNat _).mono ?_); rintro e w2 ⟨rfl, hb2⟩
            obtain ⟨rest', e1, e2, e3, e4⟩ := hN w2 hb2 hin
            rw [hin]
            go_wp2_with fail
            go_roundw
            case rel => exact ⟨rest', by simpa using e2, e3, by omega, e4⟩
            case measure => simp
          | false =>
            go_wp2_with fail
            (with_reducible refine (containsRune_any set x.toNat _).mono ?_); rintro e w2 ⟨rfl, hb2⟩
            rw [hin]
            go_wp2_with fail
            go_ret
            exact Hfin.out w2 hb2 hin
        · have hx0 : (128 : Int) ≤ (x.toNat : Int) := by omega
          cases hin : inSet set r with
          | true =>
            go_wp2_with fail
            (with_reducible refine Hdec.out.mono ?_); rintro e w1 ⟨rfl, hb1⟩
            go_wp2_with fail
            (with_reducible refine (containsRune_any set r _).mono ?_); rintro e w2 ⟨rfl, hb2⟩
            have hbb := hb1.trans (hb2.mono hb1.size)
            obtain ⟨rest', e1, e2, e3, e4⟩ := Hnxt.out w2 hbb hin
            rw [hin]
            have hsub : ((m + 1 : Nat) : Int) - (bs.length : Int) = ((m + 1 - bs.length : Nat) : Int) := by omega
            go_wp2_with fail
            go_roundw
            case rel => exact ⟨rest', by first | exact e2 | simpa using e2, e3, by omega, e4⟩
            case measure => simp; omega
          | false =>
            go_wp2_with fail
            (with_reducible refine Hdec.out.mono ?_); rintro e w1 ⟨rfl, hb1⟩
            go_wp2_with fail
            (with_reducible refine (containsRune_any set r _).mono ?_); rintro e w2 ⟨rfl, hb2⟩
            rw [hin]
            go_wp2_with fail
            go_ret
            exact Hfin.out w2 (hb1.trans (hb2.mono hb1.size)) hin
      · omega
    · have h0 : rest.size = 0 := by omega
      have hnil : (txt (flat (trimR (inSet set) (pcsB s)))).size = 0 := by
        rw [hp.out, (pcsB_nil_iff rest).2 h0]; rfl
      rcases hv with ⟨b, o, c, rfl, hc, hb, hat⟩ | ⟨rfl, h⟩
      · rw [h0]
        go_wp2_with fail
        go_ret
        exact ⟨_, rfl, .inl ⟨b, o, c, by rw [hnil]; rfl, ⟨by omega, hc.2⟩, hb, fun j hj => by omega⟩, hbw⟩
      · go_wp2_with fail
        go_ret
        exact ⟨_, rfl, .inr ⟨rfl, hnil⟩, hbw⟩
end Go.Proofs.YthgigchablajbaaDoor
