/- The contracts of spec.Shave and spec.ShaveBytes. Conditions: a text, sets and a list of at most 2 to the 20. -/
import Derived.Test.YthgigchablajbaaDoorSpecSpace
import Derived.Test.YthgigchablajbaaDoorSpecShavePlain
import Derived.Test.YthgigchablajbaaDoorTexts
import Derived.Test.YthgigchablajbaaDoorMarked
import Derived.Deep.QuietTactic
import Derived.BigQuiet
import Derived.Deep.RegionHeld3
import Derived.Deep.LoopGhost
import Derived.Deep.CutRange
namespace Go.Proofs.YthgigchablajbaaDoor
open Go.RowKit
set_option linter.unusedVariables false

theorem two_new (w : World) (x y : Value) (e : TypeId) : (w.alloc (.cells #[x, y] e)).cell? ⟨w.heap.size, 0, none⟩ = some x ∧ (w.alloc (.cells #[x, y] e)).cell? ⟨w.heap.size, 1, none⟩ = some y := by
  simp [World.cell?, World.alloc, -World.alloc_eq]
/-- a part of a row of pairs -/
theorem PAt.cut {w : World} {lo hi : Nat} {b o : Nat} {ms : List (Value × Value)} (h : PAt w lo hi (some ⟨b, o, none⟩) ms) (F T : Nat) : PAt w lo hi (some ⟨b, o + F * 2, none⟩) ((ms.take T).drop F) := fun hn => by
  obtain ⟨b', o', e, h1, h2, hc⟩ := h (by rintro rfl; simp at hn)
  injection e with e
  injection e with e1 e2 _
  subst e1 e2
  refine ⟨b, o + F * 2, rfl, h1, h2, fun i hi' => ?_⟩
  simp only [List.length_drop, List.length_take] at hi'
  have := hc (F + i) (by omega)
  simp only [List.getElem_drop, List.getElem_take]
  rw [show o + F * 2 + i * 2 = o + (F + i) * 2 by omega]
  exact this
theorem PAt.cutAny {w : World} {lo hi : Nat} {A : Option Addr} {ms : List (Value × Value)} (h : PAt w lo hi A ms) (F T : Nat) : PAt w lo hi (A.map fun x => x.add (F * 2)) ((ms.take T).drop F) := fun hn => by
  obtain ⟨b, o, rfl, _⟩ := h (by rintro rfl; simp at hn)
  rw [Option.map_some, Go.WideShapes.add_plain]
  exact h.cut F T hn
theorem at4_same (i j : Int) (w : World) (hi : -9223372036854775808 ≤ i ∧ i ≤ 9223372036854775807) (hj : i % 4 = j) :
    Calls Tryd.prog 10 #[.int .i64 i, .int .i64 4] w fun e w' => e = .returned (.int .i64 j) ∧ w' = w := (specAt4 i j w hi hj).mono fun _ _ h => ⟨h.1, h.2.symm⟩
theorem i64_wrap_nat (U : Nat) (h : U ≤ 1048576) : IntKind.i64.wrap (U : Int) = (U : Int) := by
  simp [IntKind.wrap, IntKind.bits, IntKind.signed]
  omega
/-- the cells that the test of a round reads -/
def Hold (xb : Nat) (op : Int) (set : List UInt8) (w : World) : Prop := w.cell? ⟨xb, 0, none⟩ = some (.int .i64 op) ∧ w.cell? ⟨xb, 1, none⟩ = some (.string (txt set))

set_option maxRecDepth 100000 in
set_option maxHeartbeats 6400000 in
theorem spec_shave (s : ByteArray) (A : Option Addr) (n c : Nat) (L : List St) (w : World) (hn : Hid (n = L.length)) (hnl : n ≤ 1048576) (hL : ∀ x ∈ L, x.2.length ≤ 1048576 ∧ -9223372036854775808 ≤ x.1 ∧ x.1 ≤ 9223372036854775807) (hr : PAt w 0 w.heap.size A (L.map stV)) (hs : s.size ≤ 1048576) :
    Calls Tryd.prog 15 #[.string s, .slice A n c] w (StrPost (shaved L s.data.toList) w) := by
  have HL := Lib.hid hL; have Hrow := Lib.hid hr; clear hL hr
  go_enter Tryd.func15, Tryd.ntmps15
  go_wp2_with fail
  go_loopg [0, 14] n (fun g v i wr => ∃ (rest : ByteArray) (k : Nat), k ≤ n ∧ g = n - k ∧ v = .string rest ∧ i = .int .i64 k ∧ Hid (rest = txt (shaved (L.take k) s.data.toList)) ∧ Below w.heap.size w wr)
  case atStart => exact ⟨s, 0, Nat.zero_le _, rfl, rfl, rfl, by rw [Hid, List.take_zero, shaved_nil, txt_self], Below.refl _ _⟩
  case round =>
    obtain ⟨rest, k, hk, hgk, rfl, rfl, Hr, hbw⟩ := hrel
    have hz := hbw.size
    have hrs : rest.size ≤ 1048576 := Nat.le_trans (shave_le (s := s) Hr.out rfl) hs
    have Hgk := Lib.hid hgk; clear hgk
    by_cases hlt : k < n
    · have hk' : k < L.length := by rw [← hn.out]; exact hlt
      obtain ⟨b, o, rfl, _, hbl, hc1, hc2⟩ := ((Hrow.out).below hbw).at_ (i := k) (by rw [List.length_map]; exact hk')
      obtain ⟨x, hx⟩ : ∃ x, x = L[k] := ⟨_, rfl⟩
      have hxok := HL.out x (by rw [hx]; exact List.getElem_mem hk')
      rw [List.getElem_map, ← hx] at hc1 hc2
      have hnext := shave_next (l := s.data.toList) hk' hx Hr.out
      obtain ⟨op, set⟩ := x
      simp only [stV] at hc1 hc2 hxok
      obtain ⟨hsl0, hop0⟩ := hxok
      have hsl : set.length ≤ 4398046511104 := by omega
      have Hop := Lib.hid hop0
      obtain ⟨j, hj⟩ : ∃ j, op % 4 = j := ⟨_, rfl⟩
      obtain ⟨t, ht⟩ : ∃ t, t = stTest (op, set) := ⟨_, rfl⟩
      have hst := step_eq (op, set) j hj (pcsB rest)
      rw [← ht] at hst
      rw [hst] at hnext
      have hpl : (pcsB rest).length ≤ rest.size := by rw [Lib.size_eq]; exact pcs_len_le _
      have hfl : (flat (pcsB rest)).length ≤ 1048576 := by rw [flat_pcsB, ← Lib.size_eq]; exact hrs
      have Hnext := Lib.hid hnext; have Hj := Lib.hid hj; have Ht := Lib.hid ht
      clear hnext hj ht hst hx hk' hsl0 hop0 Hr
      obtain ⟨xb, hxb⟩ : ∃ xb, xb = wr.heap.size := ⟨_, rfl⟩
      go_wp2_with fail
      (with_reducible refine (pieces_cap rest _ (by omega)).mono ?_); rintro e w2 ⟨A2, n2, c2, rfl, hn2, hat, hb2, hcap⟩
      have hA := hbw.alloc hz (.cells #[.int .i64 op, .string (txt set)] 27)
      have hB2 := hA.trans (hb2.mono hA.size)
      have hnew := two_new wr (.int .i64 op) (.string (txt set)) 27
      have hxl : xb < w2.heap.size := by have := hb2.size; simp at this; omega
      have hH2 : Hold xb op set w2 := by
        rw [hxb]
        exact ⟨(hb2.cell (p := ⟨wr.heap.size, 0, none⟩) (by simp)).trans hnew.1, (hb2.cell (p := ⟨wr.heap.size, 1, none⟩) (by simp)).trans hnew.2⟩
      have hHw : ∀ W, Below w2.heap.size w2 W → Hold xb op set W := fun W hb => ⟨(hb.cell (p := ⟨xb, 0, none⟩) hxl).trans hH2.1, (hb.cell (p := ⟨xb, 1, none⟩) hxl).trans hH2.2⟩
      rw [← hn2.out] at hpl
      have hn2l : n2 ≤ 1048576 := by omega
      obtain ⟨P, hP⟩ : ∃ P, P = pcsB rest := ⟨_, rfl⟩
      rw [← hP] at hat hfl hn2 Hnext
      have HHw := Lib.hid hHw; have Hat := Lib.hid hat
      rw [← hxb]
      clear hnew hA hb2 hH2 hHw hat hP hpl hc1 hc2 hbl hbw hz hxb
      go_wp2_with fail
      go_loopg [8] n2 (fun g f wx => ∃ F : Nat, F ≤ n2 ∧ g = n2 - F ∧ f = .int .i64 F ∧ Hid (finL j t (P.drop F) = finL j t P) ∧ Below w2.heap.size w2 wx)
      case atStart => exact ⟨0, Nat.zero_le _, rfl, rfl, rfl, Below.refl _ _⟩
      case round =>
        obtain ⟨F, hF, hg1, rfl, Hf, hb3⟩ := hrel
        have hz3 := hb3.size
        have Hg1 := Lib.hid hg1; clear hg1
        go_upto_region 6 with fail
        go_cut [39] from 22 to 41 (fun b wc => ∃ bb : Bool, b = .bool bb ∧ Hid (bb = true → F < n2 ∧ finL j t (P.drop (F + 1)) = finL j t P) ∧ Hid (bb = false → P.drop F = finL j t P) ∧ Below w2.heap.size w2 wc)
        case first =>
          obtain ⟨hx1, hx2⟩ := HHw.out _ hb3
          by_cases hj2 : j = 2
          · have hfin : P.drop F = finL j t P := by rw [← Hf.out]; unfold finL; rw [if_pos hj2]
            have Hfin := Lib.hid hfin; clear hfin
            subst hj2
            go_quiet (first | (go_at_call 10; refine Calls.quiet_of_same (at4_same op 2 _ Hop.out Hj.out)))
            go_wp2_with fail
            go_meet
            case rel => exact ⟨false, rfl, Lib.hid (fun h => by cases h), Lib.hid (fun _ => Hfin.out), below_drewN' hb3 _⟩
          · have hj2b : (j == 2) = false := by rw [beq_eq_false_iff_ne]; exact hj2
            have hj2c : (j != 2) = true := by rw [bne_iff_ne]; exact hj2
            by_cases hFn : F = n2
            · have hfin : P.drop F = finL j t P := by rw [← Hf.out, finL_end (by rw [← hn2.out]; omega)]
              have Hfin := Lib.hid hfin; clear hfin
              have hge : decide (F < n2) = false := by rw [decide_eq_false_iff_not]; omega
              clear hFn
              go_quiet (first | (go_at_call 10; refine Calls.quiet_of_same (at4_same op j _ Hop.out Hj.out)))
              go_wp2_with fail
              go_meet
              case rel => exact ⟨false, rfl, Lib.hid (fun h => by cases h), Lib.hid (fun _ => Hfin.out), below_drewN' hb3 _⟩
            · have hFl : F < P.length := by rw [← hn2.out]; omega
              obtain ⟨b2, o2, rfl, _, hbl2, hc1, hc2⟩ := ((Hat.out.below hb3)).at_ (i := F) (by rw [List.length_map]; exact hFl)
              rw [List.getElem_map] at hc1 hc2
              have hon : t P[F].1 = true → finL j t (P.drop (F + 1)) = finL j t P := fun h => by rw [finL_on hFl hj2 h]; exact Hf.out
              have hst : t P[F].1 = false → P.drop F = finL j t P := fun h => by rw [← Hf.out, finL_stop hFl h]
              obtain ⟨q, hq⟩ : ∃ q, q = P[F] := ⟨_, rfl⟩
              rw [← hq] at hc1 hc2 hon hst
              obtain ⟨r, bs⟩ := q
              simp only [pcV] at hc1 hc2 hon hst
              have Hon := Lib.hid hon; have Hst := Lib.hid hst
              have hge : (F : Int) < (n2 : Int) := by omega
              have hge0 : (0 : Int) ≤ (F : Int) := by omega
              have hge1 : F < n2 := by omega
              clear hon hst hq hFl hc2 hFn
              go_region_held3 (fun w' => w'.cell? ⟨xb, 0, none⟩ = some (.int .i64 op) ∧ w'.cell? ⟨xb, 1, none⟩ = some (.string (txt set)) ∧ w'.cell? ⟨b2, o2 + F * 2, none⟩ = some (.int .i32 (r : Int)))
                (first
                  | go_keep
                  | (go_split_ands
                     exact ⟨(hb4.cell (p := ⟨xb, 0, none⟩) (by simp; omega)).trans (by assumption), (hb4.cell (p := ⟨xb, 1, none⟩) (by simp; omega)).trans (by assumption), (hb4.cell (p := ⟨b2, o2 + F * 2, none⟩) (by simp; omega)).trans (by assumption)⟩))
                (first
                  | (go_at_call 10; (with_reducible refine (specAt4 op j _ Hop.out Hj.out).mono ?_); rintro e w' ⟨rfl, rfl⟩)
                  | (go_at_call 38; (with_reducible refine (specDropped op set r _ Hop.out hsl).mono ?_); rintro e w4 ⟨rfl, hb4⟩))
              go_wp2_with fail
              go_meet
              case rel => exact ⟨stTest (op, set) r, rfl, Lib.hid (fun h => ⟨by omega, Hon.out (by rw [Ht.out]; exact h)⟩), Lib.hid (fun h => Hst.out (by rw [Ht.out]; exact h)), hb3.drew.trans (hb4.mono (by simp; omega))⟩
        case rest =>
          obtain ⟨bb, rfl, h1, h2, hb4⟩ := hcut
          cases bb with
          | true =>
            obtain ⟨hF1, hF2⟩ := Hid.out h1 rfl
            have HF2 := Lib.hid hF2; clear hF2 h1 h2
            go_wp2_with fail
            go_roundg (n2 - (F + 1))
            case rel => exact ⟨F + 1, hF1, rfl, by go_num, HF2, hb4⟩
            case measure => have := Hg1.out; omega
          | false =>
            have hFL := Hid.out h2 rfl
            have hstart : finR j t ((P.take n2).drop F) = finR j t (finL j t P) := by rw [List.take_of_length_le (by rw [← hn2.out]; exact Nat.le_refl _), hFL]
            have Hstart := Lib.hid hstart
            clear h1 h2 hFL hstart Hf Hg1 hb3 hz3
            obtain ⟨R, hR⟩ : ∃ R, R = finR j t (finL j t P) := ⟨_, rfl⟩
            rw [← hR] at Hstart Hnext
            clear hR
            go_wp2_with fail
            go_loopg [9] (n2 - F) (fun g v wx => ∃ T : Nat, F ≤ T ∧ T ≤ n2 ∧ g = T - F ∧ v = .int .i64 T ∧ Hid (finR j t ((P.take T).drop F) = R) ∧ Below w2.heap.size w2 wx)
            case atStart => exact ⟨n2, hF, Nat.le_refl _, rfl, rfl, Hstart, hb4⟩
            case round =>
              clear hb4 Hstart
              obtain ⟨T, hFT, hT, hg2, rfl, Hf2, hb5⟩ := hrel
              have hz5 := hb5.size
              have Hg2 := Lib.hid hg2; clear hg2
              go_upto_region 8 with fail
              go_cut [60] from 42 to 62 (fun b wc => ∃ bb : Bool, b = .bool bb ∧ Hid (bb = true → F < T ∧ finR j t ((P.take (T - 1)).drop F) = R) ∧ Hid (bb = false → (P.take T).drop F = R) ∧ Below w2.heap.size w2 wc)
              case first =>
                obtain ⟨hx1, hx2⟩ := HHw.out _ hb5
                by_cases hj2 : j = 1
                · have hfin : (P.take T).drop F = R := by rw [← Hf2.out]; unfold finR; rw [if_pos hj2]
                  have Hfin := Lib.hid hfin; clear hfin
                  subst hj2
                  go_quiet (first | (go_at_call 10; refine Calls.quiet_of_same (at4_same op 1 _ Hop.out Hj.out)))
                  go_wp2_with fail
                  go_meet
                  case rel => exact ⟨false, rfl, Lib.hid (fun h => by cases h), Lib.hid (fun _ => Hfin.out), below_drewN' hb5 _⟩
                · have hj2b : (j == 1) = false := by rw [beq_eq_false_iff_ne]; exact hj2
                  have hj2c : (j != 1) = true := by rw [bne_iff_ne]; exact hj2
                  by_cases hFn : F = T
                  · have hfin : (P.take T).drop F = R := by rw [← Hf2.out, ← hFn, finR_end]
                    have Hfin := Lib.hid hfin; clear hfin
                    have hge : decide (F < T) = false := by rw [decide_eq_false_iff_not]; omega
                    clear hFn
                    go_quiet (first | (go_at_call 10; refine Calls.quiet_of_same (at4_same op j _ Hop.out Hj.out)))
                    go_wp2_with fail
                    go_meet
                    case rel => exact ⟨false, rfl, Lib.hid (fun h => by cases h), Lib.hid (fun _ => Hfin.out), below_drewN' hb5 _⟩
                  · obtain ⟨U, hU⟩ : ∃ U, T = U + 1 := ⟨T - 1, by omega⟩
                    have hFU : F ≤ U := by omega
                    have hFl : U < P.length := by rw [← hn2.out]; omega
                    have hU1 : T - 1 = U := by omega
                    obtain ⟨b2, o2, rfl, _, hbl2, hc1, hc2⟩ := ((Hat.out.below hb5)).at_ (i := U) (by rw [List.length_map]; exact hFl)
                    rw [List.getElem_map] at hc1 hc2
                    have hon : t P[U].1 = true → finR j t ((P.take U).drop F) = R := fun h => by rw [finR_on hFU hFl hj2 h, ← hU]; exact Hf2.out
                    have hst : t P[U].1 = false → (P.take T).drop F = R := fun h => by rw [← Hf2.out, hU, finR_stop hFU hFl h]
                    obtain ⟨q, hq⟩ : ∃ q, q = P[U] := ⟨_, rfl⟩
                    rw [← hq] at hc1 hc2 hon hst
                    obtain ⟨r, bs⟩ := q
                    simp only [pcV] at hc1 hc2 hon hst
                    have Hon := Lib.hid hon; have Hst := Lib.hid hst
                    have hge : (U : Int) < (n2 : Int) := by omega
                    have hge0 : (0 : Int) ≤ (U : Int) := by omega
                    have hge1 : F < T := by omega
                    have hge2 : (T : Int) - 1 = (U : Int) := by omega
                    have hge4 : IntKind.i64.wrap (U : Int) = (U : Int) := i64_wrap_nat U (by omega)
                    have HU1 := Lib.hid hU1
                    clear hon hst hq hFl hc2 hFn hU hU1
                    go_region_held3 (fun w' => w'.cell? ⟨xb, 0, none⟩ = some (.int .i64 op) ∧ w'.cell? ⟨xb, 1, none⟩ = some (.string (txt set)) ∧ w'.cell? ⟨b2, o2 + U * 2, none⟩ = some (.int .i32 (r : Int)))
                      (first
                        | go_keep
                        | (go_split_ands
                           exact ⟨(hb6.cell (p := ⟨xb, 0, none⟩) (by simp; omega)).trans (by assumption), (hb6.cell (p := ⟨xb, 1, none⟩) (by simp; omega)).trans (by assumption), (hb6.cell (p := ⟨b2, o2 + U * 2, none⟩) (by simp; omega)).trans (by assumption)⟩))
                      (first
                        | (go_at_call 10; (with_reducible refine (specAt4 op j _ Hop.out Hj.out).mono ?_); rintro e w' ⟨rfl, rfl⟩)
                        | (go_at_call 38; (with_reducible refine (specDropped op set r _ Hop.out hsl).mono ?_); rintro e w6 ⟨rfl, hb6⟩))
                    go_wp2_with fail
                    go_meet
                    case rel => exact ⟨stTest (op, set) r, rfl, Lib.hid (fun h => ⟨by omega, by rw [HU1.out]; exact Hon.out (by rw [Ht.out]; exact h)⟩), Lib.hid (fun h => Hst.out (by rw [Ht.out]; exact h)), hb5.drew.trans (hb6.mono (by simp; omega))⟩
              case rest =>
                obtain ⟨bb, rfl, h1, h2, hb6⟩ := hcut
                cases bb with
                | true =>
                  obtain ⟨hF1, hF2⟩ := Hid.out h1 rfl
                  obtain ⟨U, rfl⟩ : ∃ U, T = U + 1 := ⟨T - 1, by omega⟩
                  rw [Nat.add_sub_cancel] at hF2
                  have HF2 := Lib.hid hF2; clear hF2 h1 h2
                  go_wp2_with fail
                  go_roundg (U - F)
                  case rel => exact ⟨U, by omega, by omega, rfl, by go_num, HF2, hb6⟩
                  case measure => have := Hg2.out; omega
                | false =>
                  have hRM := Hid.out h2 rfl
                  have hlen : R.length = T - F := by rw [← hRM, List.length_drop, List.length_take, ← hn2.out]; omega
                  have HfR : Hid (∀ q, (flat (R.take q)).length ≤ 1048576) := fun q => by
                    rw [← hRM]
                    exact Nat.le_trans (flat_cut_len P F T q) hfl
                  have HRM := Lib.hid hRM; have Hlen := Lib.hid hlen
                  clear h1 h2 hRM hlen Hf2 Hg2 hb5 hz5
                  go_upto_region 11 with fail
                  go_cut [14, 66, 67, 68] from 14 to 77 (fun ik v m i wc => ∃ (A3 : Option Addr) (c3 : Nat), ik = .int .i64 k ∧ v = .slice A3 (T - F) c3 ∧ m = .int .i64 ((T - F : Nat) : Int) ∧ i = .int .i64 0 ∧ Hid (PAt w2 0 w2.heap.size A3 (R.map pcV)) ∧ Below w2.heap.size w2 wc)
                  case first =>
                    have hi1 : (F : Int) ≤ (T : Int) := by omega
                    have hi2 : (T : Int) ≤ (c2 : Int) := by omega
                    have hi3 : (0 : Int) ≤ (F : Int) := by omega
                    have hi4 : F ≤ T := hFT
                    have hi5 : T ≤ c2 := by omega
                    by_cases hcF : c2 = F
                    · have hR0 : R = [] := List.eq_nil_of_length_eq_zero (by rw [Hlen.out]; omega)
                      have HR0 := Lib.hid hR0; clear hR0
                      go_wp2_with fail
                      go_meet
                      case rel => exact ⟨_, _, rfl, rfl, rfl, rfl, Lib.hid (by rw [HR0.out]; exact fun h => absurd rfl h), hb6⟩
                    · have hcF2 : ¬ F = c2 := by omega
                      have hcF3 : ¬ c2 - F = 0 := by omega
                      have hcF4 : ¬ (F : Int) = (c2 : Int) := by omega
                      go_wp2_with fail
                      go_meet
                      case rel => exact ⟨_, _, rfl, rfl, rfl, rfl, Lib.hid (by
                        rw [← HRM.out, List.map_drop, List.map_take]
                        exact (Hat.out.more (Nat.zero_le _) (Nat.le_refl _)).cutAny F T), hb6⟩
                  case rest =>
                    obtain ⟨A3, c3, rfl, rfl, rfl, rfl, Hat3, hb7⟩ := hcut
                    obtain ⟨m, hm⟩ : ∃ m, m = T - F := ⟨_, rfl⟩
                    rw [← hm] at Hlen ⊢
                    have hm1 : m ≤ 1048576 := by omega
                    clear hm HRM hb6 hFT hT
                    have hfR : Hid (∀ q, (flat (R.take q)).length ≤ 1048576) := HfR
                    go_wp2_with fail
                    go_loopg [0, 68] m (fun g v i wx => ∃ q : Nat, q ≤ m ∧ g = m - q ∧ i = .int .i64 q ∧ v = .string (txt (flat (R.take q))) ∧ Below w2.heap.size w2 wx)
                    case atStart => exact ⟨0, Nat.zero_le _, rfl, rfl, rfl, hb7⟩
                    case round =>
                      clear hb7
                      obtain ⟨q, hq, hg3, rfl, rfl, hb8⟩ := hrel
                      have Hg3 := Lib.hid hg3; clear hg3
                      have hz8 := hb8.size
                      by_cases hqm : q < m
                      · have hq' : q < R.length := by rw [Hlen.out]; exact hqm
                        obtain ⟨b3, o3, rfl, _, hbl3, hc1, hc2⟩ := ((Hat3.out.below hb8)).at_ (i := q) (by rw [List.length_map]; exact hq')
                        rw [List.getElem_map] at hc1 hc2
                        have hfn : flat (R.take (q + 1)) = flat (R.take q) ++ R[q].2 := by
                          rw [List.take_succ_eq_append_getElem hq', flat_append, flat_cons, flat_nil, List.append_nil]
                        have hl1 := hfR.out (q + 1)
                        rw [hfn, List.length_append] at hl1
                        obtain ⟨pc, hpc⟩ : ∃ pc, pc = R[q] := ⟨_, rfl⟩
                        rw [← hpc] at hc1 hc2 hfn hl1
                        obtain ⟨r, bs⟩ := pc
                        simp only [pcV] at hc1 hc2 hfn hl1
                        obtain ⟨y, hy⟩ : ∃ y, y = flat (R.take q) := ⟨_, rfl⟩
                        rw [← hy] at hfn hl1 ⊢
                        have hsum : (txt y).size + (txt bs).size ≤ 9223372036854775807 := by show y.length + bs.length ≤ _; omega
                        have Hfn := Lib.hid hfn
                        clear hfn hpc hy hl1 hq'
                        go_wp2_with fail
                        go_roundg (m - (q + 1))
                        case rel => exact ⟨q + 1, by omega, rfl, by go_num, by rw [Hfn.out, txt_append], hb8.alloc hz8 _⟩
                        case measure => have := Hg3.out; omega
                      · obtain rfl : q = m := by omega
                        rw [List.take_of_length_le (by rw [Hlen.out]; exact Nat.le_refl _)]
                        have hend : txt (flat R) = txt (shaved (L.take (k + 1)) s.data.toList) := Hnext.out
                        have Hend := Lib.hid hend
                        clear hend
                        go_wp2_with fail
                        go_roundg (n - (k + 1))
                        case rel => exact ⟨txt (flat R), k + 1, by omega, rfl, rfl, by go_num, Hend, hB2.trans (hb8.mono hB2.size)⟩
                        case measure => have := Hgk.out; omega
    · obtain rfl : k = n := by omega
      have hfin := Hr.out
      rw [List.take_of_length_le (by rw [← hn.out]; exact Nat.le_refl _)] at hfin
      have Hfin := Lib.hid hfin; clear hfin
      go_wp2_with fail
      go_ret
      exact ⟨by rw [← Hfin.out]; rfl, hbw⟩
end Go.Proofs.YthgigchablajbaaDoor
