/- The contract of unicode.SimpleFold. Conditions: its three tables; a code point of at most 2 to the 31. -/
import Derived.Test.YtkglbkgbgajbkaaDoorSFold2
import Derived.Test.YtkglbkgbgajbkaaDoorShelf
import Derived.Test.YtkglbkgbgajbkaaDoorMem
import Derived.Deep.LoopGhost
namespace Go.Proofs.YtkglbkgbgajbkaaDoor
open Go.RowKit Go.Lib
set_option linter.unusedVariables false

def AsciiVar (w : World) : Prop := ∀ r, r < 128 → w.cell? ⟨1, r, none⟩ = some (.int .u16 (asciiF r : Int))
def OrbVar (w : World) : Prop := ∃ R o cap, w.cell? ⟨2, 0, none⟩ = some (.slice (some ⟨R, o, none⟩) 94 cap) ∧
  ∀ i (h : i < orbitT.length), w.cell? ⟨R, o + i * 2, none⟩ = some (.int .u16 (orbitT[i].1 : Int)) ∧ w.cell? ⟨R, o + i * 2 + 1, none⟩ = some (.int .u16 (orbitT[i].2 : Int))
def FoldVars (w : World) : Prop := AsciiVar w ∧ OrbVar w ∧ CaseVar 3 caseA w
theorem orbit_len : orbitT.length = 94 := by decide +kernel
theorem orbit_small : orbitT.all (fun x => Nat.ble x.1 65535 && Nat.ble x.2 65535) = true := by decide +kernel
theorem orbit_le {i : Nat} (hi : i < orbitT.length) : orbitT[i].1 ≤ 65535 ∧ orbitT[i].2 ≤ 65535 := by
  have := List.all_eq_true.1 orbit_small orbitT[i] (List.getElem_mem hi)
  rw [Bool.and_eq_true] at this
  exact ⟨Nat.le_of_ble_eq_true this.1, Nat.le_of_ble_eq_true this.2⟩
theorem asciiF_le {r : Nat} (h : r < 128) : asciiF r ≤ 65535 := by unfold asciiF; split <;> (try split) <;> (try split) <;> (try split) <;> omega
theorem sfold_big {r : Nat} (h : 1114111 < r) : sfold r = r := by
  have eo : orb r = none := lookO_none_of fun y hy e => by
    obtain ⟨i, hi, rfl⟩ := List.mem_iff_getElem.1 hy
    have := orbit_le hi
    omega
  have e : rowOf r = none := by
    cases e : rowOf r with
    | none => rfl
    | some y =>
      obtain ⟨hm, h3, h4⟩ := lookR_some (T := caseT) e
      have := (row_le hm).2
      omega
  unfold sfold; rw [Nat.ble_eq_true_of_le (by omega), eo, e]; rfl
/-- on the way: all behind are smaller, all from hi on are not -/
def SearchAt (r lo hi : Nat) : Prop := (∀ i (h : i < orbitT.length), i < lo → orbitT[i].1 < r) ∧ (∀ i (h : i < orbitT.length), hi ≤ i → r ≤ orbitT[i].1)
theorem SearchAt.low {r lo hi m : Nat} (h : SearchAt r lo hi) (hm : m < orbitT.length) (hlt : orbitT[m].1 < r) : SearchAt r (m + 1) hi := by
  refine ⟨fun i hi' hi2 => ?_, h.2⟩
  rcases Nat.lt_or_ge i m with hc | hc
  · have := orbit_lt hm hc; omega
  · obtain rfl : i = m := by omega
    exact hlt
theorem SearchAt.high {r lo hi m : Nat} (h : SearchAt r lo hi) (hm : m < orbitT.length) (hge : r ≤ orbitT[m].1) : SearchAt r lo m := by
  refine ⟨h.1, fun i hi' hi2 => ?_⟩
  rcases Nat.lt_or_ge m i with hc | hc
  · have := orbit_lt hi' hc; omega
  · obtain rfl : i = m := by omega
    exact hge
theorem SearchAt.none {r lo : Nat} (h : SearchAt r lo lo) (hne : ∀ h : lo < orbitT.length, orbitT[lo].1 ≠ r) : ∀ x ∈ orbitT, x.1 ≠ r := fun x hx e => by
  obtain ⟨i, hi, rfl⟩ := List.mem_iff_getElem.1 hx
  rcases Nat.lt_or_ge i lo with hc | hc
  · have := h.1 i hi hc; omega
  · have h2 := h.2 i hi hc
    rcases Nat.eq_or_lt_of_le hc with rfl | hc
    · exact hne hi e
    · have h3 := orbit_lt hi hc
      have h4 := h.2 lo (by omega) (Nat.le_refl _)
      omega

set_option maxRecDepth 100000 in
set_option maxHeartbeats 3200000 in
theorem simpleFold_any (r : Nat) (w : World) (hr : r < 2147483648) (hV : FoldVars w) :
    Calls Tryd.prog 20 #[.int .i32 (r : Int)] w fun e w' => e = .returned (.int .i32 (sfold r : Int)) ∧ ∃ q, w' = w.drewN q := by
  obtain ⟨hA, hO, hC⟩ := hV
  have hr0 : ¬ ((r : Int) < 0) := by omega
  by_cases hbig : 1114111 < r
  · have hbz : (1114111 : Int) < (r : Int) := by omega
    have hs := Lib.hid (sfold_big hbig)
    clear hbig hA hO hC
    go_enter Tryd.func20, Tryd.ntmps20
    go_wp2
    go_ret
    exact ⟨by rw [hs.out]; rfl, 0, rfl⟩
  have hbz : ¬ (1114111 : Int) < (r : Int) := by omega
  by_cases hasc : r < 128
  · have haz : (r : Int) < 128 := by omega
    have h0z : (0 : Int) ≤ (r : Int) := by omega
    have hs := Lib.hid (sfold_ascii hasc)
    have hc := hA r hasc
    have hal := asciiF_le hasc
    obtain ⟨a, ha⟩ : ∃ a, a = asciiF r := ⟨_, rfl⟩
    rw [← ha] at hc hal
    have Ha := Lib.hid ha
    clear ha hA hO hC hbig
    go_enter Tryd.func20, Tryd.ntmps20
    go_wp2
    go_ret
    exact ⟨by rw [hs.out, ← Ha.out]; rfl, 0, rfl⟩
  have haz : ¬ (r : Int) < 128 := by omega
  have h128 : 128 ≤ r := by omega
  obtain ⟨R, o, cap, hcO, hOt⟩ := hO
  have HOt := Lib.hid hOt
  have hst : SearchAt r 0 94 := ⟨fun i _ h => by omega, fun i h h' => by rw [orbit_len] at h; omega⟩
  have Hst := Lib.hid hst
  clear hOt hst hA
  go_enter Tryd.func20, Tryd.ntmps20
  go_wp2
  go_loopg [3, 4] 94 (fun g s3 s4 wx => w = wx ∧ ∃ lo hi : Nat, s3 = .int .i64 lo ∧ s4 = .int .i64 hi ∧ lo ≤ hi ∧ hi ≤ 94 ∧ hi - lo ≤ g ∧ Hid (SearchAt r lo hi))
  case atStart => exact ⟨rfl, 0, 94, rfl, rfl, by omega, by omega, by omega, Hst⟩
  case round =>
    clear Hst
    obtain ⟨rfl, lo, hi, rfl, rfl, hlh, hh, hg, Hs⟩ := hrel
    have Hg := Lib.hid hg; clear hg
    by_cases hlt : lo < hi
    · have hz : (lo : Int) < (hi : Int) := by omega
      obtain ⟨m, hm⟩ : ∃ m, (lo + hi) / 2 = m := ⟨_, rfl⟩
      have hmr : lo ≤ m ∧ m < hi := by omega
      have hmz : ((lo : Int) + (hi : Int)) / 2 = (m : Int) := by omega
      have hml : m < orbitT.length := by rw [orbit_len]; omega
      have hc := (HOt.out m hml).1
      have hfl := (orbit_le hml).1
      have hlow := fun h => Hs.out.low hml h
      have hhigh := fun h => Hs.out.high hml h
      obtain ⟨f, hf⟩ : ∃ f, f = (orbitT[m]'hml).1 := ⟨_, rfl⟩
      rw [← hf] at hc hfl hlow hhigh
      have Hlow := Lib.hid hlow; have Hhigh := Lib.hid hhigh
      have hm0 : (0 : Int) ≤ (m : Int) := by omega
      have hm1 : (m : Int) < 94 := by omega
      clear hf hlow hhigh hml hm Hs
      by_cases hfr : f < r
      · have hfz : (f : Int) < (r : Int) := by omega
        have Hn := Lib.hid (Hlow.out hfr)
        clear hfr Hlow Hhigh
        go_wp2
        go_roundg (hi - (m + 1))
        case measure => have := Hg.out; omega
        case rel => exact ⟨rfl, m + 1, hi, by first | rfl | simp, rfl, by omega, by omega, by omega, Hn⟩
      · have hfz : ¬ (f : Int) < (r : Int) := by omega
        have Hn := Lib.hid (Hhigh.out (by omega))
        clear hfr Hlow Hhigh
        go_wp2
        go_roundg (m - lo)
        case measure => have := Hg.out; omega
        case rel => exact ⟨rfl, lo, m, rfl, rfl, by omega, by omega, by omega, Hn⟩
    · have hz : ¬ ((lo : Int) < (hi : Int)) := by omega
      obtain rfl : lo = hi := by omega
      clear hlt Hg
      by_cases hl9 : lo < 94
      · have hml : lo < orbitT.length := by rw [orbit_len]; exact hl9
        have hc := (HOt.out lo hml).1
        have hc2 := (HOt.out lo hml).2
        have hfl := orbit_le hml
        have hfound := fun h => sfold_orbit h128 hml h
        have hnone := fun (h : (orbitT[lo]'hml).1 ≠ r) => Hs.out.none (fun _ => h)
        obtain ⟨f, hf⟩ : ∃ f, f = (orbitT[lo]'hml).1 := ⟨_, rfl⟩
        obtain ⟨t, ht⟩ : ∃ t, t = (orbitT[lo]'hml).2 := ⟨_, rfl⟩
        rw [← hf] at hc hfl hfound hnone
        rw [← ht] at hc2 hfl hfound
        have hm0 : (0 : Int) ≤ (lo : Int) := by omega
        have hm1 : (lo : Int) < 94 := by omega
        obtain ⟨hf1, hf2⟩ := hfl
        by_cases hfr : f = r
        · have hs := Lib.hid (hfound hfr)
          have hfz : ((f : Int) == (r : Int)) = true := by rw [beq_iff_eq]; omega
          clear hfr hfound hnone hml hf ht hC Hs HOt
          go_wp2
          go_ret
          exact ⟨by rw [hs.out]; rfl, 0, rfl⟩
        · have Ho := Lib.hid (hnone hfr)
          have hfz : ((f : Int) == (r : Int)) = false := by rw [beq_eq_false_iff_ne]; omega
          clear hfr hfound hnone hml hf ht Hs HOt hc2
          obtain ⟨RC, oC, capC, hcC, htC⟩ := hC
          have hlk := Tryd.unicode_lookupCaseRange caseA RC oC capC (r : Int) w htC caseA_ok2.ok (by rw [caseA_size]; omega)
          cases hidx : lookupIdx caseA (r : Int) (caseA.size + 1) 0 caseA.size with
          | none =>
            rw [hidx] at hlk
            have hs := Lib.hid (sfold_none h128 Ho.out hidx)
            clear hidx htC
            go_wp2_with fail
            (with_reducible refine hlk.mono ?_); rintro e w' ⟨rfl, rfl⟩
            go_wp2_with fail
            go_ret
            exact ⟨by rw [hs.out]; rfl, 0, rfl⟩
          | some i =>
            rw [hidx] at hlk
            obtain ⟨hs, hil⟩ := sfold_row h128 Ho.out hidx
            obtain ⟨_, hlo, hhi⟩ := lookupIdx_some caseA (r : Int) _ _ _ i hidx
            have hic : i < caseA.size := by rw [caseA_len]; exact hil
            have c0 := (htC i hic).1
            have d0 := htC.delta i hic 0 (by omega)
            have d1 := htC.delta i hic 1 (by omega)
            obtain ⟨x, hx⟩ : ∃ x, x = caseA.getD i (0, 0, 0, 0, 0) := ⟨_, rfl⟩
            rw [← hx] at hs hlo hhi c0 d0 d1
            have hxm : x ∈ caseT := by rw [hx, caseA_get hil]; exact List.getElem_mem hil
            have hxl := row_le hxm
            have b1 := rowFold_bounds (r := r) hxm (by omega) (by omega) 1 (by omega)
            have b0 := rowFold_bounds (r := r) hxm (by omega) (by omega) 0 (by omega)
            have v1 : Calls Tryd.prog 26 #[.int .i64 1, .int .i32 (r : Int), .pointer (some ⟨RC, oC + i * 5, none⟩)] w fun e w' => e = .returned (.int .i32 (convertR 1 r x)) ∧ ∃ q, w' = w.drewN q := by
              have := Tryd.unicode_convertCase 1 (by omega) (r : Int) RC (oC + i * 5) x w hlo hhi (by omega) c0 d1
              rw [show RowKit.wrap32 (convertR 1 (r : Int) x) = convertR 1 r x by unfold RowKit.wrap32; omega] at this
              exact this
            have v0 : ∀ q, Calls Tryd.prog 26 #[.int .i64 0, .int .i32 (r : Int), .pointer (some ⟨RC, oC + i * 5, none⟩)] (w.drewN q) fun e w' => e = .returned (.int .i32 (convertR 0 r x)) ∧ ∃ q', w' = (w.drewN q).drewN q' := fun q => by
              have := Tryd.unicode_convertCase 0 (by omega) (r : Int) RC (oC + i * 5) x (w.drewN q) hlo hhi (by omega) c0 d0
              rw [show RowKit.wrap32 (convertR 0 (r : Int) x) = convertR 0 r x by unfold RowKit.wrap32; omega] at this
              exact this
            unfold rowFold at hs
            obtain ⟨l1, hl1⟩ : ∃ l1, l1 = convertR 1 (r : Int) x := ⟨_, rfl⟩
            obtain ⟨l0, hl0⟩ : ∃ l0, l0 = convertR 0 (r : Int) x := ⟨_, rfl⟩
            rw [← hl1] at hs v1 b1
            rw [← hl0] at hs b0
            simp only [← hl0] at v0
            have V0 := Lib.hid v0; have V1 := Lib.hid v1
            clear hl1 hl0 hx hxm hxl hidx htC c0 d0 d1 hil hic v0 v1 hlo hhi
            by_cases hl : l1 = (r : Int)
            · rw [if_neg (by omega)] at hs
              have Hs := Lib.hid hs; clear hs
              have hlb : (l1 == (r : Int)) = true := by rw [beq_iff_eq]; exact hl
              have hlc : (l1 != (r : Int)) = false := by rw [bne, hlb]; rfl
              clear hl
              go_wp2_with fail
              (with_reducible refine hlk.mono ?_); rintro e w' ⟨rfl, rfl⟩
              go_wp2_with fail
              (with_reducible refine V1.out.mono ?_); rintro e w' ⟨rfl, q, rfl⟩
              go_wp2_with fail
              (with_reducible refine (V0.out q).mono ?_); rintro e w' ⟨rfl, q', rfl⟩
              go_wp2_with fail
              go_ret
              exact ⟨by rw [Hs.out, Int.toNat_of_nonneg b0.1]; rfl, q + q', rfl⟩
            · rw [if_pos hl] at hs
              have Hs := Lib.hid hs; clear hs
              have hlb : (l1 == (r : Int)) = false := by rw [beq_eq_false_iff_ne]; exact hl
              have hlc : (l1 != (r : Int)) = true := by rw [bne, hlb]; rfl
              clear hl
              go_wp2_with fail
              (with_reducible refine hlk.mono ?_); rintro e w' ⟨rfl, rfl⟩
              go_wp2_with fail
              (with_reducible refine V1.out.mono ?_); rintro e w' ⟨rfl, q, rfl⟩
              go_wp2_with fail
              go_ret
              exact ⟨by rw [Hs.out, Int.toNat_of_nonneg b1.1]; rfl, q, rfl⟩
      · have Ho := Lib.hid (Hs.out.none (fun h => by rw [orbit_len] at h; omega))
        have hm1 : ¬ (lo : Int) < 94 := by omega
        clear Hs HOt
        obtain ⟨RC, oC, capC, hcC, htC⟩ := hC
        have hlk := Tryd.unicode_lookupCaseRange caseA RC oC capC (r : Int) w htC caseA_ok2.ok (by rw [caseA_size]; omega)
        cases hidx : lookupIdx caseA (r : Int) (caseA.size + 1) 0 caseA.size with
        | none =>
          rw [hidx] at hlk
          have hs := Lib.hid (sfold_none h128 Ho.out hidx)
          clear hidx htC
          go_wp2_with fail
          (with_reducible refine hlk.mono ?_); rintro e w' ⟨rfl, rfl⟩
          go_wp2_with fail
          go_ret
          exact ⟨by rw [hs.out]; rfl, 0, rfl⟩
        | some i =>
          rw [hidx] at hlk
          obtain ⟨hs, hil⟩ := sfold_row h128 Ho.out hidx
          obtain ⟨_, hlo, hhi⟩ := lookupIdx_some caseA (r : Int) _ _ _ i hidx
          have hic : i < caseA.size := by rw [caseA_len]; exact hil
          have c0 := (htC i hic).1
          have d0 := htC.delta i hic 0 (by omega)
          have d1 := htC.delta i hic 1 (by omega)
          obtain ⟨x, hx⟩ : ∃ x, x = caseA.getD i (0, 0, 0, 0, 0) := ⟨_, rfl⟩
          rw [← hx] at hs hlo hhi c0 d0 d1
          have hxm : x ∈ caseT := by rw [hx, caseA_get hil]; exact List.getElem_mem hil
          have hxl := row_le hxm
          have b1 := rowFold_bounds (r := r) hxm (by omega) (by omega) 1 (by omega)
          have b0 := rowFold_bounds (r := r) hxm (by omega) (by omega) 0 (by omega)
          have v1 : Calls Tryd.prog 26 #[.int .i64 1, .int .i32 (r : Int), .pointer (some ⟨RC, oC + i * 5, none⟩)] w fun e w' => e = .returned (.int .i32 (convertR 1 r x)) ∧ ∃ q, w' = w.drewN q := by
            have := Tryd.unicode_convertCase 1 (by omega) (r : Int) RC (oC + i * 5) x w hlo hhi (by omega) c0 d1
            rw [show RowKit.wrap32 (convertR 1 (r : Int) x) = convertR 1 r x by unfold RowKit.wrap32; omega] at this
            exact this
          have v0 : ∀ q, Calls Tryd.prog 26 #[.int .i64 0, .int .i32 (r : Int), .pointer (some ⟨RC, oC + i * 5, none⟩)] (w.drewN q) fun e w' => e = .returned (.int .i32 (convertR 0 r x)) ∧ ∃ q', w' = (w.drewN q).drewN q' := fun q => by
            have := Tryd.unicode_convertCase 0 (by omega) (r : Int) RC (oC + i * 5) x (w.drewN q) hlo hhi (by omega) c0 d0
            rw [show RowKit.wrap32 (convertR 0 (r : Int) x) = convertR 0 r x by unfold RowKit.wrap32; omega] at this
            exact this
          unfold rowFold at hs
          obtain ⟨l1, hl1⟩ : ∃ l1, l1 = convertR 1 (r : Int) x := ⟨_, rfl⟩
          obtain ⟨l0, hl0⟩ : ∃ l0, l0 = convertR 0 (r : Int) x := ⟨_, rfl⟩
          rw [← hl1] at hs v1 b1
          rw [← hl0] at hs b0
          simp only [← hl0] at v0
          have V0 := Lib.hid v0; have V1 := Lib.hid v1
          clear hl1 hl0 hx hxm hxl hidx htC c0 d0 d1 hil hic v0 v1 hlo hhi
          by_cases hl : l1 = (r : Int)
          · rw [if_neg (by omega)] at hs
            have Hs := Lib.hid hs; clear hs
            have hlb : (l1 == (r : Int)) = true := by rw [beq_iff_eq]; exact hl
            have hlc : (l1 != (r : Int)) = false := by rw [bne, hlb]; rfl
            clear hl
            go_wp2_with fail
            (with_reducible refine hlk.mono ?_); rintro e w' ⟨rfl, rfl⟩
            go_wp2_with fail
            (with_reducible refine V1.out.mono ?_); rintro e w' ⟨rfl, q, rfl⟩
            go_wp2_with fail
            (with_reducible refine (V0.out q).mono ?_); rintro e w' ⟨rfl, q', rfl⟩
            go_wp2_with fail
            go_ret
            exact ⟨by rw [Hs.out, Int.toNat_of_nonneg b0.1]; rfl, q + q', rfl⟩
          · rw [if_pos hl] at hs
            have Hs := Lib.hid hs; clear hs
            have hlb : (l1 == (r : Int)) = false := by rw [beq_eq_false_iff_ne]; exact hl
            have hlc : (l1 != (r : Int)) = true := by rw [bne, hlb]; rfl
            clear hl
            go_wp2_with fail
            (with_reducible refine hlk.mono ?_); rintro e w' ⟨rfl, rfl⟩
            go_wp2_with fail
            (with_reducible refine V1.out.mono ?_); rintro e w' ⟨rfl, q, rfl⟩
            go_wp2_with fail
            go_ret
            exact ⟨by rw [Hs.out, Int.toNat_of_nonneg b1.1]; rfl, q, rfl⟩
end Go.Proofs.YtkglbkgbgajbkaaDoor
