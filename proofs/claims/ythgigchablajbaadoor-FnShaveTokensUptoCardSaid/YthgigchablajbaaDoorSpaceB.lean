/- Contract of bytes.TrimSpace: what is left, told by pieces. Conditions: a length within 2 to the 47; the tables of utf8 and of white space. -/
import Derived.Test.YthgigchablajbaaDoorBW
import Derived.Test.YthgigchablajbaaDoorTabsW
import Derived.Test.YthgigchablajbaaDoorShelf
import Derived.Lib.TrimAscii
namespace Go.Proofs.YthgigchablajbaaDoor
open Go.RowKit
set_option linter.unusedVariables false

theorem isSpace_pred (w : World) (hW : Lib.WhiteTab 2 w) : PredGrows Tryd.prog 47 #[] Lib.isSpaceR w := fun W x hx hb => by
  have h := Tryd.unicode_IsSpace_any (x : Int) W (by omega) (by omega) (WhiteTab_below hW hb)
  rw [Lib.isSpaceZ_nat] at h
  exact h
theorem rightEnd_le (p : Nat → Bool) (s : ByteArray) : Lib.rightEndF p s ≤ s.size := by
  have hrg := lastIdx_lt p false s s.size s.size (Nat.le_refl _)
  change Lib.lastIdxFunc p false s = -1 ∨ (0 ≤ Lib.lastIdxFunc p false s ∧ Lib.lastIdxFunc p false s < s.size) at hrg
  unfold Lib.rightEndF
  split
  · have hw1 := Lib.decodeGo_le_size (s.extract (Lib.lastIdxFunc p false s).toNat s.size)
    rw [Lib.tail_size] at hw1
    change (Lib.decodeGoB (s.extract (Lib.lastIdxFunc p false s).toNat s.size)).2 ≤ _ at hw1
    omega
  · omega
theorem bw_right (p : Nat → Bool) (s : ByteArray) (b o c lo B : Nat) (w : World) (hc : s.size ≤ c ∧ c ≤ 9223372036854775807) (hB : lo ≤ b ∧ b < B) (h : BytesAt s b o w) : BW w lo B (rightCut p s b o c) (Lib.trimRightF p s) := by
  unfold rightCut Lib.trimRightF
  have hr := rightEnd_le p s
  have hsz : (s.extract 0 (Lib.rightEndF p s)).size = Lib.rightEndF p s := head_size s _ hr
  exact .inl ⟨b, o, c, by rw [hsz], by omega, hB, h.head _ hr⟩
theorem bw_trim (p : Nat → Bool) (s : ByteArray) (b o c lo B : Nat) (w : World) (hc : s.size ≤ c ∧ c ≤ 9223372036854775807) (hB : lo ≤ b ∧ b < B) (h : BytesAt s b o w) : BW w lo B (trimCut p s b o c) (txt (flat (trimB p (pcsB s)))) := by
  have e : txt (flat (trimB p (pcsB s))) = Lib.trimF p s := by
    unfold trimB
    rw [← trimBoth_pcs]
    exact Lib.mk_data _
  rw [e]
  unfold trimCut Lib.trimF Lib.trimLeftF
  split
  · exact .inr ⟨rfl, Nat.le_zero.1 (trimRightF_size p ⟨#[]⟩)⟩
  · exact bw_right p _ b _ _ lo B w ⟨by rw [tail_len]; omega, by omega⟩ hB (h.tail _)
theorem trimFB (s : ByteArray) (b o c lo B : Nat) (w : World) (hs : s.size ≤ 140737488355328) (hc : s.size ≤ c ∧ c ≤ 9223372036854775807) (hb : lo ≤ b ∧ b < B) (h : BytesAt s b o w) (hT : TabsW w) (hB : B ≤ w.heap.size) :
    Calls Tryd.prog 55 #[.slice (some ⟨b, o, none⟩) s.size c, .func (.func 47) #[] #[]] w (GiveB lo B (flat (trimB Lib.isSpaceR (pcsB s))) w) := by
  refine (Any7.bytes_TrimFunc Tryd.lays7_42 47 #[] (enters_of Tryd.func47 (by kernel_rfl) rfl) Lib.isSpaceR s b o c w hc.1 (by omega) h hT.1 (isSpace_pred w hT.2)).mono ?_
  rintro e w' ⟨rfl, hbw⟩
  exact ⟨_, rfl, (bw_trim Lib.isSpaceR s b o c lo B w hc hb h).below (hbw.mono hB), hbw⟩
/-- the first byte, in the table -/
theorem left_sp (s : ByteArray) (h : 0 < s.size) (ha : (s.get! 0).toNat < 128) : (Lib.isSp (s.get! 0) = true → trimL Lib.isSpaceR (pcsB s) = trimL Lib.isSpaceR (pcsB (s.extract 1 s.size))) ∧ (Lib.isSp (s.get! 0) = false → trimL Lib.isSpaceR (pcsB s) = pcsB s) := by
  obtain ⟨q, _, _, _, h4, _, h6, h7⟩ := left_step Lib.isSpaceR s h
  obtain ⟨e1, e2⟩ := h4 ha
  rw [e1, e2] at h6
  rw [e1] at h7
  exact ⟨fun hx => h6 (Lib.isSp_true hx).2, fun hx => h7 (Lib.isSp_false hx ha)⟩
theorem right_sp (s : ByteArray) (h : 0 < s.size) (ha : (s.get! (s.size - 1)).toNat < 128) : (Lib.isSp (s.get! (s.size - 1)) = true → trimR Lib.isSpaceR (pcsB s) = trimR Lib.isSpaceR (pcsB (s.extract 0 (s.size - 1)))) ∧ (Lib.isSp (s.get! (s.size - 1)) = false → trimR Lib.isSpaceR (pcsB s) = pcsB s) := by
  obtain ⟨q, _, _, _, h4, _, h6, h7⟩ := right_step Lib.isSpaceR s h
  obtain ⟨e1, e2⟩ := h4 ha
  rw [e1, e2] at h6
  rw [e1] at h7
  exact ⟨fun hx => h6 (Lib.isSp_true hx).2, fun hx => h7 (Lib.isSp_false hx ha)⟩
theorem tail_tail (s : ByteArray) (k : Nat) (hk : k < s.size) : (s.extract k s.size).extract 1 (s.extract k s.size).size = s.extract (k + 1) s.size := by
  have : ∀ a b : ByteArray, a.data.toList = b.data.toList → a = b := fun a b h => by rw [← Lib.mk_data a, h, Lib.mk_data]
  apply this
  rw [extract_tail_data, extract_tail_data, extract_tail_data, List.drop_drop]
theorem tail_get (s : ByteArray) (k j : Nat) : (s.extract k s.size).get! j = s.get! (k + j) := Lib.tail_get! s k j
theorem head_get (s : ByteArray) (k j : Nat) (hk : k ≤ s.size) (hj : j < k) : (s.extract 0 k).get! j = s.get! j := by
  rw [get!_extract' s 0 k j (by omega) hk, Nat.zero_add]
theorem head_head (s : ByteArray) (k j : Nat) (hj : j ≤ k) : (s.extract 0 k).extract 0 j = s.extract 0 j := by
  have : ∀ a b : ByteArray, a.data.toList = b.data.toList → a = b := fun a b h => by rw [← Lib.mk_data a, h, Lib.mk_data]
  apply this
  rw [extract_head_data, extract_head_data, extract_head_data, List.take_take, Nat.min_eq_left hj]
theorem head_all (s : ByteArray) : s.extract 0 s.size = s := by
  have : ∀ a b : ByteArray, a.data.toList = b.data.toList → a = b := fun a b h => by rw [← Lib.mk_data a, h, Lib.mk_data]
  apply this
  rw [extract_head_data, List.take_of_length_le (by rw [← Lib.size_eq]; exact Nat.le_refl _)]
theorem tail_all (s : ByteArray) : s.extract 0 s.size = s := head_all s

set_option maxRecDepth 100000 in
set_option maxHeartbeats 1600000 in
theorem trimSpaceB (s : ByteArray) (v : Value) (lo B : Nat) (w : World) (hs : s.size ≤ 140737488355328) (hv : BW w lo B v s) (hT : TabsB w) (hB : B ≤ w.heap.size) :
    Calls Tryd.prog 34 #[v] w (GiveB lo B (flat (trimB Lib.isSpaceR (pcsB s))) w) := by
  have HT : Hid (∀ q : Nat, q < 256 → w.cell? ⟨1, q, none⟩ = some (.int .u8 (if Lib.isSp (UInt8.ofNat q) then 1 else 0))) := fun q hq => by
    rw [hT.2.cell gB q (by rw [Lib.asciiSpaceTab_length]; exact hq), Lib.asciiSpaceTab_at q hq]
  rcases hv with ⟨b, o, c, rfl, hc, hb, hat⟩ | ⟨rfl, h0⟩
  · have Hat := Lib.hid hat; clear hat
    obtain ⟨n, hn⟩ : ∃ n, n = s.size := ⟨_, rfl⟩
    have Hn := Lib.hid hn
    rw [← hn] at hs hc ⊢
    clear hn
    go_enter Tryd.func34, Tryd.ntmps34
    go_wp2
    go_loop [9, 0] (fun i s0 => s0 = .slice (some ⟨b, o, none⟩) n c ∧ ∃ k : Nat, k ≤ n ∧ i = .int .i64 k ∧ Hid (trimL Lib.isSpaceR (pcsB s) = trimL Lib.isSpaceR (pcsB (s.extract k s.size)))) (fun i _ => n - (intOf i).toNat)
    case atStart => exact ⟨rfl, 0, Nat.zero_le _, rfl, by rw [Hid, tail_all]⟩
    case round =>
      obtain ⟨rfl, k, hk, rfl, hsp⟩ := hrel
      by_cases hkn : k < n
      · obtain ⟨x, hx⟩ : ∃ x, x = s.get! k := ⟨_, rfl⟩
        have hc1 : w.cell? ⟨b, o + k, none⟩ = some (.int .u8 (x.toNat : Int)) := by rw [hx]; exact Hat.out k (by rw [← Hn.out]; exact hkn)
        have hx8 : x.toNat < 256 := x.toNat_lt
        have hx8i : (x.toNat : Int) < 256 := by omega
        have hT0 : (k : Int) < (n : Int) := by omega
        have hkn2 : (k : Int) ≤ (n : Int) := by omega
        have hck : ¬ c = k := by omega
        have hck2 : ¬ k = c := by omega
        have hxl : x = (s.extract k s.size).get! 0 := by rw [tail_get, Nat.add_zero]; exact hx
        have htl : (s.extract k s.size).size = n - k := by rw [tail_len, Hn.out]
        have Hxl := Lib.hid hxl; have Htl := Lib.hid htl; have Hx := Lib.hid hx
        clear hx hxl htl
        by_cases hasc : x.toNat < 128
        · have h128 : ¬ (128 : Int) ≤ (x.toNat : Int) := by omega
          have hTx := HT.out x.toNat hx8
          rw [UInt8.ofNat_toNat] at hTx
          obtain ⟨hA, hC⟩ := left_sp (s.extract k s.size) (by rw [Htl.out]; omega) (by rw [← Hxl.out]; exact hasc)
          rw [← Hxl.out] at hA hC
          have HA := Lib.hid hA; have HC := Lib.hid hC
          clear hA hC
          cases hsx : Lib.isSp x with
          | true =>
            have Hn1 := Lib.hid (HA.out hsx)
            rw [hsx] at hTx
            simp only [if_true] at hTx
            clear hsx
            go_wp2
            go_round
            case rel => exact ⟨rfl, k + 1, by omega, by go_num, by rw [Hid, hsp.out, Hn1.out, tail_tail s k (by rw [← Hn.out]; exact hkn)]⟩
            case measure => simp [intOf]; omega
          | false =>
            have Hn1 := Lib.hid (HC.out hsx)
            have Hsx := Lib.hid hsx
            rw [hsx] at hTx
            simp only [Bool.false_eq_true, if_false] at hTx
            clear hsx
            obtain ⟨rest, hrest⟩ : ∃ rest, rest = s.extract k s.size := ⟨_, rfl⟩
            rw [← hrest] at Hxl Htl Hn1 hsp
            have Hrat : Hid (BytesAt rest b (o + k) w) := by rw [hrest]; exact Hat.out.tail k
            have hgoal : Hid (trimB Lib.isSpaceR (pcsB s) = trimR Lib.isSpaceR (pcsB rest)) := by
              rw [Hid]; unfold trimB; rw [hsp.out, Hn1.out]
            clear hrest HA HC
            obtain ⟨m, hm⟩ : ∃ m, m = n - k := ⟨_, rfl⟩
            have hm0 : 0 < m := by omega
            have hmc : m ≤ c - k := by omega
            have hmb : m ≤ 140737488355328 := by omega
            have hck3 : c - k ≤ 9223372036854775807 := by omega
            rw [← hm] at Htl
            go_wp2
            rw [← hm]
            go_loop [5] (fun h => ∃ y : Nat, y < m ∧ h = .int .i64 y ∧ Hid (trimR Lib.isSpaceR (pcsB rest) = trimR Lib.isSpaceR (pcsB (rest.extract 0 (y + 1))))) (fun h => (intOf h).toNat)
            case atStart => exact ⟨m - 1, by omega, by first | go_num | (congr 1; omega), by rw [Hid, show m - 1 + 1 = m by omega, ← Htl.out, head_all]⟩
            case round =>
              obtain ⟨y, hy, rfl, hsp2⟩ := hrel
              obtain ⟨z, hz⟩ : ∃ z, z = rest.get! y := ⟨_, rfl⟩
              have hc2 : w.cell? ⟨b, o + k + y, none⟩ = some (.int .u8 (z.toNat : Int)) := by rw [hz]; exact Hrat.out y (by rw [Htl.out]; exact hy)
              have hz8 : z.toNat < 256 := z.toNat_lt
              have hz8i : (z.toNat : Int) < 256 := by omega
              have hyb : (y : Int) < (m : Int) := by omega
              have hyc : (y : Int) + 1 ≤ ((c - k : Nat) : Int) := by omega
              have hhs : (rest.extract 0 (y + 1)).size = y + 1 := head_sz rest (y + 1) (by rw [Htl.out]; omega)
              have hzl : (rest.extract 0 (y + 1)).get! ((rest.extract 0 (y + 1)).size - 1) = z := by rw [hhs, Nat.add_sub_cancel, head_get rest (y + 1) y (by rw [Htl.out]; omega) (by omega)]; exact hz.symm
              have Hhs := Lib.hid hhs; have Hzl := Lib.hid hzl; have Hz := Lib.hid hz
              have hhat : BytesAt (rest.extract 0 (y + 1)) b (o + k) w := Hrat.out.head (y + 1) (by rw [Htl.out]; omega)
              have Hhat := Lib.hid hhat
              clear hz hhs hzl hhat
              by_cases hasc2 : z.toNat < 128
              · have hz128 : ¬ (128 : Int) ≤ (z.toNat : Int) := by omega
                have hTz := HT.out z.toNat hz8
                rw [UInt8.ofNat_toNat] at hTz
                obtain ⟨hA, hC⟩ := right_sp (rest.extract 0 (y + 1)) (by rw [Hhs.out]; omega) (by rw [Hzl.out]; exact hasc2)
                rw [Hzl.out, Hhs.out, Nat.add_sub_cancel] at hA
                rw [Hzl.out] at hC
                have HA := Lib.hid hA; have HC := Lib.hid hC
                clear hA hC
                cases hsz : Lib.isSp z with
                | true =>
                  have Hn2 := Lib.hid (HA.out hsz)
                  have hy0 : 0 < y := by
                    rcases Nat.eq_zero_or_pos y with e | e
                    · subst e
                      rw [Hz.out, ← Hxl.out, Hsx.out] at hsz
                      cases hsz
                    · exact e
                  rw [hsz] at hTz
                  simp only [if_true] at hTz
                  clear hsz
                  go_wp2
                  go_round
                  case rel => exact ⟨y - 1, by omega, by first | go_num | (congr 1; omega), by rw [Hid, hsp2.out, Hn2.out, show y - 1 + 1 = y by omega, head_head rest (y + 1) y (by omega)]⟩
                  case measure => simp [intOf]; omega
                | false =>
                  have Hn2 := Lib.hid (HC.out hsz)
                  rw [hsz] at hTz
                  simp only [Bool.false_eq_true, if_false] at hTz
                  clear hsz
                  go_wp2
                  go_ret
                  refine ⟨_, rfl, ?_, Below.refl _ _⟩
                  rw [hgoal.out, hsp2.out, Hn2.out, flat_pcsB, show txt (rest.extract 0 (y + 1)).data.toList = rest.extract 0 (y + 1) from Lib.mk_data _]
                  exact .inl ⟨b, o + k, c - k, by rw [Hhs.out]; rfl, ⟨by rw [Hhs.out]; omega, by omega⟩, hb, Hhat.out⟩
              · have hz128 : (128 : Int) ≤ (z.toNat : Int) := by omega
                have hcall := trimFB (rest.extract 0 (y + 1)) b (o + k) (c - k) lo B w (by rw [Hhs.out]; omega) ⟨by rw [Hhs.out]; omega, by omega⟩ hb Hhat.out hT.1 hB
                have he : trimB Lib.isSpaceR (pcsB (rest.extract 0 (y + 1))) = trimB Lib.isSpaceR (pcsB s) := by
                  have e1 : trimB Lib.isSpaceR (pcsB (rest.extract 0 (y + 1))) = trimL Lib.isSpaceR (trimR Lib.isSpaceR (pcsB (rest.extract 0 (y + 1)))) := trim_sides _ _ _
                  rw [e1, ← hsp2.out, ← hgoal.out]
                  unfold trimB
                  rw [← trim_sides, trimL_trimL]
                rw [he, Hhs.out] at hcall
                have Hcall := Lib.hid hcall
                clear hcall he
                go_wp2_with fail
                (with_reducible refine Hcall.out.mono ?_); rintro e w' ⟨v', rfl, hv', hb'⟩
                go_wp2_with fail
                go_ret
                exact ⟨v', rfl, hv', hb'⟩
        · have h128 : (128 : Int) ≤ (x.toNat : Int) := by omega
          have hcall := trimFB (s.extract k s.size) b (o + k) (c - k) lo B w (by rw [Htl.out]; omega) ⟨by rw [Htl.out]; omega, by omega⟩ hb (Hat.out.tail k) hT.1 hB
          have he : trimB Lib.isSpaceR (pcsB (s.extract k s.size)) = trimB Lib.isSpaceR (pcsB s) := by
            unfold trimB; rw [hsp.out]
          rw [he, Htl.out] at hcall
          have Hcall := Lib.hid hcall
          clear hcall he
          go_wp2_with fail
          (with_reducible refine Hcall.out.mono ?_); rintro e w' ⟨v', rfl, hv', hb'⟩
          go_wp2_with fail
          go_ret
          exact ⟨v', rfl, hv', hb'⟩
      · obtain rfl : k = n := by omega
        have hT0 : ¬ ((k : Int) < (k : Int)) := by omega
        go_wp2
        go_ret
        refine ⟨_, rfl, .inr ⟨rfl, ?_⟩, Below.refl _ _⟩
        unfold trimB
        rw [hsp.out, (pcsB_nil_iff _).2 (by rw [tail_len, ← Hn.out]; omega)]
        rfl
  · refine (Tryd.bytes_TrimSpace_nil w).mono ?_
    rintro e w' ⟨rfl, rfl⟩
    exact ⟨_, rfl, .inr ⟨rfl, by rw [(pcsB_nil_iff s).2 h0]; rfl⟩, Below.refl _ _⟩
end Go.Proofs.YthgigchablajbaaDoor
