/- The walks of the laws FnPartsBoth and FnPartsTokens: they return true; old memory as it was. Conditions: arguments of a bulk of at most 2 to the 20; the tables of utf8. -/
import Derived.Test.YtfghbjjlkciopaaDoorPartsB
import Derived.Test.YtfghbjjlkciopaaDoorParts
import Derived.Test.YtfghbjjlkciopaaDoorSameT
import Derived.Test.YtfghbjjlkciopaaDoorJoined
import Derived.Test.YtfghbjjlkciopaaDoorFrameUT
import Derived.Test.YtfghbjjlkciopaaDoorTokB
import Derived.Test.YtfghbjjlkciopaaDoorTokBack
import Derived.Test.YtfghbjjlkciopaaDoorTokBackB
namespace Go.Proofs.YtfghbjjlkciopaaDoor
open Go.RowKit
set_option linter.unusedVariables false

theorem row_none (w : World) : RowAt w 0 w.heap.size none (texts []) := fun h => absurd rfl h
/-- no set: the whole text alone -/
theorem whole_form {w : World} {base : Nat} {v : Value} {s : ByteArray} (h : Own w base 9 v (texts (partsOf (([] : List (List UInt8)).map txt) s.data.toList))) : ∃ b c, v = .slice (some ⟨b, 0, none⟩) 1 c ∧ b < w.heap.size ∧ w.cell? ⟨b, 0, none⟩ = some (.string s) := by
  have e : texts (partsOf (([] : List (List UInt8)).map txt) s.data.toList) = [.string s] := by
    show [Value.string (txt s.data.toList)] = _
    rw [txt_self]
  rw [e] at h
  obtain ⟨A, c, rfl, hc, _⟩ := h.form
  obtain ⟨g, rfl, h1, h2, _, _⟩ := own_at h (k := 0) (by simp)
  exact ⟨g, c, rfl, cell_lt h2, h2⟩
theorem parts_len {sets : List ByteArray} {s : ByteArray} (hs : s.size ≤ 1048576) : (partsOf sets s.data.toList).length ≤ 1048577 := by
  have := (partsOf_bound sets s.data.toList).1
  rw [← Lib.size_eq] at this
  omega

set_option maxRecDepth 100000 in
set_option maxHeartbeats 1600000 in
theorem fnPartsBoth_walk {w : World} (s : ByteArray) (hs : s.size ≤ 1048576) (A : Option Addr) (n c : Nat) (L : List (List UInt8)) (hm : TArgU w A n c L) (hT : Tabs w) :
    Calls Tryd.prog 8 #[.string s, .slice A n c] w fun e w' => e = .returned (.bool true) ∧ Below w.heap.size w w' := by
  obtain ⟨⟨hn, hnc, hn16, hsz, hat⟩, hbk⟩ := hm
  have hnl : n ≤ 1048576 := by have := bulkT_len L; rw [← hn] at this; omega
  have Hn := Lib.hid hn; clear hn hsz hbk
  obtain ⟨l, hl⟩ : ∃ l, l = partsOf (L.map txt) s.data.toList := ⟨_, rfl⟩
  have hll : l.length ≤ 1048577 := by rw [hl]; exact parts_len hs
  have Hl := Lib.hid hl; clear hl
  go_enter Tryd.func8, Tryd.ntmps8
  go_wp2_with fail
  (with_reducible refine (impl_parts s A n c L _ Hn (by omega) hat (by omega) hT).mono ?_); rintro e w1 ⟨v1, rfl, h1, hb1⟩
  rw [← Hl.out] at h1
  go_wp2_with fail
  (with_reducible refine (impl_parts s none 0 0 [] _ (Lib.hid rfl) (by omega) (row_none _) (by omega) (hT.below hb1)).mono ?_); rintro e w2 ⟨v2, rfl, h2, hb2⟩
  obtain ⟨b2, c2, rfl, hlt2, hc2⟩ := whole_form h2
  have hB2 := hb1.trans (hb2.mono hb1.size)
  go_wp2_with fail
  (with_reducible refine (impl_partsB s A n c L _ Hn (by omega) ((hat.below hB2).more (Nat.le_refl _) hB2.size) (by omega) (hT.below hB2)).mono ?_); rintro e w3 ⟨v3, rfl, h3, hb3⟩
  rw [← Hl.out] at h3
  have hB3 := hB2.trans (hb3.mono hB2.size)
  go_wp2_with fail
  (with_reducible refine (sameTexts_t _ _ l _ (by omega) (h1.rowV.below (hb2.trans (hb3.mono hb2.size))) h3.rowV).mono ?_); rintro e w' ⟨rfl, m1, rfl⟩
  have hc3 : (w3.drewN m1).cell? ⟨b2, 0, none⟩ = some (.string s) := (hb3.cell (p := ⟨b2, 0, none⟩) hlt2).trans hc2
  go_wp2_with fail
  go_ret
  exact ⟨rfl, below_drewN' hB3 m1⟩

set_option maxRecDepth 100000 in
set_option maxHeartbeats 3200000 in
theorem fnPartsTokens_walk (s : ByteArray) (hs : s.size ≤ 1048576) (set : ByteArray) (hset : set.size ≤ 1048576) (w : World) (hT : Tabs w) :
    Calls Tryd.prog 13 #[.string s, .string set] w fun e w' => e = .returned (.bool true) ∧ Below w.heap.size w w' := by
  obtain ⟨l, hl⟩ : ∃ l, l = (segs (inSet set) (pcsB s)).map flat := ⟨_, rfl⟩
  have hll : l.length ≤ 1048576 := by rw [hl, List.length_map]; have := segs_size (inSet set) s; omega
  have hp : partsOf ([set.data.toList].map txt) s.data.toList = l := by
    rw [hl]
    show partsOf [txt set.data.toList] s.data.toList = _
    rw [txt_self]
    simp [partsOf, partStep]
    rfl
  have Hl := Lib.hid hl; have Hp := Lib.hid hp; clear hl hp
  have hrow : RowAt (w.alloc (.cells #[.string set] 9)) 0 (w.alloc (.cells #[.string set] 9)).heap.size (some ⟨w.heap.size, 0, none⟩) (texts [set.data.toList]) := by
    intro _
    refine ⟨w.heap.size, 0, rfl, Nat.zero_le _, by simp, fun i hi => ?_⟩
    rw [texts_length] at hi
    obtain rfl : i = 0 := by simp at hi; omega
    show _ = some (Value.string (txt set.data.toList))
    rw [txt_self]
    simp [World.cell?, World.alloc, -World.alloc_eq]
  have Hrow := Lib.hid hrow; clear hrow
  have hB0 : Below w.heap.size w (w.alloc (.cells #[.string set] 9)) := (Below.refl _ _).alloc (Nat.le_refl _) _
  go_enter Tryd.func13, Tryd.ntmps13
  go_wp2_with fail
  (with_reducible refine (impl_parts s _ 1 1 [set.data.toList] _ (Lib.hid rfl) (by omega) Hrow.out (by omega) (hT.below hB0)).mono ?_); rintro e w1 ⟨v1, rfl, h1, hb1⟩
  rw [Hp.out] at h1
  have hB1 := hB0.trans (hb1.mono hB0.size)
  go_wp2_with fail
  (with_reducible refine (impl_parts s none 0 0 [] _ (Lib.hid rfl) (by omega) (row_none _) (by omega) (hT.below hB1)).mono ?_); rintro e w2 ⟨v2, rfl, h2, hb2⟩
  obtain ⟨b2, c2, rfl, hlt2, hc2⟩ := whole_form h2
  have hB2 := hB1.trans (hb2.mono hB1.size)
  have r1 := h1.rowV.below hb2
  clear h1 h2
  go_wp2_with fail
  (with_reducible refine (impl_tokens s set _ (by omega)).mono ?_); rintro e w3 ⟨v3, rfl, h3, hb3⟩
  rw [← Hl.out] at h3
  have hB3 := hB2.trans (hb3.mono hB2.size)
  go_wp2_with fail
  (with_reducible refine (sameTexts_t _ _ l _ (by omega) h3.rowV (r1.below hb3)).mono ?_); rintro e w' ⟨rfl, m3, rfl⟩
  have hb3' : Below w2.heap.size w2 (w3.drewN m3) := below_drewN' hb3 m3
  have hB3' := hB2.trans (hb3'.mono hB2.size)
  clear h3
  go_wp2_with fail
  (with_reducible refine (impl_tokensB s set _ (by omega) (hT.below hB3')).mono ?_); rintro e w4 ⟨v4, rfl, h4, hb4⟩
  rw [← Hl.out] at h4
  have hb24 := hb3'.trans (hb4.mono hb3'.size)
  go_wp2_with fail
  (with_reducible refine (sameTexts_t _ _ l _ (by omega) h4.rowV (r1.below hb24)).mono ?_); rintro e w' ⟨rfl, m4, rfl⟩
  have hb4' : Below w2.heap.size w2 (w4.drewN m4) := below_drewN' hb24 m4
  have hB4' := hB2.trans (hb4'.mono hB2.size)
  clear h4
  go_wp2_with fail
  (with_reducible refine (impl_tokensBack s set _ (by omega) (hT.below hB4')).mono ?_); rintro e w5 ⟨v5, rfl, h5, hb5⟩
  rw [← Hl.out] at h5
  go_wp2_with fail
  (with_reducible refine (turned_any _ l.reverse _ (by rw [List.length_reverse]; omega) h5.rowV).mono ?_); rintro e w6 ⟨v6, rfl, h6, hb6⟩
  rw [List.reverse_reverse] at h6
  have hb26 := hb4'.trans ((hb5.trans (hb6.mono hb5.size)).mono hb4'.size)
  go_wp2_with fail
  (with_reducible refine (sameTexts_t _ _ l _ (by omega) h6.rowV (r1.below hb26)).mono ?_); rintro e w' ⟨rfl, m6, rfl⟩
  have hb6' : Below w2.heap.size w2 (w6.drewN m6) := below_drewN' hb26 m6
  have hB6' := hB2.trans (hb6'.mono hB2.size)
  clear h5 h6
  go_wp2_with fail
  (with_reducible refine (impl_tokensBackB s set _ (by omega) (hT.below hB6')).mono ?_); rintro e w7 ⟨v7, rfl, h7, hb7⟩
  rw [← Hl.out] at h7
  go_wp2_with fail
  (with_reducible refine (turned_any _ l.reverse _ (by rw [List.length_reverse]; omega) h7.rowV).mono ?_); rintro e w8 ⟨v8, rfl, h8, hb8⟩
  rw [List.reverse_reverse] at h8
  have hb28 := hb6'.trans ((hb7.trans (hb8.mono hb7.size)).mono hb6'.size)
  go_wp2_with fail
  (with_reducible refine (sameTexts_t _ _ l _ (by omega) h8.rowV (r1.below hb28)).mono ?_); rintro e w' ⟨rfl, m8, rfl⟩
  have hc8 : (w8.drewN m8).cell? ⟨b2, 0, none⟩ = some (.string s) := (hb28.cell (p := ⟨b2, 0, none⟩) hlt2).trans hc2
  go_wp2_with fail
  go_ret
  exact ⟨rfl, below_drewN' (hB2.trans (hb28.mono hB2.size)) m8⟩
end Go.Proofs.YtfghbjjlkciopaaDoor
