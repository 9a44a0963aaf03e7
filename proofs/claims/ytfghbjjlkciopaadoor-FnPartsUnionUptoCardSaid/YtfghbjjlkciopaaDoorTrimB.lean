/- Contracts of bytes.TrimLeftFunc, TrimRightFunc, TrimSuffix, TrimPrefix in words of values that are byte slices. Conditions: the tables of utf8; lengths within 2 to the 42. -/
import Derived.Test.YtfghbjjlkciopaaDoorShelf7
import Derived.Test.YtfghbjjlkciopaaDoorTabs
import Derived.Test.YtfghbjjlkciopaaDoorSet
import Derived.Test.YtfghbjjlkciopaaDoorTokBackPlain
namespace Go.Proofs.YtfghbjjlkciopaaDoor
open Go.RowKit
set_option linter.unusedVariables false

/-- a value that is a slice of these bytes, within blocks below B -/
def BV (w : World) (lo B : Nat) (v : Value) (s : ByteArray) : Prop :=
  (∃ b o c, v = .slice (some ⟨b, o, none⟩) s.size c ∧ s.size ≤ c ∧ (lo ≤ b ∧ b < B) ∧ BytesAt s b o w) ∨ (v = .slice none 0 0 ∧ s.size = 0)
theorem BV.below {w w' : World} {lo B : Nat} {v : Value} {s : ByteArray} (h : BV w lo B v s) (hb : Below B w w') : BV w' lo B v s := by
  rcases h with ⟨b, o, c, rfl, h1, h2, h3⟩ | h
  · exact .inl ⟨b, o, c, rfl, h1, h2, fun j hj => (hb.cell (p := ⟨b, o + j, none⟩) h2.2).trans (h3 j hj)⟩
  · exact .inr h
theorem BV.more {w : World} {lo B B' : Nat} {v : Value} {s : ByteArray} (h : BV w lo B v s) (hB : B ≤ B') : BV w lo B' v s := by
  rcases h with ⟨b, o, c, rfl, h1, h2, h3⟩ | h
  · exact .inl ⟨b, o, c, rfl, h1, ⟨h2.1, by omega⟩, h3⟩
  · exact .inr h
theorem get!_toList (s : ByteArray) (j : Nat) (hj : j < s.data.toList.length) : s.get! j = s.data.toList[j] := by
  rw [← Lib.getD_get!, List.getD_eq_getElem?_getD, List.getElem?_eq_getElem hj, Option.getD_some]
theorem bytesAt_of {s : ByteArray} {b o : Nat} {w : World} (h : ∀ i (hi : i < s.data.toList.length), w.cell? ⟨b, o + i, none⟩ = some (.int .u8 (s.data.toList[i].toNat : Int))) : BytesAt s b o w := fun j hj => by
  rw [Lib.size_eq] at hj
  rw [h j hj, get!_toList s j hj]
theorem BV.bat {w : World} {lo B : Nat} {v : Value} {s : ByteArray} (h : BV w lo B v s) : ∃ p c, v = .slice p s.size c ∧ s.size ≤ c ∧ BAt w B p s.data.toList := by
  rcases h with ⟨b, o, c, rfl, h1, h2, h3⟩ | ⟨rfl, h⟩
  · exact ⟨_, c, rfl, h1, fun _ => ⟨b, o, rfl, h2.2, fun i hi => by rw [h3 i (by rw [Lib.size_eq]; exact hi), get!_toList s i hi]⟩⟩
  · refine ⟨none, 0, by rw [h], by omega, fun hn => absurd (List.eq_nil_of_length_eq_zero (by rw [← Lib.size_eq]; exact h)) hn⟩

theorem bv_left (p : Nat → Bool) (s : ByteArray) (b o c lo B : Nat) (w : World) (hc : s.size ≤ c) (hB : lo ≤ b ∧ b < B) (h : BytesAt s b o w) : BV w lo B (leftCut p s b o c) (Lib.trimLeftF p s) := by
  unfold leftCut Lib.trimLeftF
  split
  · exact .inr ⟨rfl, rfl⟩
  · refine .inl ⟨b, _, _, by rw [show (s.extract (Lib.idxFunc p false s).toNat s.size).size = s.size - (Lib.idxFunc p false s).toNat by rw [Lib.size_eq, Lib.extract_data]; simp], ?_, hB, h.tail _⟩
    rw [show (s.extract (Lib.idxFunc p false s).toNat s.size).size = s.size - (Lib.idxFunc p false s).toNat by rw [Lib.size_eq, Lib.extract_data]; simp]
    omega
theorem rightEnd_le (p : Nat → Bool) (s : ByteArray) : Lib.rightEndF p s ≤ s.size := by
  have hrg := lastIdx_lt p false s s.size s.size (Nat.le_refl _)
  change Lib.lastIdxFunc p false s = -1 ∨ (0 ≤ Lib.lastIdxFunc p false s ∧ Lib.lastIdxFunc p false s < s.size) at hrg
  unfold Lib.rightEndF
  split
  · have hw1 := Lib.decodeGo_le_size (s.extract (Lib.lastIdxFunc p false s).toNat s.size)
    rw [Lib.tail_size] at hw1
    change (Lib.decodeGoB (s.extract (Lib.lastIdxFunc p false s).toNat s.size)).2 ≤ _ at hw1
    omega
  · omega
theorem bv_right (p : Nat → Bool) (s : ByteArray) (b o c lo B : Nat) (w : World) (hc : s.size ≤ c) (hB : lo ≤ b ∧ b < B) (h : BytesAt s b o w) : BV w lo B (rightCut p s b o c) (Lib.trimRightF p s) := by
  unfold rightCut Lib.trimRightF
  have hr := rightEnd_le p s
  have hsz : (s.extract 0 (Lib.rightEndF p s)).size = Lib.rightEndF p s := head_size s _ hr
  exact .inl ⟨b, o, c, by rw [hsz], by omega, hB, h.head _ hr⟩

theorem trimLB {g : Nat} {lb : Array Value} (eg : ∀ args w, (callFunc g args).run Tryd.prog w = .ok (.enter g args) w) (p : Nat → Bool) (s : ByteArray) (v : Value) (lo B : Nat) (w : World) (hs : s.size ≤ 4398046511104) (hv : BV w lo B v s) (hT : Tabs w) (hp : PredGrows Tryd.prog g lb p w) (hB : B ≤ w.heap.size) :
    Calls Tryd.prog 42 #[v, .func (.func g) #[] lb] w fun e w' => ∃ v', e = .returned v' ∧ BV w' lo B v' (Lib.trimLeftF p s) ∧ Below w.heap.size w w' := by
  rcases hv with ⟨b, o, c, rfl, h1, h2, h3⟩ | ⟨rfl, h⟩
  · refine (Any7.bytes_TrimLeftFunc Tryd.lays7_43 g lb eg p s b o c w h1 (by omega) h3 hT hp).mono ?_
    rintro e w' ⟨rfl, hb⟩
    exact ⟨_, rfl, (bv_left p s b o c lo B w h1 h2 h3).below (hb.mono hB), hb⟩
  · refine (Any7.bytes_TrimLeftFunc_nil Tryd.lays7_43 _ w).mono ?_
    rintro e w' ⟨rfl, rfl⟩
    refine ⟨_, rfl, .inr ⟨rfl, ?_⟩, Below.refl _ _⟩
    have := trimLeftF_size p s
    omega
theorem trimRB {g : Nat} {lb : Array Value} (eg : ∀ args w, (callFunc g args).run Tryd.prog w = .ok (.enter g args) w) (p : Nat → Bool) (s : ByteArray) (v : Value) (lo B : Nat) (w : World) (hs : s.size ≤ 4398046511104) (hv : BV w lo B v s) (hT : Tabs w) (hp : PredGrows Tryd.prog g lb p w) (hB : B ≤ w.heap.size) :
    Calls Tryd.prog 48 #[v, .func (.func g) #[] lb] w fun e w' => ∃ v', e = .returned v' ∧ BV w' lo B v' (Lib.trimRightF p s) ∧ Below w.heap.size w w' := by
  rcases hv with ⟨b, o, c, rfl, h1, h2, h3⟩ | ⟨rfl, h⟩
  · refine (Any7.bytes_TrimRightFunc Tryd.lays7_44 g lb eg p s b o c w h1 (by omega) h3 hT hp).mono ?_
    rintro e w' ⟨rfl, hb⟩
    exact ⟨_, rfl, (bv_right p s b o c lo B w h1 h2 h3).below (hb.mono hB), hb⟩
  · refine (Any7.bytes_TrimRightFunc_nil Tryd.lays7_44 _ w).mono ?_
    rintro e w' ⟨rfl, rfl⟩
    refine ⟨_, rfl, .inr ⟨rfl, ?_⟩, Below.refl _ _⟩
    have := trimRightF_size p s
    omega

theorem trimPrefixV_is (p1 : Option Addr) (c B : Nat) (l t : List UInt8) (w : World) (hnc : l.length ≤ c) (h1 : BAt w B p1 l) :
    ∃ p n c', Lib.trimPrefixV p1 l.length c (ints l) (ints t) = .slice p n c' ∧ Hid (n = (Lib.trimPrefix l t).length) ∧ n ≤ c' ∧ BAt w B p (Lib.trimPrefix l t) := by
  by_cases ht : t = []
  · subst ht
    have e1 : Lib.trimPrefix l [] = l := by simp [Lib.trimPrefix]
    have e2 : Lib.trimPrefixV p1 l.length c (ints l) (ints []) = .slice p1 l.length c := by
      unfold Lib.trimPrefixV; split <;> simp_all [ints]
    rw [e1, e2]
    exact ⟨p1, _, c, rfl, rfl, hnc, h1⟩
  · by_cases hp : Lib.hasPrefix l t = true
    · have hle : t.length ≤ l.length := Lib.hasPrefix_le hp
      have hl : l ≠ [] := by rintro rfl; exact ht (by simpa using hle)
      obtain ⟨b, o, rfl, _, _⟩ := h1 hl
      have e1 : Lib.trimPrefix l t = l.drop t.length := by simp [Lib.trimPrefix, hp]
      have e2 : Lib.trimPrefixV (some ⟨b, o, none⟩) l.length c (ints l) (ints t) = Lib.sliceFrom b o l.length c t.length := by
        unfold Lib.trimPrefixV
        cases t with
        | nil => exact absurd rfl ht
        | cons x r =>
          show Lib.bytesTrimPrefix b o l.length c (ints l) (ints (x :: r)) = _
          unfold Lib.bytesTrimPrefix
          rw [bytesOf_ints, bytesOf_ints, if_pos hp, ints_length]
      rw [e1, e2]
      unfold Lib.sliceFrom
      refine ⟨_, _, _, rfl, by rw [Hid, List.length_drop], by omega, ?_⟩
      split
      · rename_i hc
        have : l.drop t.length = [] := List.drop_eq_nil_of_le (by omega)
        rw [this]; exact BAt.nil _ _ _
      · exact h1.drop _
    · have hp' : Lib.hasPrefix l t = false := by simpa using hp
      have e1 : Lib.trimPrefix l t = l := by simp [Lib.trimPrefix, hp']
      have e2 : Lib.trimPrefixV p1 l.length c (ints l) (ints t) = .slice p1 l.length c := by
        unfold Lib.trimPrefixV
        split
        · unfold Lib.bytesTrimPrefix
          rw [bytesOf_ints, bytesOf_ints, hp']; rfl
        · rfl
      rw [e1, e2]
      exact ⟨p1, _, c, rfl, rfl, hnc, h1⟩

theorem trimSuffixV_is (p1 : Option Addr) (c B : Nat) (l t : List UInt8) (w : World) (hnc : l.length ≤ c) (h1 : BAt w B p1 l) :
    ∃ p n c', Lib.trimSuffixV p1 l.length c (ints l) (ints t) = .slice p n c' ∧ Hid (n = (Lib.trimSuffix l t).length) ∧ n ≤ c' ∧ BAt w B p (Lib.trimSuffix l t) := by
  by_cases ht : t = []
  · subst ht
    have e1 : Lib.trimSuffix l [] = l := by unfold Lib.trimSuffix; split <;> simp
    have e2 : Lib.trimSuffixV p1 l.length c (ints l) (ints []) = .slice p1 l.length c := by
      unfold Lib.trimSuffixV; split <;> simp_all [ints]
    rw [e1, e2]
    exact ⟨p1, _, c, rfl, rfl, hnc, h1⟩
  · by_cases hp : Lib.hasSuffix l t = true
    · have hle : t.length ≤ l.length := Lib.hasSuffix_le hp
      have hl : l ≠ [] := by rintro rfl; exact ht (by simpa using hle)
      obtain ⟨b, o, rfl, _, _⟩ := h1 hl
      have e1 : Lib.trimSuffix l t = l.take (l.length - t.length) := by simp [Lib.trimSuffix, hp]
      have e2 : Lib.trimSuffixV (some ⟨b, o, none⟩) l.length c (ints l) (ints t) = Lib.sliceTo b o c (l.length - t.length) := by
        unfold Lib.trimSuffixV
        cases t with
        | nil => exact absurd rfl ht
        | cons x r =>
          show Lib.bytesTrimSuffix b o l.length c (ints l) (ints (x :: r)) = _
          unfold Lib.bytesTrimSuffix
          rw [bytesOf_ints, bytesOf_ints, if_pos hp, ints_length]
      rw [e1, e2]
      unfold Lib.sliceTo
      exact ⟨_, _, _, rfl, by rw [Hid, List.length_take]; omega, by omega, h1.take _⟩
    · have hp' : Lib.hasSuffix l t = false := by simpa using hp
      have e1 : Lib.trimSuffix l t = l := by simp [Lib.trimSuffix, hp']
      have e2 : Lib.trimSuffixV p1 l.length c (ints l) (ints t) = .slice p1 l.length c := by
        unfold Lib.trimSuffixV
        split
        · unfold Lib.bytesTrimSuffix
          rw [bytesOf_ints, bytesOf_ints, hp']; rfl
        · rfl
      rw [e1, e2]
      exact ⟨p1, _, c, rfl, rfl, hnc, h1⟩
theorem trimSuffixB (s t : ByteArray) (v v2 : Value) (lo B : Nat) (w : World) (hs : s.size ≤ 4398046511104) (hv : BV w lo B v s) (hv2 : BV w lo B v2 t) :
    Calls Tryd.prog 44 #[v, v2] w fun e w' => w' = w ∧ ∃ p n c, e = .returned (.slice p n c) ∧ Hid (n = (Lib.trimSuffix s.data.toList t.data.toList).length) ∧ n ≤ c ∧ BAt w B p (Lib.trimSuffix s.data.toList t.data.toList) := by
  obtain ⟨p, c, rfl, hc, hb⟩ := hv.bat
  obtain ⟨p2, c2, rfl, hc2, hb2⟩ := hv2.bat
  have hi1 := hb.bytesIn
  have hi2 := hb2.bytesIn
  rw [Lib.size_eq] at hc hs ⊢
  rw [Lib.size_eq t]
  refine (Tryd.bytes_TrimSuffix_all p p2 _ c _ c2 _ _ w (ints_length _) (ints_length _) hc (by omega) hi1 hi2).mono ?_
  rintro e w' ⟨rfl, rfl⟩
  obtain ⟨p', n', c', h1, h2, h3, h4⟩ := trimSuffixV_is p c B s.data.toList t.data.toList w' hc hb
  exact ⟨rfl, p', n', c', by rw [h1], h2, h3, h4⟩
theorem trimPrefixB (s t : ByteArray) (v v2 : Value) (lo B : Nat) (w : World) (hs : s.size ≤ 4398046511104) (hv : BV w lo B v s) (hv2 : BV w lo B v2 t) :
    Calls Tryd.prog 49 #[v, v2] w fun e w' => w' = w ∧ ∃ p n c, e = .returned (.slice p n c) ∧ Hid (n = (Lib.trimPrefix s.data.toList t.data.toList).length) ∧ n ≤ c ∧ BAt w B p (Lib.trimPrefix s.data.toList t.data.toList) := by
  obtain ⟨p, c, rfl, hc, hb⟩ := hv.bat
  obtain ⟨p2, c2, rfl, hc2, hb2⟩ := hv2.bat
  have hi1 := hb.bytesIn
  have hi2 := hb2.bytesIn
  rw [Lib.size_eq] at hc hs ⊢
  rw [Lib.size_eq t]
  refine (Tryd.bytes_TrimPrefix_all p p2 _ c _ c2 _ _ w (ints_length _) (ints_length _) hc hi1 hi2).mono ?_
  rintro e w' ⟨rfl, rfl⟩
  obtain ⟨p', n', c', h1, h2, h3, h4⟩ := trimPrefixV_is p c B s.data.toList t.data.toList w' hc hb
  exact ⟨rfl, p', n', c', by rw [h1], h2, h3, h4⟩
/-- a string turned into bytes: new memory that holds them -/
theorem wpList_toBV {P : Program} {ops : Array Oper} {rest : List Oper} {o : Oper} {a : Act} {Q : Exit → Act → World → Prop} (w : World) (hgd : o.guard = none) (x : Operand) (src dst e : TypeId)
    (ho : o.op = .convert src dst x) {u : TypeDesc} (hs : P.underlying src = some u) (hd : P.underlying dst = some (.slice e)) (he : P.underlying e = some (.int .u8)) (s : ByteArray) (hx : a.eval x = .string s)
    (h : ∀ (v : Value) (w' : World), BV w' w.heap.size (w.heap.size + 1) v s → Below w.heap.size w w' → w.heap.size + 1 ≤ w'.heap.size → wpList P ops Q rest (a.put o.dst v) w') :
    wpList P ops Q (o :: rest) a w := by
  refine wpList_plain hgd fun K hK => ?_
  have hrun := Lib.run_convert_string_bytes (P := P) w src dst e s hs hd he
  unfold Oper.wp
  simp [execOp, ho, hx, hrun, Result.andThen]
  refine hK _ _ (h _ _ (.inl ⟨w.heap.size, 0, _, rfl, grownCap_ge w _ _ _, ⟨Nat.le_refl _, by omega⟩, bytesAt_of fun i hi => ?_⟩) (below_bytes w e s) (by rw [Lib.bytesWorld_size]; omega))
  rw [Nat.zero_add, Lib.bytesWorld_cell w e s i (by rw [Lib.size_eq]; exact hi)]
  simp only [List.getD, List.getElem?_eq_getElem hi, Option.getD_some]
theorem BV.grown {w w' : World} {lo B : Nat} {v : Value} {s : ByteArray} {row : Option Nat} (h : BV w lo B v s) (hg : w.grownBy w' row) (hne : ∀ g, row = some g → g < lo ∨ B ≤ g) (hh : B ≤ w.heap.size) : BV w' lo B v s := by
  rcases h with ⟨b, o, c, rfl, h1, h2, h3⟩ | h
  · have hb : w'.heap[b]? = w.heap[b]? := hg.block b (by omega) (fun e => by have := hne b e.symm; omega)
    exact .inl ⟨b, o, c, rfl, h1, h2, fun j hj => (World.cell?_of_block hb).trans (h3 j hj)⟩
  · exact .inr h
theorem BV.form {w : World} {lo B : Nat} {v : Value} {s : ByteArray} (h : BV w lo B v s) : ∃ p c, v = .slice p s.size c ∧ s.size ≤ c := by
  obtain ⟨p, c, h1, h2, _⟩ := h.bat
  exact ⟨p, c, h1, h2⟩
end Go.Proofs.YtfghbjjlkciopaaDoor
