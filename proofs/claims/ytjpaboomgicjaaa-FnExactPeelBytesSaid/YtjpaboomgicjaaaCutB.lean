/- Contracts of bytes.CutPrefix and bytes.CutSuffix over lists of bytes; the world as it was. Conditions: lengths that fit an int. -/
import Derived.Test.YtjpaboomgicjaaaShelf
import Derived.Test.YtjpaboomgicjaaaMem
namespace Go.Proofs.Ytjpaboomgicjaaa
open Go.RowKit

/-- two results: a slice that holds l, and an answer -/
def CutB (w : World) (B : Nat) (l : List UInt8) (b : Bool) (e : Ending) (w' : World) : Prop :=
  ∃ (p : Option Addr) (n c : Nat), e = .returned (.tuple #[.slice p n c, .bool b]) ∧ Hid (n = l.length) ∧ n ≤ c ∧ BAt w B p l ∧ w = w'

theorem cutPrefixB (p1 p2 : Option Addr) (n c m d B B2 : Nat) (l t : List UInt8) (w : World) (hn : n = l.length) (hm : m = t.length) (hnc : n ≤ c) (h1 : BAt w B p1 l) (h2 : BAt w B2 p2 t) :
    Calls Try.prog 41 #[.slice p1 n c, .slice p2 m d] w (CutB w B (Lib.trimPrefix l t) (Lib.hasPrefix l t)) := by
  subst hn hm
  refine (Try.bytes_CutPrefix_all p1 p2 l.length c t.length d (ints l) (ints t) w (ints_length l) (ints_length t) hnc h1.bytesIn h2.bytesIn).mono ?_
  rintro e w' ⟨rfl, rfl⟩
  rw [bytesOf_ints, bytesOf_ints]
  by_cases ht : t = []
  · subst ht
    have e1 : Lib.trimPrefix l [] = l := by simp [Lib.trimPrefix]
    have e2 : Lib.trimPrefixV p1 l.length c (ints l) (ints []) = .slice p1 l.length c := by
      unfold Lib.trimPrefixV; split <;> simp_all [ints]
    rw [e1, e2]
    exact ⟨p1, _, c, rfl, rfl, hnc, h1, rfl⟩
  · by_cases hp : Lib.hasPrefix l t = true
    · have hle : t.length ≤ l.length := Lib.hasPrefix_le hp
      have hl : l ≠ [] := by rintro rfl; exact ht (by simpa using hle)
      obtain ⟨b, o, rfl, _, _⟩ := h1 hl
      have e1 : Lib.trimPrefix l t = l.drop t.length := by simp [Lib.trimPrefix, hp]
      have e2 : Lib.trimPrefixV (some ⟨b, o, none⟩) l.length c (ints l) (ints t) = Lib.sliceFrom b o l.length c t.length := by
        unfold Lib.trimPrefixV
        cases t with
        | nil => exact absurd rfl ht
        | cons x r =>
          show Lib.bytesTrimPrefix b o l.length c (ints l) (ints (x :: r)) = _
          unfold Lib.bytesTrimPrefix
          rw [bytesOf_ints, bytesOf_ints, if_pos hp, ints_length]
      rw [e1, e2]
      unfold Lib.sliceFrom
      refine ⟨_, _, _, rfl, by rw [Hid, List.length_drop], by omega, ?_, rfl⟩
      split
      · rename_i hc
        have : l.drop t.length = [] := List.drop_eq_nil_of_le (by omega)
        rw [this]; exact BAt.nil _ _ _
      · exact h1.drop _
    · have hp' : Lib.hasPrefix l t = false := by simpa using hp
      have e1 : Lib.trimPrefix l t = l := by simp [Lib.trimPrefix, hp']
      have e2 : Lib.trimPrefixV p1 l.length c (ints l) (ints t) = .slice p1 l.length c := by
        unfold Lib.trimPrefixV
        split
        · unfold Lib.bytesTrimPrefix
          rw [bytesOf_ints, bytesOf_ints, hp']; rfl
        · rfl
      rw [e1, e2]
      exact ⟨p1, _, c, rfl, rfl, hnc, h1, rfl⟩

theorem cutSuffixB (p1 p2 : Option Addr) (n c m d B B2 : Nat) (l t : List UInt8) (w : World) (hn : n = l.length) (hm : m = t.length) (hnc : n ≤ c) (hbig : n ≤ maxLen) (h1 : BAt w B p1 l) (h2 : BAt w B2 p2 t) :
    Calls Try.prog 40 #[.slice p1 n c, .slice p2 m d] w (CutB w B (Lib.trimSuffix l t) (Lib.hasSuffix l t)) := by
  subst hn hm
  refine (Try.bytes_CutSuffix_all p1 p2 l.length c t.length d (ints l) (ints t) w (ints_length l) (ints_length t) hnc hbig h1.bytesIn h2.bytesIn).mono ?_
  rintro e w' ⟨rfl, rfl⟩
  rw [bytesOf_ints, bytesOf_ints]
  by_cases ht : t = []
  · subst ht
    have e1 : Lib.trimSuffix l [] = l := by unfold Lib.trimSuffix; split <;> simp
    have e2 : Lib.trimSuffixV p1 l.length c (ints l) (ints []) = .slice p1 l.length c := by
      unfold Lib.trimSuffixV; split <;> simp_all [ints]
    rw [e1, e2]
    exact ⟨p1, _, c, rfl, rfl, hnc, h1, rfl⟩
  · by_cases hp : Lib.hasSuffix l t = true
    · have hle : t.length ≤ l.length := Lib.hasSuffix_le hp
      have hl : l ≠ [] := by rintro rfl; exact ht (by simpa using hle)
      obtain ⟨b, o, rfl, _, _⟩ := h1 hl
      have e1 : Lib.trimSuffix l t = l.take (l.length - t.length) := by simp [Lib.trimSuffix, hp]
      have e2 : Lib.trimSuffixV (some ⟨b, o, none⟩) l.length c (ints l) (ints t) = Lib.sliceTo b o c (l.length - t.length) := by
        unfold Lib.trimSuffixV
        cases t with
        | nil => exact absurd rfl ht
        | cons x r =>
          show Lib.bytesTrimSuffix b o l.length c (ints l) (ints (x :: r)) = _
          unfold Lib.bytesTrimSuffix
          rw [bytesOf_ints, bytesOf_ints, if_pos hp, ints_length]
      rw [e1, e2]
      unfold Lib.sliceTo
      exact ⟨_, _, _, rfl, by rw [Hid, List.length_take]; omega, by omega, h1.take _, rfl⟩
    · have hp' : Lib.hasSuffix l t = false := by simpa using hp
      have e1 : Lib.trimSuffix l t = l := by simp [Lib.trimSuffix, hp']
      have e2 : Lib.trimSuffixV p1 l.length c (ints l) (ints t) = .slice p1 l.length c := by
        unfold Lib.trimSuffixV
        split
        · unfold Lib.bytesTrimSuffix
          rw [bytesOf_ints, bytesOf_ints, hp']; rfl
        · rfl
      rw [e1, e2]
      exact ⟨p1, _, c, rfl, rfl, hnc, h1, rfl⟩
end Go.Proofs.Ytjpaboomgicjaaa
