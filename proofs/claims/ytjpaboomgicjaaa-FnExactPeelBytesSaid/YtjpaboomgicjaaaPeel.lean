/- Contracts of impl.Peel and spec.Peel: what they return, in new memory; old memory as it was. Conditions: the reach of the rows. -/
import Derived.Test.YtjpaboomgicjaaaPeelPlain
import Derived.Test.YtjpaboomgicjaaaRow
import Derived.Test.YtjpaboomgicjaaaUnw
namespace Go.Proofs.Ytjpaboomgicjaaa
open Go.RowKit
set_option linter.unusedVariables false

abbrev Mb := Bool × ByteArray
def mk (m : Mb) : Mk := (m.1, m.2.data.toList)
def MAt (w : World) (lo hi : Nat) (A : Option Addr) (ms : List Mb) : Prop :=
  ms ≠ [] → ∃ b o, A = some ⟨b, o, none⟩ ∧ lo ≤ b ∧ b < hi ∧ ∀ i (h : i < ms.length), w.cell? ⟨b, o + i * 2, none⟩ = some (.bool ms[i].1) ∧ w.cell? ⟨b, o + i * 2 + 1, none⟩ = some (.string ms[i].2)
theorem MAt.below {w w' : World} {lo hi : Nat} {A : Option Addr} {ms : List Mb} (h : MAt w lo hi A ms) (hb : Below hi w w') : MAt w' lo hi A ms := fun hn => by
  obtain ⟨b, o, rfl, h1, hlt, hc⟩ := h hn
  exact ⟨b, o, rfl, h1, hlt, fun i hi => ⟨(hb.cell (p := ⟨b, o + i * 2, none⟩) hlt).trans (hc i hi).1, (hb.cell (p := ⟨b, o + i * 2 + 1, none⟩) hlt).trans (hc i hi).2⟩⟩
theorem MAt.more {w : World} {lo hi lo' hi' : Nat} {A : Option Addr} {ms : List Mb} (h : MAt w lo hi A ms) (hl : lo' ≤ lo) (hh : hi ≤ hi') : MAt w lo' hi' A ms := fun hn => by
  obtain ⟨b, o, rfl, h1, hlt, hc⟩ := h hn
  exact ⟨b, o, rfl, by omega, by omega, hc⟩
theorem MAt.at_ {w : World} {lo hi : Nat} {A : Option Addr} {ms : List Mb} (h : MAt w lo hi A ms) {i : Nat} (hi' : i < ms.length) : ∃ b o, A = some ⟨b, o, none⟩ ∧ lo ≤ b ∧ b < hi ∧ w.cell? ⟨b, o + i * 2, none⟩ = some (.bool ms[i].1) ∧ w.cell? ⟨b, o + i * 2 + 1, none⟩ = some (.string ms[i].2) := by
  obtain ⟨b, o, rfl, h1, h2, hc⟩ := h (by rintro rfl; simp at hi')
  exact ⟨b, o, rfl, h1, h2, hc i hi'⟩

def peelB (s : ByteArray) (ms : List Mb) : List UInt8 × List Bool := peelL s.data.toList (ms.map mk)
def PeelPost (s : ByteArray) (ms : List Mb) (w : World) (e : Ending) (w' : World) : Prop :=
  ∃ (r : ByteArray) (A : Option Addr) (c : Nat), e = .returned (.tuple #[.string r, .slice A ms.length c]) ∧ r.data.toList = (peelB s ms).1 ∧ Own w' w.heap.size 4 (.slice A ms.length c) ((peelB s ms).2.map Value.bool) ∧ Below w.heap.size w w'

/-- the loop's word -/
def PeelIs (s : ByteArray) (ms : List Mb) (w : World) (k : Nat) (r : ByteArray) (v : Value) (wr : World) : Prop :=
  r.data.toList = (peelB s (ms.take k)).1 ∧ Own wr w.heap.size 4 v ((peelB s (ms.take k)).2.map Value.bool) ∧ Below w.heap.size w wr
theorem peelB_snoc (s : ByteArray) (ms : List Mb) (k : Nat) (h : k < ms.length) : peelB s (ms.take (k + 1)) = ((pstep (peelB s (ms.take k)).1 (mk ms[k])).1, (peelB s (ms.take k)).2 ++ [(pstep (peelB s (ms.take k)).1 (mk ms[k])).2]) := by
  unfold peelB
  rw [List.take_succ_eq_append_getElem h, List.map_append, List.map_cons, List.map_nil, peelL_snoc]
theorem PeelIs.le {s : ByteArray} {ms : List Mb} {w : World} {k : Nat} {r : ByteArray} {v : Value} {wr : World} (h : PeelIs s ms w k r v wr) : r.size ≤ s.size := by
  rw [Lib.size_eq, Lib.size_eq, h.1]; exact peelL_le _ _
theorem PeelIs.len {s : ByteArray} {ms : List Mb} (k : Nat) (hk : k ≤ ms.length) : ((peelB s (ms.take k)).2.map Value.bool).length = k := by
  unfold peelB
  rw [List.length_map, peelL_length, List.length_map, List.length_take]; omega
theorem PeelIs.form {s : ByteArray} {ms : List Mb} {w : World} {k : Nat} {r : ByteArray} {v : Value} {wr : World} (h : PeelIs s ms w k r v wr) (hk : k ≤ ms.length) : ∃ A c, v = .slice A k c := by
  obtain ⟨A, c, hv, _⟩ := h.2.1.form
  rw [PeelIs.len k hk] at hv
  exact ⟨A, c, hv⟩
theorem peelIs_next {s : ByteArray} {ms : List Mb} {w : World} {k : Nat} {r r1 : ByteArray} {v v1 : Value} {wr w1 : World} {q : Mb} (hk : k < ms.length) (h : PeelIs s ms w k r v wr) (hq : Hid (q = ms[k]))
    (h1 : Hid (r1.data.toList = (pstep r.data.toList (mk q)).1)) (h2 : Own w1 w.heap.size 4 v1 ((peelB s (ms.take k)).2.map Value.bool ++ [.bool (pstep r.data.toList (mk q)).2])) (hb : Below w.heap.size w w1) : PeelIs s ms w (k + 1) r1 v1 w1 := by
  have hq := hq.out
  have h1 := h1.out
  subst hq
  rw [h.1] at h1 h2
  unfold PeelIs
  rw [peelB_snoc s ms k hk]
  exact ⟨h1, by rw [List.map_append]; exact h2, hb⟩
theorem hasPrefix_leB {r t : ByteArray} (h : Lib.hasPrefix r.data.toList t.data.toList = true) : t.size ≤ r.size := by rw [Lib.size_eq, Lib.size_eq]; exact hasPrefix_le h
theorem hasSuffix_leB {r t : ByteArray} (h : Lib.hasSuffix r.data.toList t.data.toList = true) : t.size ≤ r.size := by rw [Lib.size_eq, Lib.size_eq]; exact hasSuffix_le h
theorem pre_yes {r t : ByteArray} (h : Lib.hasPrefix r.data.toList t.data.toList = true) : Hid ((r.extract t.size r.size).data.toList = (pstep r.data.toList (mk (false, t))).1) ∧ (pstep r.data.toList (mk (false, t))).2 = true := by
  refine ⟨?_, ?_⟩
  · show _ = _
    rw [Lib.extract_data]
    simp only [pstep, mk, Lib.trimPrefix, h, Bool.false_eq_true, if_false, if_true]
    rw [List.take_of_length_le (by rw [List.length_drop, ← Lib.size_eq]; exact Nat.le_refl _), Lib.size_eq]
  · simp [pstep, mk, h]
theorem pre_no {r t : ByteArray} (h : ¬ Lib.hasPrefix r.data.toList t.data.toList = true) : Hid (r.data.toList = (pstep r.data.toList (mk (false, t))).1) ∧ (pstep r.data.toList (mk (false, t))).2 = false := by
  refine ⟨?_, ?_⟩
  · show _ = _
    simp [pstep, mk, Lib.trimPrefix, h]
  · simpa [pstep, mk] using h
theorem suf_yes {r t : ByteArray} (h : Lib.hasSuffix r.data.toList t.data.toList = true) : Hid ((r.extract 0 (r.size - t.size)).data.toList = (pstep r.data.toList (mk (true, t))).1) ∧ (pstep r.data.toList (mk (true, t))).2 = true := by
  refine ⟨?_, ?_⟩
  · show _ = _
    rw [Lib.extract_data]
    simp only [pstep, mk, Lib.trimSuffix, h, if_true, List.drop_zero, Nat.sub_zero]
    rw [Lib.size_eq, Lib.size_eq]
  · simp [pstep, mk, h]
theorem suf_no {r t : ByteArray} (h : ¬ Lib.hasSuffix r.data.toList t.data.toList = true) : Hid (r.data.toList = (pstep r.data.toList (mk (true, t))).1) ∧ (pstep r.data.toList (mk (true, t))).2 = false := by
  refine ⟨?_, ?_⟩
  · show _ = _
    simp [pstep, mk, Lib.trimSuffix, h]
  · simpa [pstep, mk] using h
theorem info_bool : (Try.prog.info? 4).map (fun i => (i.zero, i.size, i.bytes)) = some (some (.bool false), 1, 1) := by kernel_rfl

set_option maxHeartbeats 800000 in
theorem impl_peel (s : ByteArray) (A : Option Addr) (n c : Nat) (ms : List Mb) (w : World) (hs : s.size ≤ maxLen) (hn : n = ms.length) (hnb : n ≤ 140737488351232) (hm : MAt w 0 w.heap.size A ms) :
    Calls Try.prog 26 #[.string s, .slice A n c] w (PeelPost s ms w) := by
  unfold maxLen at hs
  have Hn := Lib.hid hn; clear hn
  go_enter Try.func26, Try.ntmps26
  go_wp2_with fail
  go_loopw [6, 7, 15] (fun v f i wr => ∃ (r : ByteArray) (k : Nat), k ≤ n ∧ v = .string r ∧ i = .int .i64 k ∧ PeelIs s ms w k r f wr) (fun _ _ i _ => n - (intOf i).toNat)
  case atStart => exact ⟨s, 0, Nat.zero_le _, rfl, rfl, rfl, Own.empty w _ _ _ rfl (Nat.le_refl _), (Below.refl _ _).alloc (Nat.le_refl _) _⟩
  case round =>
    obtain ⟨r, k, hk, rfl, rfl, hp⟩ := hrel
    have hle := hp.le
    have hz := hp.2.2.size
    by_cases hlt : k < n
    · have hk' : k < ms.length := by rw [← Hn.out]; exact hlt
      obtain ⟨b, o, rfl, _, hbl, hc1, hc2⟩ := (hm.below hp.2.2).at_ hk'
      obtain ⟨q, hq⟩ : ∃ q : Mb, q = ms[k] := ⟨_, rfl⟩
      rw [← hq] at hc1 hc2
      have Hq := Lib.hid hq; clear hq
      obtain ⟨bq, tq⟩ := q
      have hlen := PeelIs.len (s := s) k (Nat.le_of_lt hk')
      have Hlen := Lib.hid hlen; clear hlen
      cases bq
      · go_wp2_with (first
          | (go_at_call 47; refine (cutPrefix_any _ _ _).mono ?_; rintro e w' ⟨r1, rfl, H1, hl1, rfl⟩)
          | (at_builtin; refine wpList_push (wr.alloc (.cells #[.bool false, .string tq] 42)) rfl (.tmp 35) (.tmp 37) 24 rfl w.heap.size 4 (.bool false) 1 Try.underlying24 info_bool rfl _ _ _ _ rfl rfl (by simp) (hp.2.1.alloc _) rfl (by rw [Hlen.out]; omega) (by omega) (by simp; omega) ?_; intro f1 w1 hown1 hbw1 hgr1 hat1))
        have hn' := peelIs_next hk' hp Hq (by simp [pstep, mk]; exact H1) (by simpa [pstep, mk] using hown1) (((hp.2.2.alloc hz _).trans hbw1))
        go_roundw
        case rel => exact ⟨r1, k + 1, by omega, rfl, by go_num, hn'⟩
        case measure => simp [intOf]; omega
      · go_wp2_with (first
          | (go_at_call 46; refine (cutSuffix_any _ _ _ (by unfold maxLen; omega)).mono ?_; rintro e w' ⟨r1, rfl, H1, hl1, rfl⟩)
          | (at_builtin; refine wpList_push (wr.alloc (.cells #[.bool true, .string tq] 42)) rfl (.tmp 35) (.tmp 37) 24 rfl w.heap.size 4 (.bool false) 1 Try.underlying24 info_bool rfl _ _ _ _ rfl rfl (by simp) (hp.2.1.alloc _) rfl (by rw [Hlen.out]; omega) (by omega) (by simp; omega) ?_; intro f1 w1 hown1 hbw1 hgr1 hat1))
        have hn' := peelIs_next hk' hp Hq (by simp [pstep, mk]; exact H1) (by simpa [pstep, mk] using hown1) (((hp.2.2.alloc hz _).trans hbw1))
        go_roundw
        case rel => exact ⟨r1, k + 1, by omega, rfl, by go_num, hn'⟩
        case measure => simp [intOf]; omega
    · have hkn : k = n := by omega
      subst hkn
      go_wp2
      go_ret2
      obtain ⟨A', c', rfl⟩ := hp.form (Nat.le_of_eq Hn.out)
      have Ht := hp
      rw [PeelIs, List.take_of_length_le (Nat.le_of_eq Hn.out.symm)] at Ht
      rw [Hn.out] at Ht ⊢
      exact ⟨r, A', c', rfl, Ht.1, Ht.2.1, Ht.2.2⟩

set_option maxHeartbeats 800000 in
theorem spec_peel (s : ByteArray) (A : Option Addr) (n c : Nat) (ms : List Mb) (w : World) (hs : s.size ≤ maxLen) (hn : n = ms.length) (hnb : n ≤ 140737488351232) (hm : MAt w 0 w.heap.size A ms) (hms : ∀ m ∈ ms, m.2.size ≤ maxLen) :
    Calls Try.prog 25 #[.string s, .slice A n c] w (PeelPost s ms w) := by
  unfold maxLen at hs
  have Hn := Lib.hid hn; clear hn
  have Hms := Lib.hid hms; clear hms
  go_enter Try.func25, Try.ntmps25
  go_wp2_with fail
  go_loopw [0, 6, 13] (fun v f i wr => ∃ (r : ByteArray) (k : Nat), k ≤ n ∧ v = .string r ∧ i = .int .i64 k ∧ PeelIs s ms w k r f wr) (fun _ _ i _ => n - (intOf i).toNat)
  case atStart => exact ⟨s, 0, Nat.zero_le _, rfl, rfl, rfl, Own.empty w _ _ _ rfl (Nat.le_refl _), (Below.refl _ _).alloc (Nat.le_refl _) _⟩
  case round =>
    obtain ⟨r, k, hk, rfl, rfl, hp⟩ := hrel
    have hle := hp.le
    have hz := hp.2.2.size
    by_cases hlt : k < n
    · have hk' : k < ms.length := by rw [← Hn.out]; exact hlt
      obtain ⟨b, o, rfl, _, hbl, hc1, hc2⟩ := (hm.below hp.2.2).at_ hk'
      have htq : (ms[k]).2.size ≤ maxLen := Hms.out _ (List.getElem_mem hk')
      obtain ⟨q, hq⟩ : ∃ q : Mb, q = ms[k] := ⟨_, rfl⟩
      rw [← hq] at hc1 hc2 htq
      have Hq := Lib.hid hq; clear hq
      obtain ⟨bq, tq⟩ := q
      unfold maxLen at htq
      simp only at htq hc1 hc2
      have hlen := PeelIs.len (s := s) k (Nat.le_of_lt hk')
      have Hlen := Lib.hid hlen; clear hlen
      cases bq
      · by_cases hb : Lib.hasPrefix r.data.toList tq.data.toList = true
        · have hlp := hasPrefix_leB hb
          go_wp2_with (first
            | (go_at_call 45; refine (begins_any _ _ _ (by unfold maxLen; omega) (by unfold maxLen; omega)).mono ?_; rintro e w' ⟨rfl, rfl⟩)
            | (at_builtin; refine wpList_push (wr.alloc (.cells #[.bool false, .string tq] 42)) rfl (.tmp 49) (.tmp 51) 24 rfl w.heap.size 4 (.bool false) 1 Try.underlying24 info_bool rfl _ _ _ _ rfl rfl (by simp) (hp.2.1.alloc _) rfl (by rw [Hlen.out]; omega) (by omega) (by simp; omega) ?_; intro f1 w1 hown1 hbw1 hgr1 hat1))
          have hn' := peelIs_next hk' hp Hq (pre_yes hb).1 (by rw [(pre_yes hb).2]; exact hown1) (((hp.2.2.alloc hz _).trans hbw1))
          go_roundw
          case rel => exact ⟨_, k + 1, by omega, rfl, by go_num, hn'⟩
          case measure => simp [intOf]; omega
        · go_wp2_with (first
            | (go_at_call 45; refine (begins_any _ _ _ (by unfold maxLen; omega) (by unfold maxLen; omega)).mono ?_; rintro e w' ⟨rfl, rfl⟩)
            | (at_builtin; refine wpList_push (wr.alloc (.cells #[.bool false, .string tq] 42)) rfl (.tmp 49) (.tmp 51) 24 rfl w.heap.size 4 (.bool false) 1 Try.underlying24 info_bool rfl _ _ _ _ rfl rfl (by simp) (hp.2.1.alloc _) rfl (by rw [Hlen.out]; omega) (by omega) (by simp; omega) ?_; intro f1 w1 hown1 hbw1 hgr1 hat1))
          have hn' := peelIs_next hk' hp Hq (pre_no hb).1 (by rw [(pre_no hb).2]; exact hown1) (((hp.2.2.alloc hz _).trans hbw1))
          go_roundw
          case rel => exact ⟨_, k + 1, by omega, rfl, by go_num, hn'⟩
          case measure => simp [intOf]; omega
      · by_cases hb : Lib.hasSuffix r.data.toList tq.data.toList = true
        · have hlp := hasSuffix_leB hb
          go_wp2_with (first
            | (go_at_call 44; refine (ends_any _ _ _ (by unfold maxLen; omega) (by unfold maxLen; omega)).mono ?_; rintro e w' ⟨rfl, rfl⟩)
            | (at_builtin; refine wpList_push (wr.alloc (.cells #[.bool true, .string tq] 42)) rfl (.tmp 49) (.tmp 51) 24 rfl w.heap.size 4 (.bool false) 1 Try.underlying24 info_bool rfl _ _ _ _ rfl rfl (by simp) (hp.2.1.alloc _) rfl (by rw [Hlen.out]; omega) (by omega) (by simp; omega) ?_; intro f1 w1 hown1 hbw1 hgr1 hat1))
          have hn' := peelIs_next hk' hp Hq (suf_yes hb).1 (by rw [(suf_yes hb).2]; exact hown1) (((hp.2.2.alloc hz _).trans hbw1))
          go_roundw
          case rel => exact ⟨_, k + 1, by omega, rfl, by go_num, hn'⟩
          case measure => simp [intOf]; omega
        · go_wp2_with (first
            | (go_at_call 44; refine (ends_any _ _ _ (by unfold maxLen; omega) (by unfold maxLen; omega)).mono ?_; rintro e w' ⟨rfl, rfl⟩)
            | (at_builtin; refine wpList_push (wr.alloc (.cells #[.bool true, .string tq] 42)) rfl (.tmp 49) (.tmp 51) 24 rfl w.heap.size 4 (.bool false) 1 Try.underlying24 info_bool rfl _ _ _ _ rfl rfl (by simp) (hp.2.1.alloc _) rfl (by rw [Hlen.out]; omega) (by omega) (by simp; omega) ?_; intro f1 w1 hown1 hbw1 hgr1 hat1))
          have hn' := peelIs_next hk' hp Hq (suf_no hb).1 (by rw [(suf_no hb).2]; exact hown1) (((hp.2.2.alloc hz _).trans hbw1))
          go_roundw
          case rel => exact ⟨_, k + 1, by omega, rfl, by go_num, hn'⟩
          case measure => simp [intOf]; omega
    · have hkn : k = n := by omega
      subst hkn
      go_wp2
      go_ret2
      obtain ⟨A', c', rfl⟩ := hp.form (Nat.le_of_eq Hn.out)
      have Ht := hp
      rw [PeelIs, List.take_of_length_le (Nat.le_of_eq Hn.out.symm)] at Ht
      rw [Hn.out] at Ht ⊢
      exact ⟨r, A', c', rfl, Ht.1, Ht.2.1, Ht.2.2⟩
end Go.Proofs.Ytjpaboomgicjaaa
