/- The contract of impl.PeelBytes: what it returns, in new memory; old memory as it was. Conditions: the reach of the rows. -/
import Derived.Test.YtjpaboomgicjaaaPeel
import Derived.Test.YtjpaboomgicjaaaCutB
namespace Go.Proofs.Ytjpaboomgicjaaa
open Go.RowKit
set_option linter.unusedVariables false

/-- the loop's word: w0 is the world behind the text's own bytes -/
def PeelBIs (s : ByteArray) (ms : List Mb) (B : Nat) (w0 : World) (k : Nat) (p : Option Addr) (m d : Nat) (v : Value) (wr : World) : Prop :=
  m = (peelB s (ms.take k)).1.length ∧ m ≤ d ∧ BAt wr B p (peelB s (ms.take k)).1 ∧ Own wr B 4 v ((peelB s (ms.take k)).2.map Value.bool) ∧ Below B w0 wr
theorem peelBIs_next {s : ByteArray} {ms : List Mb} {B : Nat} {w0 : World} {k : Nat} {p p1 : Option Addr} {m d m1 d1 : Nat} {v v1 : Value} {wr w1 : World} {q : Mb} (hk : k < ms.length) (h : PeelBIs s ms B w0 k p m d v wr) (hq : Hid (q = ms[k]))
    (h1 : Hid (m1 = (pstep (peelB s (ms.take k)).1 (mk q)).1.length)) (hd : m1 ≤ d1) (hb : BAt w1 B p1 (pstep (peelB s (ms.take k)).1 (mk q)).1) (h2 : Own w1 B 4 v1 ((peelB s (ms.take k)).2.map Value.bool ++ [.bool (pstep (peelB s (ms.take k)).1 (mk q)).2]))
    (hbw : Below B wr w1) : PeelBIs s ms B w0 (k + 1) p1 m1 d1 v1 w1 := by
  have hq := hq.out
  have h1 := h1.out
  subst hq
  unfold PeelBIs
  rw [peelB_snoc s ms k hk]
  exact ⟨h1, hd, hb, by rw [List.map_append]; exact h2, h.2.2.2.2.trans hbw⟩
theorem PeelBIs.le {s : ByteArray} {ms : List Mb} {B : Nat} {w0 : World} {k : Nat} {p : Option Addr} {m d : Nat} {v : Value} {wr : World} (h : PeelBIs s ms B w0 k p m d v wr) : m ≤ s.size := by
  rw [Lib.size_eq, h.1]; exact peelL_le _ _

set_option maxHeartbeats 800000 in
theorem impl_peelB (s : ByteArray) (A : Option Addr) (n c : Nat) (ms : List Mb) (w : World) (hs : s.size ≤ maxLen) (hn : n = ms.length) (hnb : n ≤ 140737488351232) (hm : MAt w 0 w.heap.size A ms) :
    Calls Try.prog 19 #[.string s, .slice A n c] w (PeelPost s ms w) := by
  unfold maxLen at hs
  have Hn := Lib.hid hn; clear hn
  go_enter Try.func19, Try.ntmps19
  go_wp2_with ((with_reducible refine wpList_toBytes _ (o := ⟨some 12, _, _, _, _, _⟩) rfl _ _ _ 5 rfl Try.underlying9 Try.underlying52 Try.underlying5 s rfl ?_); intro p0 c0 w0 hc0 hb0 hw0 hz0)
  go_loopw [6, 7, 16] (fun v f i wr => ∃ (p : Option Addr) (m d k : Nat), k ≤ n ∧ v = .slice p m d ∧ i = .int .i64 k ∧ PeelBIs s ms (w.heap.size + 1) w0 k p m d f wr) (fun _ _ i _ => n - (intOf i).toNat)
  case atStart => exact ⟨p0, _, c0, 0, Nat.zero_le _, rfl, rfl, Lib.size_eq s, hc0, hb0.below ((Below.refl _ _).alloc hz0 _), Own.empty w0 _ _ _ rfl hz0, (Below.refl _ _).alloc hz0 _⟩
  case round =>
    obtain ⟨p, m, d, k, hk, rfl, rfl, hp⟩ := hrel
    have hle := hp.le
    obtain ⟨hm0, hmd, hb, hown, hbw⟩ := hp
    have hp : PeelBIs s ms (w.heap.size + 1) w0 k p m d _ wr := ⟨hm0, hmd, hb, hown, hbw⟩
    have hz := hbw.size
    have Hm := Lib.hid hm0; clear hm0
    by_cases hlt : k < n
    · have hk' : k < ms.length := by rw [← Hn.out]; exact hlt
      obtain ⟨b, o, rfl, _, hbl, hc1, hc2⟩ := (hm.below (hw0.trans (hbw.mono (Nat.le_succ _)))).at_ hk'
      obtain ⟨q, hq⟩ : ∃ q : Mb, q = ms[k] := ⟨_, rfl⟩
      rw [← hq] at hc1 hc2
      have Hq := Lib.hid hq; clear hq
      obtain ⟨bq, tq⟩ := q
      have hlen := PeelIs.len (s := s) k (Nat.le_of_lt hk')
      have Hlen := Lib.hid hlen; clear hlen
      have hba : ∀ o : Obj, Below (w.heap.size + 1) wr (wr.alloc o) := fun o => (Below.refl _ _).alloc (by omega) o
      have Hba := Lib.hid hba; clear hba
      have HP := Lib.hid hp; clear hp
      cases bq
      · go_wp2_with (first
          | ((with_reducible refine wpList_toBytes _ (o := ⟨some 34, _, _, _, _, _⟩) rfl _ _ _ 5 rfl Try.underlying9 Try.underlying52 Try.underlying5 tq rfl ?_); intro p1 c1 w1 hc1 hb1 hw1 hz1)
          | (go_at_call 41; refine (cutPrefixB p p1 m d _ c1 (w.heap.size + 1) _ (peelB s (ms.take k)).1 tq.data.toList w1 Hm.out (Lib.size_eq tq) hmd (hb.below ((Hba.out _).trans (hw1.mono (by simp; omega)))) hb1).mono ?_; rintro e w' ⟨p2, n2, c2, rfl, H2, hc2, hb2, rfl⟩)
          | (at_builtin; refine wpList_push w1 rfl (.tmp 38) (.tmp 40) 24 rfl (w.heap.size + 1) 4 (.bool false) 1 Try.underlying24 info_bool rfl _ _ _ _ rfl rfl rfl ((hown.alloc _).below hw1) rfl (by rw [Hlen.out]; omega) (by omega) (by simp at hz1; omega) ?_; intro f1 w2 hown1 hbw1 hgr1 hat1))
        have hn' := peelBIs_next hk' HP.out Hq (by simpa [pstep, mk] using H2) hc2 (by simpa [pstep, mk] using (hb2.below hbw1)) (by simpa [pstep, mk] using hown1) (((Hba.out _).trans (hw1.mono (by simp; omega))).trans hbw1)
        go_roundw
        case rel => exact ⟨p2, n2, c2, k + 1, by omega, rfl, by go_num, hn'⟩
        case measure => simp [intOf]; omega
      · go_wp2_with (first
          | ((with_reducible refine wpList_toBytes _ (o := ⟨some 26, _, _, _, _, _⟩) rfl _ _ _ 5 rfl Try.underlying9 Try.underlying52 Try.underlying5 tq rfl ?_); intro p1 c1 w1 hc1 hb1 hw1 hz1)
          | (go_at_call 40; refine (cutSuffixB p p1 m d _ c1 (w.heap.size + 1) _ (peelB s (ms.take k)).1 tq.data.toList w1 Hm.out (Lib.size_eq tq) hmd (by unfold maxLen; omega) (hb.below ((Hba.out _).trans (hw1.mono (by simp; omega)))) hb1).mono ?_; rintro e w' ⟨p2, n2, c2, rfl, H2, hc2, hb2, rfl⟩)
          | (at_builtin; refine wpList_push w1 rfl (.tmp 38) (.tmp 40) 24 rfl (w.heap.size + 1) 4 (.bool false) 1 Try.underlying24 info_bool rfl _ _ _ _ rfl rfl rfl ((hown.alloc _).below hw1) rfl (by rw [Hlen.out]; omega) (by omega) (by simp at hz1; omega) ?_; intro f1 w2 hown1 hbw1 hgr1 hat1))
        have hn' := peelBIs_next hk' HP.out Hq (by simpa [pstep, mk] using H2) hc2 (by simpa [pstep, mk] using (hb2.below hbw1)) (by simpa [pstep, mk] using hown1) (((Hba.out _).trans (hw1.mono (by simp; omega))).trans hbw1)
        go_roundw
        case rel => exact ⟨p2, n2, c2, k + 1, by omega, rfl, by go_num, hn'⟩
        case measure => simp [intOf]; omega
    · have hkn : k = n := by omega
      subst hkn
      go_wp2_with ((with_reducible refine wpList_toString _ (o := ⟨some 44, _, _, _, _, _⟩) rfl _ _ _ 5 rfl Try.underlying52 Try.underlying5 Try.underlying9 p m d _ _ rfl Hm.out hb ?_); intro q hq)
      go_ret2
      obtain ⟨A', c', hv, _⟩ := hown.form
      rw [PeelIs.len _ (Nat.le_of_eq Hn.out)] at hv
      subst hv
      have hq := hq.out
      rw [List.take_of_length_le (Nat.le_of_eq Hn.out.symm)] at hq hown
      rw [Hn.out] at hown ⊢
      exact ⟨q, A', c', rfl, hq, hown.le (Nat.le_succ _), hw0.trans (hbw.mono (Nat.le_succ _))⟩
end Go.Proofs.Ytjpaboomgicjaaa
