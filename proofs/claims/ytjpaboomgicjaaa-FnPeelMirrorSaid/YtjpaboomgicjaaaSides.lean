/- Contracts of laws.sides and laws.taken. Conditions: the reach of the rows. -/
import Derived.Test.YtjpaboomgicjaaaRowM
import Derived.Test.YtjpaboomgicjaaaPeelLaws
namespace Go.Proofs.Ytjpaboomgicjaaa
open Go.RowKit
set_option linter.unusedVariables false

def SepV (a b : Value) : Prop := ∀ g, a.ownBlock = some g → b.ownBlock ≠ some g
theorem SepV.symm {a b : Value} (h : SepV a b) : SepV b a := fun g h1 h2 => h g h2 h1
theorem SepV.ne {a b : Value} (h : SepV a b) : a.ownBlock = none ∨ a.ownBlock ≠ b.ownBlock := by
  cases ha : a.ownBlock with
  | none => exact .inl rfl
  | some g => exact .inr (fun e => h g ha e.symm)
theorem SepV.push {a a' b : Value} {W : World} {base : Nat} {e : TypeId} {ms : List Mb} (h : SepV a b) (hb : OwnM W base e b ms) (h5 : a'.ownBlock = a.ownBlock ∨ a'.ownBlock = some (W.heap.size + 1)) : SepV a' b := by
  intro g hg hgb
  rcases h5 with h5 | h5
  · exact h g (by rw [← h5]; exact hg) hgb
  · have := (World.ownsRow.lt hb g hgb).2
    rw [h5] at hg
    injection hg with hg
    omega
def front (L : List Mb) : List Mb := L.filter fun m => !m.1
def back (L : List Mb) : List Mb := L.filter fun m => m.1
theorem front_snoc (L : List Mb) (k : Nat) (h : k < L.length) (t : ByteArray) (b : Bool) (hm : Hid ((b, t) = L[k])) : front (L.take (k + 1)) = front (L.take k) ++ (if b then [] else [(b, t)]) ∧ back (L.take (k + 1)) = back (L.take k) ++ (if b then [(b, t)] else []) := by
  have hm := hm.out
  unfold front back
  rw [List.take_succ_eq_append_getElem h, List.filter_append, List.filter_append, ← hm]
  cases b <;> simp
theorem front_len (L : List Mb) (k : Nat) : (front (L.take k)).length ≤ L.length ∧ (back (L.take k)).length ≤ L.length := by
  have h1 := List.length_filter_le (fun m : Mb => !m.1) (L.take k)
  have h2 := List.length_filter_le (fun m : Mb => m.1) (L.take k)
  have h3 := List.length_take_le k L
  have h4 : (L.take k).length ≤ L.length := by rw [List.length_take]; omega
  unfold front back
  omega

def SidesIs (L : List Mb) (w : World) (k : Nat) (va vb : Value) (wr : World) : Prop :=
  OwnM wr w.heap.size 42 va (front (L.take k)) ∧ OwnM wr w.heap.size 42 vb (back (L.take k)) ∧ SepV va vb ∧ Below w.heap.size w wr
def SidesPost (L : List Mb) (w : World) (e : Ending) (w' : World) : Prop :=
  ∃ (A1 A2 : Option Addr) (n1 c1 n2 c2 : Nat), e = .returned (.tuple #[.slice A1 n1 c1, .slice A2 n2 c2]) ∧ Hid (n1 = (front L).length) ∧ Hid (n2 = (back L).length) ∧ MAt w' 0 w'.heap.size A1 (front L) ∧ MAt w' 0 w'.heap.size A2 (back L) ∧ Below w.heap.size w w'

set_option maxHeartbeats 800000 in
theorem sides_any (A : Option Addr) (n c : Nat) (L : List Mb) (w : World) (hn : n = L.length) (hn24 : n * 24 ≤ 140737488351232) (hm : MAt w 0 w.heap.size A L) :
    Calls Try.prog 35 #[.slice A n c] w (SidesPost L w) := by
  have Hn := Lib.hid hn; clear hn
  go_enter Try.func35, Try.ntmps35
  go_wp2
  go_loopw [4, 5, 10] (fun va vb i wr => ∃ k : Nat, k ≤ n ∧ i = .int .i64 k ∧ SidesIs L w k va vb wr) (fun _ _ i _ => n - (intOf i).toNat)
  case atStart => exact ⟨0, Nat.zero_le _, rfl, OwnM.none_ _ _ _, OwnM.none_ _ _ _, (fun g h => by cases h), Below.refl _ _⟩
  case round =>
    obtain ⟨k, hk, rfl, hsd⟩ := hrel
    obtain ⟨ha, hb, hsep, hbw⟩ := hsd
    have hz := hbw.size
    by_cases hlt : k < n
    · have hk' : k < L.length := by rw [← Hn.out]; exact hlt
      obtain ⟨b, o, rfl, _, hbl, hc1, hc2⟩ := (hm.below hbw).at_ hk'
      obtain ⟨q, hq⟩ : ∃ q : Mb, q = L[k] := ⟨_, rfl⟩
      rw [← hq] at hc1 hc2
      have Hq := Lib.hid hq; clear hq
      obtain ⟨bq, tq⟩ := q
      obtain ⟨hl1, hl2⟩ := front_len L k
      rw [← Hn.out] at hl1 hl2
      cases bq
      · go_wp2_with (at_builtin; refine wpList_pushM (wr.alloc (.cells #[.bool false, .string tq] 42)) rfl (.tmp 20) (.tmp 22) 27 rfl w.heap.size 42 _ Try.underlying27 info_mark rfl _ (front (L.take k)) (false, tq) _ rfl rfl (by simp) (World.ownsRow.alloc ha _) (by omega) (by simp; omega) ?_; intro v1 w1 hown1 hbw1 hgr1 hat1)
        have hsn := front_snoc L k hk' tq false Hq
        go_roundw
        case rel => exact ⟨k + 1, by omega, by go_num, by rw [hsn.1]; exact hown1, by rw [hsn.2]; simp only [Bool.false_eq_true, if_false, List.append_nil]; exact World.ownsRow.kept (World.ownsRow.alloc hb _) hgr1 hsep.symm.ne, hsep.push (World.ownsRow.alloc hb _) hat1, (hbw.alloc hz _).trans hbw1⟩
        case measure => simp [intOf]; omega
      · go_wp2_with (at_builtin; refine wpList_pushM (wr.alloc (.cells #[.bool true, .string tq] 42)) rfl (.tmp 16) (.tmp 18) 27 rfl w.heap.size 42 _ Try.underlying27 info_mark rfl _ (back (L.take k)) (true, tq) _ rfl rfl (by simp) (World.ownsRow.alloc hb _) (by omega) (by simp; omega) ?_; intro v1 w1 hown1 hbw1 hgr1 hat1)
        have hsn := front_snoc L k hk' tq true Hq
        go_roundw
        case rel => exact ⟨k + 1, by omega, by go_num, by rw [hsn.1]; simp only [if_true, List.append_nil]; exact World.ownsRow.kept (World.ownsRow.alloc ha _) hgr1 hsep.ne, by rw [hsn.2]; exact hown1, (hsep.symm.push (World.ownsRow.alloc ha _) hat1).symm, (hbw.alloc hz _).trans hbw1⟩
        case measure => simp [intOf]; omega
    · have hkn : k = n := by omega
      subst hkn
      go_wp2
      go_ret2
      rw [List.take_of_length_le (Nat.le_of_eq Hn.out.symm)] at ha hb
      obtain ⟨A1, c1, rfl, _⟩ := ha.form
      obtain ⟨A2, c2, rfl, _⟩ := hb.form
      exact ⟨A1, A2, _, c1, _, c2, rfl, rfl, rfl, ha.mat.more (Nat.zero_le _) (Nat.le_refl _), hb.mat.more (Nat.zero_le _) (Nat.le_refl _), hbw⟩

/-- the loop's word of taken -/
theorem takenL_snoc (ms : List Mk) (bs : List Bool) (k : Nat) (h1 : k < ms.length) (h2 : k < bs.length) : takenL (ms.take (k + 1)) (bs.take (k + 1)) = takenL (ms.take k) (bs.take k) + (if bs[k] then (ms[k]).2.length else 0) := by
  induction ms generalizing bs k with
  | nil => simp at h1
  | cons m ms ih =>
    cases bs with
    | nil => simp at h2
    | cons b bs =>
      cases k with
      | zero => simp [takenL]
      | succ k =>
        have := ih bs k (by simpa using h1) (by simpa using h2)
        simp only [List.take_succ_cons, takenL, List.getElem_cons_succ] at this ⊢
        rw [this]; omega
def takenB (L : List Mb) (bs : List Bool) : Nat := takenL (L.map mk) bs
theorem takenB_snoc (L : List Mb) (bs : List Bool) (k : Nat) (h1 : k < L.length) (h2 : k < bs.length) : takenB (L.take (k + 1)) (bs.take (k + 1)) = takenB (L.take k) (bs.take k) + (if bs[k] then (L[k]).2.size else 0) := by
  unfold takenB
  rw [List.map_take, List.map_take, takenL_snoc _ _ k (by simpa using h1) h2]
  simp [mk]

set_option maxHeartbeats 800000 in
theorem taken_any (A : Option Addr) (n c : Nat) (u : Value) (L : List Mb) (bs : List Bool) (w : World) (hnn : n = L.length) (hbs : bs.length = L.length) (hn : n ≤ 140737488351232) (hm : MAt w 0 w.heap.size A L) (hu : RowV w u (bs.map Value.bool))
    (hmax : ∀ k, takenB (L.take k) (bs.take k) ≤ 140737488351232) (hsz : ∀ m ∈ L, m.2.size ≤ 140737488351232) :
    Calls Try.prog 36 #[.slice A n c, u] w fun e w' => e = .returned (.int .i64 (takenB L bs)) ∧ w = w' := by
  obtain ⟨A', c', rfl, _, hrow⟩ := hu
  rw [List.length_map, hbs, ← hnn]
  have Hn := Lib.hid hnn; have Hbs := Lib.hid hbs; have Hmax := Lib.hid hmax; have Hm := Lib.hid hm; have Hrow := Lib.hid hrow; have Hsz := Lib.hid hsz
  clear hnn hbs hmax hm hrow hsz
  go_enter Try.func36, Try.ntmps36
  go_wp2
  go_loop [5, 10] (fun s i => ∃ (k t : Nat), k ≤ n ∧ i = .int .i64 k ∧ s = .int .i64 t ∧ Hid (t = takenB (L.take k) (bs.take k))) (fun _ i => n - (intOf i).toNat)
  case atStart => exact ⟨0, 0, Nat.zero_le _, rfl, rfl, rfl⟩
  case round =>
    obtain ⟨k, t, hk, rfl, rfl, ht⟩ := hrel
    have htl := Hmax.out k
    rw [← ht.out] at htl
    by_cases hlt : k < n
    · have hk1 : k < L.length := by rw [← Hn.out]; exact hlt
      have hk2 : k < bs.length := by rw [Hbs.out]; exact hk1
      obtain ⟨b, o, rfl, _, _, hc1, hc2⟩ := Hm.out.at_ hk1
      obtain ⟨b', o', rfl, _, _, hc3⟩ := Hrow.out.at_ (i := k) (by rw [List.length_map]; exact hk2)
      rw [List.getElem_map] at hc3
      have hsn := takenB_snoc L bs k hk1 hk2
      have htq := Hsz.out _ (List.getElem_mem hk1)
      obtain ⟨q, hq⟩ : ∃ q : Mb, q = L[k] := ⟨_, rfl⟩
      rw [← hq] at hc1 hc2 hsn htq
      obtain ⟨bb, hbb⟩ : ∃ bb : Bool, bb = bs[k] := ⟨_, rfl⟩
      rw [← hbb] at hc3 hsn
      rw [← ht.out] at hsn
      have Hsn := Lib.hid hsn
      clear hsn hq hbb ht hk1 hk2
      obtain ⟨bq, tq⟩ := q
      simp only at hc1 hc2 htq
      cases bb
      · go_wp2
        go_round
        case rel => exact ⟨k + 1, t, by omega, by go_num, rfl, by rw [Hid, Hsn.out]; simp⟩
        case measure => simp [intOf]; omega
      · go_wp2
        go_round
        case rel => exact ⟨k + 1, t + tq.size, by omega, by go_num, by go_num, by rw [Hid, Hsn.out]; simp⟩
        case measure => simp [intOf]; omega
    · have hkn : k = n := by omega
      subst hkn
      go_wp2
      go_ret
      have ht := ht.out
      rw [List.take_of_length_le (Nat.le_of_eq Hn.out.symm), List.take_of_length_le (Nat.le_of_eq (Hbs.out.trans Hn.out.symm))] at ht
      rw [← ht]
      exact ⟨rfl, rfl⟩
end Go.Proofs.Ytjpaboomgicjaaa
