/- Contracts of spec.Pieces and spec.In: the pieces of a text; whether a code point belongs to a set. Conditions: a text of at most 2 to the 42 bytes. -/
import Derived.Test.YtdlhjnihmkbagaaDoorPair
import Derived.Test.YtdlhjnihmkbagaaDoorInSet
import Derived.Test.YtdlhjnihmkbagaaDoorProg
namespace Go.Proofs.YtdlhjnihmkbagaaDoor
open Go.RowKit
set_option linter.unusedVariables false

def txt (l : List UInt8) : ByteArray := ⟨l.toArray⟩
theorem txt_data (l : List UInt8) : (txt l).data.toList = l := rfl
def pcV (q : Pc) : Value × Value := (.int .i32 (q.1 : Int), .string (txt q.2))
theorem info_piece : (Tryd.prog.info? 35).map (fun i => (i.zero, i.size, i.bytes)) = some (some (.agg #[.int .i32 0, .string ByteArray.empty]), 2, 24) := by kernel_rfl

def PiecesPost (s : ByteArray) (w : World) (e : Ending) (w' : World) : Prop :=
  ∃ (A : Option Addr) (n c : Nat), e = .returned (.slice A n c) ∧ Hid (n = (pcsB s).length) ∧ PAt w' w.heap.size w'.heap.size A ((pcsB s).map pcV) ∧ Below w.heap.size w w'

/-- the same, and the length is within the capacity -/
def PiecesPostC (s : ByteArray) (w : World) (e : Ending) (w' : World) : Prop :=
  ∃ (A : Option Addr) (n c : Nat), e = .returned (.slice A n c) ∧ Hid (n = (pcsB s).length) ∧ PAt w' w.heap.size w'.heap.size A ((pcsB s).map pcV) ∧ Below w.heap.size w w' ∧ n ≤ c

/-- the loop's word: the pieces D are behind, P is to come; the last one of D is not yet laid -/
def PcsIs (s : ByteArray) (w : World) (P : List Pc) (v f l : Value) (wx : World) : Prop :=
  IterAt wx (w.heap.size + 1) s P ∧ Below w.heap.size w wx ∧ v.ownBlock ≠ some (w.heap.size + 1) ∧
  ((pcsB s = P ∧ OwnP wx w.heap.size 35 v []) ∨ ∃ (D : List Pc) (q : Pc) (F : Nat), pcsB s = D ++ q :: P ∧ OwnP wx w.heap.size 35 v (D.map pcV) ∧ f = .int .i64 F ∧ Hid (F = (flat D).length) ∧ l = .int .i32 (q.1 : Int))

theorem pcs_len_le (l : List UInt8) : (pcs l).length ≤ l.length := by
  induction l using len_ind with
  | h l ih =>
    by_cases hl : l = []
    · subst hl; exact Nat.le_refl _
    · have h1 := ih _ (drop_lt hl)
      have h2 := drop_lt hl
      rw [pcs_cons hl, List.length_cons]; omega
/-- the bytes between two places of a text -/
theorem mid_eq {s : ByteArray} {D P : List Pc} {q : Pc} (h : pcsB s = D ++ q :: P) : s.extract (flat D).length ((flat D).length + q.2.length) = txt q.2 := by
  have hl : s.data.toList = flat D ++ (q.2 ++ flat P) := by
    have := flat_pcs s.data.toList
    unfold pcsB at h
    rw [h, flat_append, flat_cons] at this
    exact this.symm
  rw [← Lib.mk_data (s.extract _ _), Lib.extract_data, hl, List.drop_left]
  unfold txt
  congr 2
  rw [Nat.add_sub_cancel_left, List.take_left]
theorem mid_le {s : ByteArray} {D P : List Pc} {q : Pc} (h : pcsB s = D ++ q :: P) : (flat D).length + q.2.length ≤ s.size := by
  have := congrArg List.length (flat_pcs s.data.toList)
  unfold pcsB at h
  rw [h, flat_append, flat_cons, List.length_append, List.length_append, ← Lib.size_eq] at this
  omega
theorem pos_eq {s : ByteArray} {D P : List Pc} {pos : Nat} (h : pcsB s = D ++ P) (hp : s.data.toList.drop pos = flat P) (hlt : pos ≤ s.size) : pos = (flat D).length := by
  have h1 := congrArg List.length (flat_pcs s.data.toList)
  unfold pcsB at h
  rw [h, flat_append, List.length_append, ← Lib.size_eq] at h1
  have h2 := congrArg List.length hp
  rw [List.length_drop, ← Lib.size_eq] at h2
  omega

set_option maxHeartbeats 800000 in
theorem pieces_cap (s : ByteArray) (w : World) (hs : s.size ≤ 4398046511104) :
    Calls Tryd.prog 21 #[.string s] w (PiecesPostC s w) := by
  have hpl : (pcsB s).length ≤ s.size := by rw [Lib.size_eq]; exact pcs_len_le _
  go_enter Tryd.func21, Tryd.ntmps21
  go_wp2
  go_loopg [3, 4, 5] (pcsB s).length (fun gf v f l wx => ∃ P : List Pc, P.length = gf ∧ PcsIs s w P v f l wx)
  case atStart =>
    refine ⟨pcsB s, rfl, ?_, ((Below.refl _ _).alloc (Nat.le_refl _) _).alloc (by simp) _, by simp [Value.ownBlock], .inl ⟨rfl, (OwnP.empty w _ _ _ rfl (Nat.le_refl _)).alloc _⟩⟩
    have := IterAt.start (w.alloc (.cells #[] 35)) s
    simpa using this
  case round =>
    obtain ⟨P, hl, hit, hbw, hnb, hcase⟩ := hrel
    cases P with
    | nil =>
      have hnx := iter_end (Pr := Tryd.prog) hit
      rcases hcase with ⟨hp, hown⟩ | ⟨D, q0, F, hp, hown, rfl, hF, rfl⟩
      · have hsz : s.size = 0 := by
          have := congrArg List.length (flat_pcs s.data.toList)
          rw [show pcs s.data.toList = [] from hp, ← Lib.size_eq] at this
          simpa [flat_nil] using this.symm
        have Hsz : ¬ 0 < s.size := by omega
        obtain ⟨A, c, rfl, _⟩ := hown.form
        have Hp := Lib.hid hp; clear hp hsz
        go_wp2
        go_ret
        refine ⟨A, 0, c, rfl, by rw [Hid, Hp.out]; rfl, ?_, hbw, Nat.zero_le _⟩
        rw [Hp.out]
        exact fun h => absurd rfl h
      · have hmid := mid_eq hp
        have hmle := mid_le hp
        have hN : Norm (q0 :: []) := by
          have := norm_pcs s.data.toList
          rw [show pcs s.data.toList = D ++ q0 :: [] from hp] at this
          exact this.right
        have hq0 := pc_len hN
        have hend : (flat D).length + q0.2.length = s.size := by
          have := congrArg List.length (flat_pcs s.data.toList)
          rw [show pcs s.data.toList = D ++ q0 :: [] from hp, flat_append, flat_cons, flat_nil, List.append_nil, List.length_append, ← Lib.size_eq] at this
          exact this
        rw [hend, ← hF.out] at hmid
        have hFle : F ≤ s.size := by rw [hF.out]; omega
        have hspos : 0 < s.size := by omega
        have hDl : D.length ≤ s.size := by
          have := congrArg List.length hp
          rw [List.length_append, List.length_cons] at this
          omega
        have hown1 := hown
        have hbw1 := hbw
        have Hmid := Lib.hid hmid; have Hp := Lib.hid hp
        clear hmid hmle hp hend hq0 hN hown
        go_wp2_with (at_builtin; refine wpList_pushP _ rfl (.tmp 31) (.tmp 37) 32 rfl w.heap.size 35 _ 24 Tryd.underlying32 info_piece rfl (by omega) _ (D.map pcV) (.int .i32 (q0.1 : Int)) (.string (s.extract F s.size)) rfl rfl _ rfl rfl rfl hown1 (by rw [List.length_map]; omega) (by have := hbw1.size; omega) ?_; intro v2 w2 hown2 hbw2 hgr2 hat2)
        have hfin : (D.map pcV) ++ [(.int .i32 (q0.1 : Int), .string (s.extract F s.size))] = (pcsB s).map pcV := by
          rw [Hmid.out, Hp.out, List.map_append]; rfl
        rw [hfin] at hown2
        obtain ⟨A, c, rfl, hcap0⟩ := hown2.form
        have hcap := Lib.hid hcap0
        clear hfin hcap0
        go_wp2
        go_ret
        refine ⟨A, _, c, rfl, by rw [Hid, List.length_map], hown2.pat, hbw1.trans hbw2, hcap.out⟩
    | cons q P =>
      obtain ⟨pos, w1, hnx, hit1, hb1, hg1, hpos, hplt⟩ := iter_next (Pr := Tryd.prog) hit
      have hbw1 := hbw.trans (hb1 _ (Nat.le_succ _))
      clear hb1
      obtain ⟨r, bs⟩ := q
      simp only at hnx
      rcases hcase with ⟨hp, hown⟩ | ⟨D, q0, F, hp, hown, rfl, hF, rfl⟩
      · have hp0 : pos = 0 := by have := pos_eq (D := []) hp hpos (by omega); simpa [flat_nil] using this
        subst hp0
        have hown1 := hown.grown hg1 (.inr hnb)
        have Hp := Lib.hid hp
        clear hp hown hpos hg1
        go_wp2
        go_roundg P.length
        case rel => exact ⟨P, rfl, hit1, hbw1, hnb, .inr ⟨[], (r, bs), 0, Hp.out, hown1, rfl, rfl, rfl⟩⟩
        case measure => simp only [List.length_cons] at hl; omega
      · have hN : Norm (q0 :: (r, bs) :: P) := by
          have := norm_pcs s.data.toList
          rw [show pcs s.data.toList = D ++ q0 :: (r, bs) :: P from hp] at this
          exact this.right
        have hq0 := pc_len hN
        have hp1 : pos = (flat D).length + q0.2.length := by
          have := pos_eq (D := D ++ [q0]) (P := (r, bs) :: P) (by rw [hp]; simp) hpos (by omega)
          rw [this, flat_append, flat_cons, flat_nil, List.append_nil, List.length_append]
        have hmid := mid_eq hp
        rw [← hp1, ← hF.out] at hmid
        have hF1 : F ≤ pos := by rw [hF.out]; omega
        have hpp : 0 < pos := by omega
        have hpF : Hid (pos = (flat (D ++ [q0])).length) := by rw [Hid, hp1, flat_append, flat_cons, flat_nil, List.append_nil, List.length_append]
        have hDl : D.length ≤ s.size := by
          have := congrArg List.length hp
          rw [List.length_append, List.length_cons] at this
          omega
        have hown1 := hown.grown hg1 (.inr hnb)
        have Hmid := Lib.hid hmid; have Hp := Lib.hid hp
        clear hp hown hpos hg1 hmid hp1 hq0 hN
        go_wp2_with (at_builtin; refine wpList_pushP _ rfl (.tmp 17) (.tmp 24) 32 rfl w.heap.size 35 _ 24 Tryd.underlying32 info_piece rfl (by omega) _ (D.map pcV) (.int .i32 (q0.1 : Int)) (.string (s.extract F pos)) rfl rfl _ rfl rfl rfl hown1 (by rw [List.length_map]; omega) (by have := hbw1.size; omega) ?_; intro v2 w2 hown2 hbw2 hgr2 hat2)
        have hfin : (D.map pcV) ++ [(.int .i32 (q0.1 : Int), .string (s.extract F pos))] = (D ++ [q0]).map pcV := by
          rw [Hmid.out, List.map_append]; rfl
        rw [hfin] at hown2
        have hit2 := hit1.grown hgr2 (Ne.symm hnb)
        have hlt1 := hit1.lt
        have hnb2 : v2.ownBlock ≠ some (w.heap.size + 1) := by
          rcases hat2 with e | e
          · rw [e]; exact hnb
          · rw [e]; intro h; injection h with h; omega
        clear hfin
        go_wp2
        go_roundg P.length
        case rel => exact ⟨P, rfl, hit2, hbw1.trans hbw2, hnb2, .inr ⟨D ++ [q0], (r, bs), pos, by rw [Hp.out]; simp, hown2, rfl, hpF, rfl⟩⟩
        case measure => simp only [List.length_cons] at hl; omega
theorem pieces_any (s : ByteArray) (w : World) (hs : s.size ≤ 4398046511104) :
    Calls Tryd.prog 21 #[.string s] w (PiecesPost s w) :=
  (pieces_cap s w hs).mono fun _ _ ⟨A, n, c, h1, h2, h3, h4, _⟩ => ⟨A, n, c, h1, h2, h3, h4⟩
end Go.Proofs.YtdlhjnihmkbagaaDoor
