/- Words for ranges over a function's value inside plain loops: a row that grows in a box, while a function's value is ranged over. Conditions: none. -/
import Derived.RangeFuncNested
import Derived.RangeFuncBound
import Derived.RangeFuncCalls
import Derived.RangeFuncLeaves
import Derived.RangeFuncBox
import Derived.Shelf.Abstract
import Derived.Shelf.RegionOpen
import Derived.WalkKit
import Derived.OwnWalkIn
import Derived.TacticsInMore
import Derived.LoopNIn
import Derived.LoopIn
import Derived.Maps.OwnIn
import Derived.Laws.OwnMore
import Derived.Test.YtkglbkgbgajbkaaDoorTexts
import Derived.Test.YtkglbkgbgajbkaaDoorMarked
import Derived.Test.YtkglbkgbgajbkaaDoorTabs
namespace Go.Proofs.YtkglbkgbgajbkaaDoor
open Go.RowKit Go.Shelf
set_option linter.unusedVariables false

theorem abides_below {β : Type} {B : Nat} {J : β → World → Prop} (h : AbidesFrom B J) {s : β} {W W' : World} (hs : J s W) (hb : Below W.heap.size W W') : J s W' :=
  h s W W' none hs ⟨hb.os, hb.tape, hb.output, hb.size, fun i hi _ => hb.block i hi⟩ (fun r e => by cases e)

theorem wide_room {n : Nat} : Fence.wide.depth.isSome = true → 1 ≤ n := fun h => by cases h
theorem enter_wide {n : Nat} {P : Program} {f : FuncId} {args : Array Value} {w : World} {R R' : Ending → World → Prop} (h : Calls P f args w R) (hm : ∀ e w', R e w' → R' e w') : Fence.wide.fn f ∧ (Fence.wide.depth.isSome = true → 1 ≤ n) ∧ CallsIn Fence.wide (n - 1) P f args w R' :=
  ⟨trivial, wide_room, (callsIn_wide.2 h).mono hm⟩

theorem cell_one (w : World) (v : Value) (e : TypeId) : (w.alloc (.cells #[v] e)).cell? ⟨w.heap.size, 0, none⟩ = some v := by
  simp [World.cell?, World.alloc, -World.alloc_eq]
def mkD (D : Nat) : Deferred := { target := .collected D, args := #[] }
/-- blocks for the rounds' deferred calls: none was deferred -/
def DOk (base : Nat) (Ds : List Nat) (W : World) : Prop := Ds.Nodup ∧ ∀ D ∈ Ds, base ≤ D ∧ W.heap[D]? = some (.deferred (some []))
theorem DOk.lt {base : Nat} {Ds : List Nat} {W : World} (h : DOk base Ds W) : ∀ D ∈ Ds, D < W.heap.size := fun D hD => (Array.getElem?_eq_some_iff.1 (h.2 D hD).2).1
theorem DOk.below {base : Nat} {Ds : List Nat} {W W' : World} (h : DOk base Ds W) (hb : Below W.heap.size W W') : DOk base Ds W' :=
  ⟨h.1, fun D hD => ⟨(h.2 D hD).1, (hb.block D (h.lt D hD)).trans (h.2 D hD).2⟩⟩
theorem DOk.grown {base : Nat} {Ds : List Nat} {W W' : World} {row : Option Nat} (h : DOk base Ds W) (hg : W.grownBy W' row) (hne : ∀ r, row = some r → r ∉ Ds) : DOk base Ds W' :=
  ⟨h.1, fun D hD => ⟨(h.2 D hD).1, (hg.block D (h.lt D hD) (fun e => hne D e.symm hD)).trans (h.2 D hD).2⟩⟩
theorem DOk.cons {base : Nat} {Ds : List Nat} {W : World} (h : DOk base Ds W) {D : Nat} (hD : W.heap[D]? = some (.deferred (some []))) (hb : base ≤ D) (hn : D ∉ Ds) : DOk base (D :: Ds) W :=
  ⟨List.nodup_cons.2 ⟨hn, h.1⟩, fun x hx => by
    rcases List.mem_cons.1 hx with rfl | hx
    · exact ⟨hb, hD⟩
    · exact h.2 x hx⟩
/-- the function's end: each block is shut; what is said of cells below stays -/
theorem leaves_marks {P : Program} {fn : Func} {tmps : Array Value} {R : Ending → World → Prop} {n base : Nat} (X : World → Prop)
    (hX : ∀ W D, X W → base ≤ D → W.heap[D]? = some (.deferred (some [])) → X (W.putObj D (.deferred none)))
    (hend : ∀ W, X W → LeavesInM Fence.wide n P fn tmps R [] .returning W) :
    ∀ (Ds : List Nat) (W : World), DOk base Ds W → X W → LeavesInM Fence.wide n P fn tmps R (Ds.map mkD) .returning W
  | [], W, _, h => hend W h
  | D :: Ds, W, h, hx => by
    have hD := h.2 D (by simp)
    refine ⟨by simp, .inl ⟨D, _, rfl, run_takeDeferred hD.2, ?_⟩⟩
    refine leaves_marks X hX hend Ds _ ?_ (hX W D hx hD.1 hD.2)
    have hnd := List.nodup_cons.1 h.1
    refine ⟨hnd.2, fun D' hD' => ⟨(h.2 D' (by simp [hD'])).1, ?_⟩⟩
    have hne : D' ≠ D := fun e => hnd.1 (e ▸ hD')
    exact (World.putObj_heap_other (by omega)).trans (h.2 D' (by simp [hD'])).2

/-- the box B holds a row T that grows; the row 'out' lies apart; blocks av are not the row's -/
def PIs (w : World) (B : Nat) (vo : Value) (out : List (List UInt8)) (Ds av : List Nat) (T : List (List UInt8)) (W : World) : Prop :=
  ∃ v2, Boxed W B 22 v2 ∧ Own W w.heap.size 9 v2 (texts T) ∧ Own W w.heap.size 9 vo (texts out) ∧ (∀ g, v2.ownBlock = some g → vo.ownBlock ≠ some g ∧ g ∉ av) ∧ DOk w.heap.size Ds W ∧ Below w.heap.size w W

theorem not_own {W : World} {base : Nat} {e : TypeId} {v : Value} {xs : List Value} (h : Own W base e v xs) {r : Nat} {o : Obj} (hr : W.heap[r]? = some o) (ho : o.isCells = false) : v.ownBlock = none ∨ v.ownBlock ≠ some r := by
  rcases h.2 with ⟨rfl, _⟩ | ⟨g, cap, cur, rfl, _, hgb, _⟩
  · exact .inl rfl
  · refine .inr fun e' => ?_
    obtain rfl : g = r := by simpa [Value.ownBlock] using e'
    rw [hgb] at hr; cases hr; cases ho
theorem not_own_deferred {W : World} {base : Nat} {e : TypeId} {v : Value} {xs : List Value} {Ds : List Nat} (h : Own W base e v xs) {b0 : Nat} (hd : DOk b0 Ds W) : ∀ r, v.ownBlock = some r → r ∉ Ds := fun r hr hm => by
  rcases not_own h (hd.2 r hm).2 rfl with h' | h'
  · rw [h'] at hr; cases hr
  · exact h' hr
theorem PIs.below {w : World} {B : Nat} {vo : Value} {out : List (List UInt8)} {Ds av : List Nat} {T : List (List UInt8)} {W W' : World} (h : PIs w B vo out Ds av T W) (hb : Below W.heap.size W W') : PIs w B vo out Ds av T W' := by
  obtain ⟨v2, h1, h2, h3, h4, h5, h6⟩ := h
  exact ⟨v2, (hb.block B h1.lt).trans h1, h2.below hb, h3.below hb, h4, h5.below hb, h6.trans (hb.mono h6.size)⟩
theorem PIs.own {w : World} {B : Nat} {vo : Value} {out : List (List UInt8)} {Ds av : List Nat} {B0 : Nat} (hB0 : w.heap.size ≤ B0) (hDs : ∀ D ∈ Ds, D < B0) (T0 : List (List UInt8)) : OwnFrom B0 (fun (pre : List (List UInt8)) W => PIs w B vo out Ds av (T0 ++ pre) W) := by
  rintro pre W W' row ⟨v2, h1, h2, h3, h4, h5, h6⟩ hg hr
  have hk : ∀ {v : Value} {xs : List Value}, Own W w.heap.size 9 v xs → v.ownBlock = none ∨ v.ownBlock ≠ row := fun {v xs} hv => by
    cases row with
    | none => cases e : v.ownBlock <;> simp
    | some r =>
      obtain ⟨_, o, ho, hc⟩ := hr r rfl
      exact not_own hv ho hc
  refine ⟨v2, h1.kept hg (fun e => ?_), World.ownsRow.kept h2 hg (hk h2), World.ownsRow.kept h3 hg (hk h3), h4, h5.grown hg (fun r e hm => ?_), h6.grown hg h6.size (fun k e => ?_)⟩
  · obtain ⟨_, o, ho, hc⟩ := hr B e.symm
    rw [show W.heap[B]? = _ from h1] at ho; cases ho; cases hc
  · have := (hr r e).1
    have := hDs r hm
    omega
  · have := (hr k e).1
    omega
/-- the row has grown by one, and its box holds it -/
theorem PIs.push {w : World} {B : Nat} {vo : Value} {out : List (List UInt8)} {Ds av : List Nat} {T : List (List UInt8)} {W w1 : World} {v2 v' : Value} {x : List UInt8} {tmp : Obj}
    (hv : Boxed W B 22 v2) (h2 : Own W w.heap.size 9 v2 (texts T)) (h3 : Own W w.heap.size 9 vo (texts out)) (h4 : ∀ g, v2.ownBlock = some g → vo.ownBlock ≠ some g ∧ g ∉ av) (h5 : DOk w.heap.size Ds W) (h6 : Below w.heap.size w W) (hB : w.heap.size ≤ B)
    (hav : ∀ g ∈ av, g < W.heap.size) (hown' : w1.ownsRow w.heap.size 9 1 v' (T.length + 1) (texts T ++ [.string (txt x)])) (hgrow : (W.alloc tmp).grownBy w1 v2.ownBlock) (hat : v'.ownBlock = v2.ownBlock ∨ v'.ownBlock = some (W.heap.size + 1)) :
    Boxed w1 B 22 v2 ∧ PIs w B vo out Ds av (T ++ [x]) (w1.setCell ⟨B, 0, none⟩ v') ∧ KeepsOthers W (w1.setCell ⟨B, 0, none⟩ v') ∧ Below w.heap.size W (w1.setCell ⟨B, 0, none⟩ v') ∧ (∀ b ∈ av, b ≠ B → (w1.setCell ⟨B, 0, none⟩ v').heap[b]? = W.heap[b]?) := by
  have hrow2 : W.ownsRow w.heap.size 9 1 v2 T.length (texts T) := by
    have := h2
    unfold Own at this
    rwa [texts_length] at this
  obtain ⟨a1, a2, a3, a4, a5⟩ := hv.appended (by decide) hrow2 h6.size hB hown' hgrow
  have e : texts T ++ [.string (txt x)] = texts (T ++ [x]) := by simp [texts]
  have hgr : W.grownBy w1 v2.ownBlock := (World.grownBy_alloc W tmp _).trans hgrow
  have hgs := grownBy_setCell' w1 B v'
  have h3a : Own w1 w.heap.size 9 vo (texts out) := World.ownsRow.kept h3 hgr (by
    cases e : vo.ownBlock with
    | none => exact .inl rfl
    | some g => exact .inr (fun e' => (h4 g e'.symm).1 e))
  have h3b : Own (w1.setCell ⟨B, 0, none⟩ v') w.heap.size 9 vo (texts out) := World.ownsRow.kept h3a hgs (.inr (a1.not_row (by decide) h3a).symm)
  refine ⟨a1, ⟨v', a2, ?_, h3b, ?_, ⟨h5.1, fun D hD => ⟨(h5.2 D hD).1, a4.same D _ (h5.2 D hD).2 rfl⟩⟩, h6.trans a5⟩, a4, a5, ?_⟩
  · unfold Own
    rw [texts_length, List.length_append, List.length_singleton, ← e]
    exact a3
  · intro g hg
    rcases hat with e' | e'
    · exact h4 g (e' ▸ hg)
    · rw [e'] at hg
      injection hg with hg
      refine ⟨fun e2 => ?_, fun hm => ?_⟩
      · have := (World.ownsRow.lt h3 g e2).2
        omega
      · have := hav g hm
        omega
  · intro b hb hbB
    have hlt := hav b hb
    have h1 : w1.heap[b]? = W.heap[b]? := hgr.block b hlt (fun e' => (h4 b e'.symm).2 hb)
    rw [hgs.block b (by have := hgr.size; omega) (fun e' => hbB (by injection e'))]
    exact h1
theorem PIs.avoid {w : World} {B : Nat} {vo : Value} {out : List (List UInt8)} {Ds av : List Nat} {T : List (List UInt8)} {W : World} (h : PIs w B vo out Ds [] T W) (hav : ∀ b ∈ av, W.heap.size ≤ b) : PIs w B vo out Ds av T W := by
  obtain ⟨v2, h1, h2, h3, h4, h5, h6⟩ := h
  refine ⟨v2, h1, h2, h3, fun g hg => ⟨(h4 g hg).1, fun hm => ?_⟩, h5, h6⟩
  have := (World.ownsRow.lt h2 g hg).2
  have := hav g hm
  omega
theorem PIs.free {w : World} {B : Nat} {vo : Value} {out : List (List UInt8)} {Ds av : List Nat} {T : List (List UInt8)} {W : World} (h : PIs w B vo out Ds av T W) : PIs w B vo out Ds [] T W := by
  obtain ⟨v2, h1, h2, h3, h4, h5, h6⟩ := h
  exact ⟨v2, h1, h2, h3, fun g hg => ⟨(h4 g hg).1, by simp⟩, h5, h6⟩
theorem PIs.mark {w : World} {B : Nat} {vo : Value} {out : List (List UInt8)} {Ds av : List Nat} {T : List (List UInt8)} {W : World} (h : PIs w B vo out Ds av T W) {D : Nat} (hD : W.heap[D]? = some (.deferred (some []))) (hb : w.heap.size ≤ D) (hn : D ∉ Ds) : PIs w B vo out (D :: Ds) av T W := by
  obtain ⟨v2, h1, h2, h3, h4, h5, h6⟩ := h
  exact ⟨v2, h1, h2, h3, h4, h5.cons hD hb hn, h6⟩
theorem tabs_keep {w W W' : World} (h0 : Tabs w) (h : Tabs W) (hb : Below w.heap.size W W') : Tabs W' := by
  have lt : ∀ {a : Addr} {v : Value}, w.cell? a = some v → a.block < w.heap.size := fun {a v} hc => by
    rcases Nat.lt_or_ge a.block w.heap.size with h' | h'
    · exact h'
    · simp [World.cell?, Array.getElem?_eq_none h'] at hc
  exact ⟨fun c hc => (hb.cell (lt (h0.1 c hc))).trans (h.1 c hc), fun i hi => ⟨(hb.cell (lt (h0.2 i hi).1)).trans (h.2 i hi).1, (hb.cell (lt (h0.2 i hi).2)).trans (h.2 i hi).2⟩⟩
end Go.Proofs.YtkglbkgbgajbkaaDoor
