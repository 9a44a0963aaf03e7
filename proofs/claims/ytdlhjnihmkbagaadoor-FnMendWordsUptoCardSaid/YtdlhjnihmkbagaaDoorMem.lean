/- Words for memory: bytes behind a slice, and the two conversions between strings and byte slices as steps of a walk. Conditions: none. -/
import Derived.WalkKit
import Derived.WalkSpells
import Derived.WalkLawsBesides
import Derived.Outline
import Derived.Lib.Strings
import Derived.Lib.Hide
import Derived.Lib.ConvBytes
import Derived.Laws.BytesArg
import Derived.Laws.IdiomStrings
import Derived.Shelf.Bytes.SlSmallAll
namespace Go.Proofs.YtdlhjnihmkbagaaDoor
open Go.RowKit

/-- below block B, where there is a byte, the slice's address p holds the bytes l -/
def BAt (w : World) (B : Nat) (p : Option Addr) (l : List UInt8) : Prop :=
  l ≠ [] → ∃ b o, p = some ⟨b, o, none⟩ ∧ b < B ∧ ∀ i (h : i < l.length), w.cell? ⟨b, o + i, none⟩ = some (.int .u8 (l[i].toNat : Int))

theorem BAt.nil (w : World) (B : Nat) (p : Option Addr) : BAt w B p [] := fun h => absurd rfl h
theorem BAt.below {w w' : World} {B : Nat} {p : Option Addr} {l : List UInt8} (h : BAt w B p l) (hb : Below B w w') : BAt w' B p l := fun hn => by
  obtain ⟨b, o, rfl, hlt, hc⟩ := h hn
  exact ⟨b, o, rfl, hlt, fun i hi => (hb.cell (p := ⟨b, o + i, none⟩) hlt).trans (hc i hi)⟩
theorem BAt.more {w : World} {B B' : Nat} {p : Option Addr} {l : List UInt8} (h : BAt w B p l) (hB : B ≤ B') : BAt w B' p l := fun hn => by
  obtain ⟨b, o, rfl, hlt, hc⟩ := h hn
  exact ⟨b, o, rfl, by omega, hc⟩

def ints (l : List UInt8) : List Int := l.map fun b => (b.toNat : Int)
theorem ints_length (l : List UInt8) : (ints l).length = l.length := by simp [ints]
theorem bytesOf_ints (l : List UInt8) : Lib.bytesOf (ints l) = l := by
  unfold Lib.bytesOf ints
  rw [List.map_map]
  conv => rhs; rw [← List.map_id l]
  apply List.map_congr_left
  intro b _
  simp
theorem ints_getD (l : List UInt8) (i : Nat) (h : i < l.length) : (ints l).getD i 0 = (l[i].toNat : Int) := by
  unfold ints
  simp [List.getD, h]
theorem BAt.bytesIn {w : World} {B : Nat} {p : Option Addr} {l : List UInt8} (h : BAt w B p l) : Lib.BytesIn w p l.length (ints l) := fun hn => by
  obtain ⟨b, o, rfl, _, hc⟩ := h (List.length_pos_iff.1 hn)
  exact ⟨b, o, rfl, fun i hi => by rw [ints_getD l i hi]; exact hc i hi⟩

theorem BAt.drop {w : World} {B b o : Nat} {l : List UInt8} (h : BAt w B (some ⟨b, o, none⟩) l) (k : Nat) : BAt w B (some ⟨b, o + k, none⟩) (l.drop k) := fun hn => by
  have hl : l ≠ [] := fun e => hn (by rw [e]; simp)
  obtain ⟨b', o', e, hlt, hc⟩ := h hl
  injection e with e
  injection e with e1 e2
  subst e1 e2
  refine ⟨b, o + k, rfl, hlt, fun i hi => ?_⟩
  have hi' : k + i < l.length := by rw [List.length_drop] at hi; omega
  rw [Nat.add_assoc, hc (k + i) hi', List.getElem_drop]
theorem BAt.take {w : World} {B : Nat} {p : Option Addr} {l : List UInt8} (h : BAt w B p l) (k : Nat) : BAt w B p (l.take k) := fun hn => by
  have hl : l ≠ [] := fun e => hn (by rw [e]; simp)
  obtain ⟨b, o, rfl, hlt, hc⟩ := h hl
  refine ⟨b, o, rfl, hlt, fun i hi => ?_⟩
  have hi' : i < l.length := by rw [List.length_take] at hi; omega
  rw [hc i hi', List.getElem_take]

theorem below_bytes (w : World) (e : TypeId) (s : ByteArray) : Below w.heap.size w (Lib.bytesWorld w e s) :=
  ⟨rfl, rfl, rfl, by rw [Lib.bytesWorld_size]; omega, fun k hk => Lib.bytesWorld_at_old w e s k hk⟩

/-- a string turned into bytes: new memory that holds them -/
theorem wpList_toBytes {P : Program} {ops : Array Oper} {rest : List Oper} {o : Oper} {a : Act} {Q : Exit → Act → World → Prop} (w : World) (hgd : o.guard = none) (x : Operand) (src dst e : TypeId)
    (ho : o.op = .convert src dst x) {u : TypeDesc} (hs : P.underlying src = some u) (hd : P.underlying dst = some (.slice e)) (he : P.underlying e = some (.int .u8)) (s : ByteArray) (hx : a.eval x = .string s)
    (h : ∀ (p : Option Addr) (c : Nat) (w' : World), s.size ≤ c → BAt w' (w.heap.size + 1) p s.data.toList → Below w.heap.size w w' → w.heap.size + 1 ≤ w'.heap.size → wpList P ops Q rest (a.put o.dst (.slice p s.size c)) w') :
    wpList P ops Q (o :: rest) a w := by
  refine wpList_plain hgd fun K hK => ?_
  have hrun := Lib.run_convert_string_bytes (P := P) w src dst e s hs hd he
  unfold Oper.wp
  simp [execOp, ho, hx, hrun, Result.andThen]
  refine hK _ _ (h _ _ _ (grownCap_ge w _ _ _) (fun _ => ⟨w.heap.size, 0, rfl, by omega, fun i hi => ?_⟩) (below_bytes w e s) (by rw [Lib.bytesWorld_size]; omega))
  rw [Nat.zero_add, Lib.bytesWorld_cell w e s i (by rw [Lib.size_eq]; exact hi)]
  simp only [List.getD, List.getElem?_eq_getElem hi, Option.getD_some]

/-- bytes turned into a string -/
theorem wpList_toString {P : Program} {ops : Array Oper} {rest : List Oper} {o : Oper} {a : Act} {Q : Exit → Act → World → Prop} (w : World) (hgd : o.guard = none) (x : Operand) (src dst e : TypeId)
    (ho : o.op = .convert src dst x) (hs : P.underlying src = some (.slice e)) (he : P.underlying e = some (.int .u8)) (hd : P.underlying dst = some .string) (p : Option Addr) (n c B : Nat) (l : List UInt8)
    (hx : a.eval x = .slice p n c) (hn : n = l.length) (hb : BAt w B p l)
    (h : ∀ s : ByteArray, Hid (s.data.toList = l) → wpList P ops Q rest (a.put o.dst (.string s)) w) :
    wpList P ops Q (o :: rest) a w := by
  refine wpList_plain hgd fun K hK => ?_
  have hrun : ∃ s : ByteArray, s.data.toList = l ∧ (convert src dst (.slice p n c)).run P w = .ok (.string s) w := by
    subst hn
    by_cases hl : l = []
    · subst hl
      cases p with
      | none => exact ⟨ByteArray.empty, rfl, run_convert_bytes_nil w src e hs he _ c dst hd⟩
      | some ad => exact ⟨_, rfl, run_convert_bytes_back (P := P) w src dst e ad c [] hs he hd (fun j hj => absurd hj (by simp))⟩
    · obtain ⟨b, o', rfl, _, hc⟩ := hb hl
      refine ⟨_, rfl, run_convert_bytes_back (P := P) w src dst e ⟨b, o', none⟩ c l hs he hd (fun j hj => ?_)⟩
      rw [Go.WideShapes.add_plain]
      exact hc j hj
  obtain ⟨s, hsl, hr⟩ := hrun
  unfold Oper.wp
  simp [execOp, ho, hx, hr, Result.andThen]
  exact hK _ _ (h s hsl)
end Go.Proofs.YtdlhjnihmkbagaaDoor
