/- Words for appends in regions whose order is drawn. Conditions: none. -/
import Derived.Test.YtkglbkgbgajbkaaDoorRow2
import Derived.Deep.RegionHeld3
namespace Go.Proofs.YtkglbkgbgajbkaaDoor
open Go.RowKit

/-- a row onto a row of the call's own, as a step of a region whose order is drawn -/
theorem step_extend {P : Program} {ops : Array Oper} {o : Oper} {a : Act} {K : Act → World → Prop} {Q : Exit → Act → World → Prop} {E : Prop} (W : World) (hgd : o.guard = none) (s x : Operand) (t : TypeId)
    (ho : o.op = .call { callee := .builtin .append, args := #[s, x], argTypes := #[t, t] }) (base : Nat) (e : TypeId) (z : Value) (bytes : Nat) (ht : P.underlying t = some (.slice e))
    (hinf : (P.info? e).map (fun i => (i.zero, i.size, i.bytes)) = some (some z, 1, bytes)) (hzs : z.cells.size = 1)
    (v : Value) (xs : List Value) (ys : List Value) (A : Option Addr) (n c lo hi : Nat) (hs : a.eval s = v) (hx : a.eval x = .slice A n c) (hown : Own W base e v xs) (hn : n = ys.length) (hr : RowAt W lo hi A ys) (h1 : ∀ u ∈ ys, u.oneCell' = true) (hbytes : (xs.length + ys.length) * bytes ≤ 140737488355328) (hby : 0 < bytes) (hbase : base ≤ W.heap.size)
    (h : ∀ v' w', Own w' base e v' (xs ++ ys) → Below base W w' → W.grownBy w' v.ownBlock → K (a.put o.dst v') w') :
    if Region.wanted o (yielded ops a.tmps) = true then Oper.wp P o a W K Q else E := by
  have hw : Region.wanted o (yielded ops a.tmps) = true := by simp [Region.wanted, hgd]
  rw [if_pos hw]
  subst hn
  obtain ⟨v', w', hrun, h2, h3, _⟩ := run_extend (P := P) W t o.type e base z bytes ht hinf hzs v xs hown lo hi A c ys hr h1 hbytes hby hbase
  unfold Oper.wp execOp
  simp only [ho, resolve, invoke, builtin, Sem.run_bind, Sem.run_pure, Result.andThen_ok, List.map_toArray, List.map_cons, List.map_nil, hs, hx, hrun]
  exact h v' w' h2 ((Below.refl base W).grown h3 hbase (fun k hk => (World.ownsRow.lt hown k hk).1)) h3
theorem row_two (w : World) (x y : Value) (e : TypeId) : RowAt (w.alloc (.cells #[x, y] e)) 0 (w.heap.size + 1) (some ⟨w.heap.size, 0, none⟩) [x, y] := fun _ => by
  refine ⟨w.heap.size, 0, rfl, Nat.zero_le _, by omega, fun i hi => ?_⟩
  simp only [List.length_cons, List.length_nil] at hi
  rcases (by omega : i = 0 ∨ i = 1) with rfl | rfl <;> simp [World.cell?, World.alloc, -World.alloc_eq]
theorem Own.drew {w : World} {base : Nat} {e : TypeId} {v : Value} {xs : List Value} (h : Own w base e v xs) : Own w.drew base e v xs := h
end Go.Proofs.YtkglbkgbgajbkaaDoor
