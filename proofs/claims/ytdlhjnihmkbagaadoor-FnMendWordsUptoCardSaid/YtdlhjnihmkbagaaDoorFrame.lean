/- The frame of a law's row: a call that returns true and leaves old memory as it was meets the row's postcondition; how arguments are opened. Conditions: none. -/
import Derived.Test.YtdlhjnihmkbagaaDoorRows
import Derived.Test.YtdlhjnihmkbagaaDoorMem
import Derived.ProofKit
import Derived.OpenShut
import Derived.ShutString
import Derived.SizedLaws
import Derived.JoinedCond
import Derived.Deep.Slices
import Derived.Deep.Fields
import Derived.Deep.Strs
import Derived.Deep.CondSized
namespace Go.Proofs.YtdlhjnihmkbagaaDoor
open Go.ChangeShapes Go.WideShapes Go.ChangeAt Go.RowKit Go.Deep
open Go.ChangeMaps (open_string shut_string)

theorem own : ownKnob Tryd.prog.godebug = none := by kernel_rfl
theorem laidOut : laidOutB Tryd.prog = true := by kernel_rfl

section
variable {H : Type} {enc : TypeId × Value → H} {P : Program}

theorem trodAll_below (hl : laidOutB P = true) {W W' : World} (hb : Below W.heap.size W W') (sp : Nat → Bool) : ∀ {ts : List TypeId} {vs : List Value} {ds : List (DataW H)} {ps : List MemPlace},
    (∀ t ∈ ts, P.readableRec t = true ∧ t < P.types.size) → DataW.TrodAll enc P W 0 (fun _ => true) true ts vs ds ps → (∀ x ∈ ps, x.block < W.heap.size) → (∀ x ∈ ps, sp x.block = true) → DataW.TrodAll enc P W' 0 sp true ts vs ds ps
  | [], [], [], _, _, h, _, _ => h
  | t :: ts, v :: vs, d :: ds, ps, hr, h, hlt, hsp => by
    obtain ⟨p, q, h1, h2, rfl⟩ := h
    refine ⟨p, q, ?_, ?_, rfl⟩
    · exact WideElems.Trod_stays hl (hr t (by simp)).1 (hr t (by simp)).2 h1 (fun x hx => hb.same (hlt x (by simp [hx]))) (fun x hx => hsp x (by simp [hx]))
    · exact trodAll_below hl hb sp (fun t ht => hr t (by simp [ht])) h2 (fun x hx => hlt x (by simp [hx])) (fun x hx => hsp x (by simp [hx]))
  | [], _ :: _, _, _, _, h, _, _ => by simp [DataW.TrodAll] at h
  | [], [], _ :: _, _, _, h, _, _ => by simp [DataW.TrodAll] at h
  | _ :: _, [], _, _, _, h, _, _ => by simp [DataW.TrodAll] at h
  | _ :: _, _ :: _, [], _, _, h, _, _ => by simp [DataW.TrodAll] at h

theorem law_post {f : Func} {s : ChangeSpec} {apart fresh handsOn : Bool} {W W' : World} {args : Array Value} {ds : List (DataW H)} {before : List MemPlace} {tb : TypeId}
    (hl : laidOutB P = true) (hr : ∀ t ∈ f.params.toList, P.readableRec t = true ∧ t < P.types.size) (hres : f.resultTypes = #[tb]) (htb : P.underlying tb = some .bool) (hvars : s.vars = [])
    (hW : DataW.Whole enc P f.params.toList s.vars apart W args.toList ds [] before) (hfn : s.fn H (ds ++ []) = { results := [.lit (.bool true)], args := ds }) (hb : Below W.heap.size W W') :
    s.post enc P f apart fresh handsOn false W args (.bool true) W' := by
  have hlt : ∀ p ∈ before, p.block < W.heap.size := fun p hp => hW.lt p hp
  have hW0 := hW
  obtain ⟨p, q, hA, hV, rfl, _, _⟩ := hW0
  have hq : q = [] := by rw [hvars] at hV; exact (trodVars_none hV).2
  subst hq
  refine ⟨ds, [], p ++ [], [], p, [], hW, ?_, ?_, ?_, hb.frame _ |> World.keptBut_mono (fun x hx => ⟨hx, .inr (by simpa using hx)⟩), fun h => by cases h⟩
  · rw [hfn, hres]
    exact trodAll_cons_mk (shut_bool htb _) trodAll_mk0
  · rw [hfn]
    exact trodAll_below hl hb _ hr hA (fun x hx => hlt x (by simp [hx])) (fun x hx => by simpa using hlt x (by simp [hx]))
  · rw [hfn, hvars]; rfl

/-! Arguments, opened -/
theorem weights_at {ts : List TypeId} {ds : List (DataW H)} (h : (DataW.weightsEach P ts ds).all (· ≤ reachBytes) = true) {j : Nat} {t : TypeId} {d : DataW H} (ht : ts[j]? = some t) (hd : ds[j]? = some d) :
    ∀ n ∈ d.weights P t, n ≤ 140737488351232 := fun n hn => by
  have := List.all_eq_true.1 h n (DataW.weights_mem_each ht hd n hn)
  exact of_decide_eq_true this
theorem open_str {W : World} {base b0 : Nat} {sp : Nat → Bool} {held : Bool} {r : Reach} {t : TypeId} {v : Value} {d : DataW H} {ps : List MemPlace} (ht : P.underlying t = some .string) (hval : Value.okWide P W r b0 t v) (hd : DataW.Trod enc P W base sp held t v d ps)
    (hw : ∀ n ∈ d.weights P t, n ≤ 140737488351232) : ∃ s : ByteArray, v = .string s ∧ d = .lit (.string s.data.toList) ∧ ps = [] ∧ s.size ≤ 140737488351232 := by
  obtain ⟨s, rfl, rfl, rfl, _⟩ := open_string ht hval hd
  exact ⟨s, rfl, rfl, rfl, by rw [Lib.size_eq]; exact hw _ (by simp [DataW.weights])⟩
theorem open_int64 {W : World} {base b0 : Nat} {sp : Nat → Bool} {held : Bool} {r : Reach} {t : TypeId} {v : Value} {d : DataW H} {ps : List MemPlace} (ht : P.underlying t = some (.int .i64)) (hval : Value.okWide P W r b0 t v) (hd : DataW.Trod enc P W base sp held t v d ps) :
    ∃ n : Int, v = .int .i64 n ∧ d = .lit (.int .i64 n) ∧ ps = [] ∧ (-9223372036854775808 ≤ n ∧ n ≤ 9223372036854775807) := by
  obtain ⟨n, rfl, rfl, rfl, hw⟩ := open_int ht hval hd
  exact ⟨n, rfl, rfl, rfl, by simpa [Lit.wf, IntKind.min, IntKind.max, IntKind.signed, IntKind.bits] using hw⟩
end
end Go.Proofs.YtdlhjnihmkbagaaDoor
