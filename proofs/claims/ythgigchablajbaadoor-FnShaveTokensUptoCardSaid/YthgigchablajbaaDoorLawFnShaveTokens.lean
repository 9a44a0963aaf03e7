/- The statement FnShaveTokensUptoSaid: for every input the law returns true and each argument reads as it did. Conditions: the bound of the row itself. -/
import Derived.Test.YthgigchablajbaaDoorFrame
import Derived.Test.YthgigchablajbaaDoorShaveTok
import Derived.Test.YthgigchablajbaaDoorFrameU
import Derived.Test.YthgigchablajbaaDoorTabsW
import Derived.Test.YthgigchablajbaaDoorCards
import Derived.Test.YthgigchablajbaaDoorTie
namespace Go.Proofs.YthgigchablajbaaDoor.fnShaveTokens
open Go.ChangeShapes Go.WideShapes Go.ChangeAt Go.RowKit Go.Deep
open Go.ChangeMaps (open_string shut_string)
set_option linter.unusedVariables false

theorem reads (os : Os) {H : Type} (enc : TypeId × Value → H) : ∃ places, DataW.whole enc Tryd.prog ((laidWorldW os).forCall (fun _ _ => 0) ⟨#[], #[Value.string ByteArray.empty, Value.string ByteArray.empty], []⟩).memory Tryd.f8.params.toList Rows.fnShaveTokensSpec.vars false #[Value.string ByteArray.empty, Value.string ByteArray.empty].toList 8 = some ([.lit (.string []), .lit (.string [])], [], places) :=
  ⟨[], by kernel_rfl⟩

set_option maxRecDepth 100000 in
theorem lifted (os : Os) (started : os.Started) (H : Type) (enc : TypeId × Value → H) (F : Stop.Interp) :
    ReturnsInHanded {} Tryd.checked os 8 .any ((Rows.OpenSpec.upto Rows.fnShaveTokensSpec).preRow enc Tryd.prog Tryd.f8 Rows.fnShaveTokensUptoRow.domain false Rows.fnShaveTokensUptoRow.laid) (((Rows.OpenSpec.upto Rows.fnShaveTokensSpec).at F).post enc Tryd.prog Tryd.f8 false true false false) := by
  obtain ⟨places, hx⟩ := reads os enc
  refine returnsInHanded_of_row (C := Tryd.checked) (s := Rows.OpenSpec.upto Rows.fnShaveTokensSpec) own started (by kernel_rfl) Tryd.func8
    (witness_row_atRef (enc := enc) (C := Tryd.checked) false (laidWorldW os) #[.string ByteArray.empty, .string ByteArray.empty] rfl (by kernel_rfl) (by kernel_rfl) (by kernel_rfl)
      (OpenSpec.preRow_of_cond 8 hx (by kernel_rfl) (fun k hk => by cases hk; kernel_rfl) (by kernel_rfl) (laid_metB os _))) ?_
  intro W base args ds gs before hval0 hW hcnd hcond hwt hL _ _
  have hT : TabsB W := tabsB_of_laid hL
  have hk0 := hcond _ rfl
  have hval : ∀ (j : Nat) t v, Tryd.f8.params[j]? = some t → args[j]? = some v → Value.okWide Tryd.prog W .any base t v := hval0
  have hW' := hW
  obtain ⟨p, q, hA0, hV, rfl, hfz, hnd⟩ := hW
  have hA : DataW.TrodAll enc Tryd.prog W 0 (fun _ => true) true Tryd.f8.params.toList args.toList ds p := hA0
  rw [Tryd.params8] at hA hval
  obtain ⟨v0, vs0, d0, ds0, p0, q0, hargs, rfl, rfl, h0, r0⟩ := trodAll_cons hA
  obtain ⟨v1, vs1, d1, ds1, p1, q1, rfl, rfl, rfl, h1, r1⟩ := trodAll_cons r0
  obtain ⟨rfl, rfl, rfl⟩ := trodAll_nil r1
  obtain rfl : args = #[v0, v1] := by cases args; simp_all
  obtain ⟨rfl, rfl⟩ := trodVars_none hV
  have hlt := hW'.lt
  have hk := bulk_le hk0
  obtain ⟨a0, rfl, rfl, rfl, w0⟩ := open_strU Tryd.underlying9 (hval 0 9 v0 rfl rfl) h0 (bulk_at (j := 0) hk rfl)
  obtain ⟨a1, rfl, rfl, rfl, w1⟩ := open_strU Tryd.underlying9 (hval 1 9 v1 rfl rfl) h1 (bulk_at (j := 1) hk rfl)
  refine (fnShaveTokens_walk a0 w0 a1 w1 W hT).mono fun e W' ⟨he, hb⟩ => ?_
  exact ⟨_, he, law_post (s := Rows.fnShaveTokensSpec) (tb := 4) laidOut (by rw [Tryd.params8]; simp only [List.mem_cons, List.not_mem_nil, or_false]; rintro t (rfl | rfl) <;> exact ⟨by kernel_rfl, of_decide_eq_true (by kernel_rfl)⟩) rfl Tryd.underlying4 rfl hW' rfl hb⟩

theorem over : Rows.fnShaveTokensUptoRow.holds Tryd.pinned (Rows.OpenSpec.upto Rows.fnShaveTokensSpec) :=
  OpenClaim.holds_of_cond 8 Tryd.f8 rfl rfl rfl rfl rfl rfl rfl ⟨rfl, rfl, rfl, rfl, rfl⟩ rfl rfl rfl rfl rfl (by kernel_rfl) Tryd.func8 (by kernel_rfl)
    (of_decide_eq_true (by kernel_rfl)) (by unfold Func.isWrapper; first | (rw [if_pos (by decide +kernel)]; kernel_rfl) | (rw [if_neg (by decide +kernel)]; exact ⟨rfl, rfl⟩))
    (fun os started H enc _ F => by rw [OpenClaim.pre_eq_preRow]; exact lifted os started H enc F)

theorem plain (f : FuncId) (fn : Func) (hf : Tryd.pinned.checked.prog.funcNamed "loop.example/lib-g01434/laws.FnShaveTokens" = some f) (hfn : Tryd.pinned.checked.prog.funcs[f]? = some fn) :
    false = Tryd.pinned.checked.prog.looks [] ∧ ∀ (j : Nat) t, fn.params[j]? = some t → Tryd.pinned.checked.prog.wantsStandIn t = false := by
  obtain rfl : f = 8 := Option.some.inj ((show Tryd.prog.funcNamed "loop.example/lib-g01434/laws.FnShaveTokens" = some 8 by kernel_rfl).symm.trans hf) |>.symm
  obtain rfl : fn = Tryd.f8 := (Option.some.inj (Tryd.func8.symm.trans hfn)).symm
  refine ⟨by kernel_rfl, fun j t ht => ?_⟩
  rw [Tryd.params8] at ht
  have hm := Array.mem_of_getElem? ht
  simp only [List.mem_toArray, List.mem_cons, List.not_mem_nil, or_false] at hm
  rcases hm with rfl | rfl
  · exact (show Tryd.prog.wantsStandIn 9 = false by kernel_rfl)
  · exact (show Tryd.prog.wantsStandIn 9 = false by kernel_rfl)

theorem proved : Rows.FnShaveTokensUptoCardSaid :=
  Claim7.holds_tied_plain_at .later [] _ _ _ _ over (fun _ h => by cases h) (by kernel_rfl) (fun _ h => by cases h) fnShaveTokensUpto_row_tie rfl ⟨rfl, rfl⟩ (by kernel_rfl) rfl plain (by kernel_rfl)
#print axioms proved
end Go.Proofs.YthgigchablajbaaDoor.fnShaveTokens
