/- The statement FnExactTokensSaid: for every input the law returns true and each argument reads as it did. Conditions: none. -/
import Derived.Test.YtfghbjjlkciopaaFrame
import Derived.Test.YtfghbjjlkciopaaExTok
namespace Go.Proofs.Ytfghbjjlkciopaa.fnExactTokens
open Go.ChangeShapes Go.WideShapes Go.ChangeAt Go.RowKit Go.Deep
open Go.ChangeMaps (open_string shut_string)
set_option linter.unusedVariables false

set_option maxRecDepth 100000 in
theorem lifted (os : Os) (started : os.Started) (H : Type) (enc : TypeId × Value → H) :
    ReturnsInHanded {} Try.checked os 3 .any (Rows.fnExactTokensSpec.pre6 enc Try.prog Try.f3 Rows.fnExactTokensRow.domain false) (Rows.fnExactTokensSpec.post enc Try.prog Try.f3 false true false false) := by
  refine returnsInHanded_of_change_sized (C := Try.checked) own started (by kernel_rfl) Try.func3
    (ChangeSpec.witness6 (enc := enc) (C := Try.checked) false ⟨#[], #[.string ByteArray.empty, .string ByteArray.empty], []⟩ 8 (by kernel_rfl) (by kernel_rfl) (by kernel_rfl) (by kernel_rfl)) ?_
  intro W base args ds gs before hval0 hW hcnd hwt _
  have hval : ∀ (j : Nat) t v, Try.f3.params[j]? = some t → args[j]? = some v → Value.okWide Try.prog W .any base t v := hval0
  have hW' := hW
  obtain ⟨p, q, hA0, hV, rfl, hfz, hnd⟩ := hW
  have hA : DataW.TrodAll enc Try.prog W 0 (fun _ => true) true Try.f3.params.toList args.toList ds p := hA0
  rw [Try.params3] at hA hval
  rw [Try.params3] at hwt
  obtain ⟨v0, vs0, d0, ds0, p0, q0, hargs, rfl, rfl, h0, r0⟩ := trodAll_cons hA
  obtain ⟨v1, vs1, d1, ds1, p1, q1, rfl, rfl, rfl, h1, r1⟩ := trodAll_cons r0
  obtain ⟨rfl, rfl, rfl⟩ := trodAll_nil r1
  obtain rfl : args = #[v0, v1] := by cases args; simp_all
  obtain ⟨rfl, rfl⟩ := trodVars_none hV
  have hlt := hW'.lt
  obtain ⟨a0, rfl, rfl, rfl, w0⟩ := open_str Try.underlying9 (hval 0 9 v0 rfl rfl) h0 (weights_at (j := 0) hwt rfl rfl)
  obtain ⟨a1, rfl, rfl, rfl, w1⟩ := open_str Try.underlying9 (hval 1 9 v1 rfl rfl) h1 (weights_at (j := 1) hwt rfl rfl)
  refine (fnExactTokens_walk a0 w0 a1 w1 W).mono fun e W' ⟨he, hb⟩ => ?_
  exact ⟨_, he, law_post (s := Rows.fnExactTokensSpec) (tb := 4) laidOut (by rw [Try.params3]; simp only [List.mem_cons, List.not_mem_nil, or_false]; rintro t (rfl | rfl) <;> exact ⟨by kernel_rfl, of_decide_eq_true (by kernel_rfl)⟩) rfl Try.underlying4 rfl hW' rfl hb⟩

theorem over : Rows.fnExactTokensRow.holds Try.pinned (OpenSpec.ofChange Rows.fnExactTokensSpec) :=
  OpenClaim.holds_of_wide 3 Try.f3 rfl rfl rfl rfl rfl rfl rfl ⟨rfl, rfl, rfl, rfl, rfl⟩ rfl rfl rfl rfl rfl (by kernel_rfl) Try.func3 (by kernel_rfl)
    (of_decide_eq_true (by kernel_rfl)) (by unfold Func.isWrapper; first | (rw [if_pos (by decide +kernel)]; kernel_rfl) | (rw [if_neg (by decide +kernel)]; exact ⟨rfl, rfl⟩))
    (fun os started H enc _ => lifted os started H enc)

theorem proved : Rows.FnExactTokensSaid :=
  over
#print axioms proved
end Go.Proofs.Ytfghbjjlkciopaa.fnExactTokens
