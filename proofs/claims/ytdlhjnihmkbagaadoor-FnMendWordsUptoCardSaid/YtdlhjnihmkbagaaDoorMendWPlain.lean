/- Plain law: the words of what is mended with a blank are the parts between white space and bytes that are none. Conditions: none. -/
import Derived.Test.YtdlhjnihmkbagaaDoorWordsPlain
import Derived.Test.YtdlhjnihmkbagaaDoorMendPlain
import Derived.Test.YtdlhjnihmkbagaaDoorPartsPlain
import Derived.Lib.TrimAscii
namespace Go.Proofs.YtdlhjnihmkbagaaDoor
open Go Go.Lib

theorem pcs_blank (r : List UInt8) : pcs (32 :: r) = (32, [32]) :: pcs r := by
  rw [pcs_cons (by simp), decodeL_ascii 32 r (by decide)]
  rfl
/-- the pieces of what is mended with a blank -/
def mdP : Bool → List Pc → List Pc
  | _, [] => []
  | bad, q :: P => if badP q then (if bad then [] else [(32, [32])]) ++ mdP true P else q :: mdP false P
theorem md_pcs : ∀ (P : List Pc) (b : Bool), (∀ q ∈ P, pcs q.2 = [q]) → pcs (md [32] b P) = mdP b P
  | [], _, _ => rfl
  | q :: P, b, h => by
    have hP := fun b' => md_pcs P b' fun x hx => h x (by simp [hx])
    simp only [md, mdP]
    by_cases hb : badP q
    · simp only [hb, if_true]
      cases b
      · simp only [Bool.false_eq_true, if_false, List.singleton_append]
        rw [pcs_blank, hP]
      · simp only [if_true, List.nil_append]
        exact hP true
    · simp only [hb, if_false]
      have hq := h q (by simp)
      rw [pcs_append_good _ _ (fun x hx => by rw [hq, List.mem_singleton] at hx; rw [hx]; exact hb), hq, List.singleton_append, hP]
theorem pc_alone {P : List Pc} (h : Norm P) : ∀ q ∈ P, pcs q.2 = [q] := fun q hq => by
  obtain ⟨A, B, rfl⟩ := List.append_of_mem hq
  have h1 : Norm (q :: B) := h.right
  have h2 : Norm [q] := h1.left (P := [q]) (Q := B)
  unfold Norm at h2
  rwa [flat_cons, flat_nil, List.append_nil] at h2
theorem sg_md (p : Nat → Bool) : ∀ (P : List Pc) (b : Bool) (cur : List Pc), (b = true → cur = []) → (∀ q ∈ P, (badP q → p q.1 = true) ∧ (¬ badP q → p q.1 = isSpaceR q.1)) → sg isSpaceR (mdP b P) cur = sg p P cur
  | [], _, cur, _, _ => rfl
  | q :: P, b, cur, hc, h => by
    have hP := fun b' c hc' => sg_md p P b' c hc' fun x hx => h x (by simp [hx])
    obtain ⟨h1, h2⟩ := h q (by simp)
    by_cases hb : badP q
    · simp only [mdP, hb, if_true]
      cases b
      · simp only [Bool.false_eq_true, if_false, List.singleton_append]
        have e : isSpaceR 32 = true := by decide
        simp only [sg, e, h1 hb, if_true]
        rw [hP true [] (fun _ => rfl)]
      · obtain rfl := hc rfl
        simp only [if_true, List.nil_append, sg, h1 hb]
        exact hP true [] (fun _ => rfl)
    · simp only [mdP, hb, if_false, sg, h2 hb]
      by_cases hs : isSpaceR q.1 = true
      · simp only [hs, if_true]
        rw [hP false [] (fun e => by cases e)]
      · simp only [hs, if_false, Bool.false_eq_true]
        exact hP false _ (fun e => by cases e)
/-- no piece is U+FFFD itself -/
def NoFD (P : List Pc) : Prop := ∀ q ∈ P, q.1 = 65533 → badP q
theorem words_mended (x : List UInt8) (set : ByteArray) (hset : ∀ r, inSet set r = (isSpaceR r || r == 65533)) (h : NoFD (pcs x)) : wordsOf (mended [32] x) = cutBy set x := by
  unfold wordsOf mended cutBy segs
  rw [md_pcs _ _ (pc_alone (norm_pcs x))]
  congr 1
  refine sg_md _ _ _ _ (fun e => by cases e) fun q hq => ⟨fun hb => ?_, fun hb => ?_⟩
  · rw [hset, hb.1]; rfl
  · rw [hset]
    have : q.1 ≠ 65533 := fun e => hb (h q hq e)
    have e : (q.1 == 65533) = false := by rw [beq_eq_false_iff_ne]; exact this
    rw [e, Bool.or_false]
theorem NoFD.next {P : List Pc} {k : Nat} (h : NoFD (P.take k)) (hk : k < P.length) (h1 : P[k].1 = 65533 → badP P[k]) : NoFD (P.take (k + 1)) := fun q hq => by
  rw [List.take_succ_eq_append_getElem hk] at hq
  rcases List.mem_append.1 hq with h' | h'
  · exact h q h'
  · rw [List.mem_singleton] at h'; subst h'; exact h1
end Go.Proofs.YtdlhjnihmkbagaaDoor
