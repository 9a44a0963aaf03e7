/- Plain law: parts of parts are the parts by all sets together; their order, and how often each is taken, is nothing to them. Conditions: none. -/
import Derived.Test.YthgigchablajbaaDoorPartsPlain
import Derived.Test.YthgigchablajbaaDoorPieces
import Derived.Test.YthgigchablajbaaDoorJoinPlain
namespace Go.Proofs.YthgigchablajbaaDoor
open Go Go.Lib

theorem segs_congr {p q : Nat → Bool} {P : List Pc} (h : ∀ x ∈ P, p x.1 = q x.1) : segs p P = segs q P := by
  have : ∀ (P cur : List Pc), (∀ x ∈ P, p x.1 = q x.1) → sg p P cur = sg q P cur := by
    intro P
    induction P with
    | nil => intro cur _; rfl
    | cons x P ih =>
      intro cur h
      simp only [sg]
      rw [h x (by simp), ih [] (fun y hy => h y (by simp [hy])), ih (cur ++ [x]) (fun y hy => h y (by simp [hy]))]
  exact this P [] h
theorem segs_segs (p q : Nat → Bool) (P : List Pc) : (segs p P).flatMap (segs q) = segs (fun x => p x || q x) P := by
  induction P using segs_ind p with
  | h0 P h =>
    rw [segs_none p h]
    have e : segs (fun x => p x || q x) P = segs q P := segs_congr fun x hx => by simp [h x hx]
    rw [e]
    by_cases hP : P = []
    · subst hP; rfl
    · rw [if_neg hP]; simp
  | h1 A x B hx hA hB =>
    rw [segs_split p hx, segs_split (fun y => p y || q y) (by simp [hx]), List.flatMap_append, hA, hB]
/-- parts of parts, of pieces -/
def psegs (ps : List (Nat → Bool)) (P : List Pc) : List (List Pc) := ps.foldl (fun l p => l.flatMap (segs p)) [P]
theorem psegs_snoc (ps : List (Nat → Bool)) (p : Nat → Bool) (P : List Pc) : psegs (ps ++ [p]) P = (psegs ps P).flatMap (segs p) := by simp [psegs]
theorem psegs_any (ps : List (Nat → Bool)) (P : List Pc) (h : ps ≠ []) : psegs ps P = segs (fun x => ps.any fun p => p x) P := by
  induction ps using snoc_ind with
  | h0 => exact absurd rfl h
  | h1 ps p ih =>
    rw [psegs_snoc]
    by_cases hps : ps = []
    · subst hps
      simp [psegs]
    · rw [ih hps, segs_segs]
      exact segs_congr fun x _ => by simp
theorem partsOf_psegs (sets : List ByteArray) (P : List Pc) (hN : Norm P) : partsOf sets (flat P) = (psegs (sets.map inSet) P).map flat ∧ ∀ T ∈ psegs (sets.map inSet) P, Norm T := by
  induction sets using snoc_ind with
  | h0 => exact ⟨rfl, fun T hT => by simp [psegs] at hT; subst hT; exact hN⟩
  | h1 sets set ih =>
    rw [partsOf_snoc, ih.1, List.map_append, List.map_singleton, psegs_snoc]
    constructor
    · unfold partStep
      rw [List.flatMap_map, List.map_flatMap]
      have : ∀ l : List (List Pc), (∀ T ∈ l, Norm T) → (l.flatMap fun T => cutBy set (flat T)) = l.flatMap fun T => (segs (inSet set) T).map flat := by
        intro l
        induction l with
        | nil => intro _; rfl
        | cons T l ih2 =>
          intro h
          simp only [List.flatMap_cons]
          rw [ih2 fun T hT => h T (by simp [hT])]
          have hT : Norm T := h T (by simp)
          unfold Norm at hT
          unfold cutBy
          rw [hT]
      exact this _ ih.2
    · intro T hT
      obtain ⟨U, hU, hT⟩ := List.mem_flatMap.1 hT
      exact norm_seg (ih.2 U hU) hT
theorem partsOf_eq (sets : List ByteArray) (x : List UInt8) (h : sets ≠ []) : partsOf sets x = (segs (fun y => sets.any fun set => inSet set y) (pcs x)).map flat := by
  have := (partsOf_psegs sets (pcs x) (norm_pcs x)).1
  rw [flat_pcs] at this
  rw [this, psegs_any _ _ (by simpa using h)]
  congr 1
  exact segs_congr fun y _ => by rw [List.any_map]; rfl
/-- the order of the sets, and how often each of them is taken, is nothing -/
theorem partsOf_same {a b : List ByteArray} (h : ∀ set, set ∈ a ↔ set ∈ b) (x : List UInt8) : partsOf a x = partsOf b x := by
  by_cases ha : a = []
  · subst ha
    have hb : b = [] := by
      cases b with
      | nil => rfl
      | cons y r => exact absurd ((h y).2 (by simp)) (by simp)
    rw [hb]
  · have hb : b ≠ [] := by
      rintro rfl
      cases a with
      | nil => exact ha rfl
      | cons y r => exact absurd ((h y).1 (by simp)) (by simp)
    rw [partsOf_eq a x ha, partsOf_eq b x hb]
    congr 1
    refine segs_congr fun y _ => ?_
    rw [Bool.eq_iff_iff, List.any_eq_true, List.any_eq_true]
    exact ⟨fun ⟨s, h1, h2⟩ => ⟨s, (h s).1 h1, h2⟩, fun ⟨s, h1, h2⟩ => ⟨s, (h s).2 h1, h2⟩⟩
/-- well-formed sets, put together -/
theorem inSet_concat (L : List (List UInt8)) (h : ∀ x ∈ L, ∀ q ∈ pcs x, ¬ badP q) (y : Nat) : inSet (txt L.flatten) y = L.any fun x => inSet (txt x) y := by
  induction L with
  | nil => rfl
  | cons x L ih =>
    have e : pcs (x ++ L.flatten) = pcs x ++ pcs L.flatten := pcs_append_good _ _ (h x (by simp))
    have ih' := ih fun z hz => h z (by simp [hz])
    rw [List.any_cons, ← ih', List.flatten_cons]
    show (pcs (x ++ L.flatten)).any _ = ((pcs x).any _ || (pcs L.flatten).any _)
    rw [e, List.any_append]
theorem partsOf_union (L : List (List UInt8)) (h : ∀ x ∈ L, ∀ q ∈ pcs x, ¬ badP q) (hne : L ≠ []) (x : List UInt8) : partsOf [txt L.flatten] x = partsOf (L.map txt) x := by
  rw [partsOf_eq _ _ (by simp), partsOf_eq _ _ (by simpa using hne)]
  congr 1
  refine segs_congr fun y _ => ?_
  rw [List.any_map]
  simp only [List.any_cons, List.any_nil, Bool.or_false]
  exact inSet_concat L h y.1
theorem partsOf_one (set : ByteArray) (x : List UInt8) : partsOf [set] x = cutBy set x := by simp [partsOf, partStep]
theorem twice_mem (L : List (List UInt8)) (set : ByteArray) : set ∈ (L.reverse.flatMap fun x => [x, x]).map txt ↔ set ∈ L.map txt := by
  simp only [List.mem_map, List.mem_flatMap, List.mem_reverse, List.mem_cons, List.not_mem_nil, or_false, or_self]
  exact ⟨fun ⟨a, ⟨b, h1, h2⟩, h3⟩ => ⟨b, h1, by rw [← h2]; exact h3⟩, fun ⟨b, h1, h3⟩ => ⟨b, ⟨b, h1, rfl⟩, h3⟩⟩
end Go.Proofs.YthgigchablajbaaDoor
