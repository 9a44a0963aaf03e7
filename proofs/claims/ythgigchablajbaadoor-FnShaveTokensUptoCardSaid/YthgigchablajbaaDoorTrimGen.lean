/- bytes.makeASCIISet, and bytes.Trim, TrimLeft, TrimRight at a set that is not one byte of ASCII, over any program that holds their bodies: what they call, and with what. Conditions: a set of at most 2 to the 47 bytes. -/
import Derived.Test.YthgigchablajbaaDoorEndSteps
import Derived.Shelf.Bytes.SlTrimWalks
import Derived.Shelf.Strings.IndexAnyAll
import Derived.Deep.QuietTactic
namespace Go.Proofs.YthgigchablajbaaDoor
open Go.Shelf Go.RowKit
set_option linter.unusedVariables false
set_option linter.unusedSimpArgs false
variable {P : Program} {ρ : Ren}

theorem asciiB_take {l : List UInt8} {i : Nat} {x : UInt8} (hx : l[i]? = some x) (h : ¬ x.toNat < 128) : asciiB l = false := by
  rw [Bool.eq_false_iff]
  intro e
  have := List.all_eq_true.1 e x (List.mem_of_getElem? hx)
  simp only [decide_eq_true_eq] at this
  exact h this
theorem asciiB_next {l : List UInt8} {i : Nat} {x : UInt8} (hx : l[i]? = some x) (h : x.toNat < 128) (ha : asciiB (l.take i) = true) : asciiB (l.take (i + 1)) = true := by
  rw [List.take_add_one, hx]
  simp only [Option.toList, asciiB, List.all_append, List.all_cons, List.all_nil, Bool.and_true, Bool.and_eq_true, decide_eq_true_eq]
  exact ⟨ha, h⟩
def SetPost (chars : ByteArray) (w : World) (e : Ending) (w' : World) : Prop :=
  ∃ l, e = .returned (.tuple #[.agg (Lib.setCells l), .bool (asciiB chars.data.toList)]) ∧ Below w.heap.size w w' ∧ Hid (asciiB chars.data.toList = true → l = chars.data.toList)

set_option maxHeartbeats 4000000 in
set_option maxRecDepth 1000000 in
theorem gMakeSet (L : SlLaysV.n11 P ρ) (hv27 : ∀ w, (zeroValue (ρ.t 27)).run P w = .ok (.agg (Array.replicate 256 (.bool false))) w) (hi27 : (P.info? (ρ.t 27)).map (·.size) = some 256) (chars : ByteArray) (w : World) (hs : chars.size ≤ 140737488355328) :
    Calls P (ρ.f 11) #[.string chars] w (SetPost chars w) := by
  have t3 := L.t3; have a3 := L.a3; have z3 := L.z3; have v3 := L.v3
  have t4 := L.t4; have a4 := L.a4; have z4 := L.z4; have v4 := L.v4
  have t5 := L.t5; have a5 := L.a5; have z5 := L.z5; have v5 := L.v5
  have t9 := L.t9; have a9 := L.a9; have z9 := L.z9; have v9 := L.v9
  have t27 := L.t27
  go_enter L.f11, SlBodyV.n11_ntmps ρ
  go_wp2
  rw [← Lib.setCells_nil]
  go_loopg [4] chars.size (fun g s4 wx => ∃ i : Nat, i + g = chars.size ∧ s4 = .int .i64 i ∧ Hid (asciiB (chars.data.toList.take i) = true) ∧ wx = w.alloc (.cells (Lib.setCells (chars.data.toList.take i)) (ρ.t 27)))
  case atStart => exact ⟨0, by omega, rfl, rfl, rfl⟩
  case round =>
    obtain ⟨i, hig, rfl, hasc, rfl⟩ := hrel
    have hB : Below w.heap.size w (w.alloc (.cells (Lib.setCells (chars.data.toList.take i)) (ρ.t 27))) := (Below.refl _ _).alloc (Nat.le_refl _) _
    have HB := Lib.hid hB; clear hB
    cases gk with
    | zero =>
      obtain rfl : i = chars.size := by omega
      have hiz : ¬ ((chars.size : Int) < (chars.size : Int)) := by omega
      have htk : chars.data.toList.take chars.size = chars.data.toList := List.take_of_length_le (by rw [← Lib.size_eq]; exact Nat.le_refl _)
      rw [htk] at hasc HB ⊢
      have hld := run_loadVar_new (P := P) w (ρ.t 27) (Lib.setCells chars.data.toList) 256 (ρ.t 4) L.t27 (by rw [Lib.setCells_size]; exact hi27)
      have hsz := Lib.setCells_size chars.data.toList
      have hlc := run_loadCellsFrom_new (P := P) w (ρ.t 27) (Lib.setCells chars.data.toList) 256 hsz
      have hsc := run_storeCells_new (P := P) w (ρ.t 27) (Lib.setCells chars.data.toList) (Lib.setCells chars.data.toList) (by rw [hsz]; exact hi27) rfl (Lib.setCells_one _)
      go_wp2
      simp only [L.a27, L.z27, Result.andThen, ↓reduceIte, hlc]
      rw [Oper.upon_value]
      go_wp2
      simp only [L.z27, Result.andThen, ↓reduceIte, hsc, hsz]
      rw [Oper.upon_skip]
      go_wp2
      (try simp only [Exit.inBlock, Exit.then])
      refine bodyPost_ret (v := .tuple #[.agg (Lib.setCells chars.data.toList), .bool true]) ?_ rfl ⟨_, by rw [hasc.out], HB.out, fun _ => rfl⟩
      rw [results_cell_tmp rfl]
      simp [asAddr, Result.andThen, hld]
    | succ g =>
      have hi : i < chars.size := by omega
      have hiz : (i : Int) < (chars.size : Int) := by omega
      obtain ⟨x, hx⟩ : ∃ x : UInt8, chars[i]'hi = x := ⟨_, rfl⟩
      have hxl : chars.data.toList[i]? = some x := by rw [← hx]; exact Lib.data_getElem? chars i hi
      have Hx := Lib.hid hxl; clear hxl
      have hx8 : x.toNat < 256 := x.toNat_lt
      by_cases hx128 : x.toNat < 128
      · have hx0 : ¬ ((128 : Int) ≤ (x.toNat : Int)) := by omega
        have hx256 : (x.toNat : Int) < 256 := by omega
        have hcell := Lib.setCells_at (chars.data.toList.take i) x
        go_wp2
        go_roundg g
        case measure => omega
        case rel => exact ⟨i + 1, by omega, by first | rfl | simp, asciiB_next Hx.out hx128 hasc.out, by rw [List.take_add_one, Hx.out]; simp only [Option.toList]; rw [Lib.setCells_snoc]⟩
      · have hx0 : (128 : Int) ≤ (x.toNat : Int) := by omega
        have hno := Lib.hid (asciiB_take Hx.out hx128)
        obtain ⟨tl, htl⟩ : ∃ tl, tl = chars.data.toList.take i := ⟨_, rfl⟩
        rw [← htl] at HB ⊢
        have hld := run_loadVar_new (P := P) w (ρ.t 27) (Lib.setCells tl) 256 (ρ.t 4) L.t27 (by rw [Lib.setCells_size]; exact hi27)
        have hsz := Lib.setCells_size tl
        have hlc := run_loadCellsFrom_new (P := P) w (ρ.t 27) (Lib.setCells tl) 256 hsz
        have hsc := run_storeCells_new (P := P) w (ρ.t 27) (Lib.setCells tl) (Lib.setCells tl) (by rw [hsz]; exact hi27) rfl (Lib.setCells_one _)
        clear htl
        go_wp2
        simp only [L.a27, L.z27, Result.andThen, ↓reduceIte, hlc]
        rw [Oper.upon_value]
        go_wp2
        simp only [L.z27, Result.andThen, ↓reduceIte, hsc, hsz]
        rw [Oper.upon_skip]
        go_wp2
        (try simp only [Exit.inBlock, Exit.then])
        refine bodyPost_ret (v := .tuple #[.agg (Lib.setCells tl), .bool false]) ?_ rfl ⟨_, by rw [hno.out], HB.out, fun e => by rw [hno.out] at e; cases e⟩
        rw [results_cell_tmp rfl]
        simp [asAddr, Result.andThen, hld]

/-- what a call hands back: a value with a property, old memory as it was -/
def Gives (G : Value → World → Prop) (w : World) (e : Ending) (w' : World) : Prop := ∃ v, e = .returned v ∧ G v w' ∧ Below w.heap.size w w'
/-- a set lies at a block -/
def SetAt (l : List UInt8) (W : World) (b : Nat) : Prop := ∀ x : UInt8, W.cell? ⟨b, x.toNat, none⟩ = some (.bool (l.contains x))

set_option maxHeartbeats 8000000 in
set_option maxRecDepth 1000000 in
theorem gTrimRight (L : SlLaysV.n7 P ρ) (hv27 : ∀ w, (zeroValue (ρ.t 27)).run P w = .ok (.agg (Array.replicate 256 (.bool false))) w) (hi27 : (P.info? (ρ.t 27)).map (·.size) = some 256) (p : Option Addr) (n c : Nat) (set : ByteArray) (w : World) (G : Value → World → Prop)
    (h0 : 0 < n) (h2 : 2 ≤ set.size ∨ ∃ x : UInt8, set = ⟨#[x]⟩ ∧ 128 ≤ x.toNat)
    (hM : Calls P (ρ.f 11) #[.string set] w (SetPost set w))
    (hA : ∀ (W : World) (b : Nat), Below w.heap.size w W → SetAt set.data.toList W b → asciiB set.data.toList = true → Calls P (ρ.f 13) #[.slice p n c, .pointer (some ⟨b, 0, none⟩)] W (Gives G W))
    (hU : ∀ W : World, Below w.heap.size w W → Calls P (ρ.f 15) #[.slice p n c, .string set] W (Gives G W)) :
    Calls P (ρ.f 7) #[.slice p n c, .string set] w (Gives G w) := by
  have hemp : set.toList.isEmpty = false := by
    rw [Lib.toList_data]
    cases h : set.data.toList with
    | nil =>
      have := Lib.size_eq set
      rw [h, List.length_nil] at this
      rcases h2 with h2 | ⟨x, rfl, _⟩
      · omega
      · cases h
    | cons _ _ => rfl
  have hn0 : ((n : Int) == 0) = false := beq_eq_false_iff_ne.2 (by omega)
  have HA := Lib.hid hA; have HU := Lib.hid hU; clear hA hU
  have mixed := L.mixed
  have t0 := L.t0; have a0 := L.a0; have z0 := L.z0; have v0 := L.v0; have u0 := run_underlying L.t0
  have t3 := L.t3; have a3 := L.a3; have z3 := L.z3; have v3 := L.v3; have u3 := run_underlying L.t3
  have t4 := L.t4; have a4 := L.a4; have z4 := L.z4; have v4 := L.v4; have u4 := run_underlying L.t4
  have t5 := L.t5; have a5 := L.a5; have z5 := L.z5; have v5 := L.v5; have u5 := run_underlying L.t5
  have t9 := L.t9; have a9 := L.a9; have z9 := L.z9; have v9 := L.v9; have u9 := run_underlying L.t9
  have t21 := L.t21; have a21 := L.a21; have z21 := L.z21; have v21 := L.v21; have u21 := run_underlying L.t21
  have t22 := L.t22; have a22 := L.a22; have z22 := L.z22; have v22 := L.v22; have u22 := run_underlying L.t22
  have t31 := L.t31; have a31 := L.a31; have z31 := L.z31; have v31 := L.v31; have u31 := run_underlying L.t31
  have t27 := L.t27; have u27 := run_underlying L.t27
  have e11 : ∀ args w, (callFunc (ρ.f 11) args).run P w = .ok (.enter (ρ.f 11) args) w := enters_of L.f11 (by kernel_rfl) rfl
  have e13 : ∀ args w, (callFunc (ρ.f 13) args).run P w = .ok (.enter (ρ.f 13) args) w := enters_of L.f13 (by kernel_rfl) rfl
  have e15 : ∀ args w, (callFunc (ρ.f 15) args).run P w = .ok (.enter (ρ.f 15) args) w := enters_of L.f15 (by kernel_rfl) rfl
  cases hab : asciiB set.data.toList with
  | true =>
    have Hab := Lib.hid hab
    rcases h2 with h2 | ⟨x, rfl, hx⟩
    · have hn1 : ((set.size : Int) == 1) = false := beq_eq_false_iff_ne.2 (by omega)
      unfold SetPost at hM
      rw [hab] at hM
      clear hab
      go_enter L.f7, SlBodyV.n7_ntmps ρ
      go_wp2_with (go_at_fn (ρ.f 11); refine hM.mono ?_; rintro e w1 ⟨l, rfl, hb1, hl⟩)
      obtain rfl := hl.out (by first | trivial | rfl)
      have hsz := Lib.setCells_size set.data.toList
      have hsc : (storeCells ⟨w1.heap.size, 0, none⟩ (Lib.setCells set.data.toList).toList 0).run P (w1.alloc (.cells (Array.replicate 256 (.bool false)) (ρ.t 27))) = .ok () (w1.alloc (.cells (Lib.setCells set.data.toList) (ρ.t 27))) := by
        have := run_storeCells_new (P := P) w1 (ρ.t 27) (Array.replicate 256 (.bool false)) (Lib.setCells set.data.toList) (by rw [Lib.setCells_size]; exact hi27) (by rw [Lib.setCells_size, Array.size_replicate]) (Lib.setCells_one _)
        simpa using this
      simp only [L.z27, Result.andThen, ↓reduceIte, hsc, hsz]
      rw [Oper.upon_skip]
      have hB2 : Below w.heap.size w (w1.alloc (.cells (Lib.setCells set.data.toList) (ρ.t 27))) := hb1.alloc hb1.size _
      have hT := HA.out _ w1.heap.size hB2 (fun x => by rw [World.cell?_alloc_at _ _ _ _ rfl, Lib.setCells_at]) Hab.out
      clear hM hsc
      go_wp2_with (go_at_fn (ρ.f 13); refine hT.mono ?_; rintro e w2 ⟨v, rfl, hv, hb2⟩)
      go_ret
      exact ⟨v, rfl, hv, hB2.trans (hb2.mono hB2.size)⟩
    · simp only [asciiB, List.all_cons, List.all_nil, Bool.and_true, decide_eq_true_eq] at hab
      omega
  | false =>
    unfold SetPost at hM
    rw [hab] at hM
    clear hab
    rcases h2 with h2 | ⟨x, rfl, hx⟩
    · have hn1 : ((set.size : Int) == 1) = false := beq_eq_false_iff_ne.2 (by omega)
      go_enter L.f7, SlBodyV.n7_ntmps ρ
      go_wp2_with (go_at_fn (ρ.f 11); refine hM.mono ?_; rintro e w1 ⟨l, rfl, hb1, hl⟩)
      have hsz := Lib.setCells_size l
      have hsc : (storeCells ⟨w1.heap.size, 0, none⟩ (Lib.setCells l).toList 0).run P (w1.alloc (.cells (Array.replicate 256 (.bool false)) (ρ.t 27))) = .ok () (w1.alloc (.cells (Lib.setCells l) (ρ.t 27))) := by
        have := run_storeCells_new (P := P) w1 (ρ.t 27) (Array.replicate 256 (.bool false)) (Lib.setCells l) (by rw [Lib.setCells_size]; exact hi27) (by rw [Lib.setCells_size, Array.size_replicate]) (Lib.setCells_one _)
        simpa using this
      simp only [L.z27, Result.andThen, ↓reduceIte, hsc, hsz]
      rw [Oper.upon_skip]
      have hB2 : Below w.heap.size w (w1.alloc (.cells (Lib.setCells l) (ρ.t 27))) := hb1.alloc hb1.size _
      have hT := HU.out _ hB2
      clear hM hsc
      go_wp2_with (go_at_fn (ρ.f 15); refine hT.mono ?_; rintro e w2 ⟨v, rfl, hv, hb2⟩)
      go_ret
      exact ⟨v, rfl, hv, hB2.trans (hb2.mono hB2.size)⟩
    · have hx0 : ¬ ((x.toNat : Int) < 128) := by omega
      have hg0 : ((⟨#[x]⟩ : ByteArray)[0]'Nat.zero_lt_one) = x := rfl
      go_enter L.f7, SlBodyV.n7_ntmps ρ
      go_wp2_with (go_at_fn (ρ.f 11); refine hM.mono ?_; rintro e w1 ⟨l, rfl, hb1, hl⟩)
      have hsz := Lib.setCells_size l
      have hsc : (storeCells ⟨w1.heap.size, 0, none⟩ (Lib.setCells l).toList 0).run P (w1.alloc (.cells (Array.replicate 256 (.bool false)) (ρ.t 27))) = .ok () (w1.alloc (.cells (Lib.setCells l) (ρ.t 27))) := by
        have := run_storeCells_new (P := P) w1 (ρ.t 27) (Array.replicate 256 (.bool false)) (Lib.setCells l) (by rw [Lib.setCells_size]; exact hi27) (by rw [Lib.setCells_size, Array.size_replicate]) (Lib.setCells_one _)
        simpa using this
      simp only [L.z27, Result.andThen, ↓reduceIte, hsc, hsz]
      rw [Oper.upon_skip]
      have hB2 : Below w.heap.size w (w1.alloc (.cells (Lib.setCells l) (ρ.t 27))) := hb1.alloc hb1.size _
      have hT := HU.out _ hB2
      clear hM hsc
      go_wp2_with (go_at_fn (ρ.f 15); refine hT.mono ?_; rintro e w2 ⟨v, rfl, hv, hb2⟩)
      go_ret
      exact ⟨v, rfl, hv, hB2.trans (hb2.mono hB2.size)⟩

set_option maxHeartbeats 8000000 in
set_option maxRecDepth 1000000 in
theorem gTrimLeft (L : SlLaysV.n8 P ρ) (hv27 : ∀ w, (zeroValue (ρ.t 27)).run P w = .ok (.agg (Array.replicate 256 (.bool false))) w) (hi27 : (P.info? (ρ.t 27)).map (·.size) = some 256) (p : Option Addr) (n c : Nat) (set : ByteArray) (w : World) (G : Value → World → Prop)
    (h0 : 0 < n) (h2 : 2 ≤ set.size ∨ ∃ x : UInt8, set = ⟨#[x]⟩ ∧ 128 ≤ x.toNat)
    (hM : Calls P (ρ.f 11) #[.string set] w (SetPost set w))
    (hA : ∀ (W : World) (b : Nat), Below w.heap.size w W → SetAt set.data.toList W b → asciiB set.data.toList = true → Calls P (ρ.f 12) #[.slice p n c, .pointer (some ⟨b, 0, none⟩)] W (Gives G W))
    (hU : ∀ W : World, Below w.heap.size w W → Calls P (ρ.f 14) #[.slice p n c, .string set] W (Gives G W)) :
    Calls P (ρ.f 8) #[.slice p n c, .string set] w (Gives G w) := by
  have hemp : set.toList.isEmpty = false := by
    rw [Lib.toList_data]
    cases h : set.data.toList with
    | nil =>
      have := Lib.size_eq set
      rw [h, List.length_nil] at this
      rcases h2 with h2 | ⟨x, rfl, _⟩
      · omega
      · cases h
    | cons _ _ => rfl
  have hn0 : ((n : Int) == 0) = false := beq_eq_false_iff_ne.2 (by omega)
  have HA := Lib.hid hA; have HU := Lib.hid hU; clear hA hU
  have mixed := L.mixed
  have t0 := L.t0; have a0 := L.a0; have z0 := L.z0; have v0 := L.v0; have u0 := run_underlying L.t0
  have t3 := L.t3; have a3 := L.a3; have z3 := L.z3; have v3 := L.v3; have u3 := run_underlying L.t3
  have t4 := L.t4; have a4 := L.a4; have z4 := L.z4; have v4 := L.v4; have u4 := run_underlying L.t4
  have t5 := L.t5; have a5 := L.a5; have z5 := L.z5; have v5 := L.v5; have u5 := run_underlying L.t5
  have t9 := L.t9; have a9 := L.a9; have z9 := L.z9; have v9 := L.v9; have u9 := run_underlying L.t9
  have t21 := L.t21; have a21 := L.a21; have z21 := L.z21; have v21 := L.v21; have u21 := run_underlying L.t21
  have t22 := L.t22; have a22 := L.a22; have z22 := L.z22; have v22 := L.v22; have u22 := run_underlying L.t22
  have t31 := L.t31; have a31 := L.a31; have z31 := L.z31; have v31 := L.v31; have u31 := run_underlying L.t31
  have t27 := L.t27; have u27 := run_underlying L.t27
  have e11 : ∀ args w, (callFunc (ρ.f 11) args).run P w = .ok (.enter (ρ.f 11) args) w := enters_of L.f11 (by kernel_rfl) rfl
  have e12 : ∀ args w, (callFunc (ρ.f 12) args).run P w = .ok (.enter (ρ.f 12) args) w := enters_of L.f12 (by kernel_rfl) rfl
  have e14 : ∀ args w, (callFunc (ρ.f 14) args).run P w = .ok (.enter (ρ.f 14) args) w := enters_of L.f14 (by kernel_rfl) rfl
  cases hab : asciiB set.data.toList with
  | true =>
    have Hab := Lib.hid hab
    rcases h2 with h2 | ⟨x, rfl, hx⟩
    · have hn1 : ((set.size : Int) == 1) = false := beq_eq_false_iff_ne.2 (by omega)
      unfold SetPost at hM
      rw [hab] at hM
      clear hab
      go_enter L.f8, SlBodyV.n8_ntmps ρ
      go_wp2_with (go_at_fn (ρ.f 11); refine hM.mono ?_; rintro e w1 ⟨l, rfl, hb1, hl⟩)
      obtain rfl := hl.out (by first | trivial | rfl)
      have hsz := Lib.setCells_size set.data.toList
      have hsc : (storeCells ⟨w1.heap.size, 0, none⟩ (Lib.setCells set.data.toList).toList 0).run P (w1.alloc (.cells (Array.replicate 256 (.bool false)) (ρ.t 27))) = .ok () (w1.alloc (.cells (Lib.setCells set.data.toList) (ρ.t 27))) := by
        have := run_storeCells_new (P := P) w1 (ρ.t 27) (Array.replicate 256 (.bool false)) (Lib.setCells set.data.toList) (by rw [Lib.setCells_size]; exact hi27) (by rw [Lib.setCells_size, Array.size_replicate]) (Lib.setCells_one _)
        simpa using this
      simp only [L.z27, Result.andThen, ↓reduceIte, hsc, hsz]
      rw [Oper.upon_skip]
      have hB2 : Below w.heap.size w (w1.alloc (.cells (Lib.setCells set.data.toList) (ρ.t 27))) := hb1.alloc hb1.size _
      have hT := HA.out _ w1.heap.size hB2 (fun x => by rw [World.cell?_alloc_at _ _ _ _ rfl, Lib.setCells_at]) Hab.out
      clear hM hsc
      go_wp2_with (go_at_fn (ρ.f 12); refine hT.mono ?_; rintro e w2 ⟨v, rfl, hv, hb2⟩)
      go_ret
      exact ⟨v, rfl, hv, hB2.trans (hb2.mono hB2.size)⟩
    · simp only [asciiB, List.all_cons, List.all_nil, Bool.and_true, decide_eq_true_eq] at hab
      omega
  | false =>
    unfold SetPost at hM
    rw [hab] at hM
    clear hab
    rcases h2 with h2 | ⟨x, rfl, hx⟩
    · have hn1 : ((set.size : Int) == 1) = false := beq_eq_false_iff_ne.2 (by omega)
      go_enter L.f8, SlBodyV.n8_ntmps ρ
      go_wp2_with (go_at_fn (ρ.f 11); refine hM.mono ?_; rintro e w1 ⟨l, rfl, hb1, hl⟩)
      have hsz := Lib.setCells_size l
      have hsc : (storeCells ⟨w1.heap.size, 0, none⟩ (Lib.setCells l).toList 0).run P (w1.alloc (.cells (Array.replicate 256 (.bool false)) (ρ.t 27))) = .ok () (w1.alloc (.cells (Lib.setCells l) (ρ.t 27))) := by
        have := run_storeCells_new (P := P) w1 (ρ.t 27) (Array.replicate 256 (.bool false)) (Lib.setCells l) (by rw [Lib.setCells_size]; exact hi27) (by rw [Lib.setCells_size, Array.size_replicate]) (Lib.setCells_one _)
        simpa using this
      simp only [L.z27, Result.andThen, ↓reduceIte, hsc, hsz]
      rw [Oper.upon_skip]
      have hB2 : Below w.heap.size w (w1.alloc (.cells (Lib.setCells l) (ρ.t 27))) := hb1.alloc hb1.size _
      have hT := HU.out _ hB2
      clear hM hsc
      go_wp2_with (go_at_fn (ρ.f 14); refine hT.mono ?_; rintro e w2 ⟨v, rfl, hv, hb2⟩)
      go_ret
      exact ⟨v, rfl, hv, hB2.trans (hb2.mono hB2.size)⟩
    · have hx0 : ¬ ((x.toNat : Int) < 128) := by omega
      have hg0 : ((⟨#[x]⟩ : ByteArray)[0]'Nat.zero_lt_one) = x := rfl
      go_enter L.f8, SlBodyV.n8_ntmps ρ
      go_wp2_with (go_at_fn (ρ.f 11); refine hM.mono ?_; rintro e w1 ⟨l, rfl, hb1, hl⟩)
      have hsz := Lib.setCells_size l
      have hsc : (storeCells ⟨w1.heap.size, 0, none⟩ (Lib.setCells l).toList 0).run P (w1.alloc (.cells (Array.replicate 256 (.bool false)) (ρ.t 27))) = .ok () (w1.alloc (.cells (Lib.setCells l) (ρ.t 27))) := by
        have := run_storeCells_new (P := P) w1 (ρ.t 27) (Array.replicate 256 (.bool false)) (Lib.setCells l) (by rw [Lib.setCells_size]; exact hi27) (by rw [Lib.setCells_size, Array.size_replicate]) (Lib.setCells_one _)
        simpa using this
      simp only [L.z27, Result.andThen, ↓reduceIte, hsc, hsz]
      rw [Oper.upon_skip]
      have hB2 : Below w.heap.size w (w1.alloc (.cells (Lib.setCells l) (ρ.t 27))) := hb1.alloc hb1.size _
      have hT := HU.out _ hB2
      clear hM hsc
      go_wp2_with (go_at_fn (ρ.f 14); refine hT.mono ?_; rintro e w2 ⟨v, rfl, hv, hb2⟩)
      go_ret
      exact ⟨v, rfl, hv, hB2.trans (hb2.mono hB2.size)⟩

set_option maxHeartbeats 8000000 in
set_option maxRecDepth 1000000 in
theorem gTrim (L : SlLaysV.n6 P ρ) (hv27 : ∀ w, (zeroValue (ρ.t 27)).run P w = .ok (.agg (Array.replicate 256 (.bool false))) w) (hi27 : (P.info? (ρ.t 27)).map (·.size) = some 256) (p : Option Addr) (n c : Nat) (set : ByteArray) (w : World) (G : Value → World → Prop)
    (h0 : 0 < n) (h2 : 2 ≤ set.size ∨ ∃ x : UInt8, set = ⟨#[x]⟩ ∧ 128 ≤ x.toNat)
    (hM : Calls P (ρ.f 11) #[.string set] w (SetPost set w))
    (G1 : Value → World → Prop)
    (hA : ∀ (W : World) (b : Nat), Below w.heap.size w W → SetAt set.data.toList W b → asciiB set.data.toList = true → Calls P (ρ.f 13) #[.slice p n c, .pointer (some ⟨b, 0, none⟩)] W (Gives (fun v W' => G1 v W' ∧ SetAt set.data.toList W' b) W))
    (hA2 : ∀ (v : Value) (W : World) (b : Nat), Below w.heap.size w W → G1 v W ∧ SetAt set.data.toList W b → asciiB set.data.toList = true → Calls P (ρ.f 12) #[v, .pointer (some ⟨b, 0, none⟩)] W (Gives G W))
    (hU : ∀ W : World, Below w.heap.size w W → Calls P (ρ.f 15) #[.slice p n c, .string set] W (Gives G1 W))
    (hU2 : ∀ (v : Value) (W : World), Below w.heap.size w W → G1 v W → Calls P (ρ.f 14) #[v, .string set] W (Gives G W)) :
    Calls P (ρ.f 6) #[.slice p n c, .string set] w (Gives G w) := by
  have hemp : set.toList.isEmpty = false := by
    rw [Lib.toList_data]
    cases h : set.data.toList with
    | nil =>
      have := Lib.size_eq set
      rw [h, List.length_nil] at this
      rcases h2 with h2 | ⟨x, rfl, _⟩
      · omega
      · cases h
    | cons _ _ => rfl
  have hn0 : ((n : Int) == 0) = false := beq_eq_false_iff_ne.2 (by omega)
  have HA := Lib.hid hA; have HU := Lib.hid hU; have HA2 := Lib.hid hA2; have HU2 := Lib.hid hU2; clear hA hU hA2 hU2
  have mixed := L.mixed
  have t0 := L.t0; have a0 := L.a0; have z0 := L.z0; have v0 := L.v0; have u0 := run_underlying L.t0
  have t3 := L.t3; have a3 := L.a3; have z3 := L.z3; have v3 := L.v3; have u3 := run_underlying L.t3
  have t4 := L.t4; have a4 := L.a4; have z4 := L.z4; have v4 := L.v4; have u4 := run_underlying L.t4
  have t5 := L.t5; have a5 := L.a5; have z5 := L.z5; have v5 := L.v5; have u5 := run_underlying L.t5
  have t9 := L.t9; have a9 := L.a9; have z9 := L.z9; have v9 := L.v9; have u9 := run_underlying L.t9
  have t21 := L.t21; have a21 := L.a21; have z21 := L.z21; have v21 := L.v21; have u21 := run_underlying L.t21
  have t22 := L.t22; have a22 := L.a22; have z22 := L.z22; have v22 := L.v22; have u22 := run_underlying L.t22
  have t31 := L.t31; have a31 := L.a31; have z31 := L.z31; have v31 := L.v31; have u31 := run_underlying L.t31
  have t27 := L.t27; have u27 := run_underlying L.t27
  have e11 : ∀ args w, (callFunc (ρ.f 11) args).run P w = .ok (.enter (ρ.f 11) args) w := enters_of L.f11 (by kernel_rfl) rfl
  have e12 : ∀ args w, (callFunc (ρ.f 12) args).run P w = .ok (.enter (ρ.f 12) args) w := enters_of L.f12 (by kernel_rfl) rfl
  have e13 : ∀ args w, (callFunc (ρ.f 13) args).run P w = .ok (.enter (ρ.f 13) args) w := enters_of L.f13 (by kernel_rfl) rfl
  have e14 : ∀ args w, (callFunc (ρ.f 14) args).run P w = .ok (.enter (ρ.f 14) args) w := enters_of L.f14 (by kernel_rfl) rfl
  have e15 : ∀ args w, (callFunc (ρ.f 15) args).run P w = .ok (.enter (ρ.f 15) args) w := enters_of L.f15 (by kernel_rfl) rfl
  cases hab : asciiB set.data.toList with
  | true =>
    have Hab := Lib.hid hab
    rcases h2 with h2 | ⟨x, rfl, hx⟩
    · have hn1 : ((set.size : Int) == 1) = false := beq_eq_false_iff_ne.2 (by omega)
      unfold SetPost at hM
      rw [hab] at hM
      clear hab
      go_enter L.f6, SlBodyV.n6_ntmps ρ
      go_wp2_with (go_at_fn (ρ.f 11); refine hM.mono ?_; rintro e w1 ⟨l, rfl, hb1, hl⟩)
      obtain rfl := hl.out (by first | trivial | rfl)
      have hsz := Lib.setCells_size set.data.toList
      have hsc : (storeCells ⟨w1.heap.size, 0, none⟩ (Lib.setCells set.data.toList).toList 0).run P (w1.alloc (.cells (Array.replicate 256 (.bool false)) (ρ.t 27))) = .ok () (w1.alloc (.cells (Lib.setCells set.data.toList) (ρ.t 27))) := by
        have := run_storeCells_new (P := P) w1 (ρ.t 27) (Array.replicate 256 (.bool false)) (Lib.setCells set.data.toList) (by rw [Lib.setCells_size]; exact hi27) (by rw [Lib.setCells_size, Array.size_replicate]) (Lib.setCells_one _)
        simpa using this
      simp only [L.z27, Result.andThen, ↓reduceIte, hsc, hsz]
      rw [Oper.upon_skip]
      have hB2 : Below w.heap.size w (w1.alloc (.cells (Lib.setCells set.data.toList) (ρ.t 27))) := hb1.alloc hb1.size _
      have hT := HA.out _ w1.heap.size hB2 (fun x => by rw [World.cell?_alloc_at _ _ _ _ rfl, Lib.setCells_at]) Hab.out
      clear hM hsc
      go_wp2_with (go_at_fn (ρ.f 13); refine hT.mono ?_; rintro e w2 ⟨v1, rfl, hv1, hb2⟩; have hB3 := hB2.trans (hb2.mono hB2.size); go_wp2_with (go_at_fn (ρ.f 12); refine (HA2.out _ _ _ hB3 hv1 Hab.out).mono ?_; rintro e w3 ⟨v, rfl, hv, hb3⟩))
      go_ret
      exact ⟨v, rfl, hv, hB3.trans (hb3.mono hB3.size)⟩
    · simp only [asciiB, List.all_cons, List.all_nil, Bool.and_true, decide_eq_true_eq] at hab
      omega
  | false =>
    unfold SetPost at hM
    rw [hab] at hM
    clear hab
    rcases h2 with h2 | ⟨x, rfl, hx⟩
    · have hn1 : ((set.size : Int) == 1) = false := beq_eq_false_iff_ne.2 (by omega)
      go_enter L.f6, SlBodyV.n6_ntmps ρ
      go_wp2_with (go_at_fn (ρ.f 11); refine hM.mono ?_; rintro e w1 ⟨l, rfl, hb1, hl⟩)
      have hsz := Lib.setCells_size l
      have hsc : (storeCells ⟨w1.heap.size, 0, none⟩ (Lib.setCells l).toList 0).run P (w1.alloc (.cells (Array.replicate 256 (.bool false)) (ρ.t 27))) = .ok () (w1.alloc (.cells (Lib.setCells l) (ρ.t 27))) := by
        have := run_storeCells_new (P := P) w1 (ρ.t 27) (Array.replicate 256 (.bool false)) (Lib.setCells l) (by rw [Lib.setCells_size]; exact hi27) (by rw [Lib.setCells_size, Array.size_replicate]) (Lib.setCells_one _)
        simpa using this
      simp only [L.z27, Result.andThen, ↓reduceIte, hsc, hsz]
      rw [Oper.upon_skip]
      have hB2 : Below w.heap.size w (w1.alloc (.cells (Lib.setCells l) (ρ.t 27))) := hb1.alloc hb1.size _
      have hT := HU.out _ hB2
      clear hM hsc
      go_wp2_with (go_at_fn (ρ.f 15); refine hT.mono ?_; rintro e w2 ⟨v1, rfl, hv1, hb2⟩; have hB3 := hB2.trans (hb2.mono hB2.size); go_wp2_with (go_at_fn (ρ.f 14); refine (HU2.out _ _ hB3 hv1).mono ?_; rintro e w3 ⟨v, rfl, hv, hb3⟩))
      go_ret
      exact ⟨v, rfl, hv, hB3.trans (hb3.mono hB3.size)⟩
    · have hx0 : ¬ ((x.toNat : Int) < 128) := by omega
      have hg0 : ((⟨#[x]⟩ : ByteArray)[0]'Nat.zero_lt_one) = x := rfl
      go_enter L.f6, SlBodyV.n6_ntmps ρ
      go_wp2_with (go_at_fn (ρ.f 11); refine hM.mono ?_; rintro e w1 ⟨l, rfl, hb1, hl⟩)
      have hsz := Lib.setCells_size l
      have hsc : (storeCells ⟨w1.heap.size, 0, none⟩ (Lib.setCells l).toList 0).run P (w1.alloc (.cells (Array.replicate 256 (.bool false)) (ρ.t 27))) = .ok () (w1.alloc (.cells (Lib.setCells l) (ρ.t 27))) := by
        have := run_storeCells_new (P := P) w1 (ρ.t 27) (Array.replicate 256 (.bool false)) (Lib.setCells l) (by rw [Lib.setCells_size]; exact hi27) (by rw [Lib.setCells_size, Array.size_replicate]) (Lib.setCells_one _)
        simpa using this
      simp only [L.z27, Result.andThen, ↓reduceIte, hsc, hsz]
      rw [Oper.upon_skip]
      have hB2 : Below w.heap.size w (w1.alloc (.cells (Lib.setCells l) (ρ.t 27))) := hb1.alloc hb1.size _
      have hT := HU.out _ hB2
      clear hM hsc
      go_wp2_with (go_at_fn (ρ.f 15); refine hT.mono ?_; rintro e w2 ⟨v1, rfl, hv1, hb2⟩; have hB3 := hB2.trans (hb2.mono hB2.size); go_wp2_with (go_at_fn (ρ.f 14); refine (HU2.out _ _ hB3 hv1).mono ?_; rintro e w3 ⟨v, rfl, hv, hb3⟩))
      go_ret
      exact ⟨v, rfl, hv, hB3.trans (hb3.mono hB3.size)⟩
end Go.Proofs.YthgigchablajbaaDoor
