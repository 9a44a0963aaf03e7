/- The tables of folding and of utf8, from a row's list of variables; a world that holds them. Conditions: none. -/
import Derived.Test.YtkglbkgbgajbkaaDoorEqMem
import Derived.Test.YtkglbkgbgajbkaaDoorTabs
import Derived.Lib.LaidCase
import Derived.Lib.LaidCaseMet
import Derived.Test.YtkglbkgbgajbkaaDoorFrame
import Derived.Deep.Fields
namespace Go.Proofs.YtkglbkgbgajbkaaDoor
open Go.RowKit Go.Shelf Go.Lib Go.ChangeShapes Go.WideShapes Go.ChangeAt Go.Deep

def TabsF (w : World) : Prop := Tabs w ∧ FoldVars w
theorem TabsF.below {w w' : World} (h : TabsF w) (hb : Below w.heap.size w w') : TabsF w' := ⟨h.1.below hb, h.2.below hb⟩
def asciiTab : List Int := (List.range 128).map fun r => (asciiF r : Int)
def orbData : DataW Unit := .slice (orbitT.map fun x => .agg [.lit (.int .u16 (x.1 : Int)), .lit (.int .u16 (x.2 : Int))]) []
theorem asciiFold_eq : Rows.laid_unicode_asciiFold (H := Unit) = tabData .u16 asciiTab := by kernel_rfl
theorem orbit_eq : Rows.laid_unicode_caseOrbit (H := Unit) = orbData := by kernel_rfl
theorem case_eq : Rows.laid_unicode_CaseRanges = caseData := by kernel_rfl
def case_ren : Ren := ⟨Tryd.lays274_ren.f, Tryd.lays274_ren.t, fun | 13 => 3 | n => n⟩
theorem case_lays : Lays.n274 Tryd.prog case_ren := { Tryd.lays274 with }
theorem case_extra : CaseExtra Tryd.prog case_ren := ⟨by kernel_rfl, by kernel_rfl, by kernel_rfl, by kernel_rfl, by kernel_rfl, by kernel_rfl⟩
theorem case_t206 : Tryd.prog.underlying (case_ren.t 206) = some (.array 3 (case_ren.t 21)) := by kernel_rfl
theorem gA : Tryd.prog.globalNamed "unicode.asciiFold" = some 1 := by kernel_rfl
theorem gO : Tryd.prog.globalNamed "unicode.caseOrbit" = some 2 := by kernel_rfl
theorem ascii_of_reads {W : World} (h : VarReads Tryd.prog W "unicode.asciiFold" (tabData .u16 asciiTab)) : AsciiVar W := by
  obtain ⟨g', t', cs, fuel, p, hg', hty', hvar, hd⟩ := h
  obtain rfl := Option.some.inj (gA.symm.trans hg')
  obtain rfl := Option.some.inj ((show (Tryd.prog.globals[1]?).map (·.type) = some 50 by kernel_rfl).symm.trans hty')
  have hcs := cells_of_tab Tryd.underlying50 Tryd.underlying49 (by kernel_rfl) (by kernel_rfl) hd
  intro r hr
  rw [World.var?_cell gA hvar r, ← Array.getElem?_toList, hcs]
  simp [asciiTab, hr]
theorem orb_of_reads {W : World} (h : VarReads Tryd.prog W "unicode.caseOrbit" orbData) : OrbVar W := by
  obtain ⟨g', t', cs, fuel, p, hg', hty', hvar, hd⟩ := h
  obtain rfl := Option.some.inj (gO.symm.trans hg')
  obtain rfl := Option.some.inj ((show (Tryd.prog.globals[2]?).map (·.type) = some 51 by kernel_rfl).symm.trans hty')
  rcases DataW.trod_slice Tryd.underlying51 hd with ⟨_, hx'⟩ | ⟨a', len, cap, el, rs, m, rfl, hc0, hx', _, hlc, _, hel, helem, hsp, _⟩
  · cases hx'
  have e0 := congrArg Prod.fst hx'
  simp only [orbData, DataW.slice.injEq] at e0
  obtain ⟨eE, eR⟩ := e0
  have hlen : len = orbitT.length := by
    have := congrArg List.length eE
    simp at this
    omega
  have hrow : ∀ i (hi : i < orbitT.length), W.cell? (a'.add (i * 2)) = some (.int .u16 (orbitT[i].1 : Int)) ∧ W.cell? (a'.add (i * 2 + 1)) = some (.int .u16 (orbitT[i].2 : Int)) := by
    intro i hi
    have h1 := helem i (by omega)
    rw [show Tryd.prog.cellsOf 54 = 2 by kernel_rfl] at h1
    obtain ⟨bq, hb⟩ : ∃ bq, el[i]? = some bq := ⟨el[i]'(by omega), List.getElem?_eq_getElem (by omega)⟩
    rw [hb] at h1
    obtain ⟨ce, hce, hte⟩ := Option.bind_eq_some_iff.1 h1
    have hb1 : bq.1 = .agg [.lit (.int .u16 (orbitT[i].1 : Int)), .lit (.int .u16 (orbitT[i].2 : Int))] := by
      have := congrArg (·[i]?) eE
      simp only [List.getElem?_map, hb, Option.map_some, List.getElem?_eq_getElem hi] at this
      exact (Option.some.inj this).symm
    obtain ⟨y0, y1, n', h3, h4, h5, h6⟩ := trod_struct2 Tryd.underlying54 hte
    obtain ⟨_, hlen2, hat⟩ := World.cells?_some hce
    simp only at h5 h6
    rw [show Tryd.prog.cellsOf 49 = 1 by kernel_rfl] at h5 h6
    match ce, hlen2 with
    | [x, y], _ =>
      rw [h3] at hb1
      simp only [DataW.agg.injEq, List.cons.injEq, and_true] at hb1
      obtain ⟨z0, hz0, hy0, _⟩ := DataW.trod_int Tryd.underlying49 (show DataW.trod _ _ _ _ _ _ n' 49 [x] = some y0 by simpa using h5)
      obtain ⟨z1, hz1, hy1, _⟩ := DataW.trod_int Tryd.underlying49 (show DataW.trod _ _ _ _ _ _ n' 49 [y] = some y1 by simpa using h6)
      have ex : x = .int .u16 (orbitT[i].1 : Int) := by
        have e1 := hb1.1
        rw [hy0] at e1
        simp only [DataW.lit.injEq, Lit.int.injEq, true_and] at e1
        rw [← e1]
        simpa using hz0
      have ey : y = .int .u16 (orbitT[i].2 : Int) := by
        have e1 := hb1.2
        rw [hy1] at e1
        simp only [DataW.lit.injEq, Lit.int.injEq, true_and] at e1
        rw [← e1]
        simpa using hz1
      have a0 := hat 0 (by omega)
      have a1 := hat 1 (by omega)
      rw [add_add] at a0 a1
      rw [Nat.add_zero] at a0
      exact ⟨by rw [a0, ← ex]; rfl, by rw [a1, ← ey]; rfl⟩
  obtain ⟨R, oR, sR⟩ := a'
  have hpos : 0 < orbitT.length := by rw [orbit_len]; omega
  obtain rfl : sR = none := by
    have h00 := (hrow 0 hpos).1
    have : (Addr.add ⟨R, oR, sR⟩ (0 * 2)) = ⟨R, oR, sR⟩ := by simp [Addr.add]
    rw [this] at h00
    exact World.cell?_spot h00
  refine ⟨R, oR, cap, ?_, fun i hi => ?_⟩
  · rw [World.var?_cell gO hvar 0, ← Array.getElem?_toList, hc0, hlen, orbit_len]
    rfl
  · have := hrow i hi
    rw [add_plain, add_plain, ← Nat.add_assoc] at this
    exact this

section
variable {W : World} {l : List (String × DataW Unit)} (hL : laidMet Tryd.prog l W)
include hL
theorem tabs_in (h1 : ("unicode/utf8.acceptRanges", Rows.laid_unicode_utf8_acceptRanges) ∈ l) (h2 : ("unicode/utf8.first", Rows.laid_unicode_utf8_first) ∈ l) : Tabs W := by
  rw [accept_eq] at h1
  rw [first_eq] at h2
  exact utf8Tabs_of_reads Tryd.lays260 ⟨by kernel_rfl, by kernel_rfl, by kernel_rfl, by kernel_rfl, by kernel_rfl, by kernel_rfl, by kernel_rfl⟩ (laidMet.reads hL h2) (laidMet.reads hL h1)
theorem fold_in (h1 : ("unicode.asciiFold", Rows.laid_unicode_asciiFold) ∈ l) (h2 : ("unicode.caseOrbit", Rows.laid_unicode_caseOrbit) ∈ l) (h3 : ("unicode.CaseRanges", Rows.laid_unicode_CaseRanges) ∈ l) : FoldVars W := by
  rw [asciiFold_eq] at h1
  rw [orbit_eq] at h2
  rw [case_eq] at h3
  exact ⟨ascii_of_reads (laidMet.reads hL h1), orb_of_reads (laidMet.reads hL h2), caseVar_of_reads case_lays case_t206 case_extra (laidMet.reads hL h3)⟩
end
theorem tabsF_of_laid {W : World} (hL : laidMetH Tryd.prog [("unicode/utf8.acceptRanges", Rows.laid_unicode_utf8_acceptRanges), ("unicode.asciiFold", Rows.laid_unicode_asciiFold), ("unicode.caseOrbit", Rows.laid_unicode_caseOrbit), ("unicode.CaseRanges", Rows.laid_unicode_CaseRanges), ("unicode/utf8.first", Rows.laid_unicode_utf8_first)] W) : TabsF W := by
  have hL' : laidMet Tryd.prog [("unicode/utf8.acceptRanges", Rows.laid_unicode_utf8_acceptRanges), ("unicode.asciiFold", Rows.laid_unicode_asciiFold), ("unicode.caseOrbit", Rows.laid_unicode_caseOrbit), ("unicode.CaseRanges", Rows.laid_unicode_CaseRanges), ("unicode/utf8.first", Rows.laid_unicode_utf8_first)] W := hL
  exact ⟨tabs_in hL' (.head _) (.tail _ (.tail _ (.tail _ (.tail _ (.head _))))), fold_in hL' (.tail _ (.head _)) (.tail _ (.tail _ (.head _))) (.tail _ (.tail _ (.tail _ (.head _))))⟩

/-! ### A world that holds them -/
theorem LaidVars_perm {P : Program} {w : World} {l l' : List (String × DataW Unit)} (hp : l.Perm l') : ∀ ps, DataW.LaidVars P w l ps → ∃ ps', DataW.LaidVars P w l' ps' ∧ ps.Perm ps' := by
  induction hp with
  | nil => exact fun ps h => ⟨ps, h, List.Perm.refl _⟩
  | cons x _ ih =>
    obtain ⟨n, d⟩ := x
    rintro ps ⟨g, t, cs, fuel, p, q, h1, h2, h3, h4, h5, rfl⟩
    obtain ⟨q', hq', hpp⟩ := ih q h5
    exact ⟨_, ⟨g, t, cs, fuel, p, q', h1, h2, h3, h4, hq', rfl⟩, List.Perm.append_left _ hpp⟩
  | swap x y l =>
    obtain ⟨n, d⟩ := x
    obtain ⟨m, e⟩ := y
    rintro ps ⟨g, t, cs, fuel, p, q, h1, h2, h3, h4, ⟨g2, t2, cs2, fuel2, p2, q2, k1, k2, k3, k4, k5, rfl⟩, rfl⟩
    exact ⟨_, ⟨g2, t2, cs2, fuel2, p2, _, k1, k2, k3, k4, ⟨g, t, cs, fuel, p, q2, h1, h2, h3, h4, k5, rfl⟩, rfl⟩, List.perm_append_comm_assoc _ _ _⟩
  | trans _ _ ih1 ih2 =>
    intro ps h
    obtain ⟨ps1, h1, p1⟩ := ih1 ps h
    obtain ⟨ps2, h2, p2⟩ := ih2 ps1 h1
    exact ⟨ps2, h2, p1.trans p2⟩
theorem laidMet_perm {P : Program} {w : World} {l l' : List (String × DataW Unit)} (hp : l.Perm l') (h : laidMet P l w) : laidMet P l' w := by
  obtain ⟨ps, h1, h2, h3⟩ := h
  obtain ⟨ps', k1, kp⟩ := LaidVars_perm hp ps h1
  exact ⟨ps', k1, kp.nodup_iff.1 h2, fun b off hm => h3 b off (kp.mem_iff.2 hm)⟩
/-- the settled world with two blocks more (the orbits, the rows of cases), all tables holding what their initialisers lay -/
noncomputable def laidWorldF (os : Os) : World :=
  let N := (World.settled Tryd.prog os).heap.size
  let w0 := World.holding Tryd.prog os ⟨#[.cells (orbitT.flatMap fun x => [Value.int .u16 (x.1 : Int), Value.int .u16 (x.2 : Int)]).toArray 54, .cells caseCells5 68], #[], []⟩
  let put (h : Array Obj) (g : Nat) (cs : Array Value) : Array Obj := h.modify g fun
    | .cells _ t frozen => .cells cs t frozen
    | o => o
  let h1 := put w0.heap 5 (Lib.firstTab.map fun z => Value.int .u8 z).toArray
  let h2 := put h1 6 ((List.range 16).flatMap fun i => [Value.int .u8 (Lib.accLo i), Value.int .u8 (Lib.accHi i)]).toArray
  let h3 := put h2 1 (asciiTab.map fun z => Value.int .u16 z).toArray
  let h4 := put h3 2 #[.slice (some ⟨N, 0, none⟩) 94 94]
  { w0 with heap := put h4 3 #[.slice (some ⟨N + 1, 0, none⟩) caseA.size caseA.size] }
theorem laid_metF (os : Os) (args : Array Value) : laidMet Tryd.prog [("unicode/utf8.acceptRanges", Rows.laid_unicode_utf8_acceptRanges), ("unicode.asciiFold", Rows.laid_unicode_asciiFold), ("unicode.caseOrbit", Rows.laid_unicode_caseOrbit), ("unicode.CaseRanges", Rows.laid_unicode_CaseRanges), ("unicode/utf8.first", Rows.laid_unicode_utf8_first)] ((laidWorldF os).forCall (fun _ _ => 0) ⟨#[], args, []⟩).memory := by
  rw [first_eq, accept_eq, asciiFold_eq, orbit_eq, case_eq]
  refine laidMet_perm (l := [("unicode/utf8.acceptRanges", Lib.acceptData), ("unicode.asciiFold", tabData .u16 asciiTab), ("unicode.caseOrbit", orbData), ("unicode/utf8.first", Lib.firstData)] ++ [("unicode.CaseRanges", caseData)]) ?_ ?_
  · exact (((List.Perm.swap _ _ _).cons _).cons _).cons _
  · exact laidMet_with_case case_lays case_t206 case_extra 10 (by kernel_rfl) (by kernel_rfl) (by kernel_rfl) ((World.settled Tryd.prog os).heap.size + 1) 68 (Nat.ne_of_lt (of_decide_eq_true (by kernel_rfl))) (by kernel_rfl) (by kernel_rfl) (by kernel_rfl)
end Go.Proofs.YtkglbkgbgajbkaaDoor
