/- The tables of folding, of white space and of utf8, from a row's list of variables; a world that holds them. Conditions: none. -/
import Derived.Test.YtkglbkgbgajbkaaDoorTabsF
import Derived.Test.YtkglbkgbgajbkaaDoorTabsB0
namespace Go.Proofs.YtkglbkgbgajbkaaDoor
open Go.RowKit Go.Shelf Go.Lib Go.ChangeShapes Go.WideShapes Go.ChangeAt Go.Deep

def TabsG (w : World) : Prop := TabsF w ∧ TabsB w
theorem TabsG.below {w w' : World} (h : TabsG w) (hb : Below w.heap.size w w') : TabsG w' := ⟨h.1.below hb, h.2.below hb⟩
theorem tabsG_of_laid {W : World} (hL : laidMetH Tryd.prog [("unicode/utf8.acceptRanges", Rows.laid_unicode_utf8_acceptRanges), ("unicode.White_Space", Rows.laid_unicode_White_Space), ("unicode.asciiFold", Rows.laid_unicode_asciiFold), ("unicode.caseOrbit", Rows.laid_unicode_caseOrbit), ("bytes.asciiSpace", Rows.laid_bytes_asciiSpace), ("unicode.CaseRanges", Rows.laid_unicode_CaseRanges), ("unicode/utf8.first", Rows.laid_unicode_utf8_first)] W) : TabsG W := by
  have hL' : laidMet Tryd.prog [("unicode/utf8.acceptRanges", Rows.laid_unicode_utf8_acceptRanges), ("unicode.White_Space", Rows.laid_unicode_White_Space), ("unicode.asciiFold", Rows.laid_unicode_asciiFold), ("unicode.caseOrbit", Rows.laid_unicode_caseOrbit), ("bytes.asciiSpace", Rows.laid_bytes_asciiSpace), ("unicode.CaseRanges", Rows.laid_unicode_CaseRanges), ("unicode/utf8.first", Rows.laid_unicode_utf8_first)] W := hL
  have hT : Tabs W := tabs_in hL' (.head _) (.tail _ (.tail _ (.tail _ (.tail _ (.tail _ (.tail _ (.head _)))))))
  exact ⟨⟨hT, fold_in hL' (.tail _ (.tail _ (.head _))) (.tail _ (.tail _ (.tail _ (.head _)))) (.tail _ (.tail _ (.tail _ (.tail _ (.tail _ (.head _))))))⟩, ⟨hT, white_in hL' (.tail _ (.head _))⟩, spaceB_in hL' (.tail _ (.tail _ (.tail _ (.tail _ (.head _)))))⟩

/-- the settled world with four blocks more (the orbits, the ranges of white space, their table, the rows of cases), all tables holding what their initialisers lay -/
noncomputable def laidWorldG (os : Os) : World :=
  let N := (World.settled Tryd.prog os).heap.size
  let w0 := World.holding Tryd.prog os ⟨#[.cells (orbitT.flatMap fun x => [Value.int .u16 (x.1 : Int), Value.int .u16 (x.2 : Int)]).toArray 54, .cells (Lib.whiteT.map fun (z : Nat) => Value.int .u16 (z : Int)).toArray (Tryd.lays199_ren.t 198), .cells #[.slice (some ⟨N + 1, 0, none⟩) 7 7, .slice none 0 0, .int .i64 2] (Tryd.lays199_ren.t 196), .cells caseCells5 68], #[], []⟩
  let put (h : Array Obj) (g : Nat) (cs : Array Value) : Array Obj := h.modify g fun
    | .cells _ t frozen => .cells cs t frozen
    | o => o
  let h1 := put w0.heap 5 (Lib.firstTab.map fun z => Value.int .u8 z).toArray
  let h2 := put h1 6 ((List.range 16).flatMap fun i => [Value.int .u8 (Lib.accLo i), Value.int .u8 (Lib.accHi i)]).toArray
  let h3 := put h2 1 (asciiTab.map fun z => Value.int .u16 z).toArray
  let h4 := put h3 2 #[.slice (some ⟨N, 0, none⟩) 94 94]
  let h5 := put h4 0 (Lib.asciiSpaceTab.map fun z => Value.int .u8 z).toArray
  let h6 := put h5 4 #[.pointer (some ⟨N + 2, 0, none⟩)]
  { w0 with heap := put h6 3 #[.slice (some ⟨N + 3, 0, none⟩) caseA.size caseA.size] }
theorem laid_metG (os : Os) (args : Array Value) : laidMet Tryd.prog [("unicode/utf8.acceptRanges", Rows.laid_unicode_utf8_acceptRanges), ("unicode.White_Space", Rows.laid_unicode_White_Space), ("unicode.asciiFold", Rows.laid_unicode_asciiFold), ("unicode.caseOrbit", Rows.laid_unicode_caseOrbit), ("bytes.asciiSpace", Rows.laid_bytes_asciiSpace), ("unicode.CaseRanges", Rows.laid_unicode_CaseRanges), ("unicode/utf8.first", Rows.laid_unicode_utf8_first)] ((laidWorldG os).forCall (fun _ _ => 0) ⟨#[], args, []⟩).memory := by
  rw [first_eq, accept_eq, asciiFold_eq, orbit_eq, case_eq, white_eq, spaceB_eq]
  refine laidMet_perm (l := [("unicode/utf8.acceptRanges", Lib.acceptData), ("unicode.White_Space", Lib.whiteData), ("unicode.asciiFold", tabData .u16 asciiTab), ("unicode.caseOrbit", orbData), ("bytes.asciiSpace", Lib.tabData .u8 Lib.asciiSpaceTab), ("unicode/utf8.first", Lib.firstData)] ++ [("unicode.CaseRanges", caseData)]) ?_ ?_
  · exact (((((List.Perm.swap _ _ _).cons _).cons _).cons _).cons _).cons _
  · exact laidMet_with_case case_lays case_t206 case_extra 10 (by kernel_rfl) (by kernel_rfl) (by kernel_rfl) ((World.settled Tryd.prog os).heap.size + 3) 68 (Nat.ne_of_lt (of_decide_eq_true (by kernel_rfl))) (by kernel_rfl) (by kernel_rfl) (by kernel_rfl)
end Go.Proofs.YtkglbkgbgajbkaaDoor
