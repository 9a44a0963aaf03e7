/- The tables of white space and of utf8, from a row's list of variables; a world that holds them. Conditions: none. -/
import Derived.Test.YtdlhjnihmkbagaaDoorTabs
import Derived.Lib.Space
import Derived.Shelf.Unicode.IsSpaceAny
namespace Go.Proofs.YtdlhjnihmkbagaaDoor
open Go.RowKit Go.Shelf

def TabsW (w : World) : Prop := Tabs w ∧ Lib.WhiteTab 2 w
def TabsS (w : World) : Prop := TabsW w ∧ Lib.TabIs Tryd.prog w "strings.asciiSpace" .u8 Lib.asciiSpaceTab
def TabsT (w : World) : Prop := Lib.WhiteTab 2 w ∧ Lib.TabIs Tryd.prog w "strings.asciiSpace" .u8 Lib.asciiSpaceTab
def TabsB (w : World) : Prop := TabsW w ∧ Lib.TabIs Tryd.prog w "bytes.asciiSpace" .u8 Lib.asciiSpaceTab
def TabsA (w : World) : Prop := TabsS w ∧ TabsB w
theorem gS : Tryd.prog.globalNamed "strings.asciiSpace" = some 1 := by kernel_rfl
theorem gB : Tryd.prog.globalNamed "bytes.asciiSpace" = some 0 := by kernel_rfl
theorem tabIs_below {n : String} {g : Nat} {k : IntKind} {zs : List Int} {w w' : World} (hg : Tryd.prog.globalNamed n = some g) (h : Lib.TabIs Tryd.prog w n k zs) (hb : Below w.heap.size w w') : Lib.TabIs Tryd.prog w' n k zs := by
  unfold Lib.TabIs World.var? at h ⊢
  rw [hg] at h ⊢
  simp only [Option.bind_some] at h ⊢
  have hlt : g < w.heap.size := by
    rcases Nat.lt_or_ge g w.heap.size with hl | hl
    · exact hl
    · simp [Array.getElem?_eq_none hl] at h
  rw [hb.block g hlt]
  exact h
theorem TabsW.below {w w' : World} (h : TabsW w) (hb : Below w.heap.size w w') : TabsW w' := ⟨h.1.below hb, WhiteTab_below h.2 hb⟩
theorem TabsS.below {w w' : World} (h : TabsS w) (hb : Below w.heap.size w w') : TabsS w' := ⟨h.1.below hb, tabIs_below gS h.2 hb⟩
theorem TabsT.below {w w' : World} (h : TabsT w) (hb : Below w.heap.size w w') : TabsT w' := ⟨WhiteTab_below h.1 hb, tabIs_below gS h.2 hb⟩
theorem TabsS.t {w : World} (h : TabsS w) : TabsT w := ⟨h.1.2, h.2⟩
theorem TabsB.below {w w' : World} (h : TabsB w) (hb : Below w.heap.size w w') : TabsB w' := ⟨h.1.below hb, tabIs_below gB h.2 hb⟩
theorem TabsA.below {w w' : World} (h : TabsA w) (hb : Below w.heap.size w w') : TabsA w' := ⟨h.1.below hb, h.2.below hb⟩

theorem white_eq : Rows.laid_unicode_White_Space (H := Unit) = Lib.whiteData := by kernel_rfl
theorem spaceS_eq : Rows.laid_strings_asciiSpace (H := Unit) = Lib.tabData .u8 Lib.asciiSpaceTab := by kernel_rfl
theorem spaceB_eq : Rows.laid_bytes_asciiSpace (H := Unit) = Lib.tabData .u8 Lib.asciiSpaceTab := by kernel_rfl
theorem tabIs_of_reads {W : World} {name : String} {k : IntKind} {zs : List Int} {g : Nat} {t e : TypeId} {n : Nat}
    (hg : Tryd.prog.globalNamed name = some g) (hty : (Tryd.prog.globals[g]?).map (·.type) = some t) (ht : Tryd.prog.underlying t = some (.array n e)) (he : Tryd.prog.underlying e = some (.int k)) (h1 : Tryd.prog.cellsOf e = 1) (hc : Tryd.prog.cellsOf t = n)
    (h : Lib.VarReads Tryd.prog W name (Lib.tabData k zs)) : Lib.TabIs Tryd.prog W name k zs := by
  obtain ⟨g', t', cs, fuel, p, hg', hty', hvar, hd⟩ := h
  obtain rfl := Option.some.inj (hg.symm.trans hg')
  obtain rfl := Option.some.inj (hty.symm.trans hty')
  have hcs := Lib.cells_of_tab ht he h1 hc hd
  unfold Lib.TabIs
  rw [hvar]
  congr 1
  cases cs
  simp only at hcs
  rw [hcs]

section
variable {W : World} {l : List (String × DataW Unit)} (hL : laidMet Tryd.prog l W)
include hL
theorem tabs_in (h1 : ("unicode/utf8.acceptRanges", Rows.laid_unicode_utf8_acceptRanges) ∈ l) (h2 : ("unicode/utf8.first", Rows.laid_unicode_utf8_first) ∈ l) : Tabs W := by
  rw [accept_eq] at h1
  rw [first_eq] at h2
  exact utf8Tabs_of_reads Tryd.lays260 ⟨by kernel_rfl, by kernel_rfl, by kernel_rfl, by kernel_rfl, by kernel_rfl, by kernel_rfl, by kernel_rfl⟩ (Lib.laidMet.reads hL h2) (Lib.laidMet.reads hL h1)
theorem white_in (h1 : ("unicode.White_Space", Rows.laid_unicode_White_Space) ∈ l) : Lib.WhiteTab 2 W := by
  rw [white_eq] at h1
  exact whiteTab_of_reads Tryd.lays199 ⟨by kernel_rfl, by kernel_rfl, by kernel_rfl, by kernel_rfl, by kernel_rfl, by kernel_rfl, by kernel_rfl, by kernel_rfl⟩ (Lib.laidMet.reads hL h1)
theorem spaceS_in (h1 : ("strings.asciiSpace", Rows.laid_strings_asciiSpace) ∈ l) : Lib.TabIs Tryd.prog W "strings.asciiSpace" .u8 Lib.asciiSpaceTab := by
  rw [spaceS_eq] at h1
  exact tabIs_of_reads (t := 53) gS (by kernel_rfl) Tryd.underlying53 Tryd.underlying5 (by kernel_rfl) (by kernel_rfl) (Lib.laidMet.reads hL h1)
theorem spaceB_in (h1 : ("bytes.asciiSpace", Rows.laid_bytes_asciiSpace) ∈ l) : Lib.TabIs Tryd.prog W "bytes.asciiSpace" .u8 Lib.asciiSpaceTab := by
  rw [spaceB_eq] at h1
  exact tabIs_of_reads (t := 53) gB (by kernel_rfl) Tryd.underlying53 Tryd.underlying5 (by kernel_rfl) (by kernel_rfl) (Lib.laidMet.reads hL h1)
end
theorem tabsA_of_laid {W : World} (hL : laidMetH Tryd.prog [("unicode/utf8.acceptRanges", Rows.laid_unicode_utf8_acceptRanges), ("unicode.White_Space", Rows.laid_unicode_White_Space), ("bytes.asciiSpace", Rows.laid_bytes_asciiSpace), ("strings.asciiSpace", Rows.laid_strings_asciiSpace), ("unicode/utf8.first", Rows.laid_unicode_utf8_first)] W) : TabsA W := by
  have hL' : laidMet Tryd.prog [("unicode/utf8.acceptRanges", Rows.laid_unicode_utf8_acceptRanges), ("unicode.White_Space", Rows.laid_unicode_White_Space), ("bytes.asciiSpace", Rows.laid_bytes_asciiSpace), ("strings.asciiSpace", Rows.laid_strings_asciiSpace), ("unicode/utf8.first", Rows.laid_unicode_utf8_first)] W := hL
  have hw : TabsW W := ⟨tabs_in hL' (.head _) (.tail _ (.tail _ (.tail _ (.tail _ (.head _))))), white_in hL' (.tail _ (.head _))⟩
  exact ⟨⟨hw, spaceS_in hL' (.tail _ (.tail _ (.tail _ (.head _))))⟩, ⟨hw, spaceB_in hL' (.tail _ (.tail _ (.head _)))⟩⟩
theorem tabsS_of_laid {W : World} (hL : laidMetH Tryd.prog [("unicode/utf8.acceptRanges", Rows.laid_unicode_utf8_acceptRanges), ("unicode.White_Space", Rows.laid_unicode_White_Space), ("strings.asciiSpace", Rows.laid_strings_asciiSpace), ("unicode/utf8.first", Rows.laid_unicode_utf8_first)] W) : TabsS W := by
  have hL' : laidMet Tryd.prog [("unicode/utf8.acceptRanges", Rows.laid_unicode_utf8_acceptRanges), ("unicode.White_Space", Rows.laid_unicode_White_Space), ("strings.asciiSpace", Rows.laid_strings_asciiSpace), ("unicode/utf8.first", Rows.laid_unicode_utf8_first)] W := hL
  exact ⟨⟨tabs_in hL' (.head _) (.tail _ (.tail _ (.tail _ (.head _)))), white_in hL' (.tail _ (.head _))⟩, spaceS_in hL' (.tail _ (.tail _ (.head _)))⟩
theorem tabsB_of_laid {W : World} (hL : laidMetH Tryd.prog [("unicode/utf8.acceptRanges", Rows.laid_unicode_utf8_acceptRanges), ("unicode.White_Space", Rows.laid_unicode_White_Space), ("bytes.asciiSpace", Rows.laid_bytes_asciiSpace), ("unicode/utf8.first", Rows.laid_unicode_utf8_first)] W) : TabsB W := by
  have hL' : laidMet Tryd.prog [("unicode/utf8.acceptRanges", Rows.laid_unicode_utf8_acceptRanges), ("unicode.White_Space", Rows.laid_unicode_White_Space), ("bytes.asciiSpace", Rows.laid_bytes_asciiSpace), ("unicode/utf8.first", Rows.laid_unicode_utf8_first)] W := hL
  exact ⟨⟨tabs_in hL' (.head _) (.tail _ (.tail _ (.tail _ (.head _)))), white_in hL' (.tail _ (.head _))⟩, spaceB_in hL' (.tail _ (.tail _ (.head _)))⟩

theorem tabsT_of_laid {W : World} (hL : laidMetH Tryd.prog [("unicode.White_Space", Rows.laid_unicode_White_Space), ("strings.asciiSpace", Rows.laid_strings_asciiSpace)] W) : TabsT W := by
  have hL' : laidMet Tryd.prog [("unicode.White_Space", Rows.laid_unicode_White_Space), ("strings.asciiSpace", Rows.laid_strings_asciiSpace)] W := hL
  exact ⟨white_in hL' (.head _), spaceS_in hL' (.tail _ (.head _))⟩

/-- the settled world with two blocks more (the ranges of white space, their table), all tables holding what their initialisers lay -/
noncomputable def laidWorldW (os : Os) : World :=
  let N := (World.settled Tryd.prog os).heap.size
  let w0 := World.holding Tryd.prog os ⟨#[.cells (Lib.whiteT.map fun (z : Nat) => Value.int .u16 (z : Int)).toArray (Tryd.lays199_ren.t 198), .cells #[.slice (some ⟨N, 0, none⟩) 7 7, .slice none 0 0, .int .i64 2] (Tryd.lays199_ren.t 196)], #[], []⟩
  let put (h : Array Obj) (g : Nat) (cs : Array Value) : Array Obj := h.modify g fun
    | .cells _ t frozen => .cells cs t frozen
    | o => o
  let h1 := put w0.heap 3 (Lib.firstTab.map fun z => Value.int .u8 z).toArray
  let h2 := put h1 4 ((List.range 16).flatMap fun i => [Value.int .u8 (Lib.accLo i), Value.int .u8 (Lib.accHi i)]).toArray
  let h3 := put h2 1 (Lib.asciiSpaceTab.map fun z => Value.int .u8 z).toArray
  let h4 := put h3 0 (Lib.asciiSpaceTab.map fun z => Value.int .u8 z).toArray
  { w0 with heap := put h4 2 #[.pointer (some ⟨N + 1, 0, none⟩)] }
theorem laid_metA (os : Os) (args : Array Value) : laidMet Tryd.prog [("unicode/utf8.acceptRanges", Rows.laid_unicode_utf8_acceptRanges), ("unicode.White_Space", Rows.laid_unicode_White_Space), ("bytes.asciiSpace", Rows.laid_bytes_asciiSpace), ("strings.asciiSpace", Rows.laid_strings_asciiSpace), ("unicode/utf8.first", Rows.laid_unicode_utf8_first)] ((laidWorldW os).forCall (fun _ _ => 0) ⟨#[], args, []⟩).memory := by
  rw [first_eq, accept_eq, white_eq, spaceS_eq, spaceB_eq]
  exact laidMet_of_run3 10 (by kernel_rfl) (by kernel_rfl) (by kernel_rfl)
theorem laid_metS (os : Os) (args : Array Value) : laidMet Tryd.prog [("unicode/utf8.acceptRanges", Rows.laid_unicode_utf8_acceptRanges), ("unicode.White_Space", Rows.laid_unicode_White_Space), ("strings.asciiSpace", Rows.laid_strings_asciiSpace), ("unicode/utf8.first", Rows.laid_unicode_utf8_first)] ((laidWorldW os).forCall (fun _ _ => 0) ⟨#[], args, []⟩).memory := by
  rw [first_eq, accept_eq, white_eq, spaceS_eq]
  exact laidMet_of_run3 10 (by kernel_rfl) (by kernel_rfl) (by kernel_rfl)
theorem laid_metB (os : Os) (args : Array Value) : laidMet Tryd.prog [("unicode/utf8.acceptRanges", Rows.laid_unicode_utf8_acceptRanges), ("unicode.White_Space", Rows.laid_unicode_White_Space), ("bytes.asciiSpace", Rows.laid_bytes_asciiSpace), ("unicode/utf8.first", Rows.laid_unicode_utf8_first)] ((laidWorldW os).forCall (fun _ _ => 0) ⟨#[], args, []⟩).memory := by
  rw [first_eq, accept_eq, white_eq, spaceB_eq]
  exact laidMet_of_run3 10 (by kernel_rfl) (by kernel_rfl) (by kernel_rfl)
theorem laid_metT (os : Os) (args : Array Value) : laidMet Tryd.prog [("unicode.White_Space", Rows.laid_unicode_White_Space), ("strings.asciiSpace", Rows.laid_strings_asciiSpace)] ((laidWorldW os).forCall (fun _ _ => 0) ⟨#[], args, []⟩).memory := by
  rw [white_eq, spaceS_eq]
  exact laidMet_of_run3 10 (by kernel_rfl) (by kernel_rfl) (by kernel_rfl)
end Go.Proofs.YtdlhjnihmkbagaaDoor
