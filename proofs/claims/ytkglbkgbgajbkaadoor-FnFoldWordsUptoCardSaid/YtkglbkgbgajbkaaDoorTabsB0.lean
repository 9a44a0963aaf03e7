/- The tables of white space that package bytes reads, from a row's list of variables. Conditions: none. -/
import Derived.Test.YtkglbkgbgajbkaaDoorTabs
import Derived.Lib.Space
import Derived.Shelf.Unicode.IsSpaceAny
namespace Go.Proofs.YtkglbkgbgajbkaaDoor
open Go.RowKit Go.Shelf

def TabsW (w : World) : Prop := Tabs w ∧ Lib.WhiteTab 4 w
def TabsB (w : World) : Prop := TabsW w ∧ Lib.TabIs Tryd.prog w "bytes.asciiSpace" .u8 Lib.asciiSpaceTab
theorem gB : Tryd.prog.globalNamed "bytes.asciiSpace" = some 0 := by kernel_rfl
theorem tabIs_below {n : String} {g : Nat} {k : IntKind} {zs : List Int} {w w' : World} (hg : Tryd.prog.globalNamed n = some g) (h : Lib.TabIs Tryd.prog w n k zs) (hb : Below w.heap.size w w') : Lib.TabIs Tryd.prog w' n k zs := by
  unfold Lib.TabIs World.var? at h ⊢
  rw [hg] at h ⊢
  simp only [Option.bind_some] at h ⊢
  have hlt : g < w.heap.size := by
    rcases Nat.lt_or_ge g w.heap.size with hl | hl
    · exact hl
    · simp [Array.getElem?_eq_none hl] at h
  rw [hb.block g hlt]
  exact h
theorem TabsW.below {w w' : World} (h : TabsW w) (hb : Below w.heap.size w w') : TabsW w' := ⟨h.1.below hb, WhiteTab_below h.2 hb⟩
theorem TabsB.below {w w' : World} (h : TabsB w) (hb : Below w.heap.size w w') : TabsB w' := ⟨h.1.below hb, tabIs_below gB h.2 hb⟩

theorem white_eq : Rows.laid_unicode_White_Space (H := Unit) = Lib.whiteData := by kernel_rfl
theorem spaceB_eq : Rows.laid_bytes_asciiSpace (H := Unit) = Lib.tabData .u8 Lib.asciiSpaceTab := by kernel_rfl
theorem tabIs_of_reads {W : World} {name : String} {k : IntKind} {zs : List Int} {g : Nat} {t e : TypeId} {n : Nat}
    (hg : Tryd.prog.globalNamed name = some g) (hty : (Tryd.prog.globals[g]?).map (·.type) = some t) (ht : Tryd.prog.underlying t = some (.array n e)) (he : Tryd.prog.underlying e = some (.int k)) (h1 : Tryd.prog.cellsOf e = 1) (hc : Tryd.prog.cellsOf t = n)
    (h : Lib.VarReads Tryd.prog W name (Lib.tabData k zs)) : Lib.TabIs Tryd.prog W name k zs := by
  obtain ⟨g', t', cs, fuel, p, hg', hty', hvar, hd⟩ := h
  obtain rfl := Option.some.inj (hg.symm.trans hg')
  obtain rfl := Option.some.inj (hty.symm.trans hty')
  have hcs := Lib.cells_of_tab ht he h1 hc hd
  unfold Lib.TabIs
  rw [hvar]
  congr 1
  cases cs
  simp only at hcs
  rw [hcs]

section
variable {W : World} {l : List (String × DataW Unit)} (hL : laidMet Tryd.prog l W)
include hL
theorem white_in (h1 : ("unicode.White_Space", Rows.laid_unicode_White_Space) ∈ l) : Lib.WhiteTab 4 W := by
  rw [white_eq] at h1
  exact whiteTab_of_reads Tryd.lays199 ⟨by kernel_rfl, by kernel_rfl, by kernel_rfl, by kernel_rfl, by kernel_rfl, by kernel_rfl, by kernel_rfl, by kernel_rfl⟩ (Lib.laidMet.reads hL h1)
theorem spaceB_in (h1 : ("bytes.asciiSpace", Rows.laid_bytes_asciiSpace) ∈ l) : Lib.TabIs Tryd.prog W "bytes.asciiSpace" .u8 Lib.asciiSpaceTab := by
  rw [spaceB_eq] at h1
  exact tabIs_of_reads (t := 47) gB (by kernel_rfl) Tryd.underlying47 Tryd.underlying5 (by kernel_rfl) (by kernel_rfl) (Lib.laidMet.reads hL h1)
end
end Go.Proofs.YtkglbkgbgajbkaaDoor
