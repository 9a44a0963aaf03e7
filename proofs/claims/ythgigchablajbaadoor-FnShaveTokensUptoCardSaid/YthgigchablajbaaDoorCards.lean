/-
  DERIVED. GIVEN WITH THE SEED: THE CARDS: each row of YthgigchablajbaaDoorRows.lean that lists a variable, with what it lists TIED to the program's text (the seventh form; the later family's looks); each row that meets fmt, with fmt's text TOLD by the authors' own Lean function (tested against real Go, not proved from fmt's source: count such statements apart). THE CARD IS WHAT COUNTS. Prove the row's statement (the work); the ties are given (YthgigchablajbaaDoorTie.lean); close each card by the builder's one call (the guide's Derived/Test/ToyasCard.lean, 'card_holds'). Laid BY PROGRAM, IN A SANDBOX (cutbox-door.mjs). By AI agents, Wed Nov 11 2026. No macro, syntax, notation, axiom, sorry.
-/
import Derived.Test.YthgigchablajbaaDoorRows
import GoSem.ClaimSeven
namespace Go.Proofs.YthgigchablajbaaDoor
namespace Rows

/-- THE TIED CARD OF 'laws.FnShaveCut'. -/
def fnShaveCutCard : Claim7 := { stood := { row := fnShaveCutRow, standIns := [], harness := (true, "ffbd03b148a25c96c5cd2d4a7cfa707d029ec835534119fb0be6010503d8178c"), looks := false }, kinds := [], alts := [], laidByText := true, laidKinds := [.data, .listed, .data, .data, .pinned], laidTests := true, laidLooks := .later }
def FnShaveCutCardSaid : Prop := Claim7.holds Tryd.pinned (.plain (OpenSpec.ofChange fnShaveCutSpec)) fnShaveCutCard

/-- THE TIED CARD OF 'laws.FnShaveSides'. -/
def fnShaveSidesCard : Claim7 := { stood := { row := fnShaveSidesRow, standIns := [], harness := (true, "ffbd03b148a25c96c5cd2d4a7cfa707d029ec835534119fb0be6010503d8178c"), looks := false }, kinds := [], alts := [], laidByText := true, laidKinds := [.data, .listed, .data, .data, .pinned], laidTests := true, laidLooks := .later }
def FnShaveSidesCardSaid : Prop := Claim7.holds Tryd.pinned (.plain (OpenSpec.ofChange fnShaveSidesSpec)) fnShaveSidesCard

/-- THE TIED CARD OF 'laws.FnShaveUnion'. -/
def fnShaveUnionCard : Claim7 := { stood := { row := fnShaveUnionRow, standIns := [], harness := (true, "ffbd03b148a25c96c5cd2d4a7cfa707d029ec835534119fb0be6010503d8178c"), looks := false }, kinds := [], alts := [], laidByText := true, laidKinds := [.data, .listed, .data, .data, .pinned], laidTests := true, laidLooks := .later }
def FnShaveUnionCardSaid : Prop := Claim7.holds Tryd.pinned (.plain (OpenSpec.ofChange fnShaveUnionSpec)) fnShaveUnionCard

/-- THE TIED CARD OF 'laws.FnExactShave'. -/
def fnExactShaveCard : Claim7 := { stood := { row := fnExactShaveRow, standIns := [], harness := (true, "ffbd03b148a25c96c5cd2d4a7cfa707d029ec835534119fb0be6010503d8178c"), looks := false }, kinds := [], alts := [], laidByText := true, laidKinds := [.data, .listed, .data, .pinned], laidTests := true, laidLooks := .later }
def FnExactShaveCardSaid : Prop := Claim7.holds Tryd.pinned (.plain (OpenSpec.ofChange fnExactShaveSpec)) fnExactShaveCard

/-- THE TIED CARD OF 'laws.FnExactShaveBytes'. -/
def fnExactShaveBytesCard : Claim7 := { stood := { row := fnExactShaveBytesRow, standIns := [], harness := (true, "ffbd03b148a25c96c5cd2d4a7cfa707d029ec835534119fb0be6010503d8178c"), looks := false }, kinds := [], alts := [], laidByText := true, laidKinds := [.data, .listed, .data, .pinned], laidTests := true, laidLooks := .later }
def FnExactShaveBytesCardSaid : Prop := Claim7.holds Tryd.pinned (.plain (OpenSpec.ofChange fnExactShaveBytesSpec)) fnExactShaveBytesCard

/-- THE TIED CARD OF 'laws.FnShaveTokens'. -/
def fnShaveTokensCard : Claim7 := { stood := { row := fnShaveTokensRow, standIns := [], harness := (true, "ffbd03b148a25c96c5cd2d4a7cfa707d029ec835534119fb0be6010503d8178c"), looks := false }, kinds := [], alts := [], laidByText := true, laidKinds := [.data, .listed, .data, .pinned], laidTests := true, laidLooks := .later }
def FnShaveTokensCardSaid : Prop := Claim7.holds Tryd.pinned (.plain (OpenSpec.ofChange fnShaveTokensSpec)) fnShaveTokensCard

/-- THE TIED CARD OF 'laws.FnShaveBoth'. -/
def fnShaveBothCard : Claim7 := { stood := { row := fnShaveBothRow, standIns := [], harness := (true, "ffbd03b148a25c96c5cd2d4a7cfa707d029ec835534119fb0be6010503d8178c"), looks := false }, kinds := [], alts := [], laidByText := true, laidKinds := [.data, .listed, .data, .data, .pinned], laidTests := true, laidLooks := .later }
def FnShaveBothCardSaid : Prop := Claim7.holds Tryd.pinned (.plain (OpenSpec.ofChange fnShaveBothSpec)) fnShaveBothCard

/-- THE SECOND FORM's CARD OF 'laws.FnShaveCut'. -/
def fnShaveCutUptoCard : Claim7 := { stood := { row := fnShaveCutUptoRow, standIns := [], harness := (true, "ffbd03b148a25c96c5cd2d4a7cfa707d029ec835534119fb0be6010503d8178c"), looks := false }, kinds := [], alts := [], laidByText := true, laidKinds := [.data, .listed, .data, .data, .pinned], laidTests := true, laidLooks := .later }
def FnShaveCutUptoCardSaid : Prop := Claim7.holds Tryd.pinned (.plain (OpenSpec.upto fnShaveCutSpec)) fnShaveCutUptoCard

/-- THE SECOND FORM's CARD OF 'laws.FnShaveSides'. -/
def fnShaveSidesUptoCard : Claim7 := { stood := { row := fnShaveSidesUptoRow, standIns := [], harness := (true, "ffbd03b148a25c96c5cd2d4a7cfa707d029ec835534119fb0be6010503d8178c"), looks := false }, kinds := [], alts := [], laidByText := true, laidKinds := [.data, .listed, .data, .data, .pinned], laidTests := true, laidLooks := .later }
def FnShaveSidesUptoCardSaid : Prop := Claim7.holds Tryd.pinned (.plain (OpenSpec.upto fnShaveSidesSpec)) fnShaveSidesUptoCard

/-- THE SECOND FORM's CARD OF 'laws.FnShaveUnion'. -/
def fnShaveUnionUptoCard : Claim7 := { stood := { row := fnShaveUnionUptoRow, standIns := [], harness := (true, "ffbd03b148a25c96c5cd2d4a7cfa707d029ec835534119fb0be6010503d8178c"), looks := false }, kinds := [], alts := [], laidByText := true, laidKinds := [.data, .listed, .data, .data, .pinned], laidTests := true, laidLooks := .later }
def FnShaveUnionUptoCardSaid : Prop := Claim7.holds Tryd.pinned (.plain (OpenSpec.upto fnShaveUnionSpec)) fnShaveUnionUptoCard

/-- THE SECOND FORM's CARD OF 'laws.FnExactShave'. -/
def fnExactShaveUptoCard : Claim7 := { stood := { row := fnExactShaveUptoRow, standIns := [], harness := (true, "ffbd03b148a25c96c5cd2d4a7cfa707d029ec835534119fb0be6010503d8178c"), looks := false }, kinds := [], alts := [], laidByText := true, laidKinds := [.data, .listed, .data, .pinned], laidTests := true, laidLooks := .later }
def FnExactShaveUptoCardSaid : Prop := Claim7.holds Tryd.pinned (.plain (OpenSpec.upto fnExactShaveSpec)) fnExactShaveUptoCard

/-- THE SECOND FORM's CARD OF 'laws.FnExactShaveBytes'. -/
def fnExactShaveBytesUptoCard : Claim7 := { stood := { row := fnExactShaveBytesUptoRow, standIns := [], harness := (true, "ffbd03b148a25c96c5cd2d4a7cfa707d029ec835534119fb0be6010503d8178c"), looks := false }, kinds := [], alts := [], laidByText := true, laidKinds := [.data, .listed, .data, .pinned], laidTests := true, laidLooks := .later }
def FnExactShaveBytesUptoCardSaid : Prop := Claim7.holds Tryd.pinned (.plain (OpenSpec.upto fnExactShaveBytesSpec)) fnExactShaveBytesUptoCard

/-- THE SECOND FORM's CARD OF 'laws.FnShaveTokens'. -/
def fnShaveTokensUptoCard : Claim7 := { stood := { row := fnShaveTokensUptoRow, standIns := [], harness := (true, "ffbd03b148a25c96c5cd2d4a7cfa707d029ec835534119fb0be6010503d8178c"), looks := false }, kinds := [], alts := [], laidByText := true, laidKinds := [.data, .listed, .data, .pinned], laidTests := true, laidLooks := .later }
def FnShaveTokensUptoCardSaid : Prop := Claim7.holds Tryd.pinned (.plain (OpenSpec.upto fnShaveTokensSpec)) fnShaveTokensUptoCard

/-- THE SECOND FORM's CARD OF 'laws.FnShaveBoth'. -/
def fnShaveBothUptoCard : Claim7 := { stood := { row := fnShaveBothUptoRow, standIns := [], harness := (true, "ffbd03b148a25c96c5cd2d4a7cfa707d029ec835534119fb0be6010503d8178c"), looks := false }, kinds := [], alts := [], laidByText := true, laidKinds := [.data, .listed, .data, .data, .pinned], laidTests := true, laidLooks := .later }
def FnShaveBothUptoCardSaid : Prop := Claim7.holds Tryd.pinned (.plain (OpenSpec.upto fnShaveBothSpec)) fnShaveBothUptoCard
end Rows
end Go.Proofs.YthgigchablajbaaDoor
