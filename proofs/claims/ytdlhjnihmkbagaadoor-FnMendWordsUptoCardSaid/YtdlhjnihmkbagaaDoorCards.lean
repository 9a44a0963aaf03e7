/-
  DERIVED. GIVEN WITH THE SEED: THE CARDS: each row of YtdlhjnihmkbagaaDoorRows.lean that lists a variable, with what it lists TIED to the program's text (the seventh form; the later family's looks); each row that meets fmt, with fmt's text TOLD by the authors' own Lean function (tested against real Go, not proved from fmt's source: count such statements apart). THE CARD IS WHAT COUNTS. Prove the row's statement (the work); the ties are given (YtdlhjnihmkbagaaDoorTie.lean); close each card by the builder's one call (the guide's Derived/Test/ToyasCard.lean, 'card_holds'). Laid BY PROGRAM, IN A SANDBOX (cutbox-door.mjs). By AI agents, Wed Nov 11 2026. No macro, syntax, notation, axiom, sorry.
-/
import Derived.Test.YtdlhjnihmkbagaaDoorRows
import GoSem.ClaimSeven
namespace Go.Proofs.YtdlhjnihmkbagaaDoor
namespace Rows

/-- THE TIED CARD OF 'laws.FnExactWordsBytes'. -/
def fnExactWordsBytesCard : Claim7 := { stood := { row := fnExactWordsBytesRow, standIns := [], harness := (true, "cf0ff42837c261e9acad9ca6bf5459446168dc6252939514bdb572cdea719dd0"), looks := false }, kinds := [], alts := [], laidByText := true, laidKinds := [.data, .listed, .data, .pinned], laidTests := true, laidLooks := .later }
def FnExactWordsBytesCardSaid : Prop := Claim7.holds Tryd.pinned (.plain (OpenSpec.ofChange fnExactWordsBytesSpec)) fnExactWordsBytesCard

/-- THE TIED CARD OF 'laws.FnExactWords'. -/
def fnExactWordsCard : Claim7 := { stood := { row := fnExactWordsRow, standIns := [], harness := (true, "cf0ff42837c261e9acad9ca6bf5459446168dc6252939514bdb572cdea719dd0"), looks := false }, kinds := [], alts := [], laidByText := true, laidKinds := [.listed, .data], laidTests := true, laidLooks := .later }
def FnExactWordsCardSaid : Prop := Claim7.holds Tryd.pinned (.plain (OpenSpec.ofChange fnExactWordsSpec)) fnExactWordsCard

/-- THE TIED CARD OF 'laws.FnWordsBoth'. -/
def fnWordsBothCard : Claim7 := { stood := { row := fnWordsBothRow, standIns := [], harness := (true, "cf0ff42837c261e9acad9ca6bf5459446168dc6252939514bdb572cdea719dd0"), looks := false }, kinds := [], alts := [], laidByText := true, laidKinds := [.data, .listed, .data, .data, .pinned], laidTests := true, laidLooks := .later }
def FnWordsBothCardSaid : Prop := Claim7.holds Tryd.pinned (.plain (OpenSpec.ofChange fnWordsBothSpec)) fnWordsBothCard

/-- THE TIED CARD OF 'laws.FnWordsJoined'. -/
def fnWordsJoinedCard : Claim7 := { stood := { row := fnWordsJoinedRow, standIns := [], harness := (true, "cf0ff42837c261e9acad9ca6bf5459446168dc6252939514bdb572cdea719dd0"), looks := false }, kinds := [], alts := [], laidByText := true, laidKinds := [.data, .listed, .data, .data, .pinned], laidTests := true, laidLooks := .later }
def FnWordsJoinedCardSaid : Prop := Claim7.holds Tryd.pinned (.plain (OpenSpec.ofChange fnWordsJoinedSpec)) fnWordsJoinedCard

/-- THE TIED CARD OF 'laws.FnMendWords'. -/
def fnMendWordsCard : Claim7 := { stood := { row := fnMendWordsRow, standIns := [], harness := (true, "cf0ff42837c261e9acad9ca6bf5459446168dc6252939514bdb572cdea719dd0"), looks := false }, kinds := [], alts := [], laidByText := true, laidKinds := [.data, .listed, .data, .pinned], laidTests := true, laidLooks := .later }
def FnMendWordsCardSaid : Prop := Claim7.holds Tryd.pinned (.plain (OpenSpec.ofChange fnMendWordsSpec)) fnMendWordsCard

/-- THE SECOND FORM's CARD OF 'laws.FnExactWordsBytes'. -/
def fnExactWordsBytesUptoCard : Claim7 := { stood := { row := fnExactWordsBytesUptoRow, standIns := [], harness := (true, "cf0ff42837c261e9acad9ca6bf5459446168dc6252939514bdb572cdea719dd0"), looks := false }, kinds := [], alts := [], laidByText := true, laidKinds := [.data, .listed, .data, .pinned], laidTests := true, laidLooks := .later }
def FnExactWordsBytesUptoCardSaid : Prop := Claim7.holds Tryd.pinned (.plain (OpenSpec.upto fnExactWordsBytesSpec)) fnExactWordsBytesUptoCard

/-- THE SECOND FORM's CARD OF 'laws.FnExactWords'. -/
def fnExactWordsUptoCard : Claim7 := { stood := { row := fnExactWordsUptoRow, standIns := [], harness := (true, "cf0ff42837c261e9acad9ca6bf5459446168dc6252939514bdb572cdea719dd0"), looks := false }, kinds := [], alts := [], laidByText := true, laidKinds := [.listed, .data], laidTests := true, laidLooks := .later }
def FnExactWordsUptoCardSaid : Prop := Claim7.holds Tryd.pinned (.plain (OpenSpec.upto fnExactWordsSpec)) fnExactWordsUptoCard

/-- THE SECOND FORM's CARD OF 'laws.FnWordsBoth'. -/
def fnWordsBothUptoCard : Claim7 := { stood := { row := fnWordsBothUptoRow, standIns := [], harness := (true, "cf0ff42837c261e9acad9ca6bf5459446168dc6252939514bdb572cdea719dd0"), looks := false }, kinds := [], alts := [], laidByText := true, laidKinds := [.data, .listed, .data, .data, .pinned], laidTests := true, laidLooks := .later }
def FnWordsBothUptoCardSaid : Prop := Claim7.holds Tryd.pinned (.plain (OpenSpec.upto fnWordsBothSpec)) fnWordsBothUptoCard

/-- THE SECOND FORM's CARD OF 'laws.FnWordsJoined'. -/
def fnWordsJoinedUptoCard : Claim7 := { stood := { row := fnWordsJoinedUptoRow, standIns := [], harness := (true, "cf0ff42837c261e9acad9ca6bf5459446168dc6252939514bdb572cdea719dd0"), looks := false }, kinds := [], alts := [], laidByText := true, laidKinds := [.data, .listed, .data, .data, .pinned], laidTests := true, laidLooks := .later }
def FnWordsJoinedUptoCardSaid : Prop := Claim7.holds Tryd.pinned (.plain (OpenSpec.upto fnWordsJoinedSpec)) fnWordsJoinedUptoCard

/-- THE SECOND FORM's CARD OF 'laws.FnMendWords'. -/
def fnMendWordsUptoCard : Claim7 := { stood := { row := fnMendWordsUptoRow, standIns := [], harness := (true, "cf0ff42837c261e9acad9ca6bf5459446168dc6252939514bdb572cdea719dd0"), looks := false }, kinds := [], alts := [], laidByText := true, laidKinds := [.data, .listed, .data, .pinned], laidTests := true, laidLooks := .later }
def FnMendWordsUptoCardSaid : Prop := Claim7.holds Tryd.pinned (.plain (OpenSpec.upto fnMendWordsSpec)) fnMendWordsUptoCard
end Rows
end Go.Proofs.YtdlhjnihmkbagaaDoor
