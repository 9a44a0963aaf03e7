/-
  DERIVED. GIVEN WITH THE SEED: THE CARDS: each row of YtahlgmnjdkimmaaDoorRows.lean that lists a variable, with what it lists TIED to the program's text (the seventh form; the later family's looks); each row that meets fmt, with fmt's text TOLD by the authors' own Lean function (tested against real Go, not proved from fmt's source: count such statements apart). THE CARD IS WHAT COUNTS. Prove the row's statement (the work); the ties are given (YtahlgmnjdkimmaaDoorTie.lean); close each card by the builder's one call (the guide's Derived/Test/ToyasCard.lean, 'card_holds'). Laid BY PROGRAM, IN A SANDBOX (cutbox-door.mjs). By AI agents, Wed Nov 11 2026. No macro, syntax, notation, axiom, sorry.
-/
import Derived.Test.YtahlgmnjdkimmaaDoorRows
import GoSem.ClaimSeven
namespace Go.Proofs.YtahlgmnjdkimmaaDoor
namespace Rows

/-- THE TIED CARD OF 'laws.FnExactMendAllBytes'. -/
def fnExactMendAllBytesCard : Claim7 := { stood := { row := fnExactMendAllBytesRow, standIns := [], harness := (true, "8dad473226eaa7fc43fc3b8847e8b0a7c2365da51843346003b29deae5f686ff"), looks := false }, kinds := [], alts := [], laidByText := true, laidKinds := [.data, .pinned], laidTests := true, laidLooks := .later }
def FnExactMendAllBytesCardSaid : Prop := Claim7.holds Tryd.pinned (.plain (OpenSpec.ofChange fnExactMendAllBytesSpec)) fnExactMendAllBytesCard

/-- THE TIED CARD OF 'laws.FnExactMendBytes'. -/
def fnExactMendBytesCard : Claim7 := { stood := { row := fnExactMendBytesRow, standIns := [], harness := (true, "8dad473226eaa7fc43fc3b8847e8b0a7c2365da51843346003b29deae5f686ff"), looks := false }, kinds := [], alts := [], laidByText := true, laidKinds := [.data, .pinned], laidTests := true, laidLooks := .later }
def FnExactMendBytesCardSaid : Prop := Claim7.holds Tryd.pinned (.plain (OpenSpec.ofChange fnExactMendBytesSpec)) fnExactMendBytesCard

/-- THE TIED CARD OF 'laws.FnExactMend'. -/
def fnExactMendCard : Claim7 := { stood := { row := fnExactMendRow, standIns := [], harness := (true, "8dad473226eaa7fc43fc3b8847e8b0a7c2365da51843346003b29deae5f686ff"), looks := false }, kinds := [], alts := [], laidByText := true, laidKinds := [.data, .pinned], laidTests := true, laidLooks := .later }
def FnExactMendCardSaid : Prop := Claim7.holds Tryd.pinned (.plain (OpenSpec.ofChange fnExactMendSpec)) fnExactMendCard

/-- THE TIED CARD OF 'laws.FnExactMendAll'. -/
def fnExactMendAllCard : Claim7 := { stood := { row := fnExactMendAllRow, standIns := [], harness := (true, "8dad473226eaa7fc43fc3b8847e8b0a7c2365da51843346003b29deae5f686ff"), looks := false }, kinds := [], alts := [], laidByText := true, laidKinds := [.data, .pinned], laidTests := true, laidLooks := .later }
def FnExactMendAllCardSaid : Prop := Claim7.holds Tryd.pinned (.plain (OpenSpec.ofChange fnExactMendAllSpec)) fnExactMendAllCard

/-- THE TIED CARD OF 'laws.FnMendLinear'. -/
def fnMendLinearCard : Claim7 := { stood := { row := fnMendLinearRow, standIns := [], harness := (true, "8dad473226eaa7fc43fc3b8847e8b0a7c2365da51843346003b29deae5f686ff"), looks := false }, kinds := [], alts := [], laidByText := true, laidKinds := [.data, .pinned], laidTests := true, laidLooks := .later }
def FnMendLinearCardSaid : Prop := Claim7.holds Tryd.pinned (.plain (OpenSpec.ofChange fnMendLinearSpec)) fnMendLinearCard

/-- THE TIED CARD OF 'laws.FnMendApart'. -/
def fnMendApartCard : Claim7 := { stood := { row := fnMendApartRow, standIns := [], harness := (true, "8dad473226eaa7fc43fc3b8847e8b0a7c2365da51843346003b29deae5f686ff"), looks := false }, kinds := [], alts := [], laidByText := true, laidKinds := [.data, .pinned], laidTests := true, laidLooks := .later }
def FnMendApartCardSaid : Prop := Claim7.holds Tryd.pinned (.plain (OpenSpec.ofChange fnMendApartSpec)) fnMendApartCard

/-- THE TIED CARD OF 'laws.FnMendTogether'. -/
def fnMendTogetherCard : Claim7 := { stood := { row := fnMendTogetherRow, standIns := [], harness := (true, "8dad473226eaa7fc43fc3b8847e8b0a7c2365da51843346003b29deae5f686ff"), looks := false }, kinds := [], alts := [], laidByText := true, laidKinds := [.data, .pinned], laidTests := true, laidLooks := .later }
def FnMendTogetherCardSaid : Prop := Claim7.holds Tryd.pinned (.plain (OpenSpec.ofChange fnMendTogetherSpec)) fnMendTogetherCard

/-- THE TIED CARD OF 'laws.FnMendBoth'. -/
def fnMendBothCard : Claim7 := { stood := { row := fnMendBothRow, standIns := [], harness := (true, "8dad473226eaa7fc43fc3b8847e8b0a7c2365da51843346003b29deae5f686ff"), looks := false }, kinds := [], alts := [], laidByText := true, laidKinds := [.data, .pinned], laidTests := true, laidLooks := .later }
def FnMendBothCardSaid : Prop := Claim7.holds Tryd.pinned (.plain (OpenSpec.ofChange fnMendBothSpec)) fnMendBothCard

/-- THE SECOND FORM's CARD OF 'laws.FnExactMendAllBytes'. -/
def fnExactMendAllBytesUptoCard : Claim7 := { stood := { row := fnExactMendAllBytesUptoRow, standIns := [], harness := (true, "8dad473226eaa7fc43fc3b8847e8b0a7c2365da51843346003b29deae5f686ff"), looks := false }, kinds := [], alts := [], laidByText := true, laidKinds := [.data, .pinned], laidTests := true, laidLooks := .later }
def FnExactMendAllBytesUptoCardSaid : Prop := Claim7.holds Tryd.pinned (.plain (OpenSpec.upto fnExactMendAllBytesSpec)) fnExactMendAllBytesUptoCard

/-- THE SECOND FORM's CARD OF 'laws.FnExactMendBytes'. -/
def fnExactMendBytesUptoCard : Claim7 := { stood := { row := fnExactMendBytesUptoRow, standIns := [], harness := (true, "8dad473226eaa7fc43fc3b8847e8b0a7c2365da51843346003b29deae5f686ff"), looks := false }, kinds := [], alts := [], laidByText := true, laidKinds := [.data, .pinned], laidTests := true, laidLooks := .later }
def FnExactMendBytesUptoCardSaid : Prop := Claim7.holds Tryd.pinned (.plain (OpenSpec.upto fnExactMendBytesSpec)) fnExactMendBytesUptoCard

/-- THE SECOND FORM's CARD OF 'laws.FnExactMend'. -/
def fnExactMendUptoCard : Claim7 := { stood := { row := fnExactMendUptoRow, standIns := [], harness := (true, "8dad473226eaa7fc43fc3b8847e8b0a7c2365da51843346003b29deae5f686ff"), looks := false }, kinds := [], alts := [], laidByText := true, laidKinds := [.data, .pinned], laidTests := true, laidLooks := .later }
def FnExactMendUptoCardSaid : Prop := Claim7.holds Tryd.pinned (.plain (OpenSpec.upto fnExactMendSpec)) fnExactMendUptoCard

/-- THE SECOND FORM's CARD OF 'laws.FnExactMendAll'. -/
def fnExactMendAllUptoCard : Claim7 := { stood := { row := fnExactMendAllUptoRow, standIns := [], harness := (true, "8dad473226eaa7fc43fc3b8847e8b0a7c2365da51843346003b29deae5f686ff"), looks := false }, kinds := [], alts := [], laidByText := true, laidKinds := [.data, .pinned], laidTests := true, laidLooks := .later }
def FnExactMendAllUptoCardSaid : Prop := Claim7.holds Tryd.pinned (.plain (OpenSpec.upto fnExactMendAllSpec)) fnExactMendAllUptoCard

/-- THE SECOND FORM's CARD OF 'laws.FnMendLinear'. -/
def fnMendLinearUptoCard : Claim7 := { stood := { row := fnMendLinearUptoRow, standIns := [], harness := (true, "8dad473226eaa7fc43fc3b8847e8b0a7c2365da51843346003b29deae5f686ff"), looks := false }, kinds := [], alts := [], laidByText := true, laidKinds := [.data, .pinned], laidTests := true, laidLooks := .later }
def FnMendLinearUptoCardSaid : Prop := Claim7.holds Tryd.pinned (.plain (OpenSpec.upto fnMendLinearSpec)) fnMendLinearUptoCard

/-- THE SECOND FORM's CARD OF 'laws.FnMendApart'. -/
def fnMendApartUptoCard : Claim7 := { stood := { row := fnMendApartUptoRow, standIns := [], harness := (true, "8dad473226eaa7fc43fc3b8847e8b0a7c2365da51843346003b29deae5f686ff"), looks := false }, kinds := [], alts := [], laidByText := true, laidKinds := [.data, .pinned], laidTests := true, laidLooks := .later }
def FnMendApartUptoCardSaid : Prop := Claim7.holds Tryd.pinned (.plain (OpenSpec.upto fnMendApartSpec)) fnMendApartUptoCard

/-- THE SECOND FORM's CARD OF 'laws.FnMendTogether'. -/
def fnMendTogetherUptoCard : Claim7 := { stood := { row := fnMendTogetherUptoRow, standIns := [], harness := (true, "8dad473226eaa7fc43fc3b8847e8b0a7c2365da51843346003b29deae5f686ff"), looks := false }, kinds := [], alts := [], laidByText := true, laidKinds := [.data, .pinned], laidTests := true, laidLooks := .later }
def FnMendTogetherUptoCardSaid : Prop := Claim7.holds Tryd.pinned (.plain (OpenSpec.upto fnMendTogetherSpec)) fnMendTogetherUptoCard

/-- THE SECOND FORM's CARD OF 'laws.FnMendBoth'. -/
def fnMendBothUptoCard : Claim7 := { stood := { row := fnMendBothUptoRow, standIns := [], harness := (true, "8dad473226eaa7fc43fc3b8847e8b0a7c2365da51843346003b29deae5f686ff"), looks := false }, kinds := [], alts := [], laidByText := true, laidKinds := [.data, .pinned], laidTests := true, laidLooks := .later }
def FnMendBothUptoCardSaid : Prop := Claim7.holds Tryd.pinned (.plain (OpenSpec.upto fnMendBothSpec)) fnMendBothUptoCard
end Rows
end Go.Proofs.YtahlgmnjdkimmaaDoor
