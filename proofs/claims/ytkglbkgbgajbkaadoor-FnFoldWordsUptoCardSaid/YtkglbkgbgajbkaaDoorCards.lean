/-
  DERIVED. GIVEN WITH THE SEED: THE CARDS: each row of YtkglbkgbgajbkaaDoorRows.lean that lists a variable, with what it lists TIED to the program's text (the seventh form; the later family's looks); each row that meets fmt, with fmt's text TOLD by the authors' own Lean function (tested against real Go, not proved from fmt's source: count such statements apart). THE CARD IS WHAT COUNTS. Prove the row's statement (the work); the ties are given (YtkglbkgbgajbkaaDoorTie.lean); close each card by the builder's one call (the guide's Derived/Test/ToyasCard.lean, 'card_holds'). Laid BY PROGRAM, IN A SANDBOX (cutbox-door.mjs). By AI agents, Wed Nov 11 2026. No macro, syntax, notation, axiom, sorry.
-/
import Derived.Test.YtkglbkgbgajbkaaDoorRows
import GoSem.ClaimSeven
namespace Go.Proofs.YtkglbkgbgajbkaaDoor
namespace Rows

/-- THE TIED CARD OF 'laws.FnFoldFirst'. -/
def fnFoldFirstCard : Claim7 := { stood := { row := fnFoldFirstRow, standIns := [], harness := (true, "5a6932ddab5b320069be8957ecb67062385d84ce22b5c444658690c4aac996b9"), looks := false }, kinds := [], alts := [], laidByText := true, laidKinds := [.data, .data, .data, .pinned, .pinned], laidTests := true, laidLooks := .later }
def FnFoldFirstCardSaid : Prop := Claim7.holds Tryd.pinned (.plain (OpenSpec.ofChange fnFoldFirstSpec)) fnFoldFirstCard

/-- THE TIED CARD OF 'laws.FnFoldBoth'. -/
def fnFoldBothCard : Claim7 := { stood := { row := fnFoldBothRow, standIns := [], harness := (true, "5a6932ddab5b320069be8957ecb67062385d84ce22b5c444658690c4aac996b9"), looks := false }, kinds := [], alts := [], laidByText := true, laidKinds := [.data, .data, .data, .pinned, .pinned], laidTests := true, laidLooks := .later }
def FnFoldBothCardSaid : Prop := Claim7.holds Tryd.pinned (.plain (OpenSpec.ofChange fnFoldBothSpec)) fnFoldBothCard

/-- THE TIED CARD OF 'laws.FnFoldPairs'. -/
def fnFoldPairsCard : Claim7 := { stood := { row := fnFoldPairsRow, standIns := [], harness := (true, "5a6932ddab5b320069be8957ecb67062385d84ce22b5c444658690c4aac996b9"), looks := false }, kinds := [], alts := [], laidByText := true, laidKinds := [.data, .data, .data, .pinned, .pinned], laidTests := true, laidLooks := .later }
def FnFoldPairsCardSaid : Prop := Claim7.holds Tryd.pinned (.plain (OpenSpec.ofChange fnFoldPairsSpec)) fnFoldPairsCard

/-- THE TIED CARD OF 'laws.FnFoldTurned'. -/
def fnFoldTurnedCard : Claim7 := { stood := { row := fnFoldTurnedRow, standIns := [], harness := (true, "5a6932ddab5b320069be8957ecb67062385d84ce22b5c444658690c4aac996b9"), looks := false }, kinds := [], alts := [], laidByText := true, laidKinds := [.data, .data, .data, .pinned, .pinned], laidTests := true, laidLooks := .later }
def FnFoldTurnedCardSaid : Prop := Claim7.holds Tryd.pinned (.plain (OpenSpec.ofChange fnFoldTurnedSpec)) fnFoldTurnedCard

/-- THE TIED CARD OF 'laws.FnFoldTwice'. -/
def fnFoldTwiceCard : Claim7 := { stood := { row := fnFoldTwiceRow, standIns := [], harness := (true, "5a6932ddab5b320069be8957ecb67062385d84ce22b5c444658690c4aac996b9"), looks := false }, kinds := [], alts := [], laidByText := true, laidKinds := [.data, .data, .data, .pinned, .pinned], laidTests := true, laidLooks := .later }
def FnFoldTwiceCardSaid : Prop := Claim7.holds Tryd.pinned (.plain (OpenSpec.ofChange fnFoldTwiceSpec)) fnFoldTwiceCard

/-- THE TIED CARD OF 'laws.FnFoldWords'. -/
def fnFoldWordsCard : Claim7 := { stood := { row := fnFoldWordsRow, standIns := [], harness := (true, "5a6932ddab5b320069be8957ecb67062385d84ce22b5c444658690c4aac996b9"), looks := false }, kinds := [], alts := [], laidByText := true, laidKinds := [.data, .listed, .data, .data, .data, .pinned, .pinned], laidTests := true, laidLooks := .later }
def FnFoldWordsCardSaid : Prop := Claim7.holds Tryd.pinned (.plain (OpenSpec.ofChange fnFoldWordsSpec)) fnFoldWordsCard

/-- THE SECOND FORM's CARD OF 'laws.FnFoldFirst'. -/
def fnFoldFirstUptoCard : Claim7 := { stood := { row := fnFoldFirstUptoRow, standIns := [], harness := (true, "5a6932ddab5b320069be8957ecb67062385d84ce22b5c444658690c4aac996b9"), looks := false }, kinds := [], alts := [], laidByText := true, laidKinds := [.data, .data, .data, .pinned, .pinned], laidTests := true, laidLooks := .later }
def FnFoldFirstUptoCardSaid : Prop := Claim7.holds Tryd.pinned (.plain (OpenSpec.upto fnFoldFirstSpec)) fnFoldFirstUptoCard

/-- THE SECOND FORM's CARD OF 'laws.FnFoldBoth'. -/
def fnFoldBothUptoCard : Claim7 := { stood := { row := fnFoldBothUptoRow, standIns := [], harness := (true, "5a6932ddab5b320069be8957ecb67062385d84ce22b5c444658690c4aac996b9"), looks := false }, kinds := [], alts := [], laidByText := true, laidKinds := [.data, .data, .data, .pinned, .pinned], laidTests := true, laidLooks := .later }
def FnFoldBothUptoCardSaid : Prop := Claim7.holds Tryd.pinned (.plain (OpenSpec.upto fnFoldBothSpec)) fnFoldBothUptoCard

/-- THE SECOND FORM's CARD OF 'laws.FnFoldPairs'. -/
def fnFoldPairsUptoCard : Claim7 := { stood := { row := fnFoldPairsUptoRow, standIns := [], harness := (true, "5a6932ddab5b320069be8957ecb67062385d84ce22b5c444658690c4aac996b9"), looks := false }, kinds := [], alts := [], laidByText := true, laidKinds := [.data, .data, .data, .pinned, .pinned], laidTests := true, laidLooks := .later }
def FnFoldPairsUptoCardSaid : Prop := Claim7.holds Tryd.pinned (.plain (OpenSpec.upto fnFoldPairsSpec)) fnFoldPairsUptoCard

/-- THE SECOND FORM's CARD OF 'laws.FnFoldTurned'. -/
def fnFoldTurnedUptoCard : Claim7 := { stood := { row := fnFoldTurnedUptoRow, standIns := [], harness := (true, "5a6932ddab5b320069be8957ecb67062385d84ce22b5c444658690c4aac996b9"), looks := false }, kinds := [], alts := [], laidByText := true, laidKinds := [.data, .data, .data, .pinned, .pinned], laidTests := true, laidLooks := .later }
def FnFoldTurnedUptoCardSaid : Prop := Claim7.holds Tryd.pinned (.plain (OpenSpec.upto fnFoldTurnedSpec)) fnFoldTurnedUptoCard

/-- THE SECOND FORM's CARD OF 'laws.FnFoldTwice'. -/
def fnFoldTwiceUptoCard : Claim7 := { stood := { row := fnFoldTwiceUptoRow, standIns := [], harness := (true, "5a6932ddab5b320069be8957ecb67062385d84ce22b5c444658690c4aac996b9"), looks := false }, kinds := [], alts := [], laidByText := true, laidKinds := [.data, .data, .data, .pinned, .pinned], laidTests := true, laidLooks := .later }
def FnFoldTwiceUptoCardSaid : Prop := Claim7.holds Tryd.pinned (.plain (OpenSpec.upto fnFoldTwiceSpec)) fnFoldTwiceUptoCard

/-- THE SECOND FORM's CARD OF 'laws.FnFoldWords'. -/
def fnFoldWordsUptoCard : Claim7 := { stood := { row := fnFoldWordsUptoRow, standIns := [], harness := (true, "5a6932ddab5b320069be8957ecb67062385d84ce22b5c444658690c4aac996b9"), looks := false }, kinds := [], alts := [], laidByText := true, laidKinds := [.data, .listed, .data, .data, .data, .pinned, .pinned], laidTests := true, laidLooks := .later }
def FnFoldWordsUptoCardSaid : Prop := Claim7.holds Tryd.pinned (.plain (OpenSpec.upto fnFoldWordsSpec)) fnFoldWordsUptoCard
end Rows
end Go.Proofs.YtkglbkgbgajbkaaDoor
