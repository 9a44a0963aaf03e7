/-
  DERIVED. GIVEN WITH THE SEED: THE CARDS: each row of YtfghbjjlkciopaaDoorRows.lean that lists a variable, with what it lists TIED to the program's text (the seventh form; the later family's looks); each row that meets fmt, with fmt's text TOLD by the authors' own Lean function (tested against real Go, not proved from fmt's source: count such statements apart). THE CARD IS WHAT COUNTS. Prove the row's statement (the work); the ties are given (YtfghbjjlkciopaaDoorTie.lean); close each card by the builder's one call (the guide's Derived/Test/ToyasCard.lean, 'card_holds'). Laid BY PROGRAM, IN A SANDBOX (cutbox-door.mjs). By AI agents, Wed Nov 11 2026. No macro, syntax, notation, axiom, sorry.
-/
import Derived.Test.YtfghbjjlkciopaaDoorRows
import GoSem.ClaimSeven
namespace Go.Proofs.YtfghbjjlkciopaaDoor
namespace Rows

/-- THE TIED CARD OF 'laws.FnExactParts'. -/
def fnExactPartsCard : Claim7 := { stood := { row := fnExactPartsRow, standIns := [], harness := (true, "fb18c3c994a795b88e0dceee9f916be207d4d4d7fdd79a89ef55cff7652639f4"), looks := false }, kinds := [], alts := [], laidByText := true, laidKinds := [.data, .pinned], laidTests := true, laidLooks := .later }
def FnExactPartsCardSaid : Prop := Claim7.holds Tryd.pinned (.plain (OpenSpec.ofChange fnExactPartsSpec)) fnExactPartsCard

/-- THE TIED CARD OF 'laws.FnExactTokensBytes'. -/
def fnExactTokensBytesCard : Claim7 := { stood := { row := fnExactTokensBytesRow, standIns := [], harness := (true, "fb18c3c994a795b88e0dceee9f916be207d4d4d7fdd79a89ef55cff7652639f4"), looks := false }, kinds := [], alts := [], laidByText := true, laidKinds := [.data, .pinned], laidTests := true, laidLooks := .later }
def FnExactTokensBytesCardSaid : Prop := Claim7.holds Tryd.pinned (.plain (OpenSpec.ofChange fnExactTokensBytesSpec)) fnExactTokensBytesCard

/-- THE TIED CARD OF 'laws.FnExactPartsBytes'. -/
def fnExactPartsBytesCard : Claim7 := { stood := { row := fnExactPartsBytesRow, standIns := [], harness := (true, "fb18c3c994a795b88e0dceee9f916be207d4d4d7fdd79a89ef55cff7652639f4"), looks := false }, kinds := [], alts := [], laidByText := true, laidKinds := [.data, .pinned], laidTests := true, laidLooks := .later }
def FnExactPartsBytesCardSaid : Prop := Claim7.holds Tryd.pinned (.plain (OpenSpec.ofChange fnExactPartsBytesSpec)) fnExactPartsBytesCard

/-- THE TIED CARD OF 'laws.FnExactTokensBack'. -/
def fnExactTokensBackCard : Claim7 := { stood := { row := fnExactTokensBackRow, standIns := [], harness := (true, "fb18c3c994a795b88e0dceee9f916be207d4d4d7fdd79a89ef55cff7652639f4"), looks := false }, kinds := [], alts := [], laidByText := true, laidKinds := [.data, .pinned], laidTests := true, laidLooks := .later }
def FnExactTokensBackCardSaid : Prop := Claim7.holds Tryd.pinned (.plain (OpenSpec.ofChange fnExactTokensBackSpec)) fnExactTokensBackCard

/-- THE TIED CARD OF 'laws.FnExactTokensBackBytes'. -/
def fnExactTokensBackBytesCard : Claim7 := { stood := { row := fnExactTokensBackBytesRow, standIns := [], harness := (true, "fb18c3c994a795b88e0dceee9f916be207d4d4d7fdd79a89ef55cff7652639f4"), looks := false }, kinds := [], alts := [], laidByText := true, laidKinds := [.data, .pinned], laidTests := true, laidLooks := .later }
def FnExactTokensBackBytesCardSaid : Prop := Claim7.holds Tryd.pinned (.plain (OpenSpec.ofChange fnExactTokensBackBytesSpec)) fnExactTokensBackBytesCard

/-- THE TIED CARD OF 'laws.FnPartsBoth'. -/
def fnPartsBothCard : Claim7 := { stood := { row := fnPartsBothRow, standIns := [], harness := (true, "fb18c3c994a795b88e0dceee9f916be207d4d4d7fdd79a89ef55cff7652639f4"), looks := false }, kinds := [], alts := [], laidByText := true, laidKinds := [.data, .pinned], laidTests := true, laidLooks := .later }
def FnPartsBothCardSaid : Prop := Claim7.holds Tryd.pinned (.plain (OpenSpec.ofChange fnPartsBothSpec)) fnPartsBothCard

/-- THE TIED CARD OF 'laws.FnPartsOrder'. -/
def fnPartsOrderCard : Claim7 := { stood := { row := fnPartsOrderRow, standIns := [], harness := (true, "fb18c3c994a795b88e0dceee9f916be207d4d4d7fdd79a89ef55cff7652639f4"), looks := false }, kinds := [], alts := [], laidByText := true, laidKinds := [.data, .pinned], laidTests := true, laidLooks := .later }
def FnPartsOrderCardSaid : Prop := Claim7.holds Tryd.pinned (.plain (OpenSpec.ofChange fnPartsOrderSpec)) fnPartsOrderCard

/-- THE TIED CARD OF 'laws.FnPartsUnion'. -/
def fnPartsUnionCard : Claim7 := { stood := { row := fnPartsUnionRow, standIns := [], harness := (true, "fb18c3c994a795b88e0dceee9f916be207d4d4d7fdd79a89ef55cff7652639f4"), looks := false }, kinds := [], alts := [], laidByText := true, laidKinds := [.data, .pinned], laidTests := true, laidLooks := .later }
def FnPartsUnionCardSaid : Prop := Claim7.holds Tryd.pinned (.plain (OpenSpec.ofChange fnPartsUnionSpec)) fnPartsUnionCard

/-- THE TIED CARD OF 'laws.FnTokensJoined'. -/
def fnTokensJoinedCard : Claim7 := { stood := { row := fnTokensJoinedRow, standIns := [], harness := (true, "fb18c3c994a795b88e0dceee9f916be207d4d4d7fdd79a89ef55cff7652639f4"), looks := false }, kinds := [], alts := [], laidByText := true, laidKinds := [.data, .pinned], laidTests := true, laidLooks := .later }
def FnTokensJoinedCardSaid : Prop := Claim7.holds Tryd.pinned (.plain (OpenSpec.ofChange fnTokensJoinedSpec)) fnTokensJoinedCard

/-- THE TIED CARD OF 'laws.FnTokensMirror'. -/
def fnTokensMirrorCard : Claim7 := { stood := { row := fnTokensMirrorRow, standIns := [], harness := (true, "fb18c3c994a795b88e0dceee9f916be207d4d4d7fdd79a89ef55cff7652639f4"), looks := false }, kinds := [], alts := [], laidByText := true, laidKinds := [.data, .pinned], laidTests := true, laidLooks := .later }
def FnTokensMirrorCardSaid : Prop := Claim7.holds Tryd.pinned (.plain (OpenSpec.ofChange fnTokensMirrorSpec)) fnTokensMirrorCard

/-- THE TIED CARD OF 'laws.FnPartsTokens'. -/
def fnPartsTokensCard : Claim7 := { stood := { row := fnPartsTokensRow, standIns := [], harness := (true, "fb18c3c994a795b88e0dceee9f916be207d4d4d7fdd79a89ef55cff7652639f4"), looks := false }, kinds := [], alts := [], laidByText := true, laidKinds := [.data, .pinned], laidTests := true, laidLooks := .later }
def FnPartsTokensCardSaid : Prop := Claim7.holds Tryd.pinned (.plain (OpenSpec.ofChange fnPartsTokensSpec)) fnPartsTokensCard

/-- THE SECOND FORM's CARD OF 'laws.FnExactParts'. -/
def fnExactPartsUptoCard : Claim7 := { stood := { row := fnExactPartsUptoRow, standIns := [], harness := (true, "fb18c3c994a795b88e0dceee9f916be207d4d4d7fdd79a89ef55cff7652639f4"), looks := false }, kinds := [], alts := [], laidByText := true, laidKinds := [.data, .pinned], laidTests := true, laidLooks := .later }
def FnExactPartsUptoCardSaid : Prop := Claim7.holds Tryd.pinned (.plain (OpenSpec.upto fnExactPartsSpec)) fnExactPartsUptoCard

/-- THE SECOND FORM's CARD OF 'laws.FnExactTokensBytes'. -/
def fnExactTokensBytesUptoCard : Claim7 := { stood := { row := fnExactTokensBytesUptoRow, standIns := [], harness := (true, "fb18c3c994a795b88e0dceee9f916be207d4d4d7fdd79a89ef55cff7652639f4"), looks := false }, kinds := [], alts := [], laidByText := true, laidKinds := [.data, .pinned], laidTests := true, laidLooks := .later }
def FnExactTokensBytesUptoCardSaid : Prop := Claim7.holds Tryd.pinned (.plain (OpenSpec.upto fnExactTokensBytesSpec)) fnExactTokensBytesUptoCard

/-- THE SECOND FORM's CARD OF 'laws.FnExactPartsBytes'. -/
def fnExactPartsBytesUptoCard : Claim7 := { stood := { row := fnExactPartsBytesUptoRow, standIns := [], harness := (true, "fb18c3c994a795b88e0dceee9f916be207d4d4d7fdd79a89ef55cff7652639f4"), looks := false }, kinds := [], alts := [], laidByText := true, laidKinds := [.data, .pinned], laidTests := true, laidLooks := .later }
def FnExactPartsBytesUptoCardSaid : Prop := Claim7.holds Tryd.pinned (.plain (OpenSpec.upto fnExactPartsBytesSpec)) fnExactPartsBytesUptoCard

/-- THE SECOND FORM's CARD OF 'laws.FnExactTokensBack'. -/
def fnExactTokensBackUptoCard : Claim7 := { stood := { row := fnExactTokensBackUptoRow, standIns := [], harness := (true, "fb18c3c994a795b88e0dceee9f916be207d4d4d7fdd79a89ef55cff7652639f4"), looks := false }, kinds := [], alts := [], laidByText := true, laidKinds := [.data, .pinned], laidTests := true, laidLooks := .later }
def FnExactTokensBackUptoCardSaid : Prop := Claim7.holds Tryd.pinned (.plain (OpenSpec.upto fnExactTokensBackSpec)) fnExactTokensBackUptoCard

/-- THE SECOND FORM's CARD OF 'laws.FnExactTokensBackBytes'. -/
def fnExactTokensBackBytesUptoCard : Claim7 := { stood := { row := fnExactTokensBackBytesUptoRow, standIns := [], harness := (true, "fb18c3c994a795b88e0dceee9f916be207d4d4d7fdd79a89ef55cff7652639f4"), looks := false }, kinds := [], alts := [], laidByText := true, laidKinds := [.data, .pinned], laidTests := true, laidLooks := .later }
def FnExactTokensBackBytesUptoCardSaid : Prop := Claim7.holds Tryd.pinned (.plain (OpenSpec.upto fnExactTokensBackBytesSpec)) fnExactTokensBackBytesUptoCard

/-- THE SECOND FORM's CARD OF 'laws.FnPartsBoth'. -/
def fnPartsBothUptoCard : Claim7 := { stood := { row := fnPartsBothUptoRow, standIns := [], harness := (true, "fb18c3c994a795b88e0dceee9f916be207d4d4d7fdd79a89ef55cff7652639f4"), looks := false }, kinds := [], alts := [], laidByText := true, laidKinds := [.data, .pinned], laidTests := true, laidLooks := .later }
def FnPartsBothUptoCardSaid : Prop := Claim7.holds Tryd.pinned (.plain (OpenSpec.upto fnPartsBothSpec)) fnPartsBothUptoCard

/-- THE SECOND FORM's CARD OF 'laws.FnPartsOrder'. -/
def fnPartsOrderUptoCard : Claim7 := { stood := { row := fnPartsOrderUptoRow, standIns := [], harness := (true, "fb18c3c994a795b88e0dceee9f916be207d4d4d7fdd79a89ef55cff7652639f4"), looks := false }, kinds := [], alts := [], laidByText := true, laidKinds := [.data, .pinned], laidTests := true, laidLooks := .later }
def FnPartsOrderUptoCardSaid : Prop := Claim7.holds Tryd.pinned (.plain (OpenSpec.upto fnPartsOrderSpec)) fnPartsOrderUptoCard

/-- THE SECOND FORM's CARD OF 'laws.FnPartsUnion'. -/
def fnPartsUnionUptoCard : Claim7 := { stood := { row := fnPartsUnionUptoRow, standIns := [], harness := (true, "fb18c3c994a795b88e0dceee9f916be207d4d4d7fdd79a89ef55cff7652639f4"), looks := false }, kinds := [], alts := [], laidByText := true, laidKinds := [.data, .pinned], laidTests := true, laidLooks := .later }
def FnPartsUnionUptoCardSaid : Prop := Claim7.holds Tryd.pinned (.plain (OpenSpec.upto fnPartsUnionSpec)) fnPartsUnionUptoCard

/-- THE SECOND FORM's CARD OF 'laws.FnTokensJoined'. -/
def fnTokensJoinedUptoCard : Claim7 := { stood := { row := fnTokensJoinedUptoRow, standIns := [], harness := (true, "fb18c3c994a795b88e0dceee9f916be207d4d4d7fdd79a89ef55cff7652639f4"), looks := false }, kinds := [], alts := [], laidByText := true, laidKinds := [.data, .pinned], laidTests := true, laidLooks := .later }
def FnTokensJoinedUptoCardSaid : Prop := Claim7.holds Tryd.pinned (.plain (OpenSpec.upto fnTokensJoinedSpec)) fnTokensJoinedUptoCard

/-- THE SECOND FORM's CARD OF 'laws.FnTokensMirror'. -/
def fnTokensMirrorUptoCard : Claim7 := { stood := { row := fnTokensMirrorUptoRow, standIns := [], harness := (true, "fb18c3c994a795b88e0dceee9f916be207d4d4d7fdd79a89ef55cff7652639f4"), looks := false }, kinds := [], alts := [], laidByText := true, laidKinds := [.data, .pinned], laidTests := true, laidLooks := .later }
def FnTokensMirrorUptoCardSaid : Prop := Claim7.holds Tryd.pinned (.plain (OpenSpec.upto fnTokensMirrorSpec)) fnTokensMirrorUptoCard

/-- THE SECOND FORM's CARD OF 'laws.FnPartsTokens'. -/
def fnPartsTokensUptoCard : Claim7 := { stood := { row := fnPartsTokensUptoRow, standIns := [], harness := (true, "fb18c3c994a795b88e0dceee9f916be207d4d4d7fdd79a89ef55cff7652639f4"), looks := false }, kinds := [], alts := [], laidByText := true, laidKinds := [.data, .pinned], laidTests := true, laidLooks := .later }
def FnPartsTokensUptoCardSaid : Prop := Claim7.holds Tryd.pinned (.plain (OpenSpec.upto fnPartsTokensSpec)) fnPartsTokensUptoCard
end Rows
end Go.Proofs.YtfghbjjlkciopaaDoor
