/-
  NARROWER THAN 'FOR EVERY INPUT', by the rows' own cells (each row's printed sentence says how): FnExactParts: laid · FnExactTokensBytes: laid · FnExactPartsBytes: laid · FnExactTokensBack: laid · FnExactTokensBackBytes: laid · FnPartsBoth: laid · FnPartsOrder: laid · FnPartsUnion: laid · FnTokensJoined: laid · FnTokensMirror: laid · FnPartsTokens: laid.
  DERIVED. THE GIVEN ROWS OF THIS SEAT. 11 by the template 'for every input the law returns true; each argument reads behind the call as it read before'; 0 by the template 'total and deterministic' (their statements: YtfghbjjlkciopaaDoorTotals.lean).
  GIVEN WITH THE SEED: the statements are not yours to turn. If you find one false, say at which input.
  Laid BY PROGRAM, IN A SANDBOX (cutbox-rows.mjs): the forced cells as the released guide's own fill.sh prints them over the translation a072b11cc8ed6f35… (all of the seat's roots in one cut). By AI agents, Wed Nov 11 2026. No macro, syntax, notation, axiom, sorry.
-/
import Derived.Test.YtfghbjjlkciopaaDoorChecked
import GoSem.PinnedTables
import GoSem.Claim
import GoSem.ClaimJoined
import GoSem.ClaimMapViews
import Derived.JoinedTies
import Derived.KernelRfl
namespace Go.Proofs.YtfghbjjlkciopaaDoor
/- THE CELL 'sum', in the pinned program and in every row, IS THE sha256 OF THE DUMP (.gsa) THAT YtfghbjjlkciopaaDoorProg.lean LOADS. Nothing in Lean hashes anything: it is a label: what it is worth is what the hold of that sum in a sandbox is worth. -/
noncomputable def Tryd.pinned : Pinned := { name := "ytfghbjjlkciopaadoor", sum := "a072b11cc8ed6f35d5affeedd60fdeee6ac7e03134118ef882390408b9d0ba5b", checked := Tryd.checked }
namespace Rows
def none {H : Type} : Left H := { results := [], args := [] }

/- WHAT THE LISTED PACKAGE-LEVEL VARIABLES READ AS WHEN THE CALL BEGINS. Each datum BY PROGRAM (the guide's laid-datum.mjs) off the statement by which the dump's own 'gosem.cut.vars' lays the variable. In a bare row this is a premise. The card (YtfghbjjlkciopaaDoorCards.lean) ties it to the program's text. -/
def laid_unicode_utf8_acceptRanges {H : Type} : DataW H := .agg [.agg [.lit (.int .u8 128), .lit (.int .u8 191)], .agg [.lit (.int .u8 160), .lit (.int .u8 191)], .agg [.lit (.int .u8 128), .lit (.int .u8 159)], .agg [.lit (.int .u8 144), .lit (.int .u8 191)], .agg [.lit (.int .u8 128), .lit (.int .u8 143)], .agg [.lit (.int .u8 0), .lit (.int .u8 0)], .agg [.lit (.int .u8 0), .lit (.int .u8 0)], .agg [.lit (.int .u8 0), .lit (.int .u8 0)], .agg [.lit (.int .u8 0), .lit (.int .u8 0)], .agg [.lit (.int .u8 0), .lit (.int .u8 0)], .agg [.lit (.int .u8 0), .lit (.int .u8 0)], .agg [.lit (.int .u8 0), .lit (.int .u8 0)], .agg [.lit (.int .u8 0), .lit (.int .u8 0)], .agg [.lit (.int .u8 0), .lit (.int .u8 0)], .agg [.lit (.int .u8 0), .lit (.int .u8 0)], .agg [.lit (.int .u8 0), .lit (.int .u8 0)]]
/-- One of Go's own tables, pinned by name: the form's constant. -/
def laid_unicode_utf8_first : DataW Unit := Go.Pinned.utf8First

/-- 'laws.FnExactParts': WHATEVER THE INPUT: true; the input reads as it did. -/
def fnExactPartsSpec : ChangeSpec := { name := "fnExactParts", fn := fun _ => fun
  | [d1, d2] => { results := [.lit (.bool true)], args := [d1, d2] }
  | _ => none }
def fnExactPartsRow : OpenClaim := { program := "ytfghbjjlkciopaadoor", sum := "a072b11cc8ed6f35d5affeedd60fdeee6ac7e03134118ef882390408b9d0ba5b", func := "loop.example/lib-g01434/laws.FnExactParts", spec := "fnExactParts", unfollowed := true, recurses := true, named := ["unicode/utf8.first", "unicode/utf8.acceptRanges"], apart := false, laid := [("unicode/utf8.acceptRanges", laid_unicode_utf8_acceptRanges), ("unicode/utf8.first", laid_unicode_utf8_first)] }
def FnExactPartsSaid : Prop := fnExactPartsRow.holds Tryd.pinned (OpenSpec.ofChange fnExactPartsSpec)

/-- ITS FALSE NEIGHBOUR: 'it returns false'. Refute it at one input. -/
def fnExactPartsWrong : ChangeSpec := { name := "fnExactParts", fn := fun _ => fun
  | [d1, d2] => { results := [.lit (.bool false)], args := [d1, d2] }
  | _ => none }
def FnExactPartsWrongFalsely : Prop := fnExactPartsRow.holds Tryd.pinned (OpenSpec.ofChange fnExactPartsWrong)

/-- 'laws.FnExactTokensBytes': WHATEVER THE INPUT: true; the input reads as it did. -/
def fnExactTokensBytesSpec : ChangeSpec := { name := "fnExactTokensBytes", fn := fun _ => fun
  | [d1, d2] => { results := [.lit (.bool true)], args := [d1, d2] }
  | _ => none }
def fnExactTokensBytesRow : OpenClaim := { program := "ytfghbjjlkciopaadoor", sum := "a072b11cc8ed6f35d5affeedd60fdeee6ac7e03134118ef882390408b9d0ba5b", func := "loop.example/lib-g01434/laws.FnExactTokensBytes", spec := "fnExactTokensBytes", unfollowed := true, recurses := true, named := ["unicode/utf8.first", "unicode/utf8.acceptRanges"], apart := false, laid := [("unicode/utf8.acceptRanges", laid_unicode_utf8_acceptRanges), ("unicode/utf8.first", laid_unicode_utf8_first)] }
def FnExactTokensBytesSaid : Prop := fnExactTokensBytesRow.holds Tryd.pinned (OpenSpec.ofChange fnExactTokensBytesSpec)

/-- ITS FALSE NEIGHBOUR: 'it returns false'. Refute it at one input. -/
def fnExactTokensBytesWrong : ChangeSpec := { name := "fnExactTokensBytes", fn := fun _ => fun
  | [d1, d2] => { results := [.lit (.bool false)], args := [d1, d2] }
  | _ => none }
def FnExactTokensBytesWrongFalsely : Prop := fnExactTokensBytesRow.holds Tryd.pinned (OpenSpec.ofChange fnExactTokensBytesWrong)

/-- 'laws.FnExactPartsBytes': WHATEVER THE INPUT: true; the input reads as it did. -/
def fnExactPartsBytesSpec : ChangeSpec := { name := "fnExactPartsBytes", fn := fun _ => fun
  | [d1, d2] => { results := [.lit (.bool true)], args := [d1, d2] }
  | _ => none }
def fnExactPartsBytesRow : OpenClaim := { program := "ytfghbjjlkciopaadoor", sum := "a072b11cc8ed6f35d5affeedd60fdeee6ac7e03134118ef882390408b9d0ba5b", func := "loop.example/lib-g01434/laws.FnExactPartsBytes", spec := "fnExactPartsBytes", unfollowed := true, recurses := true, named := ["unicode/utf8.first", "unicode/utf8.acceptRanges"], apart := false, laid := [("unicode/utf8.acceptRanges", laid_unicode_utf8_acceptRanges), ("unicode/utf8.first", laid_unicode_utf8_first)] }
def FnExactPartsBytesSaid : Prop := fnExactPartsBytesRow.holds Tryd.pinned (OpenSpec.ofChange fnExactPartsBytesSpec)

/-- ITS FALSE NEIGHBOUR: 'it returns false'. Refute it at one input. -/
def fnExactPartsBytesWrong : ChangeSpec := { name := "fnExactPartsBytes", fn := fun _ => fun
  | [d1, d2] => { results := [.lit (.bool false)], args := [d1, d2] }
  | _ => none }
def FnExactPartsBytesWrongFalsely : Prop := fnExactPartsBytesRow.holds Tryd.pinned (OpenSpec.ofChange fnExactPartsBytesWrong)

/-- 'laws.FnExactTokensBack': WHATEVER THE INPUT: true; the input reads as it did. -/
def fnExactTokensBackSpec : ChangeSpec := { name := "fnExactTokensBack", fn := fun _ => fun
  | [d1, d2] => { results := [.lit (.bool true)], args := [d1, d2] }
  | _ => none }
def fnExactTokensBackRow : OpenClaim := { program := "ytfghbjjlkciopaadoor", sum := "a072b11cc8ed6f35d5affeedd60fdeee6ac7e03134118ef882390408b9d0ba5b", func := "loop.example/lib-g01434/laws.FnExactTokensBack", spec := "fnExactTokensBack", unfollowed := true, recurses := true, named := ["unicode/utf8.first", "unicode/utf8.acceptRanges"], apart := false, laid := [("unicode/utf8.acceptRanges", laid_unicode_utf8_acceptRanges), ("unicode/utf8.first", laid_unicode_utf8_first)] }
def FnExactTokensBackSaid : Prop := fnExactTokensBackRow.holds Tryd.pinned (OpenSpec.ofChange fnExactTokensBackSpec)

/-- ITS FALSE NEIGHBOUR: 'it returns false'. Refute it at one input. -/
def fnExactTokensBackWrong : ChangeSpec := { name := "fnExactTokensBack", fn := fun _ => fun
  | [d1, d2] => { results := [.lit (.bool false)], args := [d1, d2] }
  | _ => none }
def FnExactTokensBackWrongFalsely : Prop := fnExactTokensBackRow.holds Tryd.pinned (OpenSpec.ofChange fnExactTokensBackWrong)

/-- 'laws.FnExactTokensBackBytes': WHATEVER THE INPUT: true; the input reads as it did. -/
def fnExactTokensBackBytesSpec : ChangeSpec := { name := "fnExactTokensBackBytes", fn := fun _ => fun
  | [d1, d2] => { results := [.lit (.bool true)], args := [d1, d2] }
  | _ => none }
def fnExactTokensBackBytesRow : OpenClaim := { program := "ytfghbjjlkciopaadoor", sum := "a072b11cc8ed6f35d5affeedd60fdeee6ac7e03134118ef882390408b9d0ba5b", func := "loop.example/lib-g01434/laws.FnExactTokensBackBytes", spec := "fnExactTokensBackBytes", unfollowed := true, recurses := true, named := ["unicode/utf8.first", "unicode/utf8.acceptRanges"], apart := false, laid := [("unicode/utf8.acceptRanges", laid_unicode_utf8_acceptRanges), ("unicode/utf8.first", laid_unicode_utf8_first)] }
def FnExactTokensBackBytesSaid : Prop := fnExactTokensBackBytesRow.holds Tryd.pinned (OpenSpec.ofChange fnExactTokensBackBytesSpec)

/-- ITS FALSE NEIGHBOUR: 'it returns false'. Refute it at one input. -/
def fnExactTokensBackBytesWrong : ChangeSpec := { name := "fnExactTokensBackBytes", fn := fun _ => fun
  | [d1, d2] => { results := [.lit (.bool false)], args := [d1, d2] }
  | _ => none }
def FnExactTokensBackBytesWrongFalsely : Prop := fnExactTokensBackBytesRow.holds Tryd.pinned (OpenSpec.ofChange fnExactTokensBackBytesWrong)

/-- 'laws.FnPartsBoth': WHATEVER THE INPUT: true; the input reads as it did. -/
def fnPartsBothSpec : ChangeSpec := { name := "fnPartsBoth", fn := fun _ => fun
  | [d1, d2] => { results := [.lit (.bool true)], args := [d1, d2] }
  | _ => none }
def fnPartsBothRow : OpenClaim := { program := "ytfghbjjlkciopaadoor", sum := "a072b11cc8ed6f35d5affeedd60fdeee6ac7e03134118ef882390408b9d0ba5b", func := "loop.example/lib-g01434/laws.FnPartsBoth", spec := "fnPartsBoth", unfollowed := true, recurses := true, named := ["unicode/utf8.first", "unicode/utf8.acceptRanges"], apart := false, laid := [("unicode/utf8.acceptRanges", laid_unicode_utf8_acceptRanges), ("unicode/utf8.first", laid_unicode_utf8_first)] }
def FnPartsBothSaid : Prop := fnPartsBothRow.holds Tryd.pinned (OpenSpec.ofChange fnPartsBothSpec)

/-- ITS FALSE NEIGHBOUR: 'it returns false'. Refute it at one input. -/
def fnPartsBothWrong : ChangeSpec := { name := "fnPartsBoth", fn := fun _ => fun
  | [d1, d2] => { results := [.lit (.bool false)], args := [d1, d2] }
  | _ => none }
def FnPartsBothWrongFalsely : Prop := fnPartsBothRow.holds Tryd.pinned (OpenSpec.ofChange fnPartsBothWrong)

/-- 'laws.FnPartsOrder': WHATEVER THE INPUT: true; the input reads as it did. -/
def fnPartsOrderSpec : ChangeSpec := { name := "fnPartsOrder", fn := fun _ => fun
  | [d1, d2] => { results := [.lit (.bool true)], args := [d1, d2] }
  | _ => none }
def fnPartsOrderRow : OpenClaim := { program := "ytfghbjjlkciopaadoor", sum := "a072b11cc8ed6f35d5affeedd60fdeee6ac7e03134118ef882390408b9d0ba5b", func := "loop.example/lib-g01434/laws.FnPartsOrder", spec := "fnPartsOrder", unfollowed := true, recurses := true, named := ["unicode/utf8.first", "unicode/utf8.acceptRanges"], apart := false, laid := [("unicode/utf8.acceptRanges", laid_unicode_utf8_acceptRanges), ("unicode/utf8.first", laid_unicode_utf8_first)] }
def FnPartsOrderSaid : Prop := fnPartsOrderRow.holds Tryd.pinned (OpenSpec.ofChange fnPartsOrderSpec)

/-- ITS FALSE NEIGHBOUR: 'it returns false'. Refute it at one input. -/
def fnPartsOrderWrong : ChangeSpec := { name := "fnPartsOrder", fn := fun _ => fun
  | [d1, d2] => { results := [.lit (.bool false)], args := [d1, d2] }
  | _ => none }
def FnPartsOrderWrongFalsely : Prop := fnPartsOrderRow.holds Tryd.pinned (OpenSpec.ofChange fnPartsOrderWrong)

/-- 'laws.FnPartsUnion': WHATEVER THE INPUT: true; the input reads as it did. -/
def fnPartsUnionSpec : ChangeSpec := { name := "fnPartsUnion", fn := fun _ => fun
  | [d1, d2] => { results := [.lit (.bool true)], args := [d1, d2] }
  | _ => none }
def fnPartsUnionRow : OpenClaim := { program := "ytfghbjjlkciopaadoor", sum := "a072b11cc8ed6f35d5affeedd60fdeee6ac7e03134118ef882390408b9d0ba5b", func := "loop.example/lib-g01434/laws.FnPartsUnion", spec := "fnPartsUnion", unfollowed := true, recurses := true, named := ["unicode/utf8.first", "unicode/utf8.acceptRanges"], apart := false, laid := [("unicode/utf8.acceptRanges", laid_unicode_utf8_acceptRanges), ("unicode/utf8.first", laid_unicode_utf8_first)] }
def FnPartsUnionSaid : Prop := fnPartsUnionRow.holds Tryd.pinned (OpenSpec.ofChange fnPartsUnionSpec)

/-- ITS FALSE NEIGHBOUR: 'it returns false'. Refute it at one input. -/
def fnPartsUnionWrong : ChangeSpec := { name := "fnPartsUnion", fn := fun _ => fun
  | [d1, d2] => { results := [.lit (.bool false)], args := [d1, d2] }
  | _ => none }
def FnPartsUnionWrongFalsely : Prop := fnPartsUnionRow.holds Tryd.pinned (OpenSpec.ofChange fnPartsUnionWrong)

/-- 'laws.FnTokensJoined': WHATEVER THE INPUT: true; the input reads as it did. -/
def fnTokensJoinedSpec : ChangeSpec := { name := "fnTokensJoined", fn := fun _ => fun
  | [d1, d2] => { results := [.lit (.bool true)], args := [d1, d2] }
  | _ => none }
def fnTokensJoinedRow : OpenClaim := { program := "ytfghbjjlkciopaadoor", sum := "a072b11cc8ed6f35d5affeedd60fdeee6ac7e03134118ef882390408b9d0ba5b", func := "loop.example/lib-g01434/laws.FnTokensJoined", spec := "fnTokensJoined", unfollowed := true, recurses := true, named := ["unicode/utf8.first", "unicode/utf8.acceptRanges"], apart := false, laid := [("unicode/utf8.acceptRanges", laid_unicode_utf8_acceptRanges), ("unicode/utf8.first", laid_unicode_utf8_first)] }
def FnTokensJoinedSaid : Prop := fnTokensJoinedRow.holds Tryd.pinned (OpenSpec.ofChange fnTokensJoinedSpec)

/-- ITS FALSE NEIGHBOUR: 'it returns false'. Refute it at one input. -/
def fnTokensJoinedWrong : ChangeSpec := { name := "fnTokensJoined", fn := fun _ => fun
  | [d1, d2] => { results := [.lit (.bool false)], args := [d1, d2] }
  | _ => none }
def FnTokensJoinedWrongFalsely : Prop := fnTokensJoinedRow.holds Tryd.pinned (OpenSpec.ofChange fnTokensJoinedWrong)

/-- 'laws.FnTokensMirror': WHATEVER THE INPUT: true; the input reads as it did. -/
def fnTokensMirrorSpec : ChangeSpec := { name := "fnTokensMirror", fn := fun _ => fun
  | [d1, d2] => { results := [.lit (.bool true)], args := [d1, d2] }
  | _ => none }
def fnTokensMirrorRow : OpenClaim := { program := "ytfghbjjlkciopaadoor", sum := "a072b11cc8ed6f35d5affeedd60fdeee6ac7e03134118ef882390408b9d0ba5b", func := "loop.example/lib-g01434/laws.FnTokensMirror", spec := "fnTokensMirror", unfollowed := true, recurses := true, named := ["unicode/utf8.first", "unicode/utf8.acceptRanges"], apart := false, laid := [("unicode/utf8.acceptRanges", laid_unicode_utf8_acceptRanges), ("unicode/utf8.first", laid_unicode_utf8_first)] }
def FnTokensMirrorSaid : Prop := fnTokensMirrorRow.holds Tryd.pinned (OpenSpec.ofChange fnTokensMirrorSpec)

/-- ITS FALSE NEIGHBOUR: 'it returns false'. Refute it at one input. -/
def fnTokensMirrorWrong : ChangeSpec := { name := "fnTokensMirror", fn := fun _ => fun
  | [d1, d2] => { results := [.lit (.bool false)], args := [d1, d2] }
  | _ => none }
def FnTokensMirrorWrongFalsely : Prop := fnTokensMirrorRow.holds Tryd.pinned (OpenSpec.ofChange fnTokensMirrorWrong)

/-- 'laws.FnPartsTokens': WHATEVER THE INPUT: true; the input reads as it did. -/
def fnPartsTokensSpec : ChangeSpec := { name := "fnPartsTokens", fn := fun _ => fun
  | [d1, d2] => { results := [.lit (.bool true)], args := [d1, d2] }
  | _ => none }
def fnPartsTokensRow : OpenClaim := { program := "ytfghbjjlkciopaadoor", sum := "a072b11cc8ed6f35d5affeedd60fdeee6ac7e03134118ef882390408b9d0ba5b", func := "loop.example/lib-g01434/laws.FnPartsTokens", spec := "fnPartsTokens", unfollowed := true, recurses := true, named := ["unicode/utf8.first", "unicode/utf8.acceptRanges"], apart := false, laid := [("unicode/utf8.acceptRanges", laid_unicode_utf8_acceptRanges), ("unicode/utf8.first", laid_unicode_utf8_first)] }
def FnPartsTokensSaid : Prop := fnPartsTokensRow.holds Tryd.pinned (OpenSpec.ofChange fnPartsTokensSpec)

/-- ITS FALSE NEIGHBOUR: 'it returns false'. Refute it at one input. -/
def fnPartsTokensWrong : ChangeSpec := { name := "fnPartsTokens", fn := fun _ => fun
  | [d1, d2] => { results := [.lit (.bool false)], args := [d1, d2] }
  | _ => none }
def FnPartsTokensWrongFalsely : Prop := fnPartsTokensRow.holds Tryd.pinned (OpenSpec.ofChange fnPartsTokensWrong)

/- THE SECOND FORM. 'bulk': how many values and letters a reading holds, each counted each time it is reached (what is shared counts as often as it is met; a slice's spare places count too). A statement '..UptoSaid' is the law's where the arguments, and the package variables that the reading takes, are together of bulk at most 1048576: NARROWER than '..Said'. Prove '..Said' where nothing that the law and all that it calls make is longer than what came in: it says more and counts as full. Else prove '..UptoSaid'. A law counts once. -/
mutual
def uptoBulk {H : Type} : DataW H → Nat
  | .lit (.string bytes) => bytes.length + 1
  | .lit _ => 1
  | .nil => 1
  | .ptr d => uptoBulk d + 1
  | .slice elems spare => uptoBulkAll elems + uptoBulkAll spare + 1
  | .agg parts => uptoBulkAll parts + 1
  | .iface _ d => uptoBulk d + 1
  | .map entries => uptoBulkEntries entries + 1
  | .held _ => 1
def uptoBulkAll {H : Type} : List (DataW H) → Nat
  | [] => 0
  | d :: r => uptoBulk d + uptoBulkAll r
def uptoBulkEntries {H : Type} : List (Lit × DataW H) → Nat
  | [] => 0
  | x :: r => uptoBulkEntry x + uptoBulkEntries r
def uptoBulkEntry {H : Type} : Lit × DataW H → Nat
  | (.string bytes, d) => bytes.length + uptoBulk d + 1
  | (_, d) => uptoBulk d + 1
 end
def uptoSmall : (H : Type) → List (DataW H) → Bool := fun _ ds => decide (uptoBulkAll ds ≤ 1048576)
def OpenSpec.upto (s : _root_.Go.ChangeSpec) : _root_.Go.OpenSpec := { _root_.Go.OpenSpec.ofChange s with cond := some uptoSmall }

/-- 'laws.FnExactParts', WHERE WHAT IT READS IS OF BULK AT MOST 1048576: true; the input reads as it did. -/
def fnExactPartsUptoRow : OpenClaim := { program := "ytfghbjjlkciopaadoor", sum := "a072b11cc8ed6f35d5affeedd60fdeee6ac7e03134118ef882390408b9d0ba5b", func := "loop.example/lib-g01434/laws.FnExactParts", spec := "fnExactParts", unfollowed := true, recurses := true, named := ["unicode/utf8.first", "unicode/utf8.acceptRanges"], apart := false, laid := [("unicode/utf8.acceptRanges", laid_unicode_utf8_acceptRanges), ("unicode/utf8.first", laid_unicode_utf8_first)], narrowed := true }
def FnExactPartsUptoSaid : Prop := fnExactPartsUptoRow.holds Tryd.pinned (OpenSpec.upto fnExactPartsSpec)

/-- 'laws.FnExactTokensBytes', WHERE WHAT IT READS IS OF BULK AT MOST 1048576: true; the input reads as it did. -/
def fnExactTokensBytesUptoRow : OpenClaim := { program := "ytfghbjjlkciopaadoor", sum := "a072b11cc8ed6f35d5affeedd60fdeee6ac7e03134118ef882390408b9d0ba5b", func := "loop.example/lib-g01434/laws.FnExactTokensBytes", spec := "fnExactTokensBytes", unfollowed := true, recurses := true, named := ["unicode/utf8.first", "unicode/utf8.acceptRanges"], apart := false, laid := [("unicode/utf8.acceptRanges", laid_unicode_utf8_acceptRanges), ("unicode/utf8.first", laid_unicode_utf8_first)], narrowed := true }
def FnExactTokensBytesUptoSaid : Prop := fnExactTokensBytesUptoRow.holds Tryd.pinned (OpenSpec.upto fnExactTokensBytesSpec)

/-- 'laws.FnExactPartsBytes', WHERE WHAT IT READS IS OF BULK AT MOST 1048576: true; the input reads as it did. -/
def fnExactPartsBytesUptoRow : OpenClaim := { program := "ytfghbjjlkciopaadoor", sum := "a072b11cc8ed6f35d5affeedd60fdeee6ac7e03134118ef882390408b9d0ba5b", func := "loop.example/lib-g01434/laws.FnExactPartsBytes", spec := "fnExactPartsBytes", unfollowed := true, recurses := true, named := ["unicode/utf8.first", "unicode/utf8.acceptRanges"], apart := false, laid := [("unicode/utf8.acceptRanges", laid_unicode_utf8_acceptRanges), ("unicode/utf8.first", laid_unicode_utf8_first)], narrowed := true }
def FnExactPartsBytesUptoSaid : Prop := fnExactPartsBytesUptoRow.holds Tryd.pinned (OpenSpec.upto fnExactPartsBytesSpec)

/-- 'laws.FnExactTokensBack', WHERE WHAT IT READS IS OF BULK AT MOST 1048576: true; the input reads as it did. -/
def fnExactTokensBackUptoRow : OpenClaim := { program := "ytfghbjjlkciopaadoor", sum := "a072b11cc8ed6f35d5affeedd60fdeee6ac7e03134118ef882390408b9d0ba5b", func := "loop.example/lib-g01434/laws.FnExactTokensBack", spec := "fnExactTokensBack", unfollowed := true, recurses := true, named := ["unicode/utf8.first", "unicode/utf8.acceptRanges"], apart := false, laid := [("unicode/utf8.acceptRanges", laid_unicode_utf8_acceptRanges), ("unicode/utf8.first", laid_unicode_utf8_first)], narrowed := true }
def FnExactTokensBackUptoSaid : Prop := fnExactTokensBackUptoRow.holds Tryd.pinned (OpenSpec.upto fnExactTokensBackSpec)

/-- 'laws.FnExactTokensBackBytes', WHERE WHAT IT READS IS OF BULK AT MOST 1048576: true; the input reads as it did. -/
def fnExactTokensBackBytesUptoRow : OpenClaim := { program := "ytfghbjjlkciopaadoor", sum := "a072b11cc8ed6f35d5affeedd60fdeee6ac7e03134118ef882390408b9d0ba5b", func := "loop.example/lib-g01434/laws.FnExactTokensBackBytes", spec := "fnExactTokensBackBytes", unfollowed := true, recurses := true, named := ["unicode/utf8.first", "unicode/utf8.acceptRanges"], apart := false, laid := [("unicode/utf8.acceptRanges", laid_unicode_utf8_acceptRanges), ("unicode/utf8.first", laid_unicode_utf8_first)], narrowed := true }
def FnExactTokensBackBytesUptoSaid : Prop := fnExactTokensBackBytesUptoRow.holds Tryd.pinned (OpenSpec.upto fnExactTokensBackBytesSpec)

/-- 'laws.FnPartsBoth', WHERE WHAT IT READS IS OF BULK AT MOST 1048576: true; the input reads as it did. -/
def fnPartsBothUptoRow : OpenClaim := { program := "ytfghbjjlkciopaadoor", sum := "a072b11cc8ed6f35d5affeedd60fdeee6ac7e03134118ef882390408b9d0ba5b", func := "loop.example/lib-g01434/laws.FnPartsBoth", spec := "fnPartsBoth", unfollowed := true, recurses := true, named := ["unicode/utf8.first", "unicode/utf8.acceptRanges"], apart := false, laid := [("unicode/utf8.acceptRanges", laid_unicode_utf8_acceptRanges), ("unicode/utf8.first", laid_unicode_utf8_first)], narrowed := true }
def FnPartsBothUptoSaid : Prop := fnPartsBothUptoRow.holds Tryd.pinned (OpenSpec.upto fnPartsBothSpec)

/-- 'laws.FnPartsOrder', WHERE WHAT IT READS IS OF BULK AT MOST 1048576: true; the input reads as it did. -/
def fnPartsOrderUptoRow : OpenClaim := { program := "ytfghbjjlkciopaadoor", sum := "a072b11cc8ed6f35d5affeedd60fdeee6ac7e03134118ef882390408b9d0ba5b", func := "loop.example/lib-g01434/laws.FnPartsOrder", spec := "fnPartsOrder", unfollowed := true, recurses := true, named := ["unicode/utf8.first", "unicode/utf8.acceptRanges"], apart := false, laid := [("unicode/utf8.acceptRanges", laid_unicode_utf8_acceptRanges), ("unicode/utf8.first", laid_unicode_utf8_first)], narrowed := true }
def FnPartsOrderUptoSaid : Prop := fnPartsOrderUptoRow.holds Tryd.pinned (OpenSpec.upto fnPartsOrderSpec)

/-- 'laws.FnPartsUnion', WHERE WHAT IT READS IS OF BULK AT MOST 1048576: true; the input reads as it did. -/
def fnPartsUnionUptoRow : OpenClaim := { program := "ytfghbjjlkciopaadoor", sum := "a072b11cc8ed6f35d5affeedd60fdeee6ac7e03134118ef882390408b9d0ba5b", func := "loop.example/lib-g01434/laws.FnPartsUnion", spec := "fnPartsUnion", unfollowed := true, recurses := true, named := ["unicode/utf8.first", "unicode/utf8.acceptRanges"], apart := false, laid := [("unicode/utf8.acceptRanges", laid_unicode_utf8_acceptRanges), ("unicode/utf8.first", laid_unicode_utf8_first)], narrowed := true }
def FnPartsUnionUptoSaid : Prop := fnPartsUnionUptoRow.holds Tryd.pinned (OpenSpec.upto fnPartsUnionSpec)

/-- 'laws.FnTokensJoined', WHERE WHAT IT READS IS OF BULK AT MOST 1048576: true; the input reads as it did. -/
def fnTokensJoinedUptoRow : OpenClaim := { program := "ytfghbjjlkciopaadoor", sum := "a072b11cc8ed6f35d5affeedd60fdeee6ac7e03134118ef882390408b9d0ba5b", func := "loop.example/lib-g01434/laws.FnTokensJoined", spec := "fnTokensJoined", unfollowed := true, recurses := true, named := ["unicode/utf8.first", "unicode/utf8.acceptRanges"], apart := false, laid := [("unicode/utf8.acceptRanges", laid_unicode_utf8_acceptRanges), ("unicode/utf8.first", laid_unicode_utf8_first)], narrowed := true }
def FnTokensJoinedUptoSaid : Prop := fnTokensJoinedUptoRow.holds Tryd.pinned (OpenSpec.upto fnTokensJoinedSpec)

/-- 'laws.FnTokensMirror', WHERE WHAT IT READS IS OF BULK AT MOST 1048576: true; the input reads as it did. -/
def fnTokensMirrorUptoRow : OpenClaim := { program := "ytfghbjjlkciopaadoor", sum := "a072b11cc8ed6f35d5affeedd60fdeee6ac7e03134118ef882390408b9d0ba5b", func := "loop.example/lib-g01434/laws.FnTokensMirror", spec := "fnTokensMirror", unfollowed := true, recurses := true, named := ["unicode/utf8.first", "unicode/utf8.acceptRanges"], apart := false, laid := [("unicode/utf8.acceptRanges", laid_unicode_utf8_acceptRanges), ("unicode/utf8.first", laid_unicode_utf8_first)], narrowed := true }
def FnTokensMirrorUptoSaid : Prop := fnTokensMirrorUptoRow.holds Tryd.pinned (OpenSpec.upto fnTokensMirrorSpec)

/-- 'laws.FnPartsTokens', WHERE WHAT IT READS IS OF BULK AT MOST 1048576: true; the input reads as it did. -/
def fnPartsTokensUptoRow : OpenClaim := { program := "ytfghbjjlkciopaadoor", sum := "a072b11cc8ed6f35d5affeedd60fdeee6ac7e03134118ef882390408b9d0ba5b", func := "loop.example/lib-g01434/laws.FnPartsTokens", spec := "fnPartsTokens", unfollowed := true, recurses := true, named := ["unicode/utf8.first", "unicode/utf8.acceptRanges"], apart := false, laid := [("unicode/utf8.acceptRanges", laid_unicode_utf8_acceptRanges), ("unicode/utf8.first", laid_unicode_utf8_first)], narrowed := true }
def FnPartsTokensUptoSaid : Prop := fnPartsTokensUptoRow.holds Tryd.pinned (OpenSpec.upto fnPartsTokensSpec)

end Rows
end Go.Proofs.YtfghbjjlkciopaaDoor
