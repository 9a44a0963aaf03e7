/-
  NARROWER THAN 'FOR EVERY INPUT', by the rows' own cells (each row's printed sentence says how): FnExactMendAllBytes: laid · FnExactMendBytes: laid · FnExactMend: laid · FnExactMendAll: laid · FnMendLinear: laid · FnMendApart: laid · FnMendTogether: laid · FnMendBoth: laid.
  DERIVED. THE GIVEN ROWS OF THIS SEAT. 8 by the template 'for every input the law returns true; each argument reads behind the call as it read before'; 0 by the template 'total and deterministic' (their statements: YtahlgmnjdkimmaaDoorTotals.lean).
  GIVEN WITH THE SEED: the statements are not yours to turn. If you find one false, say at which input.
  Laid BY PROGRAM, IN A SANDBOX (cutbox-rows.mjs): the forced cells as the released guide's own fill.sh prints them over the translation 7b5dc3b35568645f… (all of the seat's roots in one cut). By AI agents, Wed Nov 11 2026. No macro, syntax, notation, axiom, sorry.
-/
import Derived.Test.YtahlgmnjdkimmaaDoorChecked
import GoSem.PinnedTables
import GoSem.Claim
import GoSem.ClaimJoined
import GoSem.ClaimMapViews
import Derived.JoinedTies
import Derived.KernelRfl
namespace Go.Proofs.YtahlgmnjdkimmaaDoor
/- THE CELL 'sum', in the pinned program and in every row, IS THE sha256 OF THE DUMP (.gsa) THAT YtahlgmnjdkimmaaDoorProg.lean LOADS. Nothing in Lean hashes anything: it is a label: what it is worth is what the hold of that sum in a sandbox is worth. -/
noncomputable def Tryd.pinned : Pinned := { name := "ytahlgmnjdkimmaadoor", sum := "7b5dc3b35568645f71cf39c4d1c39f8d96c06af103e2f8db4e5537e0c8091d7b", checked := Tryd.checked }
namespace Rows
def none {H : Type} : Left H := { results := [], args := [] }

/- WHAT THE LISTED PACKAGE-LEVEL VARIABLES READ AS WHEN THE CALL BEGINS. Each datum BY PROGRAM (the guide's laid-datum.mjs) off the statement by which the dump's own 'gosem.cut.vars' lays the variable. In a bare row this is a premise. The card (YtahlgmnjdkimmaaDoorCards.lean) ties it to the program's text. -/
def laid_unicode_utf8_acceptRanges {H : Type} : DataW H := .agg [.agg [.lit (.int .u8 128), .lit (.int .u8 191)], .agg [.lit (.int .u8 160), .lit (.int .u8 191)], .agg [.lit (.int .u8 128), .lit (.int .u8 159)], .agg [.lit (.int .u8 144), .lit (.int .u8 191)], .agg [.lit (.int .u8 128), .lit (.int .u8 143)], .agg [.lit (.int .u8 0), .lit (.int .u8 0)], .agg [.lit (.int .u8 0), .lit (.int .u8 0)], .agg [.lit (.int .u8 0), .lit (.int .u8 0)], .agg [.lit (.int .u8 0), .lit (.int .u8 0)], .agg [.lit (.int .u8 0), .lit (.int .u8 0)], .agg [.lit (.int .u8 0), .lit (.int .u8 0)], .agg [.lit (.int .u8 0), .lit (.int .u8 0)], .agg [.lit (.int .u8 0), .lit (.int .u8 0)], .agg [.lit (.int .u8 0), .lit (.int .u8 0)], .agg [.lit (.int .u8 0), .lit (.int .u8 0)], .agg [.lit (.int .u8 0), .lit (.int .u8 0)]]
/-- One of Go's own tables, pinned by name: the form's constant. -/
def laid_unicode_utf8_first : DataW Unit := Go.Pinned.utf8First

/-- 'laws.FnExactMendAllBytes': WHATEVER THE INPUT: true; the input reads as it did. -/
def fnExactMendAllBytesSpec : ChangeSpec := { name := "fnExactMendAllBytes", fn := fun _ => fun
  | [d1, d2] => { results := [.lit (.bool true)], args := [d1, d2] }
  | _ => none }
def fnExactMendAllBytesRow : OpenClaim := { program := "ytahlgmnjdkimmaadoor", sum := "7b5dc3b35568645f71cf39c4d1c39f8d96c06af103e2f8db4e5537e0c8091d7b", func := "loop.example/lib-g01434/laws.FnExactMendAllBytes", spec := "fnExactMendAllBytes", named := ["unicode/utf8.first", "unicode/utf8.acceptRanges"], apart := false, laid := [("unicode/utf8.acceptRanges", laid_unicode_utf8_acceptRanges), ("unicode/utf8.first", laid_unicode_utf8_first)] }
def FnExactMendAllBytesSaid : Prop := fnExactMendAllBytesRow.holds Tryd.pinned (OpenSpec.ofChange fnExactMendAllBytesSpec)

/-- ITS FALSE NEIGHBOUR: 'it returns false'. Refute it at one input. -/
def fnExactMendAllBytesWrong : ChangeSpec := { name := "fnExactMendAllBytes", fn := fun _ => fun
  | [d1, d2] => { results := [.lit (.bool false)], args := [d1, d2] }
  | _ => none }
def FnExactMendAllBytesWrongFalsely : Prop := fnExactMendAllBytesRow.holds Tryd.pinned (OpenSpec.ofChange fnExactMendAllBytesWrong)

/-- 'laws.FnExactMendBytes': WHATEVER THE INPUT: true; the input reads as it did. -/
def fnExactMendBytesSpec : ChangeSpec := { name := "fnExactMendBytes", fn := fun _ => fun
  | [d1, d2] => { results := [.lit (.bool true)], args := [d1, d2] }
  | _ => none }
def fnExactMendBytesRow : OpenClaim := { program := "ytahlgmnjdkimmaadoor", sum := "7b5dc3b35568645f71cf39c4d1c39f8d96c06af103e2f8db4e5537e0c8091d7b", func := "loop.example/lib-g01434/laws.FnExactMendBytes", spec := "fnExactMendBytes", named := ["unicode/utf8.first", "unicode/utf8.acceptRanges"], apart := false, laid := [("unicode/utf8.acceptRanges", laid_unicode_utf8_acceptRanges), ("unicode/utf8.first", laid_unicode_utf8_first)] }
def FnExactMendBytesSaid : Prop := fnExactMendBytesRow.holds Tryd.pinned (OpenSpec.ofChange fnExactMendBytesSpec)

/-- ITS FALSE NEIGHBOUR: 'it returns false'. Refute it at one input. -/
def fnExactMendBytesWrong : ChangeSpec := { name := "fnExactMendBytes", fn := fun _ => fun
  | [d1, d2] => { results := [.lit (.bool false)], args := [d1, d2] }
  | _ => none }
def FnExactMendBytesWrongFalsely : Prop := fnExactMendBytesRow.holds Tryd.pinned (OpenSpec.ofChange fnExactMendBytesWrong)

/-- 'laws.FnExactMend': WHATEVER THE INPUT: true; the input reads as it did. -/
def fnExactMendSpec : ChangeSpec := { name := "fnExactMend", fn := fun _ => fun
  | [d1, d2] => { results := [.lit (.bool true)], args := [d1, d2] }
  | _ => none }
def fnExactMendRow : OpenClaim := { program := "ytahlgmnjdkimmaadoor", sum := "7b5dc3b35568645f71cf39c4d1c39f8d96c06af103e2f8db4e5537e0c8091d7b", func := "loop.example/lib-g01434/laws.FnExactMend", spec := "fnExactMend", inPlace := ["internal/abi.NoEscape", "internal/bytealg.MakeNoZero"], named := ["unicode/utf8.first", "unicode/utf8.acceptRanges"], apart := false, laid := [("unicode/utf8.acceptRanges", laid_unicode_utf8_acceptRanges), ("unicode/utf8.first", laid_unicode_utf8_first)] }
def FnExactMendSaid : Prop := fnExactMendRow.holds Tryd.pinned (OpenSpec.ofChange fnExactMendSpec)

/-- ITS FALSE NEIGHBOUR: 'it returns false'. Refute it at one input. -/
def fnExactMendWrong : ChangeSpec := { name := "fnExactMend", fn := fun _ => fun
  | [d1, d2] => { results := [.lit (.bool false)], args := [d1, d2] }
  | _ => none }
def FnExactMendWrongFalsely : Prop := fnExactMendRow.holds Tryd.pinned (OpenSpec.ofChange fnExactMendWrong)

/-- 'laws.FnExactMendAll': WHATEVER THE INPUT: true; the input reads as it did. -/
def fnExactMendAllSpec : ChangeSpec := { name := "fnExactMendAll", fn := fun _ => fun
  | [d1, d2] => { results := [.lit (.bool true)], args := [d1, d2] }
  | _ => none }
def fnExactMendAllRow : OpenClaim := { program := "ytahlgmnjdkimmaadoor", sum := "7b5dc3b35568645f71cf39c4d1c39f8d96c06af103e2f8db4e5537e0c8091d7b", func := "loop.example/lib-g01434/laws.FnExactMendAll", spec := "fnExactMendAll", inPlace := ["internal/abi.NoEscape", "internal/bytealg.MakeNoZero"], named := ["unicode/utf8.first", "unicode/utf8.acceptRanges"], apart := false, laid := [("unicode/utf8.acceptRanges", laid_unicode_utf8_acceptRanges), ("unicode/utf8.first", laid_unicode_utf8_first)] }
def FnExactMendAllSaid : Prop := fnExactMendAllRow.holds Tryd.pinned (OpenSpec.ofChange fnExactMendAllSpec)

/-- ITS FALSE NEIGHBOUR: 'it returns false'. Refute it at one input. -/
def fnExactMendAllWrong : ChangeSpec := { name := "fnExactMendAll", fn := fun _ => fun
  | [d1, d2] => { results := [.lit (.bool false)], args := [d1, d2] }
  | _ => none }
def FnExactMendAllWrongFalsely : Prop := fnExactMendAllRow.holds Tryd.pinned (OpenSpec.ofChange fnExactMendAllWrong)

/-- 'laws.FnMendLinear': WHATEVER THE INPUT: true; the input reads as it did. -/
def fnMendLinearSpec : ChangeSpec := { name := "fnMendLinear", fn := fun _ => fun
  | [d1, d2] => { results := [.lit (.bool true)], args := [d1, d2] }
  | _ => none }
def fnMendLinearRow : OpenClaim := { program := "ytahlgmnjdkimmaadoor", sum := "7b5dc3b35568645f71cf39c4d1c39f8d96c06af103e2f8db4e5537e0c8091d7b", func := "loop.example/lib-g01434/laws.FnMendLinear", spec := "fnMendLinear", inPlace := ["internal/abi.NoEscape", "internal/bytealg.MakeNoZero"], named := ["unicode/utf8.first", "unicode/utf8.acceptRanges"], apart := false, laid := [("unicode/utf8.acceptRanges", laid_unicode_utf8_acceptRanges), ("unicode/utf8.first", laid_unicode_utf8_first)] }
def FnMendLinearSaid : Prop := fnMendLinearRow.holds Tryd.pinned (OpenSpec.ofChange fnMendLinearSpec)

/-- ITS FALSE NEIGHBOUR: 'it returns false'. Refute it at one input. -/
def fnMendLinearWrong : ChangeSpec := { name := "fnMendLinear", fn := fun _ => fun
  | [d1, d2] => { results := [.lit (.bool false)], args := [d1, d2] }
  | _ => none }
def FnMendLinearWrongFalsely : Prop := fnMendLinearRow.holds Tryd.pinned (OpenSpec.ofChange fnMendLinearWrong)

/-- 'laws.FnMendApart': WHATEVER THE INPUT: true; the input reads as it did. -/
def fnMendApartSpec : ChangeSpec := { name := "fnMendApart", fn := fun _ => fun
  | [d1, d2, d3] => { results := [.lit (.bool true)], args := [d1, d2, d3] }
  | _ => none }
def fnMendApartRow : OpenClaim := { program := "ytahlgmnjdkimmaadoor", sum := "7b5dc3b35568645f71cf39c4d1c39f8d96c06af103e2f8db4e5537e0c8091d7b", func := "loop.example/lib-g01434/laws.FnMendApart", spec := "fnMendApart", inPlace := ["internal/abi.NoEscape", "internal/bytealg.MakeNoZero"], named := ["unicode/utf8.first", "unicode/utf8.acceptRanges"], apart := false, laid := [("unicode/utf8.acceptRanges", laid_unicode_utf8_acceptRanges), ("unicode/utf8.first", laid_unicode_utf8_first)] }
def FnMendApartSaid : Prop := fnMendApartRow.holds Tryd.pinned (OpenSpec.ofChange fnMendApartSpec)

/-- ITS FALSE NEIGHBOUR: 'it returns false'. Refute it at one input. -/
def fnMendApartWrong : ChangeSpec := { name := "fnMendApart", fn := fun _ => fun
  | [d1, d2, d3] => { results := [.lit (.bool false)], args := [d1, d2, d3] }
  | _ => none }
def FnMendApartWrongFalsely : Prop := fnMendApartRow.holds Tryd.pinned (OpenSpec.ofChange fnMendApartWrong)

/-- 'laws.FnMendTogether': WHATEVER THE INPUT: true; the input reads as it did. -/
def fnMendTogetherSpec : ChangeSpec := { name := "fnMendTogether", fn := fun _ => fun
  | [d1, d2] => { results := [.lit (.bool true)], args := [d1, d2] }
  | _ => none }
def fnMendTogetherRow : OpenClaim := { program := "ytahlgmnjdkimmaadoor", sum := "7b5dc3b35568645f71cf39c4d1c39f8d96c06af103e2f8db4e5537e0c8091d7b", func := "loop.example/lib-g01434/laws.FnMendTogether", spec := "fnMendTogether", inPlace := ["internal/abi.NoEscape", "internal/bytealg.MakeNoZero"], named := ["unicode/utf8.first", "unicode/utf8.acceptRanges"], apart := false, laid := [("unicode/utf8.acceptRanges", laid_unicode_utf8_acceptRanges), ("unicode/utf8.first", laid_unicode_utf8_first)] }
def FnMendTogetherSaid : Prop := fnMendTogetherRow.holds Tryd.pinned (OpenSpec.ofChange fnMendTogetherSpec)

/-- ITS FALSE NEIGHBOUR: 'it returns false'. Refute it at one input. -/
def fnMendTogetherWrong : ChangeSpec := { name := "fnMendTogether", fn := fun _ => fun
  | [d1, d2] => { results := [.lit (.bool false)], args := [d1, d2] }
  | _ => none }
def FnMendTogetherWrongFalsely : Prop := fnMendTogetherRow.holds Tryd.pinned (OpenSpec.ofChange fnMendTogetherWrong)

/-- 'laws.FnMendBoth': WHATEVER THE INPUT: true; the input reads as it did. -/
def fnMendBothSpec : ChangeSpec := { name := "fnMendBoth", fn := fun _ => fun
  | [d1, d2] => { results := [.lit (.bool true)], args := [d1, d2] }
  | _ => none }
def fnMendBothRow : OpenClaim := { program := "ytahlgmnjdkimmaadoor", sum := "7b5dc3b35568645f71cf39c4d1c39f8d96c06af103e2f8db4e5537e0c8091d7b", func := "loop.example/lib-g01434/laws.FnMendBoth", spec := "fnMendBoth", inPlace := ["internal/abi.NoEscape", "internal/bytealg.MakeNoZero"], named := ["unicode/utf8.first", "unicode/utf8.acceptRanges"], apart := false, laid := [("unicode/utf8.acceptRanges", laid_unicode_utf8_acceptRanges), ("unicode/utf8.first", laid_unicode_utf8_first)] }
def FnMendBothSaid : Prop := fnMendBothRow.holds Tryd.pinned (OpenSpec.ofChange fnMendBothSpec)

/-- ITS FALSE NEIGHBOUR: 'it returns false'. Refute it at one input. -/
def fnMendBothWrong : ChangeSpec := { name := "fnMendBoth", fn := fun _ => fun
  | [d1, d2] => { results := [.lit (.bool false)], args := [d1, d2] }
  | _ => none }
def FnMendBothWrongFalsely : Prop := fnMendBothRow.holds Tryd.pinned (OpenSpec.ofChange fnMendBothWrong)

/- THE SECOND FORM. 'bulk': how many values and letters a reading holds, each counted each time it is reached (what is shared counts as often as it is met; a slice's spare places count too). A statement '..UptoSaid' is the law's where the arguments, and the package variables that the reading takes, are together of bulk at most 1048576: NARROWER than '..Said'. Prove '..Said' where nothing that the law and all that it calls make is longer than what came in: it says more and counts as full. Else prove '..UptoSaid'. A law counts once. -/
mutual
def uptoBulk {H : Type} : DataW H → Nat
  | .lit (.string bytes) => bytes.length + 1
  | .lit _ => 1
  | .nil => 1
  | .ptr d => uptoBulk d + 1
  | .slice elems spare => uptoBulkAll elems + uptoBulkAll spare + 1
  | .agg parts => uptoBulkAll parts + 1
  | .iface _ d => uptoBulk d + 1
  | .map entries => uptoBulkEntries entries + 1
  | .held _ => 1
def uptoBulkAll {H : Type} : List (DataW H) → Nat
  | [] => 0
  | d :: r => uptoBulk d + uptoBulkAll r
def uptoBulkEntries {H : Type} : List (Lit × DataW H) → Nat
  | [] => 0
  | x :: r => uptoBulkEntry x + uptoBulkEntries r
def uptoBulkEntry {H : Type} : Lit × DataW H → Nat
  | (.string bytes, d) => bytes.length + uptoBulk d + 1
  | (_, d) => uptoBulk d + 1
 end
def uptoSmall : (H : Type) → List (DataW H) → Bool := fun _ ds => decide (uptoBulkAll ds ≤ 1048576)
def OpenSpec.upto (s : _root_.Go.ChangeSpec) : _root_.Go.OpenSpec := { _root_.Go.OpenSpec.ofChange s with cond := some uptoSmall }

/-- 'laws.FnExactMendAllBytes', WHERE WHAT IT READS IS OF BULK AT MOST 1048576: true; the input reads as it did. -/
def fnExactMendAllBytesUptoRow : OpenClaim := { program := "ytahlgmnjdkimmaadoor", sum := "7b5dc3b35568645f71cf39c4d1c39f8d96c06af103e2f8db4e5537e0c8091d7b", func := "loop.example/lib-g01434/laws.FnExactMendAllBytes", spec := "fnExactMendAllBytes", named := ["unicode/utf8.first", "unicode/utf8.acceptRanges"], apart := false, laid := [("unicode/utf8.acceptRanges", laid_unicode_utf8_acceptRanges), ("unicode/utf8.first", laid_unicode_utf8_first)], narrowed := true }
def FnExactMendAllBytesUptoSaid : Prop := fnExactMendAllBytesUptoRow.holds Tryd.pinned (OpenSpec.upto fnExactMendAllBytesSpec)

/-- 'laws.FnExactMendBytes', WHERE WHAT IT READS IS OF BULK AT MOST 1048576: true; the input reads as it did. -/
def fnExactMendBytesUptoRow : OpenClaim := { program := "ytahlgmnjdkimmaadoor", sum := "7b5dc3b35568645f71cf39c4d1c39f8d96c06af103e2f8db4e5537e0c8091d7b", func := "loop.example/lib-g01434/laws.FnExactMendBytes", spec := "fnExactMendBytes", named := ["unicode/utf8.first", "unicode/utf8.acceptRanges"], apart := false, laid := [("unicode/utf8.acceptRanges", laid_unicode_utf8_acceptRanges), ("unicode/utf8.first", laid_unicode_utf8_first)], narrowed := true }
def FnExactMendBytesUptoSaid : Prop := fnExactMendBytesUptoRow.holds Tryd.pinned (OpenSpec.upto fnExactMendBytesSpec)

/-- 'laws.FnExactMend', WHERE WHAT IT READS IS OF BULK AT MOST 1048576: true; the input reads as it did. -/
def fnExactMendUptoRow : OpenClaim := { program := "ytahlgmnjdkimmaadoor", sum := "7b5dc3b35568645f71cf39c4d1c39f8d96c06af103e2f8db4e5537e0c8091d7b", func := "loop.example/lib-g01434/laws.FnExactMend", spec := "fnExactMend", inPlace := ["internal/abi.NoEscape", "internal/bytealg.MakeNoZero"], named := ["unicode/utf8.first", "unicode/utf8.acceptRanges"], apart := false, laid := [("unicode/utf8.acceptRanges", laid_unicode_utf8_acceptRanges), ("unicode/utf8.first", laid_unicode_utf8_first)], narrowed := true }
def FnExactMendUptoSaid : Prop := fnExactMendUptoRow.holds Tryd.pinned (OpenSpec.upto fnExactMendSpec)

/-- 'laws.FnExactMendAll', WHERE WHAT IT READS IS OF BULK AT MOST 1048576: true; the input reads as it did. -/
def fnExactMendAllUptoRow : OpenClaim := { program := "ytahlgmnjdkimmaadoor", sum := "7b5dc3b35568645f71cf39c4d1c39f8d96c06af103e2f8db4e5537e0c8091d7b", func := "loop.example/lib-g01434/laws.FnExactMendAll", spec := "fnExactMendAll", inPlace := ["internal/abi.NoEscape", "internal/bytealg.MakeNoZero"], named := ["unicode/utf8.first", "unicode/utf8.acceptRanges"], apart := false, laid := [("unicode/utf8.acceptRanges", laid_unicode_utf8_acceptRanges), ("unicode/utf8.first", laid_unicode_utf8_first)], narrowed := true }
def FnExactMendAllUptoSaid : Prop := fnExactMendAllUptoRow.holds Tryd.pinned (OpenSpec.upto fnExactMendAllSpec)

/-- 'laws.FnMendLinear', WHERE WHAT IT READS IS OF BULK AT MOST 1048576: true; the input reads as it did. -/
def fnMendLinearUptoRow : OpenClaim := { program := "ytahlgmnjdkimmaadoor", sum := "7b5dc3b35568645f71cf39c4d1c39f8d96c06af103e2f8db4e5537e0c8091d7b", func := "loop.example/lib-g01434/laws.FnMendLinear", spec := "fnMendLinear", inPlace := ["internal/abi.NoEscape", "internal/bytealg.MakeNoZero"], named := ["unicode/utf8.first", "unicode/utf8.acceptRanges"], apart := false, laid := [("unicode/utf8.acceptRanges", laid_unicode_utf8_acceptRanges), ("unicode/utf8.first", laid_unicode_utf8_first)], narrowed := true }
def FnMendLinearUptoSaid : Prop := fnMendLinearUptoRow.holds Tryd.pinned (OpenSpec.upto fnMendLinearSpec)

/-- 'laws.FnMendApart', WHERE WHAT IT READS IS OF BULK AT MOST 1048576: true; the input reads as it did. -/
def fnMendApartUptoRow : OpenClaim := { program := "ytahlgmnjdkimmaadoor", sum := "7b5dc3b35568645f71cf39c4d1c39f8d96c06af103e2f8db4e5537e0c8091d7b", func := "loop.example/lib-g01434/laws.FnMendApart", spec := "fnMendApart", inPlace := ["internal/abi.NoEscape", "internal/bytealg.MakeNoZero"], named := ["unicode/utf8.first", "unicode/utf8.acceptRanges"], apart := false, laid := [("unicode/utf8.acceptRanges", laid_unicode_utf8_acceptRanges), ("unicode/utf8.first", laid_unicode_utf8_first)], narrowed := true }
def FnMendApartUptoSaid : Prop := fnMendApartUptoRow.holds Tryd.pinned (OpenSpec.upto fnMendApartSpec)

/-- 'laws.FnMendTogether', WHERE WHAT IT READS IS OF BULK AT MOST 1048576: true; the input reads as it did. -/
def fnMendTogetherUptoRow : OpenClaim := { program := "ytahlgmnjdkimmaadoor", sum := "7b5dc3b35568645f71cf39c4d1c39f8d96c06af103e2f8db4e5537e0c8091d7b", func := "loop.example/lib-g01434/laws.FnMendTogether", spec := "fnMendTogether", inPlace := ["internal/abi.NoEscape", "internal/bytealg.MakeNoZero"], named := ["unicode/utf8.first", "unicode/utf8.acceptRanges"], apart := false, laid := [("unicode/utf8.acceptRanges", laid_unicode_utf8_acceptRanges), ("unicode/utf8.first", laid_unicode_utf8_first)], narrowed := true }
def FnMendTogetherUptoSaid : Prop := fnMendTogetherUptoRow.holds Tryd.pinned (OpenSpec.upto fnMendTogetherSpec)

/-- 'laws.FnMendBoth', WHERE WHAT IT READS IS OF BULK AT MOST 1048576: true; the input reads as it did. -/
def fnMendBothUptoRow : OpenClaim := { program := "ytahlgmnjdkimmaadoor", sum := "7b5dc3b35568645f71cf39c4d1c39f8d96c06af103e2f8db4e5537e0c8091d7b", func := "loop.example/lib-g01434/laws.FnMendBoth", spec := "fnMendBoth", inPlace := ["internal/abi.NoEscape", "internal/bytealg.MakeNoZero"], named := ["unicode/utf8.first", "unicode/utf8.acceptRanges"], apart := false, laid := [("unicode/utf8.acceptRanges", laid_unicode_utf8_acceptRanges), ("unicode/utf8.first", laid_unicode_utf8_first)], narrowed := true }
def FnMendBothUptoSaid : Prop := fnMendBothUptoRow.holds Tryd.pinned (OpenSpec.upto fnMendBothSpec)

end Rows
end Go.Proofs.YtahlgmnjdkimmaaDoor
