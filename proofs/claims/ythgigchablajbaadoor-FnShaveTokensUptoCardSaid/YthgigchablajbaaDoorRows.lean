/-
  NARROWER THAN 'FOR EVERY INPUT', by the rows' own cells (each row's printed sentence says how): FnShaveCut: laid · FnShaveSides: laid · FnShaveUnion: laid · FnExactShave: laid · FnExactShaveBytes: laid · FnShaveTokens: laid · FnShaveBoth: laid.
  DERIVED. THE GIVEN ROWS OF THIS SEAT. 7 by the template 'for every input the law returns true; each argument reads behind the call as it read before'; 0 by the template 'total and deterministic' (their statements: YthgigchablajbaaDoorTotals.lean).
  GIVEN WITH THE SEED: the statements are not yours to turn. If you find one false, say at which input.
  Laid BY PROGRAM, IN A SANDBOX (cutbox-rows.mjs): the forced cells as the released guide's own fill.sh prints them over the translation a95dca12091297c4… (all of the seat's roots in one cut). By AI agents, Wed Nov 11 2026. No macro, syntax, notation, axiom, sorry.
-/
import Derived.Test.YthgigchablajbaaDoorChecked
import GoSem.PinnedTables
import GoSem.Claim
import GoSem.ClaimJoined
import GoSem.ClaimMapViews
import Derived.JoinedTies
import Derived.KernelRfl
namespace Go.Proofs.YthgigchablajbaaDoor
/- THE CELL 'sum', in the pinned program and in every row, IS THE sha256 OF THE DUMP (.gsa) THAT YthgigchablajbaaDoorProg.lean LOADS. Nothing in Lean hashes anything: it is a label: what it is worth is what the hold of that sum in a sandbox is worth. -/
noncomputable def Tryd.pinned : Pinned := { name := "ythgigchablajbaadoor", sum := "a95dca12091297c491fea717c6da3dff93977505a6114bdb70b1ec56c3e4f2a3", checked := Tryd.checked }
namespace Rows
def none {H : Type} : Left H := { results := [], args := [] }

/- WHAT THE LISTED PACKAGE-LEVEL VARIABLES READ AS WHEN THE CALL BEGINS. Each datum BY PROGRAM (the guide's laid-datum.mjs) off the statement by which the dump's own 'gosem.cut.vars' lays the variable. In a bare row this is a premise. The card (YthgigchablajbaaDoorCards.lean) ties it to the program's text. -/
def laid_unicode_utf8_acceptRanges {H : Type} : DataW H := .agg [.agg [.lit (.int .u8 128), .lit (.int .u8 191)], .agg [.lit (.int .u8 160), .lit (.int .u8 191)], .agg [.lit (.int .u8 128), .lit (.int .u8 159)], .agg [.lit (.int .u8 144), .lit (.int .u8 191)], .agg [.lit (.int .u8 128), .lit (.int .u8 143)], .agg [.lit (.int .u8 0), .lit (.int .u8 0)], .agg [.lit (.int .u8 0), .lit (.int .u8 0)], .agg [.lit (.int .u8 0), .lit (.int .u8 0)], .agg [.lit (.int .u8 0), .lit (.int .u8 0)], .agg [.lit (.int .u8 0), .lit (.int .u8 0)], .agg [.lit (.int .u8 0), .lit (.int .u8 0)], .agg [.lit (.int .u8 0), .lit (.int .u8 0)], .agg [.lit (.int .u8 0), .lit (.int .u8 0)], .agg [.lit (.int .u8 0), .lit (.int .u8 0)], .agg [.lit (.int .u8 0), .lit (.int .u8 0)], .agg [.lit (.int .u8 0), .lit (.int .u8 0)]]
def laid_unicode_White_Space {H : Type} : DataW H := .ptr (.agg [.slice [.agg [.lit (.int .u16 9), .lit (.int .u16 13), .lit (.int .u16 1)], .agg [.lit (.int .u16 32), .lit (.int .u16 133), .lit (.int .u16 101)], .agg [.lit (.int .u16 160), .lit (.int .u16 5760), .lit (.int .u16 5600)], .agg [.lit (.int .u16 8192), .lit (.int .u16 8202), .lit (.int .u16 1)], .agg [.lit (.int .u16 8232), .lit (.int .u16 8233), .lit (.int .u16 1)], .agg [.lit (.int .u16 8239), .lit (.int .u16 8287), .lit (.int .u16 48)], .agg [.lit (.int .u16 12288), .lit (.int .u16 12288), .lit (.int .u16 1)]] [], .nil, .lit (.int .i64 2)])
def laid_bytes_asciiSpace {H : Type} : DataW H := .agg [.lit (.int .u8 0), .lit (.int .u8 0), .lit (.int .u8 0), .lit (.int .u8 0), .lit (.int .u8 0), .lit (.int .u8 0), .lit (.int .u8 0), .lit (.int .u8 0), .lit (.int .u8 0), .lit (.int .u8 1), .lit (.int .u8 1), .lit (.int .u8 1), .lit (.int .u8 1), .lit (.int .u8 1), .lit (.int .u8 0), .lit (.int .u8 0), .lit (.int .u8 0), .lit (.int .u8 0), .lit (.int .u8 0), .lit (.int .u8 0), .lit (.int .u8 0), .lit (.int .u8 0), .lit (.int .u8 0), .lit (.int .u8 0), .lit (.int .u8 0), .lit (.int .u8 0), .lit (.int .u8 0), .lit (.int .u8 0), .lit (.int .u8 0), .lit (.int .u8 0), .lit (.int .u8 0), .lit (.int .u8 0), .lit (.int .u8 1), .lit (.int .u8 0), .lit (.int .u8 0), .lit (.int .u8 0), .lit (.int .u8 0), .lit (.int .u8 0), .lit (.int .u8 0), .lit (.int .u8 0), .lit (.int .u8 0), .lit (.int .u8 0), .lit (.int .u8 0), .lit (.int .u8 0), .lit (.int .u8 0), .lit (.int .u8 0), .lit (.int .u8 0), .lit (.int .u8 0), .lit (.int .u8 0), .lit (.int .u8 0), .lit (.int .u8 0), .lit (.int .u8 0), .lit (.int .u8 0), .lit (.int .u8 0), .lit (.int .u8 0), .lit (.int .u8 0), .lit (.int .u8 0), .lit (.int .u8 0), .lit (.int .u8 0), .lit (.int .u8 0), .lit (.int .u8 0), .lit (.int .u8 0), .lit (.int .u8 0), .lit (.int .u8 0), .lit (.int .u8 0), .lit (.int .u8 0), .lit (.int .u8 0), .lit (.int .u8 0), .lit (.int .u8 0), .lit (.int .u8 0), .lit (.int .u8 0), .lit (.int .u8 0), .lit (.int .u8 0), .lit (.int .u8 0), .lit (.int .u8 0), .lit (.int .u8 0), .lit (.int .u8 0), .lit (.int .u8 0), .lit (.int .u8 0), .lit (.int .u8 0), .lit (.int .u8 0), .lit (.int .u8 0), .lit (.int .u8 0), .lit (.int .u8 0), .lit (.int .u8 0), .lit (.int .u8 0), .lit (.int .u8 0), .lit (.int .u8 0), .lit (.int .u8 0), .lit (.int .u8 0), .lit (.int .u8 0), .lit (.int .u8 0), .lit (.int .u8 0), .lit (.int .u8 0), .lit (.int .u8 0), .lit (.int .u8 0), .lit (.int .u8 0), .lit (.int .u8 0), .lit (.int .u8 0), .lit (.int .u8 0), .lit (.int .u8 0), .lit (.int .u8 0), .lit (.int .u8 0), .lit (.int .u8 0), .lit (.int .u8 0), .lit (.int .u8 0), .lit (.int .u8 0), .lit (.int .u8 0), .lit (.int .u8 0), .lit (.int .u8 0), .lit (.int .u8 0), .lit (.int .u8 0), .lit (.int .u8 0), .lit (.int .u8 0), .lit (.int .u8 0), .lit (.int .u8 0), .lit (.int .u8 0), .lit (.int .u8 0), .lit (.int .u8 0), .lit (.int .u8 0), .lit (.int .u8 0), .lit (.int .u8 0), .lit (.int .u8 0), .lit (.int .u8 0), .lit (.int .u8 0), .lit (.int .u8 0), .lit (.int .u8 0), .lit (.int .u8 0), .lit (.int .u8 0), .lit (.int .u8 0), .lit (.int .u8 0), .lit (.int .u8 0), .lit (.int .u8 0), .lit (.int .u8 0), .lit (.int .u8 0), .lit (.int .u8 0), .lit (.int .u8 0), .lit (.int .u8 0), .lit (.int .u8 0), .lit (.int .u8 0), .lit (.int .u8 0), .lit (.int .u8 0), .lit (.int .u8 0), .lit (.int .u8 0), .lit (.int .u8 0), .lit (.int .u8 0), .lit (.int .u8 0), .lit (.int .u8 0), .lit (.int .u8 0), .lit (.int .u8 0), .lit (.int .u8 0), .lit (.int .u8 0), .lit (.int .u8 0), .lit (.int .u8 0), .lit (.int .u8 0), .lit (.int .u8 0), .lit (.int .u8 0), .lit (.int .u8 0), .lit (.int .u8 0), .lit (.int .u8 0), .lit (.int .u8 0), .lit (.int .u8 0), .lit (.int .u8 0), .lit (.int .u8 0), .lit (.int .u8 0), .lit (.int .u8 0), .lit (.int .u8 0), .lit (.int .u8 0), .lit (.int .u8 0), .lit (.int .u8 0), .lit (.int .u8 0), .lit (.int .u8 0), .lit (.int .u8 0), .lit (.int .u8 0), .lit (.int .u8 0), .lit (.int .u8 0), .lit (.int .u8 0), .lit (.int .u8 0), .lit (.int .u8 0), .lit (.int .u8 0), .lit (.int .u8 0), .lit (.int .u8 0), .lit (.int .u8 0), .lit (.int .u8 0), .lit (.int .u8 0), .lit (.int .u8 0), .lit (.int .u8 0), .lit (.int .u8 0), .lit (.int .u8 0), .lit (.int .u8 0), .lit (.int .u8 0), .lit (.int .u8 0), .lit (.int .u8 0), .lit (.int .u8 0), .lit (.int .u8 0), .lit (.int .u8 0), .lit (.int .u8 0), .lit (.int .u8 0), .lit (.int .u8 0), .lit (.int .u8 0), .lit (.int .u8 0), .lit (.int .u8 0), .lit (.int .u8 0), .lit (.int .u8 0), .lit (.int .u8 0), .lit (.int .u8 0), .lit (.int .u8 0), .lit (.int .u8 0), .lit (.int .u8 0), .lit (.int .u8 0), .lit (.int .u8 0), .lit (.int .u8 0), .lit (.int .u8 0), .lit (.int .u8 0), .lit (.int .u8 0), .lit (.int .u8 0), .lit (.int .u8 0), .lit (.int .u8 0), .lit (.int .u8 0), .lit (.int .u8 0), .lit (.int .u8 0), .lit (.int .u8 0), .lit (.int .u8 0), .lit (.int .u8 0), .lit (.int .u8 0), .lit (.int .u8 0), .lit (.int .u8 0), .lit (.int .u8 0), .lit (.int .u8 0), .lit (.int .u8 0), .lit (.int .u8 0), .lit (.int .u8 0), .lit (.int .u8 0), .lit (.int .u8 0), .lit (.int .u8 0), .lit (.int .u8 0), .lit (.int .u8 0), .lit (.int .u8 0), .lit (.int .u8 0), .lit (.int .u8 0), .lit (.int .u8 0), .lit (.int .u8 0), .lit (.int .u8 0), .lit (.int .u8 0), .lit (.int .u8 0), .lit (.int .u8 0), .lit (.int .u8 0), .lit (.int .u8 0), .lit (.int .u8 0), .lit (.int .u8 0), .lit (.int .u8 0), .lit (.int .u8 0), .lit (.int .u8 0), .lit (.int .u8 0), .lit (.int .u8 0), .lit (.int .u8 0)]
def laid_strings_asciiSpace {H : Type} : DataW H := .agg [.lit (.int .u8 0), .lit (.int .u8 0), .lit (.int .u8 0), .lit (.int .u8 0), .lit (.int .u8 0), .lit (.int .u8 0), .lit (.int .u8 0), .lit (.int .u8 0), .lit (.int .u8 0), .lit (.int .u8 1), .lit (.int .u8 1), .lit (.int .u8 1), .lit (.int .u8 1), .lit (.int .u8 1), .lit (.int .u8 0), .lit (.int .u8 0), .lit (.int .u8 0), .lit (.int .u8 0), .lit (.int .u8 0), .lit (.int .u8 0), .lit (.int .u8 0), .lit (.int .u8 0), .lit (.int .u8 0), .lit (.int .u8 0), .lit (.int .u8 0), .lit (.int .u8 0), .lit (.int .u8 0), .lit (.int .u8 0), .lit (.int .u8 0), .lit (.int .u8 0), .lit (.int .u8 0), .lit (.int .u8 0), .lit (.int .u8 1), .lit (.int .u8 0), .lit (.int .u8 0), .lit (.int .u8 0), .lit (.int .u8 0), .lit (.int .u8 0), .lit (.int .u8 0), .lit (.int .u8 0), .lit (.int .u8 0), .lit (.int .u8 0), .lit (.int .u8 0), .lit (.int .u8 0), .lit (.int .u8 0), .lit (.int .u8 0), .lit (.int .u8 0), .lit (.int .u8 0), .lit (.int .u8 0), .lit (.int .u8 0), .lit (.int .u8 0), .lit (.int .u8 0), .lit (.int .u8 0), .lit (.int .u8 0), .lit (.int .u8 0), .lit (.int .u8 0), .lit (.int .u8 0), .lit (.int .u8 0), .lit (.int .u8 0), .lit (.int .u8 0), .lit (.int .u8 0), .lit (.int .u8 0), .lit (.int .u8 0), .lit (.int .u8 0), .lit (.int .u8 0), .lit (.int .u8 0), .lit (.int .u8 0), .lit (.int .u8 0), .lit (.int .u8 0), .lit (.int .u8 0), .lit (.int .u8 0), .lit (.int .u8 0), .lit (.int .u8 0), .lit (.int .u8 0), .lit (.int .u8 0), .lit (.int .u8 0), .lit (.int .u8 0), .lit (.int .u8 0), .lit (.int .u8 0), .lit (.int .u8 0), .lit (.int .u8 0), .lit (.int .u8 0), .lit (.int .u8 0), .lit (.int .u8 0), .lit (.int .u8 0), .lit (.int .u8 0), .lit (.int .u8 0), .lit (.int .u8 0), .lit (.int .u8 0), .lit (.int .u8 0), .lit (.int .u8 0), .lit (.int .u8 0), .lit (.int .u8 0), .lit (.int .u8 0), .lit (.int .u8 0), .lit (.int .u8 0), .lit (.int .u8 0), .lit (.int .u8 0), .lit (.int .u8 0), .lit (.int .u8 0), .lit (.int .u8 0), .lit (.int .u8 0), .lit (.int .u8 0), .lit (.int .u8 0), .lit (.int .u8 0), .lit (.int .u8 0), .lit (.int .u8 0), .lit (.int .u8 0), .lit (.int .u8 0), .lit (.int .u8 0), .lit (.int .u8 0), .lit (.int .u8 0), .lit (.int .u8 0), .lit (.int .u8 0), .lit (.int .u8 0), .lit (.int .u8 0), .lit (.int .u8 0), .lit (.int .u8 0), .lit (.int .u8 0), .lit (.int .u8 0), .lit (.int .u8 0), .lit (.int .u8 0), .lit (.int .u8 0), .lit (.int .u8 0), .lit (.int .u8 0), .lit (.int .u8 0), .lit (.int .u8 0), .lit (.int .u8 0), .lit (.int .u8 0), .lit (.int .u8 0), .lit (.int .u8 0), .lit (.int .u8 0), .lit (.int .u8 0), .lit (.int .u8 0), .lit (.int .u8 0), .lit (.int .u8 0), .lit (.int .u8 0), .lit (.int .u8 0), .lit (.int .u8 0), .lit (.int .u8 0), .lit (.int .u8 0), .lit (.int .u8 0), .lit (.int .u8 0), .lit (.int .u8 0), .lit (.int .u8 0), .lit (.int .u8 0), .lit (.int .u8 0), .lit (.int .u8 0), .lit (.int .u8 0), .lit (.int .u8 0), .lit (.int .u8 0), .lit (.int .u8 0), .lit (.int .u8 0), .lit (.int .u8 0), .lit (.int .u8 0), .lit (.int .u8 0), .lit (.int .u8 0), .lit (.int .u8 0), .lit (.int .u8 0), .lit (.int .u8 0), .lit (.int .u8 0), .lit (.int .u8 0), .lit (.int .u8 0), .lit (.int .u8 0), .lit (.int .u8 0), .lit (.int .u8 0), .lit (.int .u8 0), .lit (.int .u8 0), .lit (.int .u8 0), .lit (.int .u8 0), .lit (.int .u8 0), .lit (.int .u8 0), .lit (.int .u8 0), .lit (.int .u8 0), .lit (.int .u8 0), .lit (.int .u8 0), .lit (.int .u8 0), .lit (.int .u8 0), .lit (.int .u8 0), .lit (.int .u8 0), .lit (.int .u8 0), .lit (.int .u8 0), .lit (.int .u8 0), .lit (.int .u8 0), .lit (.int .u8 0), .lit (.int .u8 0), .lit (.int .u8 0), .lit (.int .u8 0), .lit (.int .u8 0), .lit (.int .u8 0), .lit (.int .u8 0), .lit (.int .u8 0), .lit (.int .u8 0), .lit (.int .u8 0), .lit (.int .u8 0), .lit (.int .u8 0), .lit (.int .u8 0), .lit (.int .u8 0), .lit (.int .u8 0), .lit (.int .u8 0), .lit (.int .u8 0), .lit (.int .u8 0), .lit (.int .u8 0), .lit (.int .u8 0), .lit (.int .u8 0), .lit (.int .u8 0), .lit (.int .u8 0), .lit (.int .u8 0), .lit (.int .u8 0), .lit (.int .u8 0), .lit (.int .u8 0), .lit (.int .u8 0), .lit (.int .u8 0), .lit (.int .u8 0), .lit (.int .u8 0), .lit (.int .u8 0), .lit (.int .u8 0), .lit (.int .u8 0), .lit (.int .u8 0), .lit (.int .u8 0), .lit (.int .u8 0), .lit (.int .u8 0), .lit (.int .u8 0), .lit (.int .u8 0), .lit (.int .u8 0), .lit (.int .u8 0), .lit (.int .u8 0), .lit (.int .u8 0), .lit (.int .u8 0), .lit (.int .u8 0), .lit (.int .u8 0), .lit (.int .u8 0), .lit (.int .u8 0), .lit (.int .u8 0), .lit (.int .u8 0), .lit (.int .u8 0), .lit (.int .u8 0), .lit (.int .u8 0), .lit (.int .u8 0), .lit (.int .u8 0), .lit (.int .u8 0), .lit (.int .u8 0), .lit (.int .u8 0), .lit (.int .u8 0), .lit (.int .u8 0), .lit (.int .u8 0), .lit (.int .u8 0), .lit (.int .u8 0), .lit (.int .u8 0), .lit (.int .u8 0), .lit (.int .u8 0), .lit (.int .u8 0), .lit (.int .u8 0), .lit (.int .u8 0), .lit (.int .u8 0), .lit (.int .u8 0)]
/-- One of Go's own tables, pinned by name: the form's constant. -/
def laid_unicode_utf8_first : DataW Unit := Go.Pinned.utf8First

/-- 'laws.FnShaveCut': WHATEVER THE INPUT: true; the input reads as it did. -/
def fnShaveCutSpec : ChangeSpec := { name := "fnShaveCut", fn := fun _ => fun
  | [d1, d2, d3] => { results := [.lit (.bool true)], args := [d1, d2, d3] }
  | _ => none }
def fnShaveCutRow : OpenClaim := { program := "ythgigchablajbaadoor", sum := "a95dca12091297c491fea717c6da3dff93977505a6114bdb70b1ec56c3e4f2a3", func := "loop.example/lib-g01434/laws.FnShaveCut", spec := "fnShaveCut", unfollowed := true, recurses := true, named := ["unicode/utf8.first", "unicode/utf8.acceptRanges", "strings.asciiSpace", "unicode.White_Space", "bytes.asciiSpace"], apart := false, laid := [("unicode/utf8.acceptRanges", laid_unicode_utf8_acceptRanges), ("unicode.White_Space", laid_unicode_White_Space), ("bytes.asciiSpace", laid_bytes_asciiSpace), ("strings.asciiSpace", laid_strings_asciiSpace), ("unicode/utf8.first", laid_unicode_utf8_first)] }
def FnShaveCutSaid : Prop := fnShaveCutRow.holds Tryd.pinned (OpenSpec.ofChange fnShaveCutSpec)

/-- ITS FALSE NEIGHBOUR: 'it returns false'. Refute it at one input. -/
def fnShaveCutWrong : ChangeSpec := { name := "fnShaveCut", fn := fun _ => fun
  | [d1, d2, d3] => { results := [.lit (.bool false)], args := [d1, d2, d3] }
  | _ => none }
def FnShaveCutWrongFalsely : Prop := fnShaveCutRow.holds Tryd.pinned (OpenSpec.ofChange fnShaveCutWrong)

/-- 'laws.FnShaveSides': WHATEVER THE INPUT: true; the input reads as it did. -/
def fnShaveSidesSpec : ChangeSpec := { name := "fnShaveSides", fn := fun _ => fun
  | [d1, d2, d3] => { results := [.lit (.bool true)], args := [d1, d2, d3] }
  | _ => none }
def fnShaveSidesRow : OpenClaim := { program := "ythgigchablajbaadoor", sum := "a95dca12091297c491fea717c6da3dff93977505a6114bdb70b1ec56c3e4f2a3", func := "loop.example/lib-g01434/laws.FnShaveSides", spec := "fnShaveSides", unfollowed := true, recurses := true, named := ["unicode/utf8.first", "unicode/utf8.acceptRanges", "strings.asciiSpace", "unicode.White_Space", "bytes.asciiSpace"], apart := false, laid := [("unicode/utf8.acceptRanges", laid_unicode_utf8_acceptRanges), ("unicode.White_Space", laid_unicode_White_Space), ("bytes.asciiSpace", laid_bytes_asciiSpace), ("strings.asciiSpace", laid_strings_asciiSpace), ("unicode/utf8.first", laid_unicode_utf8_first)] }
def FnShaveSidesSaid : Prop := fnShaveSidesRow.holds Tryd.pinned (OpenSpec.ofChange fnShaveSidesSpec)

/-- ITS FALSE NEIGHBOUR: 'it returns false'. Refute it at one input. -/
def fnShaveSidesWrong : ChangeSpec := { name := "fnShaveSides", fn := fun _ => fun
  | [d1, d2, d3] => { results := [.lit (.bool false)], args := [d1, d2, d3] }
  | _ => none }
def FnShaveSidesWrongFalsely : Prop := fnShaveSidesRow.holds Tryd.pinned (OpenSpec.ofChange fnShaveSidesWrong)

/-- 'laws.FnShaveUnion': WHATEVER THE INPUT: true; the input reads as it did. -/
def fnShaveUnionSpec : ChangeSpec := { name := "fnShaveUnion", fn := fun _ => fun
  | [d1, d2] => { results := [.lit (.bool true)], args := [d1, d2] }
  | _ => none }
def fnShaveUnionRow : OpenClaim := { program := "ythgigchablajbaadoor", sum := "a95dca12091297c491fea717c6da3dff93977505a6114bdb70b1ec56c3e4f2a3", func := "loop.example/lib-g01434/laws.FnShaveUnion", spec := "fnShaveUnion", unfollowed := true, recurses := true, named := ["unicode/utf8.first", "unicode/utf8.acceptRanges", "strings.asciiSpace", "unicode.White_Space", "bytes.asciiSpace"], apart := false, laid := [("unicode/utf8.acceptRanges", laid_unicode_utf8_acceptRanges), ("unicode.White_Space", laid_unicode_White_Space), ("bytes.asciiSpace", laid_bytes_asciiSpace), ("strings.asciiSpace", laid_strings_asciiSpace), ("unicode/utf8.first", laid_unicode_utf8_first)] }
def FnShaveUnionSaid : Prop := fnShaveUnionRow.holds Tryd.pinned (OpenSpec.ofChange fnShaveUnionSpec)

/-- ITS FALSE NEIGHBOUR: 'it returns false'. Refute it at one input. -/
def fnShaveUnionWrong : ChangeSpec := { name := "fnShaveUnion", fn := fun _ => fun
  | [d1, d2] => { results := [.lit (.bool false)], args := [d1, d2] }
  | _ => none }
def FnShaveUnionWrongFalsely : Prop := fnShaveUnionRow.holds Tryd.pinned (OpenSpec.ofChange fnShaveUnionWrong)

/-- 'laws.FnExactShave': WHATEVER THE INPUT: true; the input reads as it did. -/
def fnExactShaveSpec : ChangeSpec := { name := "fnExactShave", fn := fun _ => fun
  | [d1, d2] => { results := [.lit (.bool true)], args := [d1, d2] }
  | _ => none }
def fnExactShaveRow : OpenClaim := { program := "ythgigchablajbaadoor", sum := "a95dca12091297c491fea717c6da3dff93977505a6114bdb70b1ec56c3e4f2a3", func := "loop.example/lib-g01434/laws.FnExactShave", spec := "fnExactShave", unfollowed := true, recurses := true, named := ["unicode/utf8.first", "unicode/utf8.acceptRanges", "strings.asciiSpace", "unicode.White_Space"], apart := false, laid := [("unicode/utf8.acceptRanges", laid_unicode_utf8_acceptRanges), ("unicode.White_Space", laid_unicode_White_Space), ("strings.asciiSpace", laid_strings_asciiSpace), ("unicode/utf8.first", laid_unicode_utf8_first)] }
def FnExactShaveSaid : Prop := fnExactShaveRow.holds Tryd.pinned (OpenSpec.ofChange fnExactShaveSpec)

/-- ITS FALSE NEIGHBOUR: 'it returns false'. Refute it at one input. -/
def fnExactShaveWrong : ChangeSpec := { name := "fnExactShave", fn := fun _ => fun
  | [d1, d2] => { results := [.lit (.bool false)], args := [d1, d2] }
  | _ => none }
def FnExactShaveWrongFalsely : Prop := fnExactShaveRow.holds Tryd.pinned (OpenSpec.ofChange fnExactShaveWrong)

/-- 'laws.FnExactShaveBytes': WHATEVER THE INPUT: true; the input reads as it did. -/
def fnExactShaveBytesSpec : ChangeSpec := { name := "fnExactShaveBytes", fn := fun _ => fun
  | [d1, d2] => { results := [.lit (.bool true)], args := [d1, d2] }
  | _ => none }
def fnExactShaveBytesRow : OpenClaim := { program := "ythgigchablajbaadoor", sum := "a95dca12091297c491fea717c6da3dff93977505a6114bdb70b1ec56c3e4f2a3", func := "loop.example/lib-g01434/laws.FnExactShaveBytes", spec := "fnExactShaveBytes", unfollowed := true, recurses := true, named := ["unicode/utf8.first", "unicode/utf8.acceptRanges", "bytes.asciiSpace", "unicode.White_Space"], apart := false, laid := [("unicode/utf8.acceptRanges", laid_unicode_utf8_acceptRanges), ("unicode.White_Space", laid_unicode_White_Space), ("bytes.asciiSpace", laid_bytes_asciiSpace), ("unicode/utf8.first", laid_unicode_utf8_first)] }
def FnExactShaveBytesSaid : Prop := fnExactShaveBytesRow.holds Tryd.pinned (OpenSpec.ofChange fnExactShaveBytesSpec)

/-- ITS FALSE NEIGHBOUR: 'it returns false'. Refute it at one input. -/
def fnExactShaveBytesWrong : ChangeSpec := { name := "fnExactShaveBytes", fn := fun _ => fun
  | [d1, d2] => { results := [.lit (.bool false)], args := [d1, d2] }
  | _ => none }
def FnExactShaveBytesWrongFalsely : Prop := fnExactShaveBytesRow.holds Tryd.pinned (OpenSpec.ofChange fnExactShaveBytesWrong)

/-- 'laws.FnShaveTokens': WHATEVER THE INPUT: true; the input reads as it did. -/
def fnShaveTokensSpec : ChangeSpec := { name := "fnShaveTokens", fn := fun _ => fun
  | [d1, d2] => { results := [.lit (.bool true)], args := [d1, d2] }
  | _ => none }
def fnShaveTokensRow : OpenClaim := { program := "ythgigchablajbaadoor", sum := "a95dca12091297c491fea717c6da3dff93977505a6114bdb70b1ec56c3e4f2a3", func := "loop.example/lib-g01434/laws.FnShaveTokens", spec := "fnShaveTokens", unfollowed := true, recurses := true, named := ["unicode/utf8.first", "unicode/utf8.acceptRanges", "bytes.asciiSpace", "unicode.White_Space"], apart := false, laid := [("unicode/utf8.acceptRanges", laid_unicode_utf8_acceptRanges), ("unicode.White_Space", laid_unicode_White_Space), ("bytes.asciiSpace", laid_bytes_asciiSpace), ("unicode/utf8.first", laid_unicode_utf8_first)] }
def FnShaveTokensSaid : Prop := fnShaveTokensRow.holds Tryd.pinned (OpenSpec.ofChange fnShaveTokensSpec)

/-- ITS FALSE NEIGHBOUR: 'it returns false'. Refute it at one input. -/
def fnShaveTokensWrong : ChangeSpec := { name := "fnShaveTokens", fn := fun _ => fun
  | [d1, d2] => { results := [.lit (.bool false)], args := [d1, d2] }
  | _ => none }
def FnShaveTokensWrongFalsely : Prop := fnShaveTokensRow.holds Tryd.pinned (OpenSpec.ofChange fnShaveTokensWrong)

/-- 'laws.FnShaveBoth': WHATEVER THE INPUT: true; the input reads as it did. -/
def fnShaveBothSpec : ChangeSpec := { name := "fnShaveBoth", fn := fun _ => fun
  | [d1, d2] => { results := [.lit (.bool true)], args := [d1, d2] }
  | _ => none }
def fnShaveBothRow : OpenClaim := { program := "ythgigchablajbaadoor", sum := "a95dca12091297c491fea717c6da3dff93977505a6114bdb70b1ec56c3e4f2a3", func := "loop.example/lib-g01434/laws.FnShaveBoth", spec := "fnShaveBoth", unfollowed := true, recurses := true, named := ["unicode/utf8.first", "unicode/utf8.acceptRanges", "strings.asciiSpace", "unicode.White_Space", "bytes.asciiSpace"], apart := false, laid := [("unicode/utf8.acceptRanges", laid_unicode_utf8_acceptRanges), ("unicode.White_Space", laid_unicode_White_Space), ("bytes.asciiSpace", laid_bytes_asciiSpace), ("strings.asciiSpace", laid_strings_asciiSpace), ("unicode/utf8.first", laid_unicode_utf8_first)] }
def FnShaveBothSaid : Prop := fnShaveBothRow.holds Tryd.pinned (OpenSpec.ofChange fnShaveBothSpec)

/-- ITS FALSE NEIGHBOUR: 'it returns false'. Refute it at one input. -/
def fnShaveBothWrong : ChangeSpec := { name := "fnShaveBoth", fn := fun _ => fun
  | [d1, d2] => { results := [.lit (.bool false)], args := [d1, d2] }
  | _ => none }
def FnShaveBothWrongFalsely : Prop := fnShaveBothRow.holds Tryd.pinned (OpenSpec.ofChange fnShaveBothWrong)

/- THE SECOND FORM. 'bulk': how many values and letters a reading holds, each counted each time it is reached (what is shared counts as often as it is met; a slice's spare places count too). A statement '..UptoSaid' is the law's where the arguments, and the package variables that the reading takes, are together of bulk at most 1048576: NARROWER than '..Said'. Prove '..Said' where nothing that the law and all that it calls make is longer than what came in: it says more and counts as full. Else prove '..UptoSaid'. A law counts once. -/
mutual
def uptoBulk {H : Type} : DataW H → Nat
  | .lit (.string bytes) => bytes.length + 1
  | .lit _ => 1
  | .nil => 1
  | .ptr d => uptoBulk d + 1
  | .slice elems spare => uptoBulkAll elems + uptoBulkAll spare + 1
  | .agg parts => uptoBulkAll parts + 1
  | .iface _ d => uptoBulk d + 1
  | .map entries => uptoBulkEntries entries + 1
  | .held _ => 1
def uptoBulkAll {H : Type} : List (DataW H) → Nat
  | [] => 0
  | d :: r => uptoBulk d + uptoBulkAll r
def uptoBulkEntries {H : Type} : List (Lit × DataW H) → Nat
  | [] => 0
  | x :: r => uptoBulkEntry x + uptoBulkEntries r
def uptoBulkEntry {H : Type} : Lit × DataW H → Nat
  | (.string bytes, d) => bytes.length + uptoBulk d + 1
  | (_, d) => uptoBulk d + 1
 end
def uptoSmall : (H : Type) → List (DataW H) → Bool := fun _ ds => decide (uptoBulkAll ds ≤ 1048576)
def OpenSpec.upto (s : _root_.Go.ChangeSpec) : _root_.Go.OpenSpec := { _root_.Go.OpenSpec.ofChange s with cond := some uptoSmall }

/-- 'laws.FnShaveCut', WHERE WHAT IT READS IS OF BULK AT MOST 1048576: true; the input reads as it did. -/
def fnShaveCutUptoRow : OpenClaim := { program := "ythgigchablajbaadoor", sum := "a95dca12091297c491fea717c6da3dff93977505a6114bdb70b1ec56c3e4f2a3", func := "loop.example/lib-g01434/laws.FnShaveCut", spec := "fnShaveCut", unfollowed := true, recurses := true, named := ["unicode/utf8.first", "unicode/utf8.acceptRanges", "strings.asciiSpace", "unicode.White_Space", "bytes.asciiSpace"], apart := false, laid := [("unicode/utf8.acceptRanges", laid_unicode_utf8_acceptRanges), ("unicode.White_Space", laid_unicode_White_Space), ("bytes.asciiSpace", laid_bytes_asciiSpace), ("strings.asciiSpace", laid_strings_asciiSpace), ("unicode/utf8.first", laid_unicode_utf8_first)], narrowed := true }
def FnShaveCutUptoSaid : Prop := fnShaveCutUptoRow.holds Tryd.pinned (OpenSpec.upto fnShaveCutSpec)

/-- 'laws.FnShaveSides', WHERE WHAT IT READS IS OF BULK AT MOST 1048576: true; the input reads as it did. -/
def fnShaveSidesUptoRow : OpenClaim := { program := "ythgigchablajbaadoor", sum := "a95dca12091297c491fea717c6da3dff93977505a6114bdb70b1ec56c3e4f2a3", func := "loop.example/lib-g01434/laws.FnShaveSides", spec := "fnShaveSides", unfollowed := true, recurses := true, named := ["unicode/utf8.first", "unicode/utf8.acceptRanges", "strings.asciiSpace", "unicode.White_Space", "bytes.asciiSpace"], apart := false, laid := [("unicode/utf8.acceptRanges", laid_unicode_utf8_acceptRanges), ("unicode.White_Space", laid_unicode_White_Space), ("bytes.asciiSpace", laid_bytes_asciiSpace), ("strings.asciiSpace", laid_strings_asciiSpace), ("unicode/utf8.first", laid_unicode_utf8_first)], narrowed := true }
def FnShaveSidesUptoSaid : Prop := fnShaveSidesUptoRow.holds Tryd.pinned (OpenSpec.upto fnShaveSidesSpec)

/-- 'laws.FnShaveUnion', WHERE WHAT IT READS IS OF BULK AT MOST 1048576: true; the input reads as it did. -/
def fnShaveUnionUptoRow : OpenClaim := { program := "ythgigchablajbaadoor", sum := "a95dca12091297c491fea717c6da3dff93977505a6114bdb70b1ec56c3e4f2a3", func := "loop.example/lib-g01434/laws.FnShaveUnion", spec := "fnShaveUnion", unfollowed := true, recurses := true, named := ["unicode/utf8.first", "unicode/utf8.acceptRanges", "strings.asciiSpace", "unicode.White_Space", "bytes.asciiSpace"], apart := false, laid := [("unicode/utf8.acceptRanges", laid_unicode_utf8_acceptRanges), ("unicode.White_Space", laid_unicode_White_Space), ("bytes.asciiSpace", laid_bytes_asciiSpace), ("strings.asciiSpace", laid_strings_asciiSpace), ("unicode/utf8.first", laid_unicode_utf8_first)], narrowed := true }
def FnShaveUnionUptoSaid : Prop := fnShaveUnionUptoRow.holds Tryd.pinned (OpenSpec.upto fnShaveUnionSpec)

/-- 'laws.FnExactShave', WHERE WHAT IT READS IS OF BULK AT MOST 1048576: true; the input reads as it did. -/
def fnExactShaveUptoRow : OpenClaim := { program := "ythgigchablajbaadoor", sum := "a95dca12091297c491fea717c6da3dff93977505a6114bdb70b1ec56c3e4f2a3", func := "loop.example/lib-g01434/laws.FnExactShave", spec := "fnExactShave", unfollowed := true, recurses := true, named := ["unicode/utf8.first", "unicode/utf8.acceptRanges", "strings.asciiSpace", "unicode.White_Space"], apart := false, laid := [("unicode/utf8.acceptRanges", laid_unicode_utf8_acceptRanges), ("unicode.White_Space", laid_unicode_White_Space), ("strings.asciiSpace", laid_strings_asciiSpace), ("unicode/utf8.first", laid_unicode_utf8_first)], narrowed := true }
def FnExactShaveUptoSaid : Prop := fnExactShaveUptoRow.holds Tryd.pinned (OpenSpec.upto fnExactShaveSpec)

/-- 'laws.FnExactShaveBytes', WHERE WHAT IT READS IS OF BULK AT MOST 1048576: true; the input reads as it did. -/
def fnExactShaveBytesUptoRow : OpenClaim := { program := "ythgigchablajbaadoor", sum := "a95dca12091297c491fea717c6da3dff93977505a6114bdb70b1ec56c3e4f2a3", func := "loop.example/lib-g01434/laws.FnExactShaveBytes", spec := "fnExactShaveBytes", unfollowed := true, recurses := true, named := ["unicode/utf8.first", "unicode/utf8.acceptRanges", "bytes.asciiSpace", "unicode.White_Space"], apart := false, laid := [("unicode/utf8.acceptRanges", laid_unicode_utf8_acceptRanges), ("unicode.White_Space", laid_unicode_White_Space), ("bytes.asciiSpace", laid_bytes_asciiSpace), ("unicode/utf8.first", laid_unicode_utf8_first)], narrowed := true }
def FnExactShaveBytesUptoSaid : Prop := fnExactShaveBytesUptoRow.holds Tryd.pinned (OpenSpec.upto fnExactShaveBytesSpec)

/-- 'laws.FnShaveTokens', WHERE WHAT IT READS IS OF BULK AT MOST 1048576: true; the input reads as it did. -/
def fnShaveTokensUptoRow : OpenClaim := { program := "ythgigchablajbaadoor", sum := "a95dca12091297c491fea717c6da3dff93977505a6114bdb70b1ec56c3e4f2a3", func := "loop.example/lib-g01434/laws.FnShaveTokens", spec := "fnShaveTokens", unfollowed := true, recurses := true, named := ["unicode/utf8.first", "unicode/utf8.acceptRanges", "bytes.asciiSpace", "unicode.White_Space"], apart := false, laid := [("unicode/utf8.acceptRanges", laid_unicode_utf8_acceptRanges), ("unicode.White_Space", laid_unicode_White_Space), ("bytes.asciiSpace", laid_bytes_asciiSpace), ("unicode/utf8.first", laid_unicode_utf8_first)], narrowed := true }
def FnShaveTokensUptoSaid : Prop := fnShaveTokensUptoRow.holds Tryd.pinned (OpenSpec.upto fnShaveTokensSpec)

/-- 'laws.FnShaveBoth', WHERE WHAT IT READS IS OF BULK AT MOST 1048576: true; the input reads as it did. -/
def fnShaveBothUptoRow : OpenClaim := { program := "ythgigchablajbaadoor", sum := "a95dca12091297c491fea717c6da3dff93977505a6114bdb70b1ec56c3e4f2a3", func := "loop.example/lib-g01434/laws.FnShaveBoth", spec := "fnShaveBoth", unfollowed := true, recurses := true, named := ["unicode/utf8.first", "unicode/utf8.acceptRanges", "strings.asciiSpace", "unicode.White_Space", "bytes.asciiSpace"], apart := false, laid := [("unicode/utf8.acceptRanges", laid_unicode_utf8_acceptRanges), ("unicode.White_Space", laid_unicode_White_Space), ("bytes.asciiSpace", laid_bytes_asciiSpace), ("strings.asciiSpace", laid_strings_asciiSpace), ("unicode/utf8.first", laid_unicode_utf8_first)], narrowed := true }
def FnShaveBothUptoSaid : Prop := fnShaveBothUptoRow.holds Tryd.pinned (OpenSpec.upto fnShaveBothSpec)

end Rows
end Go.Proofs.YthgigchablajbaaDoor
