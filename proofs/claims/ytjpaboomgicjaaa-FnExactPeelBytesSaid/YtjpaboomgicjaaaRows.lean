/-
  No cell of these rows narrows 'for every input' (looked for: loops, veiled, ifaces, maps, wideKeys, modest, calm, conditions, laid).
  DERIVED. THE GIVEN ROWS OF THIS SEAT. 13 by the template 'for every input the law returns true; each argument reads behind the call as it read before'; 0 by the template 'total and deterministic' (their statements: YtjpaboomgicjaaaTotals.lean).
  GIVEN WITH THE SEED: the statements are not yours to turn. If you find one false, say at which input.
  Laid BY PROGRAM, IN A SANDBOX (cutbox-rows.mjs): the forced cells as the released guide's own fill.sh prints them over the translation 643b40f527023fb0… (all of the seat's roots in one cut). By AI agents, Wed Nov 11 2026. No macro, syntax, notation, axiom, sorry.
-/
import Derived.Test.YtjpaboomgicjaaaChecked
import GoSem.Claim
import GoSem.ClaimJoined
import GoSem.ClaimMapViews
import Derived.JoinedTies
import Derived.KernelRfl
namespace Go.Proofs.Ytjpaboomgicjaaa
/- THE CELL 'sum', in the pinned program and in every row, IS THE sha256 OF THE DUMP (.gsa) THAT YtjpaboomgicjaaaProg.lean LOADS. Nothing in Lean hashes anything: it is a label: what it is worth is what the hold of that sum in a sandbox is worth. -/
noncomputable def Try.pinned : Pinned := { name := "ytjpaboomgicjaaa", sum := "643b40f527023fb0cb8a431e1b51aa3fe6b42855380c026b24735b15f9068e2c", checked := Try.checked }
namespace Rows
def none {H : Type} : Left H := { results := [], args := [] }

/-- 'laws.FnExactPeelBytes': WHATEVER THE INPUT: true; the input reads as it did. -/
def fnExactPeelBytesSpec : ChangeSpec := { name := "fnExactPeelBytes", fn := fun _ => fun
  | [d1, d2] => { results := [.lit (.bool true)], args := [d1, d2] }
  | _ => none }
def fnExactPeelBytesRow : OpenClaim := { program := "ytjpaboomgicjaaa", sum := "643b40f527023fb0cb8a431e1b51aa3fe6b42855380c026b24735b15f9068e2c", func := "loop.example/lib-g01434/laws.FnExactPeelBytes", spec := "fnExactPeelBytes", apart := false }
def FnExactPeelBytesSaid : Prop := fnExactPeelBytesRow.holds Try.pinned (OpenSpec.ofChange fnExactPeelBytesSpec)

/-- ITS FALSE NEIGHBOUR: 'it returns false'. Refute it at one input. -/
def fnExactPeelBytesWrong : ChangeSpec := { name := "fnExactPeelBytes", fn := fun _ => fun
  | [d1, d2] => { results := [.lit (.bool false)], args := [d1, d2] }
  | _ => none }
def FnExactPeelBytesWrongFalsely : Prop := fnExactPeelBytesRow.holds Try.pinned (OpenSpec.ofChange fnExactPeelBytesWrong)

/-- 'laws.FnExactPeel': WHATEVER THE INPUT: true; the input reads as it did. -/
def fnExactPeelSpec : ChangeSpec := { name := "fnExactPeel", fn := fun _ => fun
  | [d1, d2] => { results := [.lit (.bool true)], args := [d1, d2] }
  | _ => none }
def fnExactPeelRow : OpenClaim := { program := "ytjpaboomgicjaaa", sum := "643b40f527023fb0cb8a431e1b51aa3fe6b42855380c026b24735b15f9068e2c", func := "loop.example/lib-g01434/laws.FnExactPeel", spec := "fnExactPeel", apart := false }
def FnExactPeelSaid : Prop := fnExactPeelRow.holds Try.pinned (OpenSpec.ofChange fnExactPeelSpec)

/-- ITS FALSE NEIGHBOUR: 'it returns false'. Refute it at one input. -/
def fnExactPeelWrong : ChangeSpec := { name := "fnExactPeel", fn := fun _ => fun
  | [d1, d2] => { results := [.lit (.bool false)], args := [d1, d2] }
  | _ => none }
def FnExactPeelWrongFalsely : Prop := fnExactPeelRow.holds Try.pinned (OpenSpec.ofChange fnExactPeelWrong)

/-- 'laws.FnExactUnwrapBytes': WHATEVER THE INPUT: true; the input reads as it did. -/
def fnExactUnwrapBytesSpec : ChangeSpec := { name := "fnExactUnwrapBytes", fn := fun _ => fun
  | [d1, d2, d3] => { results := [.lit (.bool true)], args := [d1, d2, d3] }
  | _ => none }
def fnExactUnwrapBytesRow : OpenClaim := { program := "ytjpaboomgicjaaa", sum := "643b40f527023fb0cb8a431e1b51aa3fe6b42855380c026b24735b15f9068e2c", func := "loop.example/lib-g01434/laws.FnExactUnwrapBytes", spec := "fnExactUnwrapBytes", apart := false }
def FnExactUnwrapBytesSaid : Prop := fnExactUnwrapBytesRow.holds Try.pinned (OpenSpec.ofChange fnExactUnwrapBytesSpec)

/-- ITS FALSE NEIGHBOUR: 'it returns false'. Refute it at one input. -/
def fnExactUnwrapBytesWrong : ChangeSpec := { name := "fnExactUnwrapBytes", fn := fun _ => fun
  | [d1, d2, d3] => { results := [.lit (.bool false)], args := [d1, d2, d3] }
  | _ => none }
def FnExactUnwrapBytesWrongFalsely : Prop := fnExactUnwrapBytesRow.holds Try.pinned (OpenSpec.ofChange fnExactUnwrapBytesWrong)

/-- 'laws.FnExactUnwrap': WHATEVER THE INPUT: true; the input reads as it did. -/
def fnExactUnwrapSpec : ChangeSpec := { name := "fnExactUnwrap", fn := fun _ => fun
  | [d1, d2, d3] => { results := [.lit (.bool true)], args := [d1, d2, d3] }
  | _ => none }
def fnExactUnwrapRow : OpenClaim := { program := "ytjpaboomgicjaaa", sum := "643b40f527023fb0cb8a431e1b51aa3fe6b42855380c026b24735b15f9068e2c", func := "loop.example/lib-g01434/laws.FnExactUnwrap", spec := "fnExactUnwrap", apart := false }
def FnExactUnwrapSaid : Prop := fnExactUnwrapRow.holds Try.pinned (OpenSpec.ofChange fnExactUnwrapSpec)

/-- ITS FALSE NEIGHBOUR: 'it returns false'. Refute it at one input. -/
def fnExactUnwrapWrong : ChangeSpec := { name := "fnExactUnwrap", fn := fun _ => fun
  | [d1, d2, d3] => { results := [.lit (.bool false)], args := [d1, d2, d3] }
  | _ => none }
def FnExactUnwrapWrongFalsely : Prop := fnExactUnwrapRow.holds Try.pinned (OpenSpec.ofChange fnExactUnwrapWrong)

/-- 'laws.FnPeelBoth': WHATEVER THE INPUT: true; the input reads as it did. -/
def fnPeelBothSpec : ChangeSpec := { name := "fnPeelBoth", fn := fun _ => fun
  | [d1, d2] => { results := [.lit (.bool true)], args := [d1, d2] }
  | _ => none }
def fnPeelBothRow : OpenClaim := { program := "ytjpaboomgicjaaa", sum := "643b40f527023fb0cb8a431e1b51aa3fe6b42855380c026b24735b15f9068e2c", func := "loop.example/lib-g01434/laws.FnPeelBoth", spec := "fnPeelBoth", apart := false }
def FnPeelBothSaid : Prop := fnPeelBothRow.holds Try.pinned (OpenSpec.ofChange fnPeelBothSpec)

/-- ITS FALSE NEIGHBOUR: 'it returns false'. Refute it at one input. -/
def fnPeelBothWrong : ChangeSpec := { name := "fnPeelBoth", fn := fun _ => fun
  | [d1, d2] => { results := [.lit (.bool false)], args := [d1, d2] }
  | _ => none }
def FnPeelBothWrongFalsely : Prop := fnPeelBothRow.holds Try.pinned (OpenSpec.ofChange fnPeelBothWrong)

/-- 'laws.FnPeelCut': WHATEVER THE INPUT: true; the input reads as it did. -/
def fnPeelCutSpec : ChangeSpec := { name := "fnPeelCut", fn := fun _ => fun
  | [d1, d2, d3] => { results := [.lit (.bool true)], args := [d1, d2, d3] }
  | _ => none }
def fnPeelCutRow : OpenClaim := { program := "ytjpaboomgicjaaa", sum := "643b40f527023fb0cb8a431e1b51aa3fe6b42855380c026b24735b15f9068e2c", func := "loop.example/lib-g01434/laws.FnPeelCut", spec := "fnPeelCut", apart := false }
def FnPeelCutSaid : Prop := fnPeelCutRow.holds Try.pinned (OpenSpec.ofChange fnPeelCutSpec)

/-- ITS FALSE NEIGHBOUR: 'it returns false'. Refute it at one input. -/
def fnPeelCutWrong : ChangeSpec := { name := "fnPeelCut", fn := fun _ => fun
  | [d1, d2, d3] => { results := [.lit (.bool false)], args := [d1, d2, d3] }
  | _ => none }
def FnPeelCutWrongFalsely : Prop := fnPeelCutRow.holds Try.pinned (OpenSpec.ofChange fnPeelCutWrong)

/-- 'laws.FnPeelDressed': WHATEVER THE INPUT: true; the input reads as it did. -/
def fnPeelDressedSpec : ChangeSpec := { name := "fnPeelDressed", fn := fun _ => fun
  | [d1, d2] => { results := [.lit (.bool true)], args := [d1, d2] }
  | _ => none }
def fnPeelDressedRow : OpenClaim := { program := "ytjpaboomgicjaaa", sum := "643b40f527023fb0cb8a431e1b51aa3fe6b42855380c026b24735b15f9068e2c", func := "loop.example/lib-g01434/laws.FnPeelDressed", spec := "fnPeelDressed", apart := false }
def FnPeelDressedSaid : Prop := fnPeelDressedRow.holds Try.pinned (OpenSpec.ofChange fnPeelDressedSpec)

/-- ITS FALSE NEIGHBOUR: 'it returns false'. Refute it at one input. -/
def fnPeelDressedWrong : ChangeSpec := { name := "fnPeelDressed", fn := fun _ => fun
  | [d1, d2] => { results := [.lit (.bool false)], args := [d1, d2] }
  | _ => none }
def FnPeelDressedWrongFalsely : Prop := fnPeelDressedRow.holds Try.pinned (OpenSpec.ofChange fnPeelDressedWrong)

/-- 'laws.FnPeelMirror': WHATEVER THE INPUT: true; the input reads as it did. -/
def fnPeelMirrorSpec : ChangeSpec := { name := "fnPeelMirror", fn := fun _ => fun
  | [d1, d2] => { results := [.lit (.bool true)], args := [d1, d2] }
  | _ => none }
def fnPeelMirrorRow : OpenClaim := { program := "ytjpaboomgicjaaa", sum := "643b40f527023fb0cb8a431e1b51aa3fe6b42855380c026b24735b15f9068e2c", func := "loop.example/lib-g01434/laws.FnPeelMirror", spec := "fnPeelMirror", apart := false }
def FnPeelMirrorSaid : Prop := fnPeelMirrorRow.holds Try.pinned (OpenSpec.ofChange fnPeelMirrorSpec)

/-- ITS FALSE NEIGHBOUR: 'it returns false'. Refute it at one input. -/
def fnPeelMirrorWrong : ChangeSpec := { name := "fnPeelMirror", fn := fun _ => fun
  | [d1, d2] => { results := [.lit (.bool false)], args := [d1, d2] }
  | _ => none }
def FnPeelMirrorWrongFalsely : Prop := fnPeelMirrorRow.holds Try.pinned (OpenSpec.ofChange fnPeelMirrorWrong)

/-- 'laws.FnPeelRestores': WHATEVER THE INPUT: true; the input reads as it did. -/
def fnPeelRestoresSpec : ChangeSpec := { name := "fnPeelRestores", fn := fun _ => fun
  | [d1, d2] => { results := [.lit (.bool true)], args := [d1, d2] }
  | _ => none }
def fnPeelRestoresRow : OpenClaim := { program := "ytjpaboomgicjaaa", sum := "643b40f527023fb0cb8a431e1b51aa3fe6b42855380c026b24735b15f9068e2c", func := "loop.example/lib-g01434/laws.FnPeelRestores", spec := "fnPeelRestores", apart := false }
def FnPeelRestoresSaid : Prop := fnPeelRestoresRow.holds Try.pinned (OpenSpec.ofChange fnPeelRestoresSpec)

/-- ITS FALSE NEIGHBOUR: 'it returns false'. Refute it at one input. -/
def fnPeelRestoresWrong : ChangeSpec := { name := "fnPeelRestores", fn := fun _ => fun
  | [d1, d2] => { results := [.lit (.bool false)], args := [d1, d2] }
  | _ => none }
def FnPeelRestoresWrongFalsely : Prop := fnPeelRestoresRow.holds Try.pinned (OpenSpec.ofChange fnPeelRestoresWrong)

/-- 'laws.FnPeelSides': WHATEVER THE INPUT: true; the input reads as it did. -/
def fnPeelSidesSpec : ChangeSpec := { name := "fnPeelSides", fn := fun _ => fun
  | [d1, d2] => { results := [.lit (.bool true)], args := [d1, d2] }
  | _ => none }
def fnPeelSidesRow : OpenClaim := { program := "ytjpaboomgicjaaa", sum := "643b40f527023fb0cb8a431e1b51aa3fe6b42855380c026b24735b15f9068e2c", func := "loop.example/lib-g01434/laws.FnPeelSides", spec := "fnPeelSides", apart := false }
def FnPeelSidesSaid : Prop := fnPeelSidesRow.holds Try.pinned (OpenSpec.ofChange fnPeelSidesSpec)

/-- ITS FALSE NEIGHBOUR: 'it returns false'. Refute it at one input. -/
def fnPeelSidesWrong : ChangeSpec := { name := "fnPeelSides", fn := fun _ => fun
  | [d1, d2] => { results := [.lit (.bool false)], args := [d1, d2] }
  | _ => none }
def FnPeelSidesWrongFalsely : Prop := fnPeelSidesRow.holds Try.pinned (OpenSpec.ofChange fnPeelSidesWrong)

/-- 'laws.FnUnwrapBoth': WHATEVER THE INPUT: true; the input reads as it did. -/
def fnUnwrapBothSpec : ChangeSpec := { name := "fnUnwrapBoth", fn := fun _ => fun
  | [d1, d2, d3] => { results := [.lit (.bool true)], args := [d1, d2, d3] }
  | _ => none }
def fnUnwrapBothRow : OpenClaim := { program := "ytjpaboomgicjaaa", sum := "643b40f527023fb0cb8a431e1b51aa3fe6b42855380c026b24735b15f9068e2c", func := "loop.example/lib-g01434/laws.FnUnwrapBoth", spec := "fnUnwrapBoth", apart := false }
def FnUnwrapBothSaid : Prop := fnUnwrapBothRow.holds Try.pinned (OpenSpec.ofChange fnUnwrapBothSpec)

/-- ITS FALSE NEIGHBOUR: 'it returns false'. Refute it at one input. -/
def fnUnwrapBothWrong : ChangeSpec := { name := "fnUnwrapBoth", fn := fun _ => fun
  | [d1, d2, d3] => { results := [.lit (.bool false)], args := [d1, d2, d3] }
  | _ => none }
def FnUnwrapBothWrongFalsely : Prop := fnUnwrapBothRow.holds Try.pinned (OpenSpec.ofChange fnUnwrapBothWrong)

/-- 'laws.FnUnwrapMore': WHATEVER THE INPUT: true; the input reads as it did. -/
def fnUnwrapMoreSpec : ChangeSpec := { name := "fnUnwrapMore", fn := fun _ => fun
  | [d1, d2, d3, d4] => { results := [.lit (.bool true)], args := [d1, d2, d3, d4] }
  | _ => none }
def fnUnwrapMoreRow : OpenClaim := { program := "ytjpaboomgicjaaa", sum := "643b40f527023fb0cb8a431e1b51aa3fe6b42855380c026b24735b15f9068e2c", func := "loop.example/lib-g01434/laws.FnUnwrapMore", spec := "fnUnwrapMore", apart := false }
def FnUnwrapMoreSaid : Prop := fnUnwrapMoreRow.holds Try.pinned (OpenSpec.ofChange fnUnwrapMoreSpec)

/-- ITS FALSE NEIGHBOUR: 'it returns false'. Refute it at one input. -/
def fnUnwrapMoreWrong : ChangeSpec := { name := "fnUnwrapMore", fn := fun _ => fun
  | [d1, d2, d3, d4] => { results := [.lit (.bool false)], args := [d1, d2, d3, d4] }
  | _ => none }
def FnUnwrapMoreWrongFalsely : Prop := fnUnwrapMoreRow.holds Try.pinned (OpenSpec.ofChange fnUnwrapMoreWrong)

/-- 'laws.FnUnwrapRestores': WHATEVER THE INPUT: true; the input reads as it did. -/
def fnUnwrapRestoresSpec : ChangeSpec := { name := "fnUnwrapRestores", fn := fun _ => fun
  | [d1, d2, d3] => { results := [.lit (.bool true)], args := [d1, d2, d3] }
  | _ => none }
def fnUnwrapRestoresRow : OpenClaim := { program := "ytjpaboomgicjaaa", sum := "643b40f527023fb0cb8a431e1b51aa3fe6b42855380c026b24735b15f9068e2c", func := "loop.example/lib-g01434/laws.FnUnwrapRestores", spec := "fnUnwrapRestores", apart := false }
def FnUnwrapRestoresSaid : Prop := fnUnwrapRestoresRow.holds Try.pinned (OpenSpec.ofChange fnUnwrapRestoresSpec)

/-- ITS FALSE NEIGHBOUR: 'it returns false'. Refute it at one input. -/
def fnUnwrapRestoresWrong : ChangeSpec := { name := "fnUnwrapRestores", fn := fun _ => fun
  | [d1, d2, d3] => { results := [.lit (.bool false)], args := [d1, d2, d3] }
  | _ => none }
def FnUnwrapRestoresWrongFalsely : Prop := fnUnwrapRestoresRow.holds Try.pinned (OpenSpec.ofChange fnUnwrapRestoresWrong)

/- THE SECOND FORM. 'bulk': how many values and letters a reading holds, each counted each time it is reached (what is shared counts as often as it is met; a slice's spare places count too). A statement '..UptoSaid' is the law's where the arguments, and the package variables that the reading takes, are together of bulk at most 1048576: NARROWER than '..Said'. Prove '..Said' where nothing that the law and all that it calls make is longer than what came in: it says more and counts as full. Else prove '..UptoSaid'. A law counts once. -/
mutual
def uptoBulk {H : Type} : DataW H → Nat
  | .lit (.string bytes) => bytes.length + 1
  | .lit _ => 1
  | .nil => 1
  | .ptr d => uptoBulk d + 1
  | .slice elems spare => uptoBulkAll elems + uptoBulkAll spare + 1
  | .agg parts => uptoBulkAll parts + 1
  | .iface _ d => uptoBulk d + 1
  | .map entries => uptoBulkEntries entries + 1
  | .held _ => 1
def uptoBulkAll {H : Type} : List (DataW H) → Nat
  | [] => 0
  | d :: r => uptoBulk d + uptoBulkAll r
def uptoBulkEntries {H : Type} : List (Lit × DataW H) → Nat
  | [] => 0
  | x :: r => uptoBulkEntry x + uptoBulkEntries r
def uptoBulkEntry {H : Type} : Lit × DataW H → Nat
  | (.string bytes, d) => bytes.length + uptoBulk d + 1
  | (_, d) => uptoBulk d + 1
 end
def uptoSmall : (H : Type) → List (DataW H) → Bool := fun _ ds => decide (uptoBulkAll ds ≤ 1048576)
def OpenSpec.upto (s : _root_.Go.ChangeSpec) : _root_.Go.OpenSpec := { _root_.Go.OpenSpec.ofChange s with cond := some uptoSmall }

/-- 'laws.FnExactPeelBytes', WHERE WHAT IT READS IS OF BULK AT MOST 1048576: true; the input reads as it did. -/
def fnExactPeelBytesUptoRow : OpenClaim := { program := "ytjpaboomgicjaaa", sum := "643b40f527023fb0cb8a431e1b51aa3fe6b42855380c026b24735b15f9068e2c", func := "loop.example/lib-g01434/laws.FnExactPeelBytes", spec := "fnExactPeelBytes", apart := false, narrowed := true }
def FnExactPeelBytesUptoSaid : Prop := fnExactPeelBytesUptoRow.holds Try.pinned (OpenSpec.upto fnExactPeelBytesSpec)

/-- 'laws.FnExactPeel', WHERE WHAT IT READS IS OF BULK AT MOST 1048576: true; the input reads as it did. -/
def fnExactPeelUptoRow : OpenClaim := { program := "ytjpaboomgicjaaa", sum := "643b40f527023fb0cb8a431e1b51aa3fe6b42855380c026b24735b15f9068e2c", func := "loop.example/lib-g01434/laws.FnExactPeel", spec := "fnExactPeel", apart := false, narrowed := true }
def FnExactPeelUptoSaid : Prop := fnExactPeelUptoRow.holds Try.pinned (OpenSpec.upto fnExactPeelSpec)

/-- 'laws.FnExactUnwrapBytes', WHERE WHAT IT READS IS OF BULK AT MOST 1048576: true; the input reads as it did. -/
def fnExactUnwrapBytesUptoRow : OpenClaim := { program := "ytjpaboomgicjaaa", sum := "643b40f527023fb0cb8a431e1b51aa3fe6b42855380c026b24735b15f9068e2c", func := "loop.example/lib-g01434/laws.FnExactUnwrapBytes", spec := "fnExactUnwrapBytes", apart := false, narrowed := true }
def FnExactUnwrapBytesUptoSaid : Prop := fnExactUnwrapBytesUptoRow.holds Try.pinned (OpenSpec.upto fnExactUnwrapBytesSpec)

/-- 'laws.FnExactUnwrap', WHERE WHAT IT READS IS OF BULK AT MOST 1048576: true; the input reads as it did. -/
def fnExactUnwrapUptoRow : OpenClaim := { program := "ytjpaboomgicjaaa", sum := "643b40f527023fb0cb8a431e1b51aa3fe6b42855380c026b24735b15f9068e2c", func := "loop.example/lib-g01434/laws.FnExactUnwrap", spec := "fnExactUnwrap", apart := false, narrowed := true }
def FnExactUnwrapUptoSaid : Prop := fnExactUnwrapUptoRow.holds Try.pinned (OpenSpec.upto fnExactUnwrapSpec)

/-- 'laws.FnPeelBoth', WHERE WHAT IT READS IS OF BULK AT MOST 1048576: true; the input reads as it did. -/
def fnPeelBothUptoRow : OpenClaim := { program := "ytjpaboomgicjaaa", sum := "643b40f527023fb0cb8a431e1b51aa3fe6b42855380c026b24735b15f9068e2c", func := "loop.example/lib-g01434/laws.FnPeelBoth", spec := "fnPeelBoth", apart := false, narrowed := true }
def FnPeelBothUptoSaid : Prop := fnPeelBothUptoRow.holds Try.pinned (OpenSpec.upto fnPeelBothSpec)

/-- 'laws.FnPeelCut', WHERE WHAT IT READS IS OF BULK AT MOST 1048576: true; the input reads as it did. -/
def fnPeelCutUptoRow : OpenClaim := { program := "ytjpaboomgicjaaa", sum := "643b40f527023fb0cb8a431e1b51aa3fe6b42855380c026b24735b15f9068e2c", func := "loop.example/lib-g01434/laws.FnPeelCut", spec := "fnPeelCut", apart := false, narrowed := true }
def FnPeelCutUptoSaid : Prop := fnPeelCutUptoRow.holds Try.pinned (OpenSpec.upto fnPeelCutSpec)

/-- 'laws.FnPeelDressed', WHERE WHAT IT READS IS OF BULK AT MOST 1048576: true; the input reads as it did. -/
def fnPeelDressedUptoRow : OpenClaim := { program := "ytjpaboomgicjaaa", sum := "643b40f527023fb0cb8a431e1b51aa3fe6b42855380c026b24735b15f9068e2c", func := "loop.example/lib-g01434/laws.FnPeelDressed", spec := "fnPeelDressed", apart := false, narrowed := true }
def FnPeelDressedUptoSaid : Prop := fnPeelDressedUptoRow.holds Try.pinned (OpenSpec.upto fnPeelDressedSpec)

/-- 'laws.FnPeelMirror', WHERE WHAT IT READS IS OF BULK AT MOST 1048576: true; the input reads as it did. -/
def fnPeelMirrorUptoRow : OpenClaim := { program := "ytjpaboomgicjaaa", sum := "643b40f527023fb0cb8a431e1b51aa3fe6b42855380c026b24735b15f9068e2c", func := "loop.example/lib-g01434/laws.FnPeelMirror", spec := "fnPeelMirror", apart := false, narrowed := true }
def FnPeelMirrorUptoSaid : Prop := fnPeelMirrorUptoRow.holds Try.pinned (OpenSpec.upto fnPeelMirrorSpec)

/-- 'laws.FnPeelRestores', WHERE WHAT IT READS IS OF BULK AT MOST 1048576: true; the input reads as it did. -/
def fnPeelRestoresUptoRow : OpenClaim := { program := "ytjpaboomgicjaaa", sum := "643b40f527023fb0cb8a431e1b51aa3fe6b42855380c026b24735b15f9068e2c", func := "loop.example/lib-g01434/laws.FnPeelRestores", spec := "fnPeelRestores", apart := false, narrowed := true }
def FnPeelRestoresUptoSaid : Prop := fnPeelRestoresUptoRow.holds Try.pinned (OpenSpec.upto fnPeelRestoresSpec)

/-- 'laws.FnPeelSides', WHERE WHAT IT READS IS OF BULK AT MOST 1048576: true; the input reads as it did. -/
def fnPeelSidesUptoRow : OpenClaim := { program := "ytjpaboomgicjaaa", sum := "643b40f527023fb0cb8a431e1b51aa3fe6b42855380c026b24735b15f9068e2c", func := "loop.example/lib-g01434/laws.FnPeelSides", spec := "fnPeelSides", apart := false, narrowed := true }
def FnPeelSidesUptoSaid : Prop := fnPeelSidesUptoRow.holds Try.pinned (OpenSpec.upto fnPeelSidesSpec)

/-- 'laws.FnUnwrapBoth', WHERE WHAT IT READS IS OF BULK AT MOST 1048576: true; the input reads as it did. -/
def fnUnwrapBothUptoRow : OpenClaim := { program := "ytjpaboomgicjaaa", sum := "643b40f527023fb0cb8a431e1b51aa3fe6b42855380c026b24735b15f9068e2c", func := "loop.example/lib-g01434/laws.FnUnwrapBoth", spec := "fnUnwrapBoth", apart := false, narrowed := true }
def FnUnwrapBothUptoSaid : Prop := fnUnwrapBothUptoRow.holds Try.pinned (OpenSpec.upto fnUnwrapBothSpec)

/-- 'laws.FnUnwrapMore', WHERE WHAT IT READS IS OF BULK AT MOST 1048576: true; the input reads as it did. -/
def fnUnwrapMoreUptoRow : OpenClaim := { program := "ytjpaboomgicjaaa", sum := "643b40f527023fb0cb8a431e1b51aa3fe6b42855380c026b24735b15f9068e2c", func := "loop.example/lib-g01434/laws.FnUnwrapMore", spec := "fnUnwrapMore", apart := false, narrowed := true }
def FnUnwrapMoreUptoSaid : Prop := fnUnwrapMoreUptoRow.holds Try.pinned (OpenSpec.upto fnUnwrapMoreSpec)

/-- 'laws.FnUnwrapRestores', WHERE WHAT IT READS IS OF BULK AT MOST 1048576: true; the input reads as it did. -/
def fnUnwrapRestoresUptoRow : OpenClaim := { program := "ytjpaboomgicjaaa", sum := "643b40f527023fb0cb8a431e1b51aa3fe6b42855380c026b24735b15f9068e2c", func := "loop.example/lib-g01434/laws.FnUnwrapRestores", spec := "fnUnwrapRestores", apart := false, narrowed := true }
def FnUnwrapRestoresUptoSaid : Prop := fnUnwrapRestoresUptoRow.holds Try.pinned (OpenSpec.upto fnUnwrapRestoresSpec)

end Rows
end Go.Proofs.Ytjpaboomgicjaaa
