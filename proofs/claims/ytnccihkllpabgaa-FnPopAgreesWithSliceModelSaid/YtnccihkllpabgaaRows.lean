/-
  No cell of these rows narrows 'for every input' (looked for: loops, veiled, ifaces, maps, wideKeys, modest, calm, conditions, laid).
  DERIVED. THE GIVEN ROWS OF THIS SEAT. 8 by the template 'for every input the law returns true; each argument reads behind the call as it read before'; 0 by the template 'total and deterministic' (their statements: YtnccihkllpabgaaTotals.lean).
  GIVEN WITH THE SEED: the statements are not yours to turn. If you find one false, say at which input.
  Laid BY PROGRAM, IN A SANDBOX (cutbox-rows.mjs): the forced cells as the released guide's own fill.sh prints them over the translation b3019b7a1172fee8… (all of the seat's roots in one cut). By AI agents, Wed Nov 11 2026. No macro, syntax, notation, axiom, sorry.
-/
import Derived.Test.YtnccihkllpabgaaChecked
import GoSem.Claim
import GoSem.ClaimJoined
import GoSem.ClaimMapViews
import Derived.JoinedTies
import Derived.KernelRfl
namespace Go.Proofs.Ytnccihkllpabgaa
/- THE CELL 'sum', in the pinned program and in every row, IS THE sha256 OF THE DUMP (.gsa) THAT YtnccihkllpabgaaProg.lean LOADS. Nothing in Lean hashes anything: it is a label: what it is worth is what the hold of that sum in a sandbox is worth. -/
noncomputable def Try.pinned : Pinned := { name := "ytnccihkllpabgaa", sum := "b3019b7a1172fee807c03177eeb522f20d75c7ff5c34c6b8cce1569a784418da", checked := Try.checked }
namespace Rows
def none {H : Type} : Left H := { results := [], args := [] }

/-- 'n005_141.FnPopReturnsPushesInReverse': WHATEVER THE INPUT: true; the input reads as it did. -/
def fnPopReturnsPushesInReverseSpec : ChangeSpec := { name := "fnPopReturnsPushesInReverse", fn := fun _ => fun
  | [d1, d2] => { results := [.lit (.bool true)], args := [d1, d2] }
  | _ => none }
def fnPopReturnsPushesInReverseRow : OpenClaim := { program := "ytnccihkllpabgaa", sum := "b3019b7a1172fee807c03177eeb522f20d75c7ff5c34c6b8cce1569a784418da", func := "github.com/yuin/gopher-lua/n005_141.FnPopReturnsPushesInReverse", spec := "fnPopReturnsPushesInReverse", apart := false }
def FnPopReturnsPushesInReverseSaid : Prop := fnPopReturnsPushesInReverseRow.holds Try.pinned (OpenSpec.ofChange fnPopReturnsPushesInReverseSpec)

/-- ITS FALSE NEIGHBOUR: 'it returns false'. Refute it at one input. -/
def fnPopReturnsPushesInReverseWrong : ChangeSpec := { name := "fnPopReturnsPushesInReverse", fn := fun _ => fun
  | [d1, d2] => { results := [.lit (.bool false)], args := [d1, d2] }
  | _ => none }
def FnPopReturnsPushesInReverseWrongFalsely : Prop := fnPopReturnsPushesInReverseRow.holds Try.pinned (OpenSpec.ofChange fnPopReturnsPushesInReverseWrong)

/-- 'n005_141.FnSetSpTruncatesToPrefix': WHATEVER THE INPUT: true; the input reads as it did. -/
def fnSetSpTruncatesToPrefixSpec : ChangeSpec := { name := "fnSetSpTruncatesToPrefix", fn := fun _ => fun
  | [d1, d2, d3] => { results := [.lit (.bool true)], args := [d1, d2, d3] }
  | _ => none }
def fnSetSpTruncatesToPrefixRow : OpenClaim := { program := "ytnccihkllpabgaa", sum := "b3019b7a1172fee807c03177eeb522f20d75c7ff5c34c6b8cce1569a784418da", func := "github.com/yuin/gopher-lua/n005_141.FnSetSpTruncatesToPrefix", spec := "fnSetSpTruncatesToPrefix", apart := false }
def FnSetSpTruncatesToPrefixSaid : Prop := fnSetSpTruncatesToPrefixRow.holds Try.pinned (OpenSpec.ofChange fnSetSpTruncatesToPrefixSpec)

/-- ITS FALSE NEIGHBOUR: 'it returns false'. Refute it at one input. -/
def fnSetSpTruncatesToPrefixWrong : ChangeSpec := { name := "fnSetSpTruncatesToPrefix", fn := fun _ => fun
  | [d1, d2, d3] => { results := [.lit (.bool false)], args := [d1, d2, d3] }
  | _ => none }
def FnSetSpTruncatesToPrefixWrongFalsely : Prop := fnSetSpTruncatesToPrefixRow.holds Try.pinned (OpenSpec.ofChange fnSetSpTruncatesToPrefixWrong)

/-- 'n005_141.FnAtIsWherePopLands': WHATEVER THE INPUT: true; the input reads as it did. -/
def fnAtIsWherePopLandsSpec : ChangeSpec := { name := "fnAtIsWherePopLands", fn := fun _ => fun
  | [d1, d2] => { results := [.lit (.bool true)], args := [d1, d2] }
  | _ => none }
def fnAtIsWherePopLandsRow : OpenClaim := { program := "ytnccihkllpabgaa", sum := "b3019b7a1172fee807c03177eeb522f20d75c7ff5c34c6b8cce1569a784418da", func := "github.com/yuin/gopher-lua/n005_141.FnAtIsWherePopLands", spec := "fnAtIsWherePopLands", apart := false }
def FnAtIsWherePopLandsSaid : Prop := fnAtIsWherePopLandsRow.holds Try.pinned (OpenSpec.ofChange fnAtIsWherePopLandsSpec)

/-- ITS FALSE NEIGHBOUR: 'it returns false'. Refute it at one input. -/
def fnAtIsWherePopLandsWrong : ChangeSpec := { name := "fnAtIsWherePopLands", fn := fun _ => fun
  | [d1, d2] => { results := [.lit (.bool false)], args := [d1, d2] }
  | _ => none }
def FnAtIsWherePopLandsWrongFalsely : Prop := fnAtIsWherePopLandsRow.holds Try.pinned (OpenSpec.ofChange fnAtIsWherePopLandsWrong)

/-- 'n005_141.FnLastThenPopSameFrame': WHATEVER THE INPUT: true; the input reads as it did. -/
def fnLastThenPopSameFrameSpec : ChangeSpec := { name := "fnLastThenPopSameFrame", fn := fun _ => fun
  | [d1, d2] => { results := [.lit (.bool true)], args := [d1, d2] }
  | _ => none }
def fnLastThenPopSameFrameRow : OpenClaim := { program := "ytnccihkllpabgaa", sum := "b3019b7a1172fee807c03177eeb522f20d75c7ff5c34c6b8cce1569a784418da", func := "github.com/yuin/gopher-lua/n005_141.FnLastThenPopSameFrame", spec := "fnLastThenPopSameFrame", apart := false }
def FnLastThenPopSameFrameSaid : Prop := fnLastThenPopSameFrameRow.holds Try.pinned (OpenSpec.ofChange fnLastThenPopSameFrameSpec)

/-- ITS FALSE NEIGHBOUR: 'it returns false'. Refute it at one input. -/
def fnLastThenPopSameFrameWrong : ChangeSpec := { name := "fnLastThenPopSameFrame", fn := fun _ => fun
  | [d1, d2] => { results := [.lit (.bool false)], args := [d1, d2] }
  | _ => none }
def FnLastThenPopSameFrameWrongFalsely : Prop := fnLastThenPopSameFrameRow.holds Try.pinned (OpenSpec.ofChange fnLastThenPopSameFrameWrong)

/-- 'n005_141.FnAtReadsEveryPushedFrame': WHATEVER THE INPUT: true; the input reads as it did. -/
def fnAtReadsEveryPushedFrameSpec : ChangeSpec := { name := "fnAtReadsEveryPushedFrame", fn := fun _ => fun
  | [d1, d2] => { results := [.lit (.bool true)], args := [d1, d2] }
  | _ => none }
def fnAtReadsEveryPushedFrameRow : OpenClaim := { program := "ytnccihkllpabgaa", sum := "b3019b7a1172fee807c03177eeb522f20d75c7ff5c34c6b8cce1569a784418da", func := "github.com/yuin/gopher-lua/n005_141.FnAtReadsEveryPushedFrame", spec := "fnAtReadsEveryPushedFrame", apart := false }
def FnAtReadsEveryPushedFrameSaid : Prop := fnAtReadsEveryPushedFrameRow.holds Try.pinned (OpenSpec.ofChange fnAtReadsEveryPushedFrameSpec)

/-- ITS FALSE NEIGHBOUR: 'it returns false'. Refute it at one input. -/
def fnAtReadsEveryPushedFrameWrong : ChangeSpec := { name := "fnAtReadsEveryPushedFrame", fn := fun _ => fun
  | [d1, d2] => { results := [.lit (.bool false)], args := [d1, d2] }
  | _ => none }
def FnAtReadsEveryPushedFrameWrongFalsely : Prop := fnAtReadsEveryPushedFrameRow.holds Try.pinned (OpenSpec.ofChange fnAtReadsEveryPushedFrameWrong)

/-- 'n005_141.FnSetSpThenPushContinues': WHATEVER THE INPUT: true; the input reads as it did. -/
def fnSetSpThenPushContinuesSpec : ChangeSpec := { name := "fnSetSpThenPushContinues", fn := fun _ => fun
  | [d1, d2, d3, d4] => { results := [.lit (.bool true)], args := [d1, d2, d3, d4] }
  | _ => none }
def fnSetSpThenPushContinuesRow : OpenClaim := { program := "ytnccihkllpabgaa", sum := "b3019b7a1172fee807c03177eeb522f20d75c7ff5c34c6b8cce1569a784418da", func := "github.com/yuin/gopher-lua/n005_141.FnSetSpThenPushContinues", spec := "fnSetSpThenPushContinues", apart := false }
def FnSetSpThenPushContinuesSaid : Prop := fnSetSpThenPushContinuesRow.holds Try.pinned (OpenSpec.ofChange fnSetSpThenPushContinuesSpec)

/-- ITS FALSE NEIGHBOUR: 'it returns false'. Refute it at one input. -/
def fnSetSpThenPushContinuesWrong : ChangeSpec := { name := "fnSetSpThenPushContinues", fn := fun _ => fun
  | [d1, d2, d3, d4] => { results := [.lit (.bool false)], args := [d1, d2, d3, d4] }
  | _ => none }
def FnSetSpThenPushContinuesWrongFalsely : Prop := fnSetSpThenPushContinuesRow.holds Try.pinned (OpenSpec.ofChange fnSetSpThenPushContinuesWrong)

/-- 'n005_141.FnLastIsTopOfModel': WHATEVER THE INPUT: true; the input reads as it did. -/
def fnLastIsTopOfModelSpec : ChangeSpec := { name := "fnLastIsTopOfModel", fn := fun _ => fun
  | [d1, d2] => { results := [.lit (.bool true)], args := [d1, d2] }
  | _ => none }
def fnLastIsTopOfModelRow : OpenClaim := { program := "ytnccihkllpabgaa", sum := "b3019b7a1172fee807c03177eeb522f20d75c7ff5c34c6b8cce1569a784418da", func := "github.com/yuin/gopher-lua/n005_141.FnLastIsTopOfModel", spec := "fnLastIsTopOfModel", apart := false }
def FnLastIsTopOfModelSaid : Prop := fnLastIsTopOfModelRow.holds Try.pinned (OpenSpec.ofChange fnLastIsTopOfModelSpec)

/-- ITS FALSE NEIGHBOUR: 'it returns false'. Refute it at one input. -/
def fnLastIsTopOfModelWrong : ChangeSpec := { name := "fnLastIsTopOfModel", fn := fun _ => fun
  | [d1, d2] => { results := [.lit (.bool false)], args := [d1, d2] }
  | _ => none }
def FnLastIsTopOfModelWrongFalsely : Prop := fnLastIsTopOfModelRow.holds Try.pinned (OpenSpec.ofChange fnLastIsTopOfModelWrong)

/-- 'n005_141.FnPopAgreesWithSliceModel': WHATEVER THE INPUT: true; the input reads as it did. -/
def fnPopAgreesWithSliceModelSpec : ChangeSpec := { name := "fnPopAgreesWithSliceModel", fn := fun _ => fun
  | [d1, d2] => { results := [.lit (.bool true)], args := [d1, d2] }
  | _ => none }
def fnPopAgreesWithSliceModelRow : OpenClaim := { program := "ytnccihkllpabgaa", sum := "b3019b7a1172fee807c03177eeb522f20d75c7ff5c34c6b8cce1569a784418da", func := "github.com/yuin/gopher-lua/n005_141.FnPopAgreesWithSliceModel", spec := "fnPopAgreesWithSliceModel", apart := false }
def FnPopAgreesWithSliceModelSaid : Prop := fnPopAgreesWithSliceModelRow.holds Try.pinned (OpenSpec.ofChange fnPopAgreesWithSliceModelSpec)

/-- ITS FALSE NEIGHBOUR: 'it returns false'. Refute it at one input. -/
def fnPopAgreesWithSliceModelWrong : ChangeSpec := { name := "fnPopAgreesWithSliceModel", fn := fun _ => fun
  | [d1, d2] => { results := [.lit (.bool false)], args := [d1, d2] }
  | _ => none }
def FnPopAgreesWithSliceModelWrongFalsely : Prop := fnPopAgreesWithSliceModelRow.holds Try.pinned (OpenSpec.ofChange fnPopAgreesWithSliceModelWrong)

/- THE SECOND FORM. 'bulk': how many values and letters a reading holds, each counted each time it is reached (what is shared counts as often as it is met; a slice's spare places count too). A statement '..UptoSaid' is the law's where the arguments, and the package variables that the reading takes, are together of bulk at most 1048576: NARROWER than '..Said'. Prove '..Said' where nothing that the law and all that it calls make is longer than what came in: it says more and counts as full. Else prove '..UptoSaid'. A law counts once. -/
mutual
def uptoBulk {H : Type} : DataW H → Nat
  | .lit (.string bytes) => bytes.length + 1
  | .lit _ => 1
  | .nil => 1
  | .ptr d => uptoBulk d + 1
  | .slice elems spare => uptoBulkAll elems + uptoBulkAll spare + 1
  | .agg parts => uptoBulkAll parts + 1
  | .iface _ d => uptoBulk d + 1
  | .map entries => uptoBulkEntries entries + 1
  | .held _ => 1
def uptoBulkAll {H : Type} : List (DataW H) → Nat
  | [] => 0
  | d :: r => uptoBulk d + uptoBulkAll r
def uptoBulkEntries {H : Type} : List (Lit × DataW H) → Nat
  | [] => 0
  | x :: r => uptoBulkEntry x + uptoBulkEntries r
def uptoBulkEntry {H : Type} : Lit × DataW H → Nat
  | (.string bytes, d) => bytes.length + uptoBulk d + 1
  | (_, d) => uptoBulk d + 1
 end
def uptoSmall : (H : Type) → List (DataW H) → Bool := fun _ ds => decide (uptoBulkAll ds ≤ 1048576)
def OpenSpec.upto (s : _root_.Go.ChangeSpec) : _root_.Go.OpenSpec := { _root_.Go.OpenSpec.ofChange s with cond := some uptoSmall }

/-- 'n005_141.FnPopReturnsPushesInReverse', WHERE WHAT IT READS IS OF BULK AT MOST 1048576: true; the input reads as it did. -/
def fnPopReturnsPushesInReverseUptoRow : OpenClaim := { program := "ytnccihkllpabgaa", sum := "b3019b7a1172fee807c03177eeb522f20d75c7ff5c34c6b8cce1569a784418da", func := "github.com/yuin/gopher-lua/n005_141.FnPopReturnsPushesInReverse", spec := "fnPopReturnsPushesInReverse", apart := false, narrowed := true }
def FnPopReturnsPushesInReverseUptoSaid : Prop := fnPopReturnsPushesInReverseUptoRow.holds Try.pinned (OpenSpec.upto fnPopReturnsPushesInReverseSpec)

/-- 'n005_141.FnSetSpTruncatesToPrefix', WHERE WHAT IT READS IS OF BULK AT MOST 1048576: true; the input reads as it did. -/
def fnSetSpTruncatesToPrefixUptoRow : OpenClaim := { program := "ytnccihkllpabgaa", sum := "b3019b7a1172fee807c03177eeb522f20d75c7ff5c34c6b8cce1569a784418da", func := "github.com/yuin/gopher-lua/n005_141.FnSetSpTruncatesToPrefix", spec := "fnSetSpTruncatesToPrefix", apart := false, narrowed := true }
def FnSetSpTruncatesToPrefixUptoSaid : Prop := fnSetSpTruncatesToPrefixUptoRow.holds Try.pinned (OpenSpec.upto fnSetSpTruncatesToPrefixSpec)

/-- 'n005_141.FnAtIsWherePopLands', WHERE WHAT IT READS IS OF BULK AT MOST 1048576: true; the input reads as it did. -/
def fnAtIsWherePopLandsUptoRow : OpenClaim := { program := "ytnccihkllpabgaa", sum := "b3019b7a1172fee807c03177eeb522f20d75c7ff5c34c6b8cce1569a784418da", func := "github.com/yuin/gopher-lua/n005_141.FnAtIsWherePopLands", spec := "fnAtIsWherePopLands", apart := false, narrowed := true }
def FnAtIsWherePopLandsUptoSaid : Prop := fnAtIsWherePopLandsUptoRow.holds Try.pinned (OpenSpec.upto fnAtIsWherePopLandsSpec)

/-- 'n005_141.FnLastThenPopSameFrame', WHERE WHAT IT READS IS OF BULK AT MOST 1048576: true; the input reads as it did. -/
def fnLastThenPopSameFrameUptoRow : OpenClaim := { program := "ytnccihkllpabgaa", sum := "b3019b7a1172fee807c03177eeb522f20d75c7ff5c34c6b8cce1569a784418da", func := "github.com/yuin/gopher-lua/n005_141.FnLastThenPopSameFrame", spec := "fnLastThenPopSameFrame", apart := false, narrowed := true }
def FnLastThenPopSameFrameUptoSaid : Prop := fnLastThenPopSameFrameUptoRow.holds Try.pinned (OpenSpec.upto fnLastThenPopSameFrameSpec)

/-- 'n005_141.FnAtReadsEveryPushedFrame', WHERE WHAT IT READS IS OF BULK AT MOST 1048576: true; the input reads as it did. -/
def fnAtReadsEveryPushedFrameUptoRow : OpenClaim := { program := "ytnccihkllpabgaa", sum := "b3019b7a1172fee807c03177eeb522f20d75c7ff5c34c6b8cce1569a784418da", func := "github.com/yuin/gopher-lua/n005_141.FnAtReadsEveryPushedFrame", spec := "fnAtReadsEveryPushedFrame", apart := false, narrowed := true }
def FnAtReadsEveryPushedFrameUptoSaid : Prop := fnAtReadsEveryPushedFrameUptoRow.holds Try.pinned (OpenSpec.upto fnAtReadsEveryPushedFrameSpec)

/-- 'n005_141.FnSetSpThenPushContinues', WHERE WHAT IT READS IS OF BULK AT MOST 1048576: true; the input reads as it did. -/
def fnSetSpThenPushContinuesUptoRow : OpenClaim := { program := "ytnccihkllpabgaa", sum := "b3019b7a1172fee807c03177eeb522f20d75c7ff5c34c6b8cce1569a784418da", func := "github.com/yuin/gopher-lua/n005_141.FnSetSpThenPushContinues", spec := "fnSetSpThenPushContinues", apart := false, narrowed := true }
def FnSetSpThenPushContinuesUptoSaid : Prop := fnSetSpThenPushContinuesUptoRow.holds Try.pinned (OpenSpec.upto fnSetSpThenPushContinuesSpec)

/-- 'n005_141.FnLastIsTopOfModel', WHERE WHAT IT READS IS OF BULK AT MOST 1048576: true; the input reads as it did. -/
def fnLastIsTopOfModelUptoRow : OpenClaim := { program := "ytnccihkllpabgaa", sum := "b3019b7a1172fee807c03177eeb522f20d75c7ff5c34c6b8cce1569a784418da", func := "github.com/yuin/gopher-lua/n005_141.FnLastIsTopOfModel", spec := "fnLastIsTopOfModel", apart := false, narrowed := true }
def FnLastIsTopOfModelUptoSaid : Prop := fnLastIsTopOfModelUptoRow.holds Try.pinned (OpenSpec.upto fnLastIsTopOfModelSpec)

/-- 'n005_141.FnPopAgreesWithSliceModel', WHERE WHAT IT READS IS OF BULK AT MOST 1048576: true; the input reads as it did. -/
def fnPopAgreesWithSliceModelUptoRow : OpenClaim := { program := "ytnccihkllpabgaa", sum := "b3019b7a1172fee807c03177eeb522f20d75c7ff5c34c6b8cce1569a784418da", func := "github.com/yuin/gopher-lua/n005_141.FnPopAgreesWithSliceModel", spec := "fnPopAgreesWithSliceModel", apart := false, narrowed := true }
def FnPopAgreesWithSliceModelUptoSaid : Prop := fnPopAgreesWithSliceModelUptoRow.holds Try.pinned (OpenSpec.upto fnPopAgreesWithSliceModelSpec)

end Rows
end Go.Proofs.Ytnccihkllpabgaa
