/-
  No cell of these rows narrows 'for every input' (looked for: loops, veiled, ifaces, maps, wideKeys, modest, calm, conditions, laid).
  DERIVED. THE GIVEN ROWS OF THIS SEAT. 4 by the template 'for every input the law returns true; each argument reads behind the call as it read before'; 0 by the template 'total and deterministic' (their statements: YtifdflmleplpkaaTotals.lean).
  GIVEN WITH THE SEED: the statements are not yours to turn. If you find one false, say at which input.
  Laid BY PROGRAM, IN A SANDBOX (cutbox-rows.mjs): the forced cells as the released guide's own fill.sh prints them over the translation 8691d0eaecf38321… (all of the seat's roots in one cut). By AI agents, Wed Nov 11 2026. No macro, syntax, notation, axiom, sorry.
-/
import Derived.Test.YtifdflmleplpkaaChecked
import GoSem.Claim
import GoSem.ClaimJoined
import GoSem.ClaimMapViews
import Derived.JoinedTies
import Derived.KernelRfl
namespace Go.Proofs.Ytifdflmleplpkaa
/- THE CELL 'sum', in the pinned program and in every row, IS THE sha256 OF THE DUMP (.gsa) THAT YtifdflmleplpkaaProg.lean LOADS. Nothing in Lean hashes anything: it is a label: what it is worth is what the hold of that sum in a sandbox is worth. -/
noncomputable def Try.pinned : Pinned := { name := "ytifdflmleplpkaa", sum := "8691d0eaecf383212ac760b711eaec8727e98d741a64243afb21fc04f95dd6fe", checked := Try.checked }
namespace Rows
def none {H : Type} : Left H := { results := [], args := [] }

/-- 'n005_16.FnAutoStackHoldsSmallestMultipleOfEight': WHATEVER THE INPUT: true; the input reads as it did. -/
def fnAutoStackHoldsSmallestMultipleOfEightSpec : ChangeSpec := { name := "fnAutoStackHoldsSmallestMultipleOfEight", fn := fun _ => fun
  | [d] => { results := [.lit (.bool true)], args := [d] }
  | _ => none }
def fnAutoStackHoldsSmallestMultipleOfEightRow : OpenClaim := { program := "ytifdflmleplpkaa", sum := "8691d0eaecf383212ac760b711eaec8727e98d741a64243afb21fc04f95dd6fe", func := "github.com/yuin/gopher-lua/n005_16.FnAutoStackHoldsSmallestMultipleOfEight", spec := "fnAutoStackHoldsSmallestMultipleOfEight", apart := false }
def FnAutoStackHoldsSmallestMultipleOfEightSaid : Prop := fnAutoStackHoldsSmallestMultipleOfEightRow.holds Try.pinned (OpenSpec.ofChange fnAutoStackHoldsSmallestMultipleOfEightSpec)

/-- ITS FALSE NEIGHBOUR: 'it returns false'. Refute it at one input. -/
def fnAutoStackHoldsSmallestMultipleOfEightWrong : ChangeSpec := { name := "fnAutoStackHoldsSmallestMultipleOfEight", fn := fun _ => fun
  | [d] => { results := [.lit (.bool false)], args := [d] }
  | _ => none }
def FnAutoStackHoldsSmallestMultipleOfEightWrongFalsely : Prop := fnAutoStackHoldsSmallestMultipleOfEightRow.holds Try.pinned (OpenSpec.ofChange fnAutoStackHoldsSmallestMultipleOfEightWrong)

/-- 'n005_16.FnAutoStackClearLeavesEmptyAndReusable': WHATEVER THE INPUT: true; the input reads as it did. -/
def fnAutoStackClearLeavesEmptyAndReusableSpec : ChangeSpec := { name := "fnAutoStackClearLeavesEmptyAndReusable", fn := fun _ => fun
  | [d1, d2] => { results := [.lit (.bool true)], args := [d1, d2] }
  | _ => none }
def fnAutoStackClearLeavesEmptyAndReusableRow : OpenClaim := { program := "ytifdflmleplpkaa", sum := "8691d0eaecf383212ac760b711eaec8727e98d741a64243afb21fc04f95dd6fe", func := "github.com/yuin/gopher-lua/n005_16.FnAutoStackClearLeavesEmptyAndReusable", spec := "fnAutoStackClearLeavesEmptyAndReusable", apart := false }
def FnAutoStackClearLeavesEmptyAndReusableSaid : Prop := fnAutoStackClearLeavesEmptyAndReusableRow.holds Try.pinned (OpenSpec.ofChange fnAutoStackClearLeavesEmptyAndReusableSpec)

/-- ITS FALSE NEIGHBOUR: 'it returns false'. Refute it at one input. -/
def fnAutoStackClearLeavesEmptyAndReusableWrong : ChangeSpec := { name := "fnAutoStackClearLeavesEmptyAndReusable", fn := fun _ => fun
  | [d1, d2] => { results := [.lit (.bool false)], args := [d1, d2] }
  | _ => none }
def FnAutoStackClearLeavesEmptyAndReusableWrongFalsely : Prop := fnAutoStackClearLeavesEmptyAndReusableRow.holds Try.pinned (OpenSpec.ofChange fnAutoStackClearLeavesEmptyAndReusableWrong)

/-- 'n005_16.FnFreeAllThenFreshStackStartsEmpty': WHATEVER THE INPUT: true; the input reads as it did. -/
def fnFreeAllThenFreshStackStartsEmptySpec : ChangeSpec := { name := "fnFreeAllThenFreshStackStartsEmpty", fn := fun _ => fun
  | [d1, d2] => { results := [.lit (.bool true)], args := [d1, d2] }
  | _ => none }
def fnFreeAllThenFreshStackStartsEmptyRow : OpenClaim := { program := "ytifdflmleplpkaa", sum := "8691d0eaecf383212ac760b711eaec8727e98d741a64243afb21fc04f95dd6fe", func := "github.com/yuin/gopher-lua/n005_16.FnFreeAllThenFreshStackStartsEmpty", spec := "fnFreeAllThenFreshStackStartsEmpty", apart := false }
def FnFreeAllThenFreshStackStartsEmptySaid : Prop := fnFreeAllThenFreshStackStartsEmptyRow.holds Try.pinned (OpenSpec.ofChange fnFreeAllThenFreshStackStartsEmptySpec)

/-- ITS FALSE NEIGHBOUR: 'it returns false'. Refute it at one input. -/
def fnFreeAllThenFreshStackStartsEmptyWrong : ChangeSpec := { name := "fnFreeAllThenFreshStackStartsEmpty", fn := fun _ => fun
  | [d1, d2] => { results := [.lit (.bool false)], args := [d1, d2] }
  | _ => none }
def FnFreeAllThenFreshStackStartsEmptyWrongFalsely : Prop := fnFreeAllThenFreshStackStartsEmptyRow.holds Try.pinned (OpenSpec.ofChange fnFreeAllThenFreshStackStartsEmptyWrong)

/-- 'n005_16.FnAutoStackScriptMatchesCountingModel': WHATEVER THE INPUT: true; the input reads as it did. -/
def fnAutoStackScriptMatchesCountingModelSpec : ChangeSpec := { name := "fnAutoStackScriptMatchesCountingModel", fn := fun _ => fun
  | [d1, d2] => { results := [.lit (.bool true)], args := [d1, d2] }
  | _ => none }
def fnAutoStackScriptMatchesCountingModelRow : OpenClaim := { program := "ytifdflmleplpkaa", sum := "8691d0eaecf383212ac760b711eaec8727e98d741a64243afb21fc04f95dd6fe", func := "github.com/yuin/gopher-lua/n005_16.FnAutoStackScriptMatchesCountingModel", spec := "fnAutoStackScriptMatchesCountingModel", apart := false }
def FnAutoStackScriptMatchesCountingModelSaid : Prop := fnAutoStackScriptMatchesCountingModelRow.holds Try.pinned (OpenSpec.ofChange fnAutoStackScriptMatchesCountingModelSpec)

/-- ITS FALSE NEIGHBOUR: 'it returns false'. Refute it at one input. -/
def fnAutoStackScriptMatchesCountingModelWrong : ChangeSpec := { name := "fnAutoStackScriptMatchesCountingModel", fn := fun _ => fun
  | [d1, d2] => { results := [.lit (.bool false)], args := [d1, d2] }
  | _ => none }
def FnAutoStackScriptMatchesCountingModelWrongFalsely : Prop := fnAutoStackScriptMatchesCountingModelRow.holds Try.pinned (OpenSpec.ofChange fnAutoStackScriptMatchesCountingModelWrong)

/- THE SECOND FORM. 'bulk': how many values and letters a reading holds, each counted each time it is reached (what is shared counts as often as it is met; a slice's spare places count too). A statement '..UptoSaid' is the law's where the arguments, and the package variables that the reading takes, are together of bulk at most 1048576: NARROWER than '..Said'. Prove '..Said' where nothing that the law and all that it calls make is longer than what came in: it says more and counts as full. Else prove '..UptoSaid'. A law counts once. -/
mutual
def uptoBulk {H : Type} : DataW H → Nat
  | .lit (.string bytes) => bytes.length + 1
  | .lit _ => 1
  | .nil => 1
  | .ptr d => uptoBulk d + 1
  | .slice elems spare => uptoBulkAll elems + uptoBulkAll spare + 1
  | .agg parts => uptoBulkAll parts + 1
  | .iface _ d => uptoBulk d + 1
  | .map entries => uptoBulkEntries entries + 1
  | .held _ => 1
def uptoBulkAll {H : Type} : List (DataW H) → Nat
  | [] => 0
  | d :: r => uptoBulk d + uptoBulkAll r
def uptoBulkEntries {H : Type} : List (Lit × DataW H) → Nat
  | [] => 0
  | x :: r => uptoBulkEntry x + uptoBulkEntries r
def uptoBulkEntry {H : Type} : Lit × DataW H → Nat
  | (.string bytes, d) => bytes.length + uptoBulk d + 1
  | (_, d) => uptoBulk d + 1
 end
def uptoSmall : (H : Type) → List (DataW H) → Bool := fun _ ds => decide (uptoBulkAll ds ≤ 1048576)
def OpenSpec.upto (s : _root_.Go.ChangeSpec) : _root_.Go.OpenSpec := { _root_.Go.OpenSpec.ofChange s with cond := some uptoSmall }

/-- 'n005_16.FnAutoStackHoldsSmallestMultipleOfEight', WHERE WHAT IT READS IS OF BULK AT MOST 1048576: true; the input reads as it did. -/
def fnAutoStackHoldsSmallestMultipleOfEightUptoRow : OpenClaim := { program := "ytifdflmleplpkaa", sum := "8691d0eaecf383212ac760b711eaec8727e98d741a64243afb21fc04f95dd6fe", func := "github.com/yuin/gopher-lua/n005_16.FnAutoStackHoldsSmallestMultipleOfEight", spec := "fnAutoStackHoldsSmallestMultipleOfEight", apart := false, narrowed := true }
def FnAutoStackHoldsSmallestMultipleOfEightUptoSaid : Prop := fnAutoStackHoldsSmallestMultipleOfEightUptoRow.holds Try.pinned (OpenSpec.upto fnAutoStackHoldsSmallestMultipleOfEightSpec)

/-- 'n005_16.FnAutoStackClearLeavesEmptyAndReusable', WHERE WHAT IT READS IS OF BULK AT MOST 1048576: true; the input reads as it did. -/
def fnAutoStackClearLeavesEmptyAndReusableUptoRow : OpenClaim := { program := "ytifdflmleplpkaa", sum := "8691d0eaecf383212ac760b711eaec8727e98d741a64243afb21fc04f95dd6fe", func := "github.com/yuin/gopher-lua/n005_16.FnAutoStackClearLeavesEmptyAndReusable", spec := "fnAutoStackClearLeavesEmptyAndReusable", apart := false, narrowed := true }
def FnAutoStackClearLeavesEmptyAndReusableUptoSaid : Prop := fnAutoStackClearLeavesEmptyAndReusableUptoRow.holds Try.pinned (OpenSpec.upto fnAutoStackClearLeavesEmptyAndReusableSpec)

/-- 'n005_16.FnFreeAllThenFreshStackStartsEmpty', WHERE WHAT IT READS IS OF BULK AT MOST 1048576: true; the input reads as it did. -/
def fnFreeAllThenFreshStackStartsEmptyUptoRow : OpenClaim := { program := "ytifdflmleplpkaa", sum := "8691d0eaecf383212ac760b711eaec8727e98d741a64243afb21fc04f95dd6fe", func := "github.com/yuin/gopher-lua/n005_16.FnFreeAllThenFreshStackStartsEmpty", spec := "fnFreeAllThenFreshStackStartsEmpty", apart := false, narrowed := true }
def FnFreeAllThenFreshStackStartsEmptyUptoSaid : Prop := fnFreeAllThenFreshStackStartsEmptyUptoRow.holds Try.pinned (OpenSpec.upto fnFreeAllThenFreshStackStartsEmptySpec)

/-- 'n005_16.FnAutoStackScriptMatchesCountingModel', WHERE WHAT IT READS IS OF BULK AT MOST 1048576: true; the input reads as it did. -/
def fnAutoStackScriptMatchesCountingModelUptoRow : OpenClaim := { program := "ytifdflmleplpkaa", sum := "8691d0eaecf383212ac760b711eaec8727e98d741a64243afb21fc04f95dd6fe", func := "github.com/yuin/gopher-lua/n005_16.FnAutoStackScriptMatchesCountingModel", spec := "fnAutoStackScriptMatchesCountingModel", apart := false, narrowed := true }
def FnAutoStackScriptMatchesCountingModelUptoSaid : Prop := fnAutoStackScriptMatchesCountingModelUptoRow.holds Try.pinned (OpenSpec.upto fnAutoStackScriptMatchesCountingModelSpec)

end Rows
end Go.Proofs.Ytifdflmleplpkaa
