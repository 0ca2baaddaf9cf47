/-
  No cell of these rows narrows 'for every input' (looked for: loops, veiled, ifaces, maps, wideKeys, modest, calm, conditions, laid).
  DERIVED. THE GIVEN ROWS OF THIS SEAT. 5 by the template 'for every input the law returns true; each argument reads behind the call as it read before'; 0 by the template 'total and deterministic' (their statements: YtgmlgkfhmdiknaaTotals.lean).
  GIVEN WITH THE SEED: the statements are not yours to turn. If you find one false, say at which input.
  Laid BY PROGRAM, IN A SANDBOX (cutbox-rows.mjs): the forced cells as the released guide's own fill.sh prints them over the translation 4edeaf2609bc62ad… (all of the seat's roots in one cut). By AI agents, Wed Nov 11 2026. No macro, syntax, notation, axiom, sorry.
-/
import Derived.Test.YtgmlgkfhmdiknaaChecked
import GoSem.Claim
import GoSem.ClaimJoined
import GoSem.ClaimMapViews
import Derived.JoinedTies
import Derived.KernelRfl
namespace Go.Proofs.Ytgmlgkfhmdiknaa
/- THE CELL 'sum', in the pinned program and in every row, IS THE sha256 OF THE DUMP (.gsa) THAT YtgmlgkfhmdiknaaProg.lean LOADS. Nothing in Lean hashes anything: it is a label: what it is worth is what the hold of that sum in a sandbox is worth. -/
noncomputable def Try.pinned : Pinned := { name := "ytgmlgkfhmdiknaa", sum := "4edeaf2609bc62ad635345c5213d66c7f6e164c37637e2867c167bb872a887f4", checked := Try.checked }
namespace Rows
def none {H : Type} : Left H := { results := [], args := [] }

/-- 'n005_19.FnSpIsPushesMinusPops': WHATEVER THE INPUT: true; the input reads as it did. -/
def fnSpIsPushesMinusPopsSpec : ChangeSpec := { name := "fnSpIsPushesMinusPops", fn := fun _ => fun
  | [d1, d2, d3] => { results := [.lit (.bool true)], args := [d1, d2, d3] }
  | _ => none }
def fnSpIsPushesMinusPopsRow : OpenClaim := { program := "ytgmlgkfhmdiknaa", sum := "4edeaf2609bc62ad635345c5213d66c7f6e164c37637e2867c167bb872a887f4", func := "github.com/yuin/gopher-lua/n005_19.FnSpIsPushesMinusPops", spec := "fnSpIsPushesMinusPops", apart := false }
def FnSpIsPushesMinusPopsSaid : Prop := fnSpIsPushesMinusPopsRow.holds Try.pinned (OpenSpec.ofChange fnSpIsPushesMinusPopsSpec)

/-- ITS FALSE NEIGHBOUR: 'it returns false'. Refute it at one input. -/
def fnSpIsPushesMinusPopsWrong : ChangeSpec := { name := "fnSpIsPushesMinusPops", fn := fun _ => fun
  | [d1, d2, d3] => { results := [.lit (.bool false)], args := [d1, d2, d3] }
  | _ => none }
def FnSpIsPushesMinusPopsWrongFalsely : Prop := fnSpIsPushesMinusPopsRow.holds Try.pinned (OpenSpec.ofChange fnSpIsPushesMinusPopsWrong)

/-- 'n005_19.FnPushStampsIndexAndKeepsFrames': WHATEVER THE INPUT: true; the input reads as it did. -/
def fnPushStampsIndexAndKeepsFramesSpec : ChangeSpec := { name := "fnPushStampsIndexAndKeepsFrames", fn := fun _ => fun
  | [d1, d2] => { results := [.lit (.bool true)], args := [d1, d2] }
  | _ => none }
def fnPushStampsIndexAndKeepsFramesRow : OpenClaim := { program := "ytgmlgkfhmdiknaa", sum := "4edeaf2609bc62ad635345c5213d66c7f6e164c37637e2867c167bb872a887f4", func := "github.com/yuin/gopher-lua/n005_19.FnPushStampsIndexAndKeepsFrames", spec := "fnPushStampsIndexAndKeepsFrames", apart := false }
def FnPushStampsIndexAndKeepsFramesSaid : Prop := fnPushStampsIndexAndKeepsFramesRow.holds Try.pinned (OpenSpec.ofChange fnPushStampsIndexAndKeepsFramesSpec)

/-- ITS FALSE NEIGHBOUR: 'it returns false'. Refute it at one input. -/
def fnPushStampsIndexAndKeepsFramesWrong : ChangeSpec := { name := "fnPushStampsIndexAndKeepsFrames", fn := fun _ => fun
  | [d1, d2] => { results := [.lit (.bool false)], args := [d1, d2] }
  | _ => none }
def FnPushStampsIndexAndKeepsFramesWrongFalsely : Prop := fnPushStampsIndexAndKeepsFramesRow.holds Try.pinned (OpenSpec.ofChange fnPushStampsIndexAndKeepsFramesWrong)

/-- 'n005_19.FnClearResetsAndStackIsReusable': WHATEVER THE INPUT: true; the input reads as it did. -/
def fnClearResetsAndStackIsReusableSpec : ChangeSpec := { name := "fnClearResetsAndStackIsReusable", fn := fun _ => fun
  | [d1, d2] => { results := [.lit (.bool true)], args := [d1, d2] }
  | _ => none }
def fnClearResetsAndStackIsReusableRow : OpenClaim := { program := "ytgmlgkfhmdiknaa", sum := "4edeaf2609bc62ad635345c5213d66c7f6e164c37637e2867c167bb872a887f4", func := "github.com/yuin/gopher-lua/n005_19.FnClearResetsAndStackIsReusable", spec := "fnClearResetsAndStackIsReusable", apart := false }
def FnClearResetsAndStackIsReusableSaid : Prop := fnClearResetsAndStackIsReusableRow.holds Try.pinned (OpenSpec.ofChange fnClearResetsAndStackIsReusableSpec)

/-- ITS FALSE NEIGHBOUR: 'it returns false'. Refute it at one input. -/
def fnClearResetsAndStackIsReusableWrong : ChangeSpec := { name := "fnClearResetsAndStackIsReusable", fn := fun _ => fun
  | [d1, d2] => { results := [.lit (.bool false)], args := [d1, d2] }
  | _ => none }
def FnClearResetsAndStackIsReusableWrongFalsely : Prop := fnClearResetsAndStackIsReusableRow.holds Try.pinned (OpenSpec.ofChange fnClearResetsAndStackIsReusableWrong)

/-- 'n005_19.FnPushPopReverse': WHATEVER THE INPUT: true; the input reads as it did. -/
def fnPushPopReverseSpec : ChangeSpec := { name := "fnPushPopReverse", fn := fun _ => fun
  | [d1, d2] => { results := [.lit (.bool true)], args := [d1, d2] }
  | _ => none }
def fnPushPopReverseRow : OpenClaim := { program := "ytgmlgkfhmdiknaa", sum := "4edeaf2609bc62ad635345c5213d66c7f6e164c37637e2867c167bb872a887f4", func := "github.com/yuin/gopher-lua/n005_19.FnPushPopReverse", spec := "fnPushPopReverse", apart := false }
def FnPushPopReverseSaid : Prop := fnPushPopReverseRow.holds Try.pinned (OpenSpec.ofChange fnPushPopReverseSpec)

/-- ITS FALSE NEIGHBOUR: 'it returns false'. Refute it at one input. -/
def fnPushPopReverseWrong : ChangeSpec := { name := "fnPushPopReverse", fn := fun _ => fun
  | [d1, d2] => { results := [.lit (.bool false)], args := [d1, d2] }
  | _ => none }
def FnPushPopReverseWrongFalsely : Prop := fnPushPopReverseRow.holds Try.pinned (OpenSpec.ofChange fnPushPopReverseWrong)

/-- 'n005_19.FnSpTracksScript': WHATEVER THE INPUT: true; the input reads as it did. -/
def fnSpTracksScriptSpec : ChangeSpec := { name := "fnSpTracksScript", fn := fun _ => fun
  | [d1, d2, d3] => { results := [.lit (.bool true)], args := [d1, d2, d3] }
  | _ => none }
def fnSpTracksScriptRow : OpenClaim := { program := "ytgmlgkfhmdiknaa", sum := "4edeaf2609bc62ad635345c5213d66c7f6e164c37637e2867c167bb872a887f4", func := "github.com/yuin/gopher-lua/n005_19.FnSpTracksScript", spec := "fnSpTracksScript", apart := false }
def FnSpTracksScriptSaid : Prop := fnSpTracksScriptRow.holds Try.pinned (OpenSpec.ofChange fnSpTracksScriptSpec)

/-- ITS FALSE NEIGHBOUR: 'it returns false'. Refute it at one input. -/
def fnSpTracksScriptWrong : ChangeSpec := { name := "fnSpTracksScript", fn := fun _ => fun
  | [d1, d2, d3] => { results := [.lit (.bool false)], args := [d1, d2, d3] }
  | _ => none }
def FnSpTracksScriptWrongFalsely : Prop := fnSpTracksScriptRow.holds Try.pinned (OpenSpec.ofChange fnSpTracksScriptWrong)

/- THE SECOND FORM. 'bulk': how many values and letters a reading holds, each counted each time it is reached (what is shared counts as often as it is met; a slice's spare places count too). A statement '..UptoSaid' is the law's where the arguments, and the package variables that the reading takes, are together of bulk at most 1048576: NARROWER than '..Said'. Prove '..Said' where nothing that the law and all that it calls make is longer than what came in: it says more and counts as full. Else prove '..UptoSaid'. A law counts once. -/
mutual
def uptoBulk {H : Type} : DataW H → Nat
  | .lit (.string bytes) => bytes.length + 1
  | .lit _ => 1
  | .nil => 1
  | .ptr d => uptoBulk d + 1
  | .slice elems spare => uptoBulkAll elems + uptoBulkAll spare + 1
  | .agg parts => uptoBulkAll parts + 1
  | .iface _ d => uptoBulk d + 1
  | .map entries => uptoBulkEntries entries + 1
  | .held _ => 1
def uptoBulkAll {H : Type} : List (DataW H) → Nat
  | [] => 0
  | d :: r => uptoBulk d + uptoBulkAll r
def uptoBulkEntries {H : Type} : List (Lit × DataW H) → Nat
  | [] => 0
  | x :: r => uptoBulkEntry x + uptoBulkEntries r
def uptoBulkEntry {H : Type} : Lit × DataW H → Nat
  | (.string bytes, d) => bytes.length + uptoBulk d + 1
  | (_, d) => uptoBulk d + 1
 end
def uptoSmall : (H : Type) → List (DataW H) → Bool := fun _ ds => decide (uptoBulkAll ds ≤ 1048576)
def OpenSpec.upto (s : _root_.Go.ChangeSpec) : _root_.Go.OpenSpec := { _root_.Go.OpenSpec.ofChange s with cond := some uptoSmall }

/-- 'n005_19.FnSpIsPushesMinusPops', WHERE WHAT IT READS IS OF BULK AT MOST 1048576: true; the input reads as it did. -/
def fnSpIsPushesMinusPopsUptoRow : OpenClaim := { program := "ytgmlgkfhmdiknaa", sum := "4edeaf2609bc62ad635345c5213d66c7f6e164c37637e2867c167bb872a887f4", func := "github.com/yuin/gopher-lua/n005_19.FnSpIsPushesMinusPops", spec := "fnSpIsPushesMinusPops", apart := false, narrowed := true }
def FnSpIsPushesMinusPopsUptoSaid : Prop := fnSpIsPushesMinusPopsUptoRow.holds Try.pinned (OpenSpec.upto fnSpIsPushesMinusPopsSpec)

/-- 'n005_19.FnPushStampsIndexAndKeepsFrames', WHERE WHAT IT READS IS OF BULK AT MOST 1048576: true; the input reads as it did. -/
def fnPushStampsIndexAndKeepsFramesUptoRow : OpenClaim := { program := "ytgmlgkfhmdiknaa", sum := "4edeaf2609bc62ad635345c5213d66c7f6e164c37637e2867c167bb872a887f4", func := "github.com/yuin/gopher-lua/n005_19.FnPushStampsIndexAndKeepsFrames", spec := "fnPushStampsIndexAndKeepsFrames", apart := false, narrowed := true }
def FnPushStampsIndexAndKeepsFramesUptoSaid : Prop := fnPushStampsIndexAndKeepsFramesUptoRow.holds Try.pinned (OpenSpec.upto fnPushStampsIndexAndKeepsFramesSpec)

/-- 'n005_19.FnClearResetsAndStackIsReusable', WHERE WHAT IT READS IS OF BULK AT MOST 1048576: true; the input reads as it did. -/
def fnClearResetsAndStackIsReusableUptoRow : OpenClaim := { program := "ytgmlgkfhmdiknaa", sum := "4edeaf2609bc62ad635345c5213d66c7f6e164c37637e2867c167bb872a887f4", func := "github.com/yuin/gopher-lua/n005_19.FnClearResetsAndStackIsReusable", spec := "fnClearResetsAndStackIsReusable", apart := false, narrowed := true }
def FnClearResetsAndStackIsReusableUptoSaid : Prop := fnClearResetsAndStackIsReusableUptoRow.holds Try.pinned (OpenSpec.upto fnClearResetsAndStackIsReusableSpec)

/-- 'n005_19.FnPushPopReverse', WHERE WHAT IT READS IS OF BULK AT MOST 1048576: true; the input reads as it did. -/
def fnPushPopReverseUptoRow : OpenClaim := { program := "ytgmlgkfhmdiknaa", sum := "4edeaf2609bc62ad635345c5213d66c7f6e164c37637e2867c167bb872a887f4", func := "github.com/yuin/gopher-lua/n005_19.FnPushPopReverse", spec := "fnPushPopReverse", apart := false, narrowed := true }
def FnPushPopReverseUptoSaid : Prop := fnPushPopReverseUptoRow.holds Try.pinned (OpenSpec.upto fnPushPopReverseSpec)

/-- 'n005_19.FnSpTracksScript', WHERE WHAT IT READS IS OF BULK AT MOST 1048576: true; the input reads as it did. -/
def fnSpTracksScriptUptoRow : OpenClaim := { program := "ytgmlgkfhmdiknaa", sum := "4edeaf2609bc62ad635345c5213d66c7f6e164c37637e2867c167bb872a887f4", func := "github.com/yuin/gopher-lua/n005_19.FnSpTracksScript", spec := "fnSpTracksScript", apart := false, narrowed := true }
def FnSpTracksScriptUptoSaid : Prop := fnSpTracksScriptUptoRow.holds Try.pinned (OpenSpec.upto fnSpTracksScriptSpec)

end Rows
end Go.Proofs.Ytgmlgkfhmdiknaa
