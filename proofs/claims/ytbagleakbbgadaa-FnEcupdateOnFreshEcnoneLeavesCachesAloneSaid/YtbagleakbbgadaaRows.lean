/-
  No cell of these rows narrows 'for every input' (looked for: loops, veiled, ifaces, maps, wideKeys, modest, calm, conditions, laid).
  DERIVED. THE GIVEN ROWS OF THIS SEAT. 3 by the template 'for every input the law returns true; each argument reads behind the call as it read before'; 0 by the template 'total and deterministic' (their statements: YtbagleakbbgadaaTotals.lean).
  GIVEN WITH THE SEED: the statements are not yours to turn. If you find one false, say at which input.
  Laid BY PROGRAM, IN A SANDBOX (cutbox-rows.mjs): the forced cells as the released guide's own fill.sh prints them over the translation 840bb648c92bd1cb… (all of the seat's roots in one cut). By AI agents, Wed Nov 11 2026. No macro, syntax, notation, axiom, sorry.
-/
import Derived.Test.YtbagleakbbgadaaChecked
import GoSem.Claim
import GoSem.ClaimJoined
import GoSem.ClaimMapViews
import Derived.JoinedTies
import Derived.KernelRfl
namespace Go.Proofs.Ytbagleakbbgadaa
/- THE CELL 'sum', in the pinned program and in every row, IS THE sha256 OF THE DUMP (.gsa) THAT YtbagleakbbgadaaProg.lean LOADS. Nothing in Lean hashes anything: it is a label: what it is worth is what the hold of that sum in a sandbox is worth. -/
noncomputable def Try.pinned : Pinned := { name := "ytbagleakbbgadaa", sum := "840bb648c92bd1cb66fc53a5e01c3eaa052f112778c1c07341ede428bd4b7a87", checked := Try.checked }
namespace Rows
def none {H : Type} : Left H := { results := [], args := [] }

/-- 'n005_42.FnShouldmoveNeverForEcnone': WHATEVER THE INPUT: true; the input reads as it did. -/
def fnShouldmoveNeverForEcnoneSpec : ChangeSpec := { name := "fnShouldmoveNeverForEcnone", fn := fun _ => fun
  | [d1, d2] => { results := [.lit (.bool true)], args := [d1, d2] }
  | _ => none }
def fnShouldmoveNeverForEcnoneRow : OpenClaim := { program := "ytbagleakbbgadaa", sum := "840bb648c92bd1cb66fc53a5e01c3eaa052f112778c1c07341ede428bd4b7a87", func := "github.com/yuin/gopher-lua/n005_42.FnShouldmoveNeverForEcnone", spec := "fnShouldmoveNeverForEcnone", apart := false }
def FnShouldmoveNeverForEcnoneSaid : Prop := fnShouldmoveNeverForEcnoneRow.holds Try.pinned (OpenSpec.ofChange fnShouldmoveNeverForEcnoneSpec)

/-- ITS FALSE NEIGHBOUR: 'it returns false'. Refute it at one input. -/
def fnShouldmoveNeverForEcnoneWrong : ChangeSpec := { name := "fnShouldmoveNeverForEcnone", fn := fun _ => fun
  | [d1, d2] => { results := [.lit (.bool false)], args := [d1, d2] }
  | _ => none }
def FnShouldmoveNeverForEcnoneWrongFalsely : Prop := fnShouldmoveNeverForEcnoneRow.holds Try.pinned (OpenSpec.ofChange fnShouldmoveNeverForEcnoneWrong)

/-- 'n005_42.FnEcnoneExactFields': WHATEVER THE INPUT: true; the input reads as it did. -/
def fnEcnoneExactFieldsSpec : ChangeSpec := { name := "fnEcnoneExactFields", fn := fun _ => fun
  | [d] => { results := [.lit (.bool true)], args := [d] }
  | _ => none }
def fnEcnoneExactFieldsRow : OpenClaim := { program := "ytbagleakbbgadaa", sum := "840bb648c92bd1cb66fc53a5e01c3eaa052f112778c1c07341ede428bd4b7a87", func := "github.com/yuin/gopher-lua/n005_42.FnEcnoneExactFields", spec := "fnEcnoneExactFields", apart := false }
def FnEcnoneExactFieldsSaid : Prop := fnEcnoneExactFieldsRow.holds Try.pinned (OpenSpec.ofChange fnEcnoneExactFieldsSpec)

/-- ITS FALSE NEIGHBOUR: 'it returns false'. Refute it at one input. -/
def fnEcnoneExactFieldsWrong : ChangeSpec := { name := "fnEcnoneExactFields", fn := fun _ => fun
  | [d] => { results := [.lit (.bool false)], args := [d] }
  | _ => none }
def FnEcnoneExactFieldsWrongFalsely : Prop := fnEcnoneExactFieldsRow.holds Try.pinned (OpenSpec.ofChange fnEcnoneExactFieldsWrong)

/-- 'n005_42.FnEcupdateOnFreshEcnoneLeavesCachesAlone': WHATEVER THE INPUT: true; the input reads as it did. -/
def fnEcupdateOnFreshEcnoneLeavesCachesAloneSpec : ChangeSpec := { name := "fnEcupdateOnFreshEcnoneLeavesCachesAlone", fn := fun _ => fun
  | [d1, d2, d3, d4] => { results := [.lit (.bool true)], args := [d1, d2, d3, d4] }
  | _ => none }
def fnEcupdateOnFreshEcnoneLeavesCachesAloneRow : OpenClaim := { program := "ytbagleakbbgadaa", sum := "840bb648c92bd1cb66fc53a5e01c3eaa052f112778c1c07341ede428bd4b7a87", func := "github.com/yuin/gopher-lua/n005_42.FnEcupdateOnFreshEcnoneLeavesCachesAlone", spec := "fnEcupdateOnFreshEcnoneLeavesCachesAlone", apart := false }
def FnEcupdateOnFreshEcnoneLeavesCachesAloneSaid : Prop := fnEcupdateOnFreshEcnoneLeavesCachesAloneRow.holds Try.pinned (OpenSpec.ofChange fnEcupdateOnFreshEcnoneLeavesCachesAloneSpec)

/-- ITS FALSE NEIGHBOUR: 'it returns false'. Refute it at one input. -/
def fnEcupdateOnFreshEcnoneLeavesCachesAloneWrong : ChangeSpec := { name := "fnEcupdateOnFreshEcnoneLeavesCachesAlone", fn := fun _ => fun
  | [d1, d2, d3, d4] => { results := [.lit (.bool false)], args := [d1, d2, d3, d4] }
  | _ => none }
def FnEcupdateOnFreshEcnoneLeavesCachesAloneWrongFalsely : Prop := fnEcupdateOnFreshEcnoneLeavesCachesAloneRow.holds Try.pinned (OpenSpec.ofChange fnEcupdateOnFreshEcnoneLeavesCachesAloneWrong)

/- THE SECOND FORM. 'bulk': how many values and letters a reading holds, each counted each time it is reached (what is shared counts as often as it is met; a slice's spare places count too). A statement '..UptoSaid' is the law's where the arguments, and the package variables that the reading takes, are together of bulk at most 1048576: NARROWER than '..Said'. Prove '..Said' where nothing that the law and all that it calls make is longer than what came in: it says more and counts as full. Else prove '..UptoSaid'. A law counts once. -/
mutual
def uptoBulk {H : Type} : DataW H → Nat
  | .lit (.string bytes) => bytes.length + 1
  | .lit _ => 1
  | .nil => 1
  | .ptr d => uptoBulk d + 1
  | .slice elems spare => uptoBulkAll elems + uptoBulkAll spare + 1
  | .agg parts => uptoBulkAll parts + 1
  | .iface _ d => uptoBulk d + 1
  | .map entries => uptoBulkEntries entries + 1
  | .held _ => 1
def uptoBulkAll {H : Type} : List (DataW H) → Nat
  | [] => 0
  | d :: r => uptoBulk d + uptoBulkAll r
def uptoBulkEntries {H : Type} : List (Lit × DataW H) → Nat
  | [] => 0
  | x :: r => uptoBulkEntry x + uptoBulkEntries r
def uptoBulkEntry {H : Type} : Lit × DataW H → Nat
  | (.string bytes, d) => bytes.length + uptoBulk d + 1
  | (_, d) => uptoBulk d + 1
 end
def uptoSmall : (H : Type) → List (DataW H) → Bool := fun _ ds => decide (uptoBulkAll ds ≤ 1048576)
def OpenSpec.upto (s : _root_.Go.ChangeSpec) : _root_.Go.OpenSpec := { _root_.Go.OpenSpec.ofChange s with cond := some uptoSmall }

/-- 'n005_42.FnShouldmoveNeverForEcnone', WHERE WHAT IT READS IS OF BULK AT MOST 1048576: true; the input reads as it did. -/
def fnShouldmoveNeverForEcnoneUptoRow : OpenClaim := { program := "ytbagleakbbgadaa", sum := "840bb648c92bd1cb66fc53a5e01c3eaa052f112778c1c07341ede428bd4b7a87", func := "github.com/yuin/gopher-lua/n005_42.FnShouldmoveNeverForEcnone", spec := "fnShouldmoveNeverForEcnone", apart := false, narrowed := true }
def FnShouldmoveNeverForEcnoneUptoSaid : Prop := fnShouldmoveNeverForEcnoneUptoRow.holds Try.pinned (OpenSpec.upto fnShouldmoveNeverForEcnoneSpec)

/-- 'n005_42.FnEcnoneExactFields', WHERE WHAT IT READS IS OF BULK AT MOST 1048576: true; the input reads as it did. -/
def fnEcnoneExactFieldsUptoRow : OpenClaim := { program := "ytbagleakbbgadaa", sum := "840bb648c92bd1cb66fc53a5e01c3eaa052f112778c1c07341ede428bd4b7a87", func := "github.com/yuin/gopher-lua/n005_42.FnEcnoneExactFields", spec := "fnEcnoneExactFields", apart := false, narrowed := true }
def FnEcnoneExactFieldsUptoSaid : Prop := fnEcnoneExactFieldsUptoRow.holds Try.pinned (OpenSpec.upto fnEcnoneExactFieldsSpec)

/-- 'n005_42.FnEcupdateOnFreshEcnoneLeavesCachesAlone', WHERE WHAT IT READS IS OF BULK AT MOST 1048576: true; the input reads as it did. -/
def fnEcupdateOnFreshEcnoneLeavesCachesAloneUptoRow : OpenClaim := { program := "ytbagleakbbgadaa", sum := "840bb648c92bd1cb66fc53a5e01c3eaa052f112778c1c07341ede428bd4b7a87", func := "github.com/yuin/gopher-lua/n005_42.FnEcupdateOnFreshEcnoneLeavesCachesAlone", spec := "fnEcupdateOnFreshEcnoneLeavesCachesAlone", apart := false, narrowed := true }
def FnEcupdateOnFreshEcnoneLeavesCachesAloneUptoSaid : Prop := fnEcupdateOnFreshEcnoneLeavesCachesAloneUptoRow.holds Try.pinned (OpenSpec.upto fnEcupdateOnFreshEcnoneLeavesCachesAloneSpec)

end Rows
end Go.Proofs.Ytbagleakbbgadaa
