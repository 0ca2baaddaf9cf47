/-
  NARROWER THAN 'FOR EVERY INPUT', by the rows' own cells (each row's printed sentence says how): FnReadBufioSizeReturnsPrefix: laid · FnReadBufioLineReturnsFirstLine: laid · FnReadBufioSizeChunksReassemble: laid · FnReadBufioLineSplitsOnNewlines: laid.
  DERIVED. THE GIVEN ROWS OF THIS SEAT. 4 by the template 'for every input the law returns true; each argument reads behind the call as it read before'; 0 by the template 'total and deterministic' (their statements: YtnamkpkdkojhjaaDoorTotals.lean).
  GIVEN WITH THE SEED: the statements are not yours to turn. If you find one false, say at which input.
  Laid BY PROGRAM, IN A SANDBOX (cutbox-rows.mjs): the forced cells as the released guide's own fill.sh prints them over the translation 82228d506fdc599f… (all of the seat's roots in one cut). By AI agents, Wed Nov 11 2026. No macro, syntax, notation, axiom, sorry.
-/
import Derived.Test.YtnamkpkdkojhjaaDoorChecked
import GoSem.Claim
import GoSem.ClaimJoined
import GoSem.ClaimMapViews
import Derived.JoinedTies
import Derived.KernelRfl
namespace Go.Proofs.YtnamkpkdkojhjaaDoor
/- THE CELL 'sum', in the pinned program and in every row, IS THE sha256 OF THE DUMP (.gsa) THAT YtnamkpkdkojhjaaDoorProg.lean LOADS. Nothing in Lean hashes anything: it is a label: what it is worth is what the hold of that sum in a sandbox is worth. -/
noncomputable def Tryd.pinned : Pinned := { name := "ytnamkpkdkojhjaadoor", sum := "82228d506fdc599f3e1b2f9802e6164cb071a600e5bd1d26f22cb2540f1c9b78", checked := Tryd.checked }
namespace Rows
def none {H : Type} : Left H := { results := [], args := [] }

/- WHAT THE LISTED PACKAGE-LEVEL VARIABLES READ AS WHEN THE CALL BEGINS. Each datum BY PROGRAM (the guide's laid-datum.mjs) off the statement by which the dump's own 'gosem.cut.vars' lays the variable. In a bare row this is a premise. The card (YtnamkpkdkojhjaaDoorCards.lean) ties it to the program's text. -/
def laid_io_EOF {H : Type} : DataW H := .iface "*errors.errorString" (.ptr (.agg [.lit (.string [69, 79, 70])]))
def laid_bufio_errNegativeRead {H : Type} : DataW H := .iface "*errors.errorString" (.ptr (.agg [.lit (.string [98, 117, 102, 105, 111, 58, 32, 114, 101, 97, 100, 101, 114, 32, 114, 101, 116, 117, 114, 110, 101, 100, 32, 110, 101, 103, 97, 116, 105, 118, 101, 32, 99, 111, 117, 110, 116, 32, 102, 114, 111, 109, 32, 82, 101, 97, 100])]))
def laid_io_ErrNoProgress {H : Type} : DataW H := .iface "*errors.errorString" (.ptr (.agg [.lit (.string [109, 117, 108, 116, 105, 112, 108, 101, 32, 82, 101, 97, 100, 32, 99, 97, 108, 108, 115, 32, 114, 101, 116, 117, 114, 110, 32, 110, 111, 32, 100, 97, 116, 97, 32, 111, 114, 32, 101, 114, 114, 111, 114])]))
def laid_bufio_ErrBufferFull {H : Type} : DataW H := .iface "*errors.errorString" (.ptr (.agg [.lit (.string [98, 117, 102, 105, 111, 58, 32, 98, 117, 102, 102, 101, 114, 32, 102, 117, 108, 108])]))

/-- 'n005_165.FnReadBufioSizeReturnsPrefix': WHATEVER THE INPUT: true; the input reads as it did. -/
def fnReadBufioSizeReturnsPrefixSpec : ChangeSpec := { name := "fnReadBufioSizeReturnsPrefix", fn := fun _ => fun
  | [d1, d2] => { results := [.lit (.bool true)], args := [d1, d2] }
  | _ => none }
def fnReadBufioSizeReturnsPrefixRow : OpenClaim := { program := "ytnamkpkdkojhjaadoor", sum := "82228d506fdc599f3e1b2f9802e6164cb071a600e5bd1d26f22cb2540f1c9b78", func := "github.com/yuin/gopher-lua/n005_165.FnReadBufioSizeReturnsPrefix", spec := "fnReadBufioSizeReturnsPrefix", unfollowed := true, recurses := true, named := ["io.EOF", "bufio.errNegativeRead"], apart := false, laid := [("io.EOF", laid_io_EOF), ("bufio.errNegativeRead", laid_bufio_errNegativeRead)] }
def FnReadBufioSizeReturnsPrefixSaid : Prop := fnReadBufioSizeReturnsPrefixRow.holds Tryd.pinned (OpenSpec.ofChange fnReadBufioSizeReturnsPrefixSpec)

/-- ITS FALSE NEIGHBOUR: 'it returns false'. Refute it at one input. -/
def fnReadBufioSizeReturnsPrefixWrong : ChangeSpec := { name := "fnReadBufioSizeReturnsPrefix", fn := fun _ => fun
  | [d1, d2] => { results := [.lit (.bool false)], args := [d1, d2] }
  | _ => none }
def FnReadBufioSizeReturnsPrefixWrongFalsely : Prop := fnReadBufioSizeReturnsPrefixRow.holds Tryd.pinned (OpenSpec.ofChange fnReadBufioSizeReturnsPrefixWrong)

/-- 'n005_165.FnReadBufioLineReturnsFirstLine': WHATEVER THE INPUT: true; the input reads as it did. -/
def fnReadBufioLineReturnsFirstLineSpec : ChangeSpec := { name := "fnReadBufioLineReturnsFirstLine", fn := fun _ => fun
  | [d] => { results := [.lit (.bool true)], args := [d] }
  | _ => none }
def fnReadBufioLineReturnsFirstLineRow : OpenClaim := { program := "ytnamkpkdkojhjaadoor", sum := "82228d506fdc599f3e1b2f9802e6164cb071a600e5bd1d26f22cb2540f1c9b78", func := "github.com/yuin/gopher-lua/n005_165.FnReadBufioLineReturnsFirstLine", spec := "fnReadBufioLineReturnsFirstLine", inPlace := ["internal/bytealg.IndexByte"], unfollowed := true, recurses := true, named := ["io.EOF", "bufio.ErrBufferFull", "bufio.errNegativeRead", "io.ErrNoProgress"], apart := false, laid := [("io.EOF", laid_io_EOF), ("io.ErrNoProgress", laid_io_ErrNoProgress), ("bufio.ErrBufferFull", laid_bufio_ErrBufferFull), ("bufio.errNegativeRead", laid_bufio_errNegativeRead)] }
def FnReadBufioLineReturnsFirstLineSaid : Prop := fnReadBufioLineReturnsFirstLineRow.holds Tryd.pinned (OpenSpec.ofChange fnReadBufioLineReturnsFirstLineSpec)

/-- ITS FALSE NEIGHBOUR: 'it returns false'. Refute it at one input. -/
def fnReadBufioLineReturnsFirstLineWrong : ChangeSpec := { name := "fnReadBufioLineReturnsFirstLine", fn := fun _ => fun
  | [d] => { results := [.lit (.bool false)], args := [d] }
  | _ => none }
def FnReadBufioLineReturnsFirstLineWrongFalsely : Prop := fnReadBufioLineReturnsFirstLineRow.holds Tryd.pinned (OpenSpec.ofChange fnReadBufioLineReturnsFirstLineWrong)

/-- 'n005_165.FnReadBufioSizeChunksReassemble': WHATEVER THE INPUT: true; the input reads as it did. -/
def fnReadBufioSizeChunksReassembleSpec : ChangeSpec := { name := "fnReadBufioSizeChunksReassemble", fn := fun _ => fun
  | [d1, d2] => { results := [.lit (.bool true)], args := [d1, d2] }
  | _ => none }
def fnReadBufioSizeChunksReassembleRow : OpenClaim := { program := "ytnamkpkdkojhjaadoor", sum := "82228d506fdc599f3e1b2f9802e6164cb071a600e5bd1d26f22cb2540f1c9b78", func := "github.com/yuin/gopher-lua/n005_165.FnReadBufioSizeChunksReassemble", spec := "fnReadBufioSizeChunksReassemble", unfollowed := true, recurses := true, named := ["io.EOF", "bufio.errNegativeRead"], apart := false, laid := [("io.EOF", laid_io_EOF), ("bufio.errNegativeRead", laid_bufio_errNegativeRead)] }
def FnReadBufioSizeChunksReassembleSaid : Prop := fnReadBufioSizeChunksReassembleRow.holds Tryd.pinned (OpenSpec.ofChange fnReadBufioSizeChunksReassembleSpec)

/-- ITS FALSE NEIGHBOUR: 'it returns false'. Refute it at one input. -/
def fnReadBufioSizeChunksReassembleWrong : ChangeSpec := { name := "fnReadBufioSizeChunksReassemble", fn := fun _ => fun
  | [d1, d2] => { results := [.lit (.bool false)], args := [d1, d2] }
  | _ => none }
def FnReadBufioSizeChunksReassembleWrongFalsely : Prop := fnReadBufioSizeChunksReassembleRow.holds Tryd.pinned (OpenSpec.ofChange fnReadBufioSizeChunksReassembleWrong)

/-- 'n005_165.FnReadBufioLineSplitsOnNewlines': WHATEVER THE INPUT: true; the input reads as it did. -/
def fnReadBufioLineSplitsOnNewlinesSpec : ChangeSpec := { name := "fnReadBufioLineSplitsOnNewlines", fn := fun _ => fun
  | [d] => { results := [.lit (.bool true)], args := [d] }
  | _ => none }
def fnReadBufioLineSplitsOnNewlinesRow : OpenClaim := { program := "ytnamkpkdkojhjaadoor", sum := "82228d506fdc599f3e1b2f9802e6164cb071a600e5bd1d26f22cb2540f1c9b78", func := "github.com/yuin/gopher-lua/n005_165.FnReadBufioLineSplitsOnNewlines", spec := "fnReadBufioLineSplitsOnNewlines", inPlace := ["internal/bytealg.IndexByte"], unfollowed := true, recurses := true, named := ["io.EOF", "bufio.ErrBufferFull", "bufio.errNegativeRead", "io.ErrNoProgress"], apart := false, laid := [("io.EOF", laid_io_EOF), ("io.ErrNoProgress", laid_io_ErrNoProgress), ("bufio.ErrBufferFull", laid_bufio_ErrBufferFull), ("bufio.errNegativeRead", laid_bufio_errNegativeRead)] }
def FnReadBufioLineSplitsOnNewlinesSaid : Prop := fnReadBufioLineSplitsOnNewlinesRow.holds Tryd.pinned (OpenSpec.ofChange fnReadBufioLineSplitsOnNewlinesSpec)

/-- ITS FALSE NEIGHBOUR: 'it returns false'. Refute it at one input. -/
def fnReadBufioLineSplitsOnNewlinesWrong : ChangeSpec := { name := "fnReadBufioLineSplitsOnNewlines", fn := fun _ => fun
  | [d] => { results := [.lit (.bool false)], args := [d] }
  | _ => none }
def FnReadBufioLineSplitsOnNewlinesWrongFalsely : Prop := fnReadBufioLineSplitsOnNewlinesRow.holds Tryd.pinned (OpenSpec.ofChange fnReadBufioLineSplitsOnNewlinesWrong)

/- THE SECOND FORM. 'bulk': how many values and letters a reading holds, each counted each time it is reached (what is shared counts as often as it is met; a slice's spare places count too). A statement '..UptoSaid' is the law's where the arguments, and the package variables that the reading takes, are together of bulk at most 1048576: NARROWER than '..Said'. Prove '..Said' where nothing that the law and all that it calls make is longer than what came in: it says more and counts as full. Else prove '..UptoSaid'. A law counts once. -/
mutual
def uptoBulk {H : Type} : DataW H → Nat
  | .lit (.string bytes) => bytes.length + 1
  | .lit _ => 1
  | .nil => 1
  | .ptr d => uptoBulk d + 1
  | .slice elems spare => uptoBulkAll elems + uptoBulkAll spare + 1
  | .agg parts => uptoBulkAll parts + 1
  | .iface _ d => uptoBulk d + 1
  | .map entries => uptoBulkEntries entries + 1
  | .held _ => 1
def uptoBulkAll {H : Type} : List (DataW H) → Nat
  | [] => 0
  | d :: r => uptoBulk d + uptoBulkAll r
def uptoBulkEntries {H : Type} : List (Lit × DataW H) → Nat
  | [] => 0
  | x :: r => uptoBulkEntry x + uptoBulkEntries r
def uptoBulkEntry {H : Type} : Lit × DataW H → Nat
  | (.string bytes, d) => bytes.length + uptoBulk d + 1
  | (_, d) => uptoBulk d + 1
 end
def uptoSmall : (H : Type) → List (DataW H) → Bool := fun _ ds => decide (uptoBulkAll ds ≤ 1048576)
def OpenSpec.upto (s : _root_.Go.ChangeSpec) : _root_.Go.OpenSpec := { _root_.Go.OpenSpec.ofChange s with cond := some uptoSmall }

/-- 'n005_165.FnReadBufioSizeReturnsPrefix', WHERE WHAT IT READS IS OF BULK AT MOST 1048576: true; the input reads as it did. -/
def fnReadBufioSizeReturnsPrefixUptoRow : OpenClaim := { program := "ytnamkpkdkojhjaadoor", sum := "82228d506fdc599f3e1b2f9802e6164cb071a600e5bd1d26f22cb2540f1c9b78", func := "github.com/yuin/gopher-lua/n005_165.FnReadBufioSizeReturnsPrefix", spec := "fnReadBufioSizeReturnsPrefix", unfollowed := true, recurses := true, named := ["io.EOF", "bufio.errNegativeRead"], apart := false, laid := [("io.EOF", laid_io_EOF), ("bufio.errNegativeRead", laid_bufio_errNegativeRead)], narrowed := true }
def FnReadBufioSizeReturnsPrefixUptoSaid : Prop := fnReadBufioSizeReturnsPrefixUptoRow.holds Tryd.pinned (OpenSpec.upto fnReadBufioSizeReturnsPrefixSpec)

/-- 'n005_165.FnReadBufioLineReturnsFirstLine', WHERE WHAT IT READS IS OF BULK AT MOST 1048576: true; the input reads as it did. -/
def fnReadBufioLineReturnsFirstLineUptoRow : OpenClaim := { program := "ytnamkpkdkojhjaadoor", sum := "82228d506fdc599f3e1b2f9802e6164cb071a600e5bd1d26f22cb2540f1c9b78", func := "github.com/yuin/gopher-lua/n005_165.FnReadBufioLineReturnsFirstLine", spec := "fnReadBufioLineReturnsFirstLine", inPlace := ["internal/bytealg.IndexByte"], unfollowed := true, recurses := true, named := ["io.EOF", "bufio.ErrBufferFull", "bufio.errNegativeRead", "io.ErrNoProgress"], apart := false, laid := [("io.EOF", laid_io_EOF), ("io.ErrNoProgress", laid_io_ErrNoProgress), ("bufio.ErrBufferFull", laid_bufio_ErrBufferFull), ("bufio.errNegativeRead", laid_bufio_errNegativeRead)], narrowed := true }
def FnReadBufioLineReturnsFirstLineUptoSaid : Prop := fnReadBufioLineReturnsFirstLineUptoRow.holds Tryd.pinned (OpenSpec.upto fnReadBufioLineReturnsFirstLineSpec)

/-- 'n005_165.FnReadBufioSizeChunksReassemble', WHERE WHAT IT READS IS OF BULK AT MOST 1048576: true; the input reads as it did. -/
def fnReadBufioSizeChunksReassembleUptoRow : OpenClaim := { program := "ytnamkpkdkojhjaadoor", sum := "82228d506fdc599f3e1b2f9802e6164cb071a600e5bd1d26f22cb2540f1c9b78", func := "github.com/yuin/gopher-lua/n005_165.FnReadBufioSizeChunksReassemble", spec := "fnReadBufioSizeChunksReassemble", unfollowed := true, recurses := true, named := ["io.EOF", "bufio.errNegativeRead"], apart := false, laid := [("io.EOF", laid_io_EOF), ("bufio.errNegativeRead", laid_bufio_errNegativeRead)], narrowed := true }
def FnReadBufioSizeChunksReassembleUptoSaid : Prop := fnReadBufioSizeChunksReassembleUptoRow.holds Tryd.pinned (OpenSpec.upto fnReadBufioSizeChunksReassembleSpec)

/-- 'n005_165.FnReadBufioLineSplitsOnNewlines', WHERE WHAT IT READS IS OF BULK AT MOST 1048576: true; the input reads as it did. -/
def fnReadBufioLineSplitsOnNewlinesUptoRow : OpenClaim := { program := "ytnamkpkdkojhjaadoor", sum := "82228d506fdc599f3e1b2f9802e6164cb071a600e5bd1d26f22cb2540f1c9b78", func := "github.com/yuin/gopher-lua/n005_165.FnReadBufioLineSplitsOnNewlines", spec := "fnReadBufioLineSplitsOnNewlines", inPlace := ["internal/bytealg.IndexByte"], unfollowed := true, recurses := true, named := ["io.EOF", "bufio.ErrBufferFull", "bufio.errNegativeRead", "io.ErrNoProgress"], apart := false, laid := [("io.EOF", laid_io_EOF), ("io.ErrNoProgress", laid_io_ErrNoProgress), ("bufio.ErrBufferFull", laid_bufio_ErrBufferFull), ("bufio.errNegativeRead", laid_bufio_errNegativeRead)], narrowed := true }
def FnReadBufioLineSplitsOnNewlinesUptoSaid : Prop := fnReadBufioLineSplitsOnNewlinesUptoRow.holds Tryd.pinned (OpenSpec.upto fnReadBufioLineSplitsOnNewlinesSpec)

end Rows
end Go.Proofs.YtnamkpkdkojhjaaDoor
