/-
  DERIVED. GIVEN WITH THE SEED: THE CARDS: each row of YtnamkpkdkojhjaaDoorRows.lean that lists a variable, with what it lists TIED to the program's text (the seventh form; the later family's looks); each row that meets fmt, with fmt's text TOLD by the authors' own Lean function (tested against real Go, not proved from fmt's source: count such statements apart). THE CARD IS WHAT COUNTS. Prove the row's statement (the work); the ties are given (YtnamkpkdkojhjaaDoorTie.lean); close each card by the builder's one call (the guide's Derived/Test/ToyasCard.lean, 'card_holds'). Laid BY PROGRAM, IN A SANDBOX (cutbox-door.mjs). By AI agents, Wed Nov 11 2026. No macro, syntax, notation, axiom, sorry.
-/
import Derived.Test.YtnamkpkdkojhjaaDoorRows
import GoSem.ClaimSeven
namespace Go.Proofs.YtnamkpkdkojhjaaDoor
namespace Rows

/-- THE TIED CARD OF 'n005_165.FnReadBufioSizeReturnsPrefix'. -/
def fnReadBufioSizeReturnsPrefixCard : Claim7 := { stood := { row := fnReadBufioSizeReturnsPrefixRow, standIns := [], harness := (true, "f30ca49eeff1991409de9d309093cef45b6f6377f4d0428b9e0ac220d4324882"), looks := true }, kinds := [], alts := [], laidByText := true, laidKinds := [.sentinel, .sentinel], laidTests := true, laidLooks := .later }
def FnReadBufioSizeReturnsPrefixCardSaid : Prop := Claim7.holds Tryd.pinned (.plain (OpenSpec.ofChange fnReadBufioSizeReturnsPrefixSpec)) fnReadBufioSizeReturnsPrefixCard

/-- THE TIED CARD OF 'n005_165.FnReadBufioLineReturnsFirstLine'. -/
def fnReadBufioLineReturnsFirstLineCard : Claim7 := { stood := { row := fnReadBufioLineReturnsFirstLineRow, standIns := [], harness := (true, "f30ca49eeff1991409de9d309093cef45b6f6377f4d0428b9e0ac220d4324882"), looks := true }, kinds := [], alts := [], laidByText := true, laidKinds := [.sentinel, .sentinel, .sentinel, .sentinel], laidTests := true, laidLooks := .later }
def FnReadBufioLineReturnsFirstLineCardSaid : Prop := Claim7.holds Tryd.pinned (.plain (OpenSpec.ofChange fnReadBufioLineReturnsFirstLineSpec)) fnReadBufioLineReturnsFirstLineCard

/-- THE TIED CARD OF 'n005_165.FnReadBufioSizeChunksReassemble'. -/
def fnReadBufioSizeChunksReassembleCard : Claim7 := { stood := { row := fnReadBufioSizeChunksReassembleRow, standIns := [], harness := (true, "f30ca49eeff1991409de9d309093cef45b6f6377f4d0428b9e0ac220d4324882"), looks := true }, kinds := [], alts := [], laidByText := true, laidKinds := [.sentinel, .sentinel], laidTests := true, laidLooks := .later }
def FnReadBufioSizeChunksReassembleCardSaid : Prop := Claim7.holds Tryd.pinned (.plain (OpenSpec.ofChange fnReadBufioSizeChunksReassembleSpec)) fnReadBufioSizeChunksReassembleCard

/-- THE TIED CARD OF 'n005_165.FnReadBufioLineSplitsOnNewlines'. -/
def fnReadBufioLineSplitsOnNewlinesCard : Claim7 := { stood := { row := fnReadBufioLineSplitsOnNewlinesRow, standIns := [], harness := (true, "f30ca49eeff1991409de9d309093cef45b6f6377f4d0428b9e0ac220d4324882"), looks := true }, kinds := [], alts := [], laidByText := true, laidKinds := [.sentinel, .sentinel, .sentinel, .sentinel], laidTests := true, laidLooks := .later }
def FnReadBufioLineSplitsOnNewlinesCardSaid : Prop := Claim7.holds Tryd.pinned (.plain (OpenSpec.ofChange fnReadBufioLineSplitsOnNewlinesSpec)) fnReadBufioLineSplitsOnNewlinesCard

/-- THE SECOND FORM's CARD OF 'n005_165.FnReadBufioSizeReturnsPrefix'. -/
def fnReadBufioSizeReturnsPrefixUptoCard : Claim7 := { stood := { row := fnReadBufioSizeReturnsPrefixUptoRow, standIns := [], harness := (true, "f30ca49eeff1991409de9d309093cef45b6f6377f4d0428b9e0ac220d4324882"), looks := true }, kinds := [], alts := [], laidByText := true, laidKinds := [.sentinel, .sentinel], laidTests := true, laidLooks := .later }
def FnReadBufioSizeReturnsPrefixUptoCardSaid : Prop := Claim7.holds Tryd.pinned (.plain (OpenSpec.upto fnReadBufioSizeReturnsPrefixSpec)) fnReadBufioSizeReturnsPrefixUptoCard

/-- THE SECOND FORM's CARD OF 'n005_165.FnReadBufioLineReturnsFirstLine'. -/
def fnReadBufioLineReturnsFirstLineUptoCard : Claim7 := { stood := { row := fnReadBufioLineReturnsFirstLineUptoRow, standIns := [], harness := (true, "f30ca49eeff1991409de9d309093cef45b6f6377f4d0428b9e0ac220d4324882"), looks := true }, kinds := [], alts := [], laidByText := true, laidKinds := [.sentinel, .sentinel, .sentinel, .sentinel], laidTests := true, laidLooks := .later }
def FnReadBufioLineReturnsFirstLineUptoCardSaid : Prop := Claim7.holds Tryd.pinned (.plain (OpenSpec.upto fnReadBufioLineReturnsFirstLineSpec)) fnReadBufioLineReturnsFirstLineUptoCard

/-- THE SECOND FORM's CARD OF 'n005_165.FnReadBufioSizeChunksReassemble'. -/
def fnReadBufioSizeChunksReassembleUptoCard : Claim7 := { stood := { row := fnReadBufioSizeChunksReassembleUptoRow, standIns := [], harness := (true, "f30ca49eeff1991409de9d309093cef45b6f6377f4d0428b9e0ac220d4324882"), looks := true }, kinds := [], alts := [], laidByText := true, laidKinds := [.sentinel, .sentinel], laidTests := true, laidLooks := .later }
def FnReadBufioSizeChunksReassembleUptoCardSaid : Prop := Claim7.holds Tryd.pinned (.plain (OpenSpec.upto fnReadBufioSizeChunksReassembleSpec)) fnReadBufioSizeChunksReassembleUptoCard

/-- THE SECOND FORM's CARD OF 'n005_165.FnReadBufioLineSplitsOnNewlines'. -/
def fnReadBufioLineSplitsOnNewlinesUptoCard : Claim7 := { stood := { row := fnReadBufioLineSplitsOnNewlinesUptoRow, standIns := [], harness := (true, "f30ca49eeff1991409de9d309093cef45b6f6377f4d0428b9e0ac220d4324882"), looks := true }, kinds := [], alts := [], laidByText := true, laidKinds := [.sentinel, .sentinel, .sentinel, .sentinel], laidTests := true, laidLooks := .later }
def FnReadBufioLineSplitsOnNewlinesUptoCardSaid : Prop := Claim7.holds Tryd.pinned (.plain (OpenSpec.upto fnReadBufioLineSplitsOnNewlinesSpec)) fnReadBufioLineSplitsOnNewlinesUptoCard
end Rows
end Go.Proofs.YtnamkpkdkojhjaaDoor
