/-
  DERIVED. GIVEN WITH THE SEED: THE CARDS: each row of YtfbenlenihlpbaaDoorRows.lean that lists a variable, with what it lists TIED to the program's text (the seventh form; the later family's looks); each row that meets fmt, with fmt's text TOLD by the authors' own Lean function (tested against real Go, not proved from fmt's source: count such statements apart). THE CARD IS WHAT COUNTS. Prove the row's statement (the work); the ties are given (YtfbenlenihlpbaaDoorTie.lean); close each card by the builder's one call (the guide's Derived/Test/ToyasCard.lean, 'card_holds'). Laid BY PROGRAM, IN A SANDBOX (cutbox-door.mjs). By AI agents, Wed Nov 11 2026. No macro, syntax, notation, axiom, sorry.
-/
import Derived.Test.YtfbenlenihlpbaaDoorRows
import GoSem.ClaimSeven
namespace Go.Proofs.YtfbenlenihlpbaaDoor
namespace Rows

/-- THE TIED CARD OF 'laws.FnRangeRead'. -/
def fnRangeReadCard : Claim7 := { stood := { row := fnRangeReadRow, standIns := [], harness := (true, "175e7e10e7de5726bd20819973e96487a4c5cade6e55858cd9118ce82cf587a5"), looks := true }, kinds := [], alts := [], laidByText := true, laidKinds := [.data, .data, .data, .data, .sentinel, .sentinel, .sentinel, .sentinel, .sentinel, .pinned], laidTests := true, laidLooks := .later }
def FnRangeReadCardSaid : Prop := Claim7.holds Tryd.pinned (.plain (OpenSpec.ofChange fnRangeReadSpec)) fnRangeReadCard

/-- THE TIED CARD OF 'laws.FnOverlap'. -/
def fnOverlapCard : Claim7 := { stood := { row := fnOverlapRow, standIns := [], harness := (true, "175e7e10e7de5726bd20819973e96487a4c5cade6e55858cd9118ce82cf587a5"), looks := true }, kinds := [], alts := [], laidByText := true, laidKinds := [.data, .data, .data, .data, .sentinel, .sentinel, .sentinel, .sentinel, .sentinel, .pinned], laidTests := true, laidLooks := .later }
def FnOverlapCardSaid : Prop := Claim7.holds Tryd.pinned (.plain (OpenSpec.ofChange fnOverlapSpec)) fnOverlapCard

/-- THE TIED CARD OF 'laws.FnCols'. -/
def fnColsCard : Claim7 := { stood := { row := fnColsRow, standIns := [], harness := (true, "175e7e10e7de5726bd20819973e96487a4c5cade6e55858cd9118ce82cf587a5"), looks := true }, kinds := [], alts := [], laidByText := true, laidKinds := [.data, .data, .data, .data, .sentinel, .sentinel, .sentinel, .sentinel, .sentinel, .pinned], laidTests := true, laidLooks := .later }
def FnColsCardSaid : Prop := Claim7.holds Tryd.pinned (.plain (OpenSpec.ofChange fnColsSpec)) fnColsCard

/-- THE TIED CARD OF 'laws.FnSquash'. -/
def fnSquashCard : Claim7 := { stood := { row := fnSquashRow, standIns := [], harness := (true, "175e7e10e7de5726bd20819973e96487a4c5cade6e55858cd9118ce82cf587a5"), looks := true }, kinds := [], alts := [], laidByText := true, laidKinds := [.data, .data, .data, .data, .sentinel, .sentinel, .sentinel, .sentinel, .sentinel, .sentinel, .pinned], laidTests := true, laidLooks := .later }
def FnSquashCardSaid : Prop := Claim7.holds Tryd.pinned (.plain (OpenSpec.ofChange fnSquashSpec)) fnSquashCard

/-- THE TIED CARD OF 'laws.FnAdjustRef'. -/
def fnAdjustRefCard : Claim7 := { stood := { row := fnAdjustRefRow, standIns := [], harness := (true, "175e7e10e7de5726bd20819973e96487a4c5cade6e55858cd9118ce82cf587a5"), looks := true }, kinds := [], alts := [], laidByText := true, laidKinds := [.data, .data, .data, .data, .sentinel, .sentinel, .sentinel, .sentinel, .sentinel, .sentinel, .pinned], laidTests := true, laidLooks := .later }
def FnAdjustRefCardSaid : Prop := Claim7.holds Tryd.pinned (.plain (OpenSpec.ofChange fnAdjustRefSpec)) fnAdjustRefCard

/-- THE TIED CARD OF 'laws.FnAdjustOperand'. -/
def fnAdjustOperandCard : Claim7 := { stood := { row := fnAdjustOperandRow, standIns := [], harness := (true, "175e7e10e7de5726bd20819973e96487a4c5cade6e55858cd9118ce82cf587a5"), looks := true }, kinds := [], alts := [], laidByText := true, laidKinds := [.data, .data, .data, .data, .sentinel, .sentinel, .data, .sentinel, .sentinel, .sentinel, .pinned, .pinned, .pinned], laidTests := true, laidLooks := .later }
def FnAdjustOperandCardSaid : Prop := Claim7.holds Tryd.pinned (.plain (OpenSpec.ofChange fnAdjustOperandSpec)) fnAdjustOperandCard

/-- THE TIED CARD OF 'laws.FnRename'. -/
def fnRenameCard : Claim7 := { stood := { row := fnRenameRow, standIns := [], harness := (true, "175e7e10e7de5726bd20819973e96487a4c5cade6e55858cd9118ce82cf587a5"), looks := true }, kinds := [], alts := [], laidByText := true, laidKinds := [.data, .data, .data, .data, .sentinel, .sentinel, .data, .sentinel, .sentinel, .sentinel, .pinned, .pinned, .pinned], laidTests := true, laidLooks := .later }
def FnRenameCardSaid : Prop := Claim7.holds Tryd.pinned (.plain (OpenSpec.ofChange fnRenameSpec)) fnRenameCard

/-- THE SECOND FORM's CARD OF 'laws.FnRangeRead'. -/
def fnRangeReadUptoCard : Claim7 := { stood := { row := fnRangeReadUptoRow, standIns := [], harness := (true, "175e7e10e7de5726bd20819973e96487a4c5cade6e55858cd9118ce82cf587a5"), looks := true }, kinds := [], alts := [], laidByText := true, laidKinds := [.data, .data, .data, .data, .sentinel, .sentinel, .sentinel, .sentinel, .sentinel, .pinned], laidTests := true, laidLooks := .later }
def FnRangeReadUptoCardSaid : Prop := Claim7.holds Tryd.pinned (.plain (OpenSpec.upto fnRangeReadSpec)) fnRangeReadUptoCard

/-- THE SECOND FORM's CARD OF 'laws.FnOverlap'. -/
def fnOverlapUptoCard : Claim7 := { stood := { row := fnOverlapUptoRow, standIns := [], harness := (true, "175e7e10e7de5726bd20819973e96487a4c5cade6e55858cd9118ce82cf587a5"), looks := true }, kinds := [], alts := [], laidByText := true, laidKinds := [.data, .data, .data, .data, .sentinel, .sentinel, .sentinel, .sentinel, .sentinel, .pinned], laidTests := true, laidLooks := .later }
def FnOverlapUptoCardSaid : Prop := Claim7.holds Tryd.pinned (.plain (OpenSpec.upto fnOverlapSpec)) fnOverlapUptoCard

/-- THE SECOND FORM's CARD OF 'laws.FnCols'. -/
def fnColsUptoCard : Claim7 := { stood := { row := fnColsUptoRow, standIns := [], harness := (true, "175e7e10e7de5726bd20819973e96487a4c5cade6e55858cd9118ce82cf587a5"), looks := true }, kinds := [], alts := [], laidByText := true, laidKinds := [.data, .data, .data, .data, .sentinel, .sentinel, .sentinel, .sentinel, .sentinel, .pinned], laidTests := true, laidLooks := .later }
def FnColsUptoCardSaid : Prop := Claim7.holds Tryd.pinned (.plain (OpenSpec.upto fnColsSpec)) fnColsUptoCard

/-- THE SECOND FORM's CARD OF 'laws.FnSquash'. -/
def fnSquashUptoCard : Claim7 := { stood := { row := fnSquashUptoRow, standIns := [], harness := (true, "175e7e10e7de5726bd20819973e96487a4c5cade6e55858cd9118ce82cf587a5"), looks := true }, kinds := [], alts := [], laidByText := true, laidKinds := [.data, .data, .data, .data, .sentinel, .sentinel, .sentinel, .sentinel, .sentinel, .sentinel, .pinned], laidTests := true, laidLooks := .later }
def FnSquashUptoCardSaid : Prop := Claim7.holds Tryd.pinned (.plain (OpenSpec.upto fnSquashSpec)) fnSquashUptoCard

/-- THE SECOND FORM's CARD OF 'laws.FnAdjustRef'. -/
def fnAdjustRefUptoCard : Claim7 := { stood := { row := fnAdjustRefUptoRow, standIns := [], harness := (true, "175e7e10e7de5726bd20819973e96487a4c5cade6e55858cd9118ce82cf587a5"), looks := true }, kinds := [], alts := [], laidByText := true, laidKinds := [.data, .data, .data, .data, .sentinel, .sentinel, .sentinel, .sentinel, .sentinel, .sentinel, .pinned], laidTests := true, laidLooks := .later }
def FnAdjustRefUptoCardSaid : Prop := Claim7.holds Tryd.pinned (.plain (OpenSpec.upto fnAdjustRefSpec)) fnAdjustRefUptoCard

/-- THE SECOND FORM's CARD OF 'laws.FnAdjustOperand'. -/
def fnAdjustOperandUptoCard : Claim7 := { stood := { row := fnAdjustOperandUptoRow, standIns := [], harness := (true, "175e7e10e7de5726bd20819973e96487a4c5cade6e55858cd9118ce82cf587a5"), looks := true }, kinds := [], alts := [], laidByText := true, laidKinds := [.data, .data, .data, .data, .sentinel, .sentinel, .data, .sentinel, .sentinel, .sentinel, .pinned, .pinned, .pinned], laidTests := true, laidLooks := .later }
def FnAdjustOperandUptoCardSaid : Prop := Claim7.holds Tryd.pinned (.plain (OpenSpec.upto fnAdjustOperandSpec)) fnAdjustOperandUptoCard

/-- THE SECOND FORM's CARD OF 'laws.FnRename'. -/
def fnRenameUptoCard : Claim7 := { stood := { row := fnRenameUptoRow, standIns := [], harness := (true, "175e7e10e7de5726bd20819973e96487a4c5cade6e55858cd9118ce82cf587a5"), looks := true }, kinds := [], alts := [], laidByText := true, laidKinds := [.data, .data, .data, .data, .sentinel, .sentinel, .data, .sentinel, .sentinel, .sentinel, .pinned, .pinned, .pinned], laidTests := true, laidLooks := .later }
def FnRenameUptoCardSaid : Prop := Claim7.holds Tryd.pinned (.plain (OpenSpec.upto fnRenameSpec)) fnRenameUptoCard
end Rows
end Go.Proofs.YtfbenlenihlpbaaDoor
