/-
  DERIVED. GIVEN WITH THE SEED: THE CARDS: each row of YtjefbpfpobgmaaaDoorRows.lean that lists a variable, with what it lists TIED to the program's text (the seventh form; the later family's looks); each row that meets fmt, with fmt's text TOLD by the authors' own Lean function (tested against real Go, not proved from fmt's source: count such statements apart). THE CARD IS WHAT COUNTS. Prove the row's statement (the work); the ties are given (YtjefbpfpobgmaaaDoorTie.lean); close each card by the builder's one call (the guide's Derived/Test/ToyasCard.lean, 'card_holds'). Laid BY PROGRAM, IN A SANDBOX (cutbox-door.mjs). By AI agents, Wed Nov 11 2026. No macro, syntax, notation, axiom, sorry.
-/
import Derived.Test.YtjefbpfpobgmaaaDoorRows
import GoSem.ClaimSeven
namespace Go.Proofs.YtjefbpfpobgmaaaDoor
namespace Rows

/-- THE TIED CARD OF 'laws.FnDays'. -/
def fnDaysCard : Claim7 := { stood := { row := fnDaysRow, standIns := [], harness := (true, "8bf9cabfc48774caa379300290feab50b3c09d0571825173135a1ebbdbb7cd23"), looks := false }, kinds := [], alts := [], laidByText := true, laidKinds := [.data], laidTests := true, laidLooks := .later }
def FnDaysCardSaid : Prop := Claim7.holds Tryd.pinned (.plain (OpenSpec.ofChange fnDaysSpec)) fnDaysCard

/-- THE TIED CARD OF 'laws.FnSheetName'. -/
def fnSheetNameCard : Claim7 := { stood := { row := fnSheetNameRow, standIns := [], harness := (true, "8bf9cabfc48774caa379300290feab50b3c09d0571825173135a1ebbdbb7cd23"), looks := false }, kinds := [], alts := [], laidByText := true, laidKinds := [.data, .pinned, .pinned], laidTests := true, laidLooks := .later }
def FnSheetNameCardSaid : Prop := Claim7.holds Tryd.pinned (.plain (OpenSpec.ofChange fnSheetNameSpec)) fnSheetNameCard

/-- THE TIED CARD OF 'laws.FnFilterWords'. -/
def fnFilterWordsCard : Claim7 := { stood := { row := fnFilterWordsRow, standIns := [], harness := (true, "8bf9cabfc48774caa379300290feab50b3c09d0571825173135a1ebbdbb7cd23"), looks := false }, kinds := [], alts := [], laidByText := true, laidKinds := [.data, .sentinel, .pinned, .pinned], laidTests := true, laidLooks := .later }
def FnFilterWordsCardSaid : Prop := Claim7.holds Tryd.pinned (.plain (OpenSpec.ofChange fnFilterWordsSpec)) fnFilterWordsCard

/-- THE SECOND FORM's CARD OF 'laws.FnDays'. -/
def fnDaysUptoCard : Claim7 := { stood := { row := fnDaysUptoRow, standIns := [], harness := (true, "8bf9cabfc48774caa379300290feab50b3c09d0571825173135a1ebbdbb7cd23"), looks := false }, kinds := [], alts := [], laidByText := true, laidKinds := [.data], laidTests := true, laidLooks := .later }
def FnDaysUptoCardSaid : Prop := Claim7.holds Tryd.pinned (.plain (OpenSpec.upto fnDaysSpec)) fnDaysUptoCard

/-- THE SECOND FORM's CARD OF 'laws.FnSheetName'. -/
def fnSheetNameUptoCard : Claim7 := { stood := { row := fnSheetNameUptoRow, standIns := [], harness := (true, "8bf9cabfc48774caa379300290feab50b3c09d0571825173135a1ebbdbb7cd23"), looks := false }, kinds := [], alts := [], laidByText := true, laidKinds := [.data, .pinned, .pinned], laidTests := true, laidLooks := .later }
def FnSheetNameUptoCardSaid : Prop := Claim7.holds Tryd.pinned (.plain (OpenSpec.upto fnSheetNameSpec)) fnSheetNameUptoCard

/-- THE SECOND FORM's CARD OF 'laws.FnFilterWords'. -/
def fnFilterWordsUptoCard : Claim7 := { stood := { row := fnFilterWordsUptoRow, standIns := [], harness := (true, "8bf9cabfc48774caa379300290feab50b3c09d0571825173135a1ebbdbb7cd23"), looks := false }, kinds := [], alts := [], laidByText := true, laidKinds := [.data, .sentinel, .pinned, .pinned], laidTests := true, laidLooks := .later }
def FnFilterWordsUptoCardSaid : Prop := Claim7.holds Tryd.pinned (.plain (OpenSpec.upto fnFilterWordsSpec)) fnFilterWordsUptoCard
end Rows
end Go.Proofs.YtjefbpfpobgmaaaDoor
