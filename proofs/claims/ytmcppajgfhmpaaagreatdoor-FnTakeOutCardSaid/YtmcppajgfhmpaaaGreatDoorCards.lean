/-
  DERIVED. GIVEN WITH THE SEED: THE CARDS: each row of YtmcppajgfhmpaaaGreatDoorRows.lean that lists a variable, with what it lists TIED to the program's text (the seventh form; the later family's looks); each row that meets fmt, with fmt's text TOLD by the authors' own Lean function (tested against real Go, not proved from fmt's source: count such statements apart). THE CARD IS WHAT COUNTS. Prove the row's statement (the work); the ties are given (YtmcppajgfhmpaaaGreatDoorTie.lean); close each card by the builder's one call (the guide's Derived/Test/ToyasCard.lean, 'card_holds'). Laid BY PROGRAM, IN A SANDBOX (cutbox-door.mjs). By AI agents, Wed Nov 11 2026. No macro, syntax, notation, axiom, sorry.
-/
import Derived.Test.YtmcppajgfhmpaaaGreatDoorRows
import GoSem.ClaimSeven
namespace Go.Proofs.YtmcppajgfhmpaaaGreatDoor
namespace Rows

/-- THE TIED CARD OF 'laws.FnTakeOut'. -/
def fnTakeOutCard : Claim7 := { stood := { row := fnTakeOutRow, standIns := [], harness := (true, "777207acc64e5f76594c8aab17b31713502c076eb2f6bef6f3d79f017ed28740"), looks := true }, kinds := [], alts := [], laidByText := true, laidKinds := [.data, .data, .data, .data, .sentinel, .sentinel, .listed, .data, .sentinel, .sentinel, .sentinel, .sentinel, .pinned], laidTests := true, laidLooks := .later }
def FnTakeOutCardSaid : Prop := Claim7.holds Tryz.pinned (.plain (OpenSpec.ofChange fnTakeOutSpec)) fnTakeOutCard

/-- THE SECOND FORM's CARD OF 'laws.FnTakeOut'. -/
def fnTakeOutUptoCard : Claim7 := { stood := { row := fnTakeOutUptoRow, standIns := [], harness := (true, "777207acc64e5f76594c8aab17b31713502c076eb2f6bef6f3d79f017ed28740"), looks := true }, kinds := [], alts := [], laidByText := true, laidKinds := [.data, .data, .data, .data, .sentinel, .sentinel, .listed, .data, .sentinel, .sentinel, .sentinel, .sentinel, .pinned], laidTests := true, laidLooks := .later }
def FnTakeOutUptoCardSaid : Prop := Claim7.holds Tryz.pinned (.plain (OpenSpec.upto fnTakeOutSpec)) fnTakeOutUptoCard
end Rows
end Go.Proofs.YtmcppajgfhmpaaaGreatDoor
