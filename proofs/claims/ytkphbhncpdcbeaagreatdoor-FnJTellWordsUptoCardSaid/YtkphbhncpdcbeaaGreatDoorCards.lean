/-
  DERIVED. GIVEN WITH THE SEED: THE CARDS: each row of YtkphbhncpdcbeaaGreatDoorRows.lean that lists a variable, with what it lists TIED to the program's text (the seventh form; the later family's looks); each row that meets fmt, with fmt's text TOLD by the authors' own Lean function (tested against real Go, not proved from fmt's source: count such statements apart). THE CARD IS WHAT COUNTS. Prove the row's statement (the work); the ties are given (YtkphbhncpdcbeaaGreatDoorTie.lean); close each card by the builder's one call (the guide's Derived/Test/ToyasCard.lean, 'card_holds'). Laid BY PROGRAM, IN A SANDBOX (cutbox-door.mjs). By AI agents, Wed Nov 11 2026. No macro, syntax, notation, axiom, sorry.
-/
import Derived.Test.YtkphbhncpdcbeaaGreatDoorRows
import GoSem.ClaimSeven
namespace Go.Proofs.YtkphbhncpdcbeaaGreatDoor
namespace Rows

/-- THE TIED CARD OF 'laws.FnJTellMissing'. -/
def fnJTellMissingCard : Claim7 := { stood := { row := fnJTellMissingRow, standIns := [], harness := (true, "4b98d12db23a5e367e938cb391d89ee150370c45a2bd92a3757d3f896c3c74f4"), looks := true }, kinds := [], alts := [], laidByText := true, laidKinds := [.data, .data, .data], laidTests := true, laidLooks := .later }
def FnJTellMissingCardSaid : Prop := Claim7.holds Tryz.pinned (.plain (OpenSpec.ofChange fnJTellMissingSpec)) fnJTellMissingCard

/-- THE TIED CARD OF 'laws.FnJTellWords'. -/
def fnJTellWordsCard : Claim7 := { stood := { row := fnJTellWordsRow, standIns := [], harness := (true, "4b98d12db23a5e367e938cb391d89ee150370c45a2bd92a3757d3f896c3c74f4"), looks := true }, kinds := [], alts := [], laidByText := true, laidKinds := [.data, .data, .data], laidTests := true, laidLooks := .later }
def FnJTellWordsCardSaid : Prop := Claim7.holds Tryz.pinned (.plain (OpenSpec.ofChange fnJTellWordsSpec)) fnJTellWordsCard

/-- THE SECOND FORM's CARD OF 'laws.FnJTellMissing'. -/
def fnJTellMissingUptoCard : Claim7 := { stood := { row := fnJTellMissingUptoRow, standIns := [], harness := (true, "4b98d12db23a5e367e938cb391d89ee150370c45a2bd92a3757d3f896c3c74f4"), looks := true }, kinds := [], alts := [], laidByText := true, laidKinds := [.data, .data, .data], laidTests := true, laidLooks := .later }
def FnJTellMissingUptoCardSaid : Prop := Claim7.holds Tryz.pinned (.plain (OpenSpec.upto fnJTellMissingSpec)) fnJTellMissingUptoCard

/-- THE SECOND FORM's CARD OF 'laws.FnJTellWords'. -/
def fnJTellWordsUptoCard : Claim7 := { stood := { row := fnJTellWordsUptoRow, standIns := [], harness := (true, "4b98d12db23a5e367e938cb391d89ee150370c45a2bd92a3757d3f896c3c74f4"), looks := true }, kinds := [], alts := [], laidByText := true, laidKinds := [.data, .data, .data], laidTests := true, laidLooks := .later }
def FnJTellWordsUptoCardSaid : Prop := Claim7.holds Tryz.pinned (.plain (OpenSpec.upto fnJTellWordsSpec)) fnJTellWordsUptoCard
end Rows
end Go.Proofs.YtkphbhncpdcbeaaGreatDoor
