/-
  DERIVED. GIVEN WITH THE SEED: THE CARDS: each row of YtlblbefbbibpaaaGreatDoorRows.lean that lists a variable, with what it lists TIED to the program's text (the seventh form; the later family's looks); each row that meets fmt, with fmt's text TOLD by the authors' own Lean function (tested against real Go, not proved from fmt's source: count such statements apart). THE CARD IS WHAT COUNTS. Prove the row's statement (the work); the ties are given (YtlblbefbbibpaaaGreatDoorTie.lean); close each card by the builder's one call (the guide's Derived/Test/ToyasCard.lean, 'card_holds'). Laid BY PROGRAM, IN A SANDBOX (cutbox-door.mjs). By AI agents, Wed Nov 11 2026. No macro, syntax, notation, axiom, sorry.
-/
import Derived.Test.YtlblbefbbibpaaaGreatDoorRows
import GoSem.ClaimSeven
namespace Go.Proofs.YtlblbefbbibpaaaGreatDoor
namespace Rows

/-- THE TIED CARD OF 'laws.FnArgMap'. -/
def fnArgMapCard : Claim7 := { stood := { row := fnArgMapRow, standIns := [], harness := (true, "4bed9b682cf1e0e44995927028ecccc644710b82ab88d17b43d7c5ece21ee334"), looks := true }, kinds := [], alts := [], laidByText := true, laidKinds := [.data, .data, .widerDeep, .widerDeep, .data, .data, .data, .data, .data, .sentinel, .sentinel, .pinned, .pinned], laidTests := true, laidLooks := .later }
def FnArgMapCardSaid : Prop := Claim7.holds Tryz.pinned (.plain (OpenSpec.ofChange fnArgMapSpec)) fnArgMapCard

/-- THE SECOND FORM's CARD OF 'laws.FnArgMap'. -/
def fnArgMapUptoCard : Claim7 := { stood := { row := fnArgMapUptoRow, standIns := [], harness := (true, "4bed9b682cf1e0e44995927028ecccc644710b82ab88d17b43d7c5ece21ee334"), looks := true }, kinds := [], alts := [], laidByText := true, laidKinds := [.data, .data, .widerDeep, .widerDeep, .data, .data, .data, .data, .data, .sentinel, .sentinel, .pinned, .pinned], laidTests := true, laidLooks := .later }
def FnArgMapUptoCardSaid : Prop := Claim7.holds Tryz.pinned (.plain (OpenSpec.upto fnArgMapSpec)) fnArgMapUptoCard
end Rows
end Go.Proofs.YtlblbefbbibpaaaGreatDoor
