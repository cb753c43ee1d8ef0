/-
  DERIVED. GIVEN WITH THE SEED: THE CARDS: each row of YtkglmacaecmhdaaGreatDoorRows.lean that lists a variable, with what it lists TIED to the program's text (the seventh form; the later family's looks); each row that meets fmt, with fmt's text TOLD by the authors' own Lean function (tested against real Go, not proved from fmt's source: count such statements apart). THE CARD IS WHAT COUNTS. Prove the row's statement (the work); the ties are given (YtkglmacaecmhdaaGreatDoorTie.lean); close each card by the builder's one call (the guide's Derived/Test/ToyasCard.lean, 'card_holds'). Laid BY PROGRAM, IN A SANDBOX (cutbox-door.mjs). By AI agents, Wed Nov 11 2026. No macro, syntax, notation, axiom, sorry.
-/
import Derived.Test.YtkglmacaecmhdaaGreatDoorRows
import GoSem.ClaimSeven
namespace Go.Proofs.YtkglmacaecmhdaaGreatDoor
namespace Rows

/-- THE TIED CARD OF 'laws.FnRoad'. -/
def fnRoadCard : Claim7 := { stood := { row := fnRoadRow, standIns := [], harness := (true, "7fe4350cada4dc4c5e6e38ba5d4e11f7133b6097e46dbe90cba00fdf6f8bb9da"), looks := false }, kinds := [], alts := [], laidByText := true, laidKinds := [.data, .data, .data, .data, .data, .data, .data, .data, .data, .data, .data, .data, .data, .data, .data, .data, .data, .data, .data, .data, .data, .data, .data, .data, .data, .data, .data, .data, .data, .pinned], laidTests := true, laidLooks := .later }
def FnRoadCardSaid : Prop := Claim7.holds Tryz.pinned (.plain (OpenSpec.ofChange fnRoadSpec)) fnRoadCard

/-- THE SECOND FORM's CARD OF 'laws.FnRoad'. -/
def fnRoadUptoCard : Claim7 := { stood := { row := fnRoadUptoRow, standIns := [], harness := (true, "7fe4350cada4dc4c5e6e38ba5d4e11f7133b6097e46dbe90cba00fdf6f8bb9da"), looks := false }, kinds := [], alts := [], laidByText := true, laidKinds := [.data, .data, .data, .data, .data, .data, .data, .data, .data, .data, .data, .data, .data, .data, .data, .data, .data, .data, .data, .data, .data, .data, .data, .data, .data, .data, .data, .data, .data, .pinned], laidTests := true, laidLooks := .later }
def FnRoadUptoCardSaid : Prop := Claim7.holds Tryz.pinned (.plain (OpenSpec.upto fnRoadSpec)) fnRoadUptoCard
end Rows
end Go.Proofs.YtkglmacaecmhdaaGreatDoor
