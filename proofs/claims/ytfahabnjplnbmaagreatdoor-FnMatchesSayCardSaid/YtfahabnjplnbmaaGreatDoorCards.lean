/-
  DERIVED. GIVEN WITH THE SEED: THE CARDS: each row of YtfahabnjplnbmaaGreatDoorRows.lean that lists a variable, with what it lists TIED to the program's text (the seventh form; the later family's looks); each row that meets fmt, with fmt's text TOLD by the authors' own Lean function (tested against real Go, not proved from fmt's source: count such statements apart). THE CARD IS WHAT COUNTS. Prove the row's statement (the work); the ties are given (YtfahabnjplnbmaaGreatDoorTie.lean); close each card by the builder's one call (the guide's Derived/Test/ToyasCard.lean, 'card_holds'). Laid BY PROGRAM, IN A SANDBOX (cutbox-door.mjs). By AI agents, Wed Nov 11 2026. No macro, syntax, notation, axiom, sorry.
-/
import Derived.Test.YtfahabnjplnbmaaGreatDoorRows
import GoSem.ClaimSeven
namespace Go.Proofs.YtfahabnjplnbmaaGreatDoor
namespace Rows

/-- THE TIED CARD OF 'laws.FnMatchesSay'. -/
def fnMatchesSayCard : Claim7 := { stood := { row := fnMatchesSayRow, standIns := [], harness := (true, "fcc7646193143303e2e0b73822b218e38043a400f499ad50f3dc1380ffc902cc"), looks := true }, kinds := [], alts := [], laidByText := true, laidKinds := [.data, .data, .widerDeep, .widerDeep, .data, .data, .data, .data, .data, .sentinel, .sentinel, .data, .pinned, .pinned, .pinned], laidTests := true, laidLooks := .later }
def FnMatchesSayCardSaid : Prop := Claim7.holds Tryz.pinned (.plain (OpenSpec.ofChange fnMatchesSaySpec)) fnMatchesSayCard

/-- THE TIED CARD OF 'laws.FnValuesSay'. -/
def fnValuesSayCard : Claim7 := { stood := { row := fnValuesSayRow, standIns := [], harness := (true, "fcc7646193143303e2e0b73822b218e38043a400f499ad50f3dc1380ffc902cc"), looks := true }, kinds := [], alts := [], laidByText := true, laidKinds := [.data, .data, .widerDeep, .widerDeep, .data, .data, .data, .data, .data, .sentinel, .sentinel, .data, .pinned, .pinned, .pinned], laidTests := true, laidLooks := .later }
def FnValuesSayCardSaid : Prop := Claim7.holds Tryz.pinned (.plain (OpenSpec.ofChange fnValuesSaySpec)) fnValuesSayCard

/-- THE SECOND FORM's CARD OF 'laws.FnMatchesSay'. -/
def fnMatchesSayUptoCard : Claim7 := { stood := { row := fnMatchesSayUptoRow, standIns := [], harness := (true, "fcc7646193143303e2e0b73822b218e38043a400f499ad50f3dc1380ffc902cc"), looks := true }, kinds := [], alts := [], laidByText := true, laidKinds := [.data, .data, .widerDeep, .widerDeep, .data, .data, .data, .data, .data, .sentinel, .sentinel, .data, .pinned, .pinned, .pinned], laidTests := true, laidLooks := .later }
def FnMatchesSayUptoCardSaid : Prop := Claim7.holds Tryz.pinned (.plain (OpenSpec.upto fnMatchesSaySpec)) fnMatchesSayUptoCard

/-- THE SECOND FORM's CARD OF 'laws.FnValuesSay'. -/
def fnValuesSayUptoCard : Claim7 := { stood := { row := fnValuesSayUptoRow, standIns := [], harness := (true, "fcc7646193143303e2e0b73822b218e38043a400f499ad50f3dc1380ffc902cc"), looks := true }, kinds := [], alts := [], laidByText := true, laidKinds := [.data, .data, .widerDeep, .widerDeep, .data, .data, .data, .data, .data, .sentinel, .sentinel, .data, .pinned, .pinned, .pinned], laidTests := true, laidLooks := .later }
def FnValuesSayUptoCardSaid : Prop := Claim7.holds Tryz.pinned (.plain (OpenSpec.upto fnValuesSaySpec)) fnValuesSayUptoCard
end Rows
end Go.Proofs.YtfahabnjplnbmaaGreatDoor
