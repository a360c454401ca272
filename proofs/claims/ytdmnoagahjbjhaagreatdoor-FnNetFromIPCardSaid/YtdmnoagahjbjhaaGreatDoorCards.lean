/-
  DERIVED. GIVEN WITH THE SEED: THE CARDS: each row of YtdmnoagahjbjhaaGreatDoorRows.lean that lists a variable, with what it lists TIED to the program's text (the seventh form; the later family's looks); each row that meets fmt, with fmt's text TOLD by the authors' own Lean function (tested against real Go, not proved from fmt's source: count such statements apart). THE CARD IS WHAT COUNTS. Prove the row's statement (the work); the ties are given (YtdmnoagahjbjhaaGreatDoorTie.lean); close each card by the builder's one call (the guide's Derived/Test/ToyasCard.lean, 'card_holds'). Laid BY PROGRAM, IN A SANDBOX (cutbox-door.mjs). By AI agents, Wed Nov 11 2026. No macro, syntax, notation, axiom, sorry.
-/
import Derived.Test.YtdmnoagahjbjhaaGreatDoorRows
import GoSem.ClaimSeven
namespace Go.Proofs.YtdmnoagahjbjhaaGreatDoor
namespace Rows

/-- THE TIED CARD OF 'laws.FnNetMatch'. -/
def fnNetMatchCard : Claim7 := { stood := { row := fnNetMatchRow, standIns := [], harness := (true, "1746c496b2453f4e6db985d80afc1499441837c4bb4f218e868f48d6a59b2b5d"), looks := true }, kinds := [], alts := [], laidByText := true, laidKinds := [.data, .data, .data, .sentinel, .sentinel, .sentinel, .pinned, .data, .sentinel, .data, .sentinel, .sentinel, .sentinel, .sentinel, .sentinel, .sentinel, .data, .data, .sentinel, .sentinel, .sentinel, .sentinel], laidTests := true, laidLooks := .later }
def FnNetMatchCardSaid : Prop := Claim7.holds Tryz.pinned (.plain (OpenSpec.ofChange fnNetMatchSpec)) fnNetMatchCard

/-- THE TIED CARD OF 'laws.FnNetFromIP'. -/
def fnNetFromIPCard : Claim7 := { stood := { row := fnNetFromIPRow, standIns := [], harness := (true, "1746c496b2453f4e6db985d80afc1499441837c4bb4f218e868f48d6a59b2b5d"), looks := true }, kinds := [], alts := [], laidByText := true, laidKinds := [.data, .data, .data, .sentinel, .sentinel, .sentinel, .pinned, .data, .sentinel, .data, .sentinel, .sentinel, .sentinel, .sentinel, .sentinel, .sentinel, .data, .data, .sentinel, .sentinel, .sentinel, .sentinel, .sentinel], laidTests := true, laidLooks := .later }
def FnNetFromIPCardSaid : Prop := Claim7.holds Tryz.pinned (.plain (OpenSpec.ofChange fnNetFromIPSpec)) fnNetFromIPCard

/-- THE SECOND FORM's CARD OF 'laws.FnNetMatch'. -/
def fnNetMatchUptoCard : Claim7 := { stood := { row := fnNetMatchUptoRow, standIns := [], harness := (true, "1746c496b2453f4e6db985d80afc1499441837c4bb4f218e868f48d6a59b2b5d"), looks := true }, kinds := [], alts := [], laidByText := true, laidKinds := [.data, .data, .data, .sentinel, .sentinel, .sentinel, .pinned, .data, .sentinel, .data, .sentinel, .sentinel, .sentinel, .sentinel, .sentinel, .sentinel, .data, .data, .sentinel, .sentinel, .sentinel, .sentinel], laidTests := true, laidLooks := .later }
def FnNetMatchUptoCardSaid : Prop := Claim7.holds Tryz.pinned (.plain (OpenSpec.upto fnNetMatchSpec)) fnNetMatchUptoCard

/-- THE SECOND FORM's CARD OF 'laws.FnNetFromIP'. -/
def fnNetFromIPUptoCard : Claim7 := { stood := { row := fnNetFromIPUptoRow, standIns := [], harness := (true, "1746c496b2453f4e6db985d80afc1499441837c4bb4f218e868f48d6a59b2b5d"), looks := true }, kinds := [], alts := [], laidByText := true, laidKinds := [.data, .data, .data, .sentinel, .sentinel, .sentinel, .pinned, .data, .sentinel, .data, .sentinel, .sentinel, .sentinel, .sentinel, .sentinel, .sentinel, .data, .data, .sentinel, .sentinel, .sentinel, .sentinel, .sentinel], laidTests := true, laidLooks := .later }
def FnNetFromIPUptoCardSaid : Prop := Claim7.holds Tryz.pinned (.plain (OpenSpec.upto fnNetFromIPSpec)) fnNetFromIPUptoCard
end Rows
end Go.Proofs.YtdmnoagahjbjhaaGreatDoor
