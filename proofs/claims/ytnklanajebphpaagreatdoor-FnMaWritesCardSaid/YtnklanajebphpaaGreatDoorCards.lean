/-
  DERIVED. GIVEN WITH THE SEED: THE CARDS: each row of YtnklanajebphpaaGreatDoorRows.lean that lists a variable, with what it lists TIED to the program's text (the seventh form; the later family's looks); each row that meets fmt, with fmt's text TOLD by the authors' own Lean function (tested against real Go, not proved from fmt's source: count such statements apart). THE CARD IS WHAT COUNTS. Prove the row's statement (the work); the ties are given (YtnklanajebphpaaGreatDoorTie.lean); close each card by the builder's one call (the guide's Derived/Test/ToyasCard.lean, 'card_holds'). Laid BY PROGRAM, IN A SANDBOX (cutbox-door.mjs). By AI agents, Wed Nov 11 2026. No macro, syntax, notation, axiom, sorry.
-/
import Derived.Test.YtnklanajebphpaaGreatDoorRows
import GoSem.ClaimSeven
namespace Go.Proofs.YtnklanajebphpaaGreatDoor
namespace Rows

/-- THE TIED CARD OF 'laws.FnMaCasts'. -/
def fnMaCastsCard : Claim7 := { stood := { row := fnMaCastsRow, standIns := [], harness := (true, "63bde2e737bd9909744d5f094d0b10f2b1d1ffe7c451eb05203f24bd37ecaa63"), looks := true }, kinds := [], alts := [], laidByText := true, laidKinds := [.data, .data, .data, .sentinel, .sentinel, .sentinel, .pinned, .data, .sentinel, .data, .sentinel, .sentinel, .sentinel, .sentinel, .sentinel, .sentinel, .data, .data, .sentinel, .sentinel, .sentinel, .sentinel], laidTests := true, laidLooks := .later }
def FnMaCastsCardSaid : Prop := Claim7.holds Tryz.pinned (.plain (OpenSpec.ofChange fnMaCastsSpec)) fnMaCastsCard

/-- THE TIED CARD OF 'laws.FnMaComponent'. -/
def fnMaComponentCard : Claim7 := { stood := { row := fnMaComponentRow, standIns := [], harness := (true, "63bde2e737bd9909744d5f094d0b10f2b1d1ffe7c451eb05203f24bd37ecaa63"), looks := true }, kinds := [], alts := [], laidByText := true, laidKinds := [.data, .data, .data, .sentinel, .sentinel, .sentinel, .pinned, .data, .sentinel, .data, .sentinel, .sentinel, .sentinel, .sentinel, .sentinel, .sentinel, .data, .data, .sentinel, .sentinel, .sentinel, .sentinel], laidTests := true, laidLooks := .later }
def FnMaComponentCardSaid : Prop := Claim7.holds Tryz.pinned (.plain (OpenSpec.ofChange fnMaComponentSpec)) fnMaComponentCard

/-- THE TIED CARD OF 'laws.FnMaWrites'. -/
def fnMaWritesCard : Claim7 := { stood := { row := fnMaWritesRow, standIns := [], harness := (true, "63bde2e737bd9909744d5f094d0b10f2b1d1ffe7c451eb05203f24bd37ecaa63"), looks := true }, kinds := [], alts := [], laidByText := true, laidKinds := [.data, .data, .data, .sentinel, .sentinel, .sentinel, .pinned, .data, .sentinel, .data, .sentinel, .sentinel, .sentinel, .sentinel, .sentinel, .sentinel, .data, .data, .sentinel, .sentinel, .sentinel, .sentinel], laidTests := true, laidLooks := .later }
def FnMaWritesCardSaid : Prop := Claim7.holds Tryz.pinned (.plain (OpenSpec.ofChange fnMaWritesSpec)) fnMaWritesCard

/-- THE SECOND FORM's CARD OF 'laws.FnMaCasts'. -/
def fnMaCastsUptoCard : Claim7 := { stood := { row := fnMaCastsUptoRow, standIns := [], harness := (true, "63bde2e737bd9909744d5f094d0b10f2b1d1ffe7c451eb05203f24bd37ecaa63"), looks := true }, kinds := [], alts := [], laidByText := true, laidKinds := [.data, .data, .data, .sentinel, .sentinel, .sentinel, .pinned, .data, .sentinel, .data, .sentinel, .sentinel, .sentinel, .sentinel, .sentinel, .sentinel, .data, .data, .sentinel, .sentinel, .sentinel, .sentinel], laidTests := true, laidLooks := .later }
def FnMaCastsUptoCardSaid : Prop := Claim7.holds Tryz.pinned (.plain (OpenSpec.upto fnMaCastsSpec)) fnMaCastsUptoCard

/-- THE SECOND FORM's CARD OF 'laws.FnMaComponent'. -/
def fnMaComponentUptoCard : Claim7 := { stood := { row := fnMaComponentUptoRow, standIns := [], harness := (true, "63bde2e737bd9909744d5f094d0b10f2b1d1ffe7c451eb05203f24bd37ecaa63"), looks := true }, kinds := [], alts := [], laidByText := true, laidKinds := [.data, .data, .data, .sentinel, .sentinel, .sentinel, .pinned, .data, .sentinel, .data, .sentinel, .sentinel, .sentinel, .sentinel, .sentinel, .sentinel, .data, .data, .sentinel, .sentinel, .sentinel, .sentinel], laidTests := true, laidLooks := .later }
def FnMaComponentUptoCardSaid : Prop := Claim7.holds Tryz.pinned (.plain (OpenSpec.upto fnMaComponentSpec)) fnMaComponentUptoCard

/-- THE SECOND FORM's CARD OF 'laws.FnMaWrites'. -/
def fnMaWritesUptoCard : Claim7 := { stood := { row := fnMaWritesUptoRow, standIns := [], harness := (true, "63bde2e737bd9909744d5f094d0b10f2b1d1ffe7c451eb05203f24bd37ecaa63"), looks := true }, kinds := [], alts := [], laidByText := true, laidKinds := [.data, .data, .data, .sentinel, .sentinel, .sentinel, .pinned, .data, .sentinel, .data, .sentinel, .sentinel, .sentinel, .sentinel, .sentinel, .sentinel, .data, .data, .sentinel, .sentinel, .sentinel, .sentinel], laidTests := true, laidLooks := .later }
def FnMaWritesUptoCardSaid : Prop := Claim7.holds Tryz.pinned (.plain (OpenSpec.upto fnMaWritesSpec)) fnMaWritesUptoCard
end Rows
end Go.Proofs.YtnklanajebphpaaGreatDoor
