/-
  DERIVED. GIVEN WITH THE SEED: THE CARDS: each row of YtfhfeimlikpbpaaDoorRows.lean that lists a variable, with what it lists TIED to the program's text (the seventh form; the later family's looks); each row that meets fmt, with fmt's text TOLD by the authors' own Lean function (tested against real Go, not proved from fmt's source: count such statements apart). THE CARD IS WHAT COUNTS. Prove the row's statement (the work); the ties are given (YtfhfeimlikpbpaaDoorTie.lean); close each card by the builder's one call (the guide's Derived/Test/ToyasCard.lean, 'card_holds'). Laid BY PROGRAM, IN A SANDBOX (cutbox-door.mjs). By AI agents, Wed Nov 11 2026. No macro, syntax, notation, axiom, sorry.
-/
import Derived.Test.YtfhfeimlikpbpaaDoorRows
import GoSem.ClaimSeven
namespace Go.Proofs.YtfhfeimlikpbpaaDoor
namespace Rows

/-- THE TIED CARD OF 'n011_180.FnSwitchToDoublePositionsIdempotent'. -/
def fnSwitchToDoublePositionsIdempotentCard : Claim7 := { stood := { row := fnSwitchToDoublePositionsIdempotentRow, standIns := [], harness := (true, "41ebb8e750390f6a1bf535845eaf9c37bfcf140a0ad44cf5f8d1b7a92d53b6dc"), looks := false }, kinds := [], alts := [], laidByText := true, laidKinds := [.data], laidTests := true, laidLooks := .later }
def FnSwitchToDoublePositionsIdempotentCardSaid : Prop := Claim7.holds Tryd.pinned (.plain (OpenSpec.ofChange fnSwitchToDoublePositionsIdempotentSpec)) fnSwitchToDoublePositionsIdempotentCard

/-- THE SECOND FORM's CARD OF 'n011_180.FnSwitchToDoublePositionsIdempotent'. -/
def fnSwitchToDoublePositionsIdempotentUptoCard : Claim7 := { stood := { row := fnSwitchToDoublePositionsIdempotentUptoRow, standIns := [], harness := (true, "41ebb8e750390f6a1bf535845eaf9c37bfcf140a0ad44cf5f8d1b7a92d53b6dc"), looks := false }, kinds := [], alts := [], laidByText := true, laidKinds := [.data], laidTests := true, laidLooks := .later }
def FnSwitchToDoublePositionsIdempotentUptoCardSaid : Prop := Claim7.holds Tryd.pinned (.plain (OpenSpec.upto fnSwitchToDoublePositionsIdempotentSpec)) fnSwitchToDoublePositionsIdempotentUptoCard
end Rows
end Go.Proofs.YtfhfeimlikpbpaaDoor
