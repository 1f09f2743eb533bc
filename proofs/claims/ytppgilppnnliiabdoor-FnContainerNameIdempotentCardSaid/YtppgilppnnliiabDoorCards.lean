/-
  DERIVED. GIVEN WITH THE SEED: THE CARDS: each row of YtppgilppnnliiabDoorRows.lean that lists a variable, with what it lists TIED to the program's text (the seventh form; the later family's looks); each row that meets fmt, with fmt's text TOLD by the authors' own Lean function (tested against real Go, not proved from fmt's source: count such statements apart). THE CARD IS WHAT COUNTS. Prove the row's statement (the work); the ties are given (YtppgilppnnliiabDoorTie.lean); close each card by the builder's one call (the guide's Derived/Test/ToyasCard.lean, 'card_holds'). Laid BY PROGRAM, IN A SANDBOX (cutbox-door.mjs). By AI agents, Wed Nov 11 2026. No macro, syntax, notation, axiom, sorry.
-/
import Derived.Test.YtppgilppnnliiabDoorRows
import GoSem.ClaimSeven
namespace Go.Proofs.YtppgilppnnliiabDoor
namespace Rows

/-- THE TIED CARD OF 'n011_185.FnContainerNameIdempotent'. -/
def fnContainerNameIdempotentCard : Claim7 := { stood := { row := fnContainerNameIdempotentRow, standIns := [], harness := (true, "7b2eb60e8f8e453fac701cceb8393015c86903084b9d9f39b4ba1389b6994fcd"), looks := false }, kinds := [], alts := [], laidByText := true, laidKinds := [.data, .data, .mapped, .pinned, .pinned], laidTests := true, laidLooks := .later }
def FnContainerNameIdempotentCardSaid : Prop := Claim7.holds Tryd.pinned (.plain (OpenSpec.ofChange fnContainerNameIdempotentSpec)) fnContainerNameIdempotentCard

/-- THE SECOND FORM's CARD OF 'n011_185.FnContainerNameIdempotent'. -/
def fnContainerNameIdempotentUptoCard : Claim7 := { stood := { row := fnContainerNameIdempotentUptoRow, standIns := [], harness := (true, "7b2eb60e8f8e453fac701cceb8393015c86903084b9d9f39b4ba1389b6994fcd"), looks := false }, kinds := [], alts := [], laidByText := true, laidKinds := [.data, .data, .mapped, .pinned, .pinned], laidTests := true, laidLooks := .later }
def FnContainerNameIdempotentUptoCardSaid : Prop := Claim7.holds Tryd.pinned (.plain (OpenSpec.upto fnContainerNameIdempotentSpec)) fnContainerNameIdempotentUptoCard
end Rows
end Go.Proofs.YtppgilppnnliiabDoor
