/-
  DERIVED. GIVEN WITH THE SEED: THE CARDS: each row of YtkphnplmjpjbjaaDoorRows.lean that lists a variable, with what it lists TIED to the program's text (the seventh form; the later family's looks); each row that meets fmt, with fmt's text TOLD by the authors' own Lean function (tested against real Go, not proved from fmt's source: count such statements apart). THE CARD IS WHAT COUNTS. Prove the row's statement (the work); the ties are given (YtkphnplmjpjbjaaDoorTie.lean); close each card by the builder's one call (the guide's Derived/Test/ToyasCard.lean, 'card_holds'). Laid BY PROGRAM, IN A SANDBOX (cutbox-door.mjs). By AI agents, Wed Nov 11 2026. No macro, syntax, notation, axiom, sorry.
-/
import Derived.Test.YtkphnplmjpjbjaaDoorRows
import GoSem.ClaimSeven
namespace Go.Proofs.YtkphnplmjpjbjaaDoor
namespace Rows

/-- THE TIED CARD OF 'n011_185.FnHandleSingleScript'. -/
def fnHandleSingleScriptCard : Claim7 := { stood := { row := fnHandleSingleScriptRow, standIns := [], harness := (true, "d752c87c94cd1ea1fcfc78aabab79c763a9ea20d4a0d0b2ddafd346f4e40b791"), looks := false }, kinds := [], alts := [], laidByText := true, laidKinds := [.data, .data, .mapped, .pinned, .pinned], laidTests := true, laidLooks := .later }
def FnHandleSingleScriptCardSaid : Prop := Claim7.holds Tryd.pinned (.plain (OpenSpec.ofChange fnHandleSingleScriptSpec)) fnHandleSingleScriptCard

/-- THE SECOND FORM's CARD OF 'n011_185.FnHandleSingleScript'. -/
def fnHandleSingleScriptUptoCard : Claim7 := { stood := { row := fnHandleSingleScriptUptoRow, standIns := [], harness := (true, "d752c87c94cd1ea1fcfc78aabab79c763a9ea20d4a0d0b2ddafd346f4e40b791"), looks := false }, kinds := [], alts := [], laidByText := true, laidKinds := [.data, .data, .mapped, .pinned, .pinned], laidTests := true, laidLooks := .later }
def FnHandleSingleScriptUptoCardSaid : Prop := Claim7.holds Tryd.pinned (.plain (OpenSpec.upto fnHandleSingleScriptSpec)) fnHandleSingleScriptUptoCard
end Rows
end Go.Proofs.YtkphnplmjpjbjaaDoor
