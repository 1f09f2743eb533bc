/-
  DERIVED. GIVEN WITH THE SEED: THE CARDS: each row of YtgicookbgfodbaaDoorRows.lean that lists a variable, with what it lists TIED to the program's text (the seventh form; the later family's looks); each row that meets fmt, with fmt's text TOLD by the authors' own Lean function (tested against real Go, not proved from fmt's source: count such statements apart). THE CARD IS WHAT COUNTS. Prove the row's statement (the work); the ties are given (YtgicookbgfodbaaDoorTie.lean); close each card by the builder's one call (the guide's Derived/Test/ToyasCard.lean, 'card_holds'). Laid BY PROGRAM, IN A SANDBOX (cutbox-door.mjs). By AI agents, Wed Nov 11 2026. No macro, syntax, notation, axiom, sorry.
-/
import Derived.Test.YtgicookbgfodbaaDoorRows
import GoSem.ClaimSeven
namespace Go.Proofs.YtgicookbgfodbaaDoor
namespace Rows

/-- THE TIED CARD OF 'n011_54.FnIsValidCustomIdentIgnoresAsciiCase'. -/
def fnIsValidCustomIdentIgnoresAsciiCaseCard : Claim7 := { stood := { row := fnIsValidCustomIdentIgnoresAsciiCaseRow, standIns := [], harness := (true, "dc9bfad2f19752a701472dffbdea65f33d4e71a2f5a468b9c8de7d99e3daaf4e"), looks := false }, kinds := [], alts := [], laidByText := true, laidKinds := [.data, .mapped, .pinned, .pinned], laidTests := true, laidLooks := .later }
def FnIsValidCustomIdentIgnoresAsciiCaseCardSaid : Prop := Claim7.holds Tryd.pinned (.plain (OpenSpec.ofChange fnIsValidCustomIdentIgnoresAsciiCaseSpec)) fnIsValidCustomIdentIgnoresAsciiCaseCard

/-- THE SECOND FORM's CARD OF 'n011_54.FnIsValidCustomIdentIgnoresAsciiCase'. -/
def fnIsValidCustomIdentIgnoresAsciiCaseUptoCard : Claim7 := { stood := { row := fnIsValidCustomIdentIgnoresAsciiCaseUptoRow, standIns := [], harness := (true, "dc9bfad2f19752a701472dffbdea65f33d4e71a2f5a468b9c8de7d99e3daaf4e"), looks := false }, kinds := [], alts := [], laidByText := true, laidKinds := [.data, .mapped, .pinned, .pinned], laidTests := true, laidLooks := .later }
def FnIsValidCustomIdentIgnoresAsciiCaseUptoCardSaid : Prop := Claim7.holds Tryd.pinned (.plain (OpenSpec.upto fnIsValidCustomIdentIgnoresAsciiCaseSpec)) fnIsValidCustomIdentIgnoresAsciiCaseUptoCard
end Rows
end Go.Proofs.YtgicookbgfodbaaDoor
