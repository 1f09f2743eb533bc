/-
  DERIVED. GIVEN WITH THE SEED: THE CARDS: each row of YtkphnplmjpjbjabDoorRows.lean that lists a variable, with what it lists TIED to the program's text (the seventh form; the later family's looks); each row that meets fmt, with fmt's text TOLD by the authors' own Lean function (tested against real Go, not proved from fmt's source: count such statements apart). THE CARD IS WHAT COUNTS. Prove the row's statement (the work); the ties are given (YtkphnplmjpjbjabDoorTie.lean); close each card by the builder's one call (the guide's Derived/Test/ToyasCard.lean, 'card_holds'). Laid BY PROGRAM, IN A SANDBOX (cutbox-door.mjs). By AI agents, Wed Nov 11 2026. No macro, syntax, notation, axiom, sorry.
-/
import Derived.Test.YtkphnplmjpjbjabDoorRows
import GoSem.ClaimSeven
namespace Go.Proofs.YtkphnplmjpjbjabDoor
namespace Rows

/-- THE TIED CARD OF 'n011_231.FnListStyleShorthandSingleAgreesWithType'. -/
def fnListStyleShorthandSingleAgreesWithTypeCard : Claim7 := { stood := { row := fnListStyleShorthandSingleAgreesWithTypeRow, standIns := [], harness := (true, "ff45b8a53d37efefaa7931363d97357aae120fbde51cf80c1d41bfd45dc022af"), looks := false }, kinds := [], alts := [], laidByText := true, laidKinds := [.data, .data, .mapped, .mapped, .pinned, .pinned], laidTests := true, laidLooks := .later }
def FnListStyleShorthandSingleAgreesWithTypeCardSaid : Prop := Claim7.holds Tryd.pinned (.plain (OpenSpec.ofChange fnListStyleShorthandSingleAgreesWithTypeSpec)) fnListStyleShorthandSingleAgreesWithTypeCard

/-- THE SECOND FORM's CARD OF 'n011_231.FnListStyleShorthandSingleAgreesWithType'. -/
def fnListStyleShorthandSingleAgreesWithTypeUptoCard : Claim7 := { stood := { row := fnListStyleShorthandSingleAgreesWithTypeUptoRow, standIns := [], harness := (true, "ff45b8a53d37efefaa7931363d97357aae120fbde51cf80c1d41bfd45dc022af"), looks := false }, kinds := [], alts := [], laidByText := true, laidKinds := [.data, .data, .mapped, .mapped, .pinned, .pinned], laidTests := true, laidLooks := .later }
def FnListStyleShorthandSingleAgreesWithTypeUptoCardSaid : Prop := Claim7.holds Tryd.pinned (.plain (OpenSpec.upto fnListStyleShorthandSingleAgreesWithTypeSpec)) fnListStyleShorthandSingleAgreesWithTypeUptoCard
end Rows
end Go.Proofs.YtkphnplmjpjbjabDoor
