/-
  DERIVED. GIVEN WITH THE SEED: THE CARDS: each row of YtppgilppnnliiaaDoorRows.lean that lists a variable, with what it lists TIED to the program's text (the seventh form; the later family's looks); each row that meets fmt, with fmt's text TOLD by the authors' own Lean function (tested against real Go, not proved from fmt's source: count such statements apart). THE CARD IS WHAT COUNTS. Prove the row's statement (the work); the ties are given (YtppgilppnnliiaaDoorTie.lean); close each card by the builder's one call (the guide's Derived/Test/ToyasCard.lean, 'card_holds'). Laid BY PROGRAM, IN A SANDBOX (cutbox-door.mjs). By AI agents, Wed Nov 11 2026. No macro, syntax, notation, axiom, sorry.
-/
import Derived.Test.YtppgilppnnliiaaDoorRows
import GoSem.ClaimSeven
namespace Go.Proofs.YtppgilppnnliiaaDoor
namespace Rows

/-- THE TIED CARD OF 'n011_154.FnProcessAnimationNameCoversShorthand'. -/
def fnProcessAnimationNameCoversShorthandCard : Claim7 := { stood := { row := fnProcessAnimationNameCoversShorthandRow, standIns := [], harness := (true, "ff245f4365cc6ddf0fa1f17cc9347bea4275cdd313f47f5627ce2e7aef1dfdb7"), looks := false }, kinds := [], alts := [], laidByText := true, laidKinds := [.data, .data, .mapped, .pinned, .pinned], laidTests := true, laidLooks := .later }
def FnProcessAnimationNameCoversShorthandCardSaid : Prop := Claim7.holds Tryd.pinned (.plain (OpenSpec.ofChange fnProcessAnimationNameCoversShorthandSpec)) fnProcessAnimationNameCoversShorthandCard

/-- THE SECOND FORM's CARD OF 'n011_154.FnProcessAnimationNameCoversShorthand'. -/
def fnProcessAnimationNameCoversShorthandUptoCard : Claim7 := { stood := { row := fnProcessAnimationNameCoversShorthandUptoRow, standIns := [], harness := (true, "ff245f4365cc6ddf0fa1f17cc9347bea4275cdd313f47f5627ce2e7aef1dfdb7"), looks := false }, kinds := [], alts := [], laidByText := true, laidKinds := [.data, .data, .mapped, .pinned, .pinned], laidTests := true, laidLooks := .later }
def FnProcessAnimationNameCoversShorthandUptoCardSaid : Prop := Claim7.holds Tryd.pinned (.plain (OpenSpec.upto fnProcessAnimationNameCoversShorthandSpec)) fnProcessAnimationNameCoversShorthandUptoCard
end Rows
end Go.Proofs.YtppgilppnnliiaaDoor
