/-
  DERIVED. GIVEN WITH THE SEED: THE CARDS: each row of YtbmjojloadlmnaaDoorRows.lean that lists a variable, with what it lists TIED to the program's text (the seventh form; the later family's looks); each row that meets fmt, with fmt's text TOLD by the authors' own Lean function (tested against real Go, not proved from fmt's source: count such statements apart). THE CARD IS WHAT COUNTS. Prove the row's statement (the work); the ties are given (YtbmjojloadlmnaaDoorTie.lean); close each card by the builder's one call (the guide's Derived/Test/ToyasCard.lean, 'card_holds'). Laid BY PROGRAM, IN A SANDBOX (cutbox-door.mjs). By AI agents, Wed Nov 11 2026. No macro, syntax, notation, axiom, sorry.
-/
import Derived.Test.YtbmjojloadlmnaaDoorRows
import GoSem.ClaimSeven
namespace Go.Proofs.YtbmjojloadlmnaaDoor
namespace Rows

/-- THE TIED CARD OF 'n011_154.FnHandleSingleAnimationNameStable'. -/
def fnHandleSingleAnimationNameStableCard : Claim7 := { stood := { row := fnHandleSingleAnimationNameStableRow, standIns := [], harness := (true, "3c4e27e2d8b174cace0fcadaeae0954b124a0336c9f47616bc3d80a245a93471"), looks := false }, kinds := [], alts := [], laidByText := true, laidKinds := [.data, .data, .mapped, .pinned, .pinned], laidTests := true, laidLooks := .later }
def FnHandleSingleAnimationNameStableCardSaid : Prop := Claim7.holds Tryd.pinned (.plain (OpenSpec.ofChange fnHandleSingleAnimationNameStableSpec)) fnHandleSingleAnimationNameStableCard

/-- THE SECOND FORM's CARD OF 'n011_154.FnHandleSingleAnimationNameStable'. -/
def fnHandleSingleAnimationNameStableUptoCard : Claim7 := { stood := { row := fnHandleSingleAnimationNameStableUptoRow, standIns := [], harness := (true, "3c4e27e2d8b174cace0fcadaeae0954b124a0336c9f47616bc3d80a245a93471"), looks := false }, kinds := [], alts := [], laidByText := true, laidKinds := [.data, .data, .mapped, .pinned, .pinned], laidTests := true, laidLooks := .later }
def FnHandleSingleAnimationNameStableUptoCardSaid : Prop := Claim7.holds Tryd.pinned (.plain (OpenSpec.upto fnHandleSingleAnimationNameStableSpec)) fnHandleSingleAnimationNameStableUptoCard
end Rows
end Go.Proofs.YtbmjojloadlmnaaDoor
