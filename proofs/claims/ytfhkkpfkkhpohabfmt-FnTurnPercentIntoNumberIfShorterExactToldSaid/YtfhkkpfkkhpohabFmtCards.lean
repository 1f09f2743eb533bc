/-
  DERIVED. GIVEN WITH THE SEED: THE CARDS: each row of YtfhkkpfkkhpohabFmtRows.lean that lists a variable, with what it lists TIED to the program's text (the seventh form; the later family's looks); each row that meets fmt, with fmt's text TOLD by the authors' own Lean function (tested against real Go, not proved from fmt's source: count such statements apart). THE CARD IS WHAT COUNTS. Prove the row's statement (the work); the ties are given (YtfhkkpfkkhpohabFmtTie.lean); close each card by the builder's one call (the guide's Derived/Test/ToyasCard.lean, 'card_holds'). Laid BY PROGRAM, IN A SANDBOX (cutbox-door.mjs). By AI agents, Wed Nov 11 2026. No macro, syntax, notation, axiom, sorry.
-/
import Derived.Test.YtfhkkpfkkhpohabFmtRows
import GoSem.ClaimSeven
namespace Go.Proofs.YtfhkkpfkkhpohabFmt
namespace Rows

/-- THE TOLD CARD OF 'n011_214.FnTurnPercentIntoNumberIfShorterExact'. -/
def fnTurnPercentIntoNumberIfShorterExactCard : Claim7 := { stood := { row := fnTurnPercentIntoNumberIfShorterExactRow, standIns := [], harness := (true, "bdc10a0589c5eb4a88b1b3a395a8809038c055014cd6a694f4c5b2cc5e8c51e5"), looks := false }, told := true, goes := false }
def FnTurnPercentIntoNumberIfShorterExactToldSaid : Prop := Claim7.holds Tryf.pinned (.plain (OpenSpec.ofChange fnTurnPercentIntoNumberIfShorterExactSpec)) fnTurnPercentIntoNumberIfShorterExactCard
/-- ITS FALSE NEIGHBOUR. Refute it at one input. -/
def FnTurnPercentIntoNumberIfShorterExactToldWrongFalsely : Prop := Claim7.holds Tryf.pinned (.plain (OpenSpec.ofChange fnTurnPercentIntoNumberIfShorterExactWrong)) fnTurnPercentIntoNumberIfShorterExactCard
end Rows
end Go.Proofs.YtfhkkpfkkhpohabFmt
