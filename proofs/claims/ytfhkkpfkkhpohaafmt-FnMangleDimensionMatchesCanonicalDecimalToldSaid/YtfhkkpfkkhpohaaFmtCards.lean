/-
  DERIVED. GIVEN WITH THE SEED: THE CARDS: each row of YtfhkkpfkkhpohaaFmtRows.lean that lists a variable, with what it lists TIED to the program's text (the seventh form; the later family's looks); each row that meets fmt, with fmt's text TOLD by the authors' own Lean function (tested against real Go, not proved from fmt's source: count such statements apart). THE CARD IS WHAT COUNTS. Prove the row's statement (the work); the ties are given (YtfhkkpfkkhpohaaFmtTie.lean); close each card by the builder's one call (the guide's Derived/Test/ToyasCard.lean, 'card_holds'). Laid BY PROGRAM, IN A SANDBOX (cutbox-door.mjs). By AI agents, Wed Nov 11 2026. No macro, syntax, notation, axiom, sorry.
-/
import Derived.Test.YtfhkkpfkkhpohaaFmtRows
import GoSem.ClaimSeven
namespace Go.Proofs.YtfhkkpfkkhpohaaFmt
namespace Rows

/-- THE TOLD AND TIED CARD OF 'n011_31.FnMangleDimensionMatchesCanonicalDecimal'. -/
def fnMangleDimensionMatchesCanonicalDecimalCard : Claim7 := { stood := { row := fnMangleDimensionMatchesCanonicalDecimalRow, standIns := [], harness := (true, "7aee292beda97b19066e519ab9e338175bbd8d60903a305123bf604a765d8a66"), looks := false }, told := true, laidByText := true, laidKinds := [.data, .data, .data, .pinned, .pinned], laidTests := true, laidLooks := .later, goes := false }
def FnMangleDimensionMatchesCanonicalDecimalToldSaid : Prop := Claim7.holds Tryf.pinned (.plain (OpenSpec.ofChange fnMangleDimensionMatchesCanonicalDecimalSpec)) fnMangleDimensionMatchesCanonicalDecimalCard
/-- ITS FALSE NEIGHBOUR. Refute it at one input. -/
def FnMangleDimensionMatchesCanonicalDecimalToldWrongFalsely : Prop := Claim7.holds Tryf.pinned (.plain (OpenSpec.ofChange fnMangleDimensionMatchesCanonicalDecimalWrong)) fnMangleDimensionMatchesCanonicalDecimalCard
end Rows
end Go.Proofs.YtfhkkpfkkhpohaaFmt
