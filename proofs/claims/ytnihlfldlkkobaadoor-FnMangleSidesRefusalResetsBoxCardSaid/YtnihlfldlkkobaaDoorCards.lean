/-
  DERIVED. GIVEN WITH THE SEED: THE CARDS: each row of YtnihlfldlkkobaaDoorRows.lean that lists a variable, with what it lists TIED to the program's text (the seventh form; the later family's looks); each row that meets fmt, with fmt's text TOLD by the authors' own Lean function (tested against real Go, not proved from fmt's source: count such statements apart). THE CARD IS WHAT COUNTS. Prove the row's statement (the work); the ties are given (YtnihlfldlkkobaaDoorTie.lean); close each card by the builder's one call (the guide's Derived/Test/ToyasCard.lean, 'card_holds'). Laid BY PROGRAM, IN A SANDBOX (cutbox-door.mjs). By AI agents, Wed Nov 11 2026. No macro, syntax, notation, axiom, sorry.
-/
import Derived.Test.YtnihlfldlkkobaaDoorRows
import GoSem.ClaimSeven
namespace Go.Proofs.YtnihlfldlkkobaaDoor
namespace Rows

/-- THE TIED CARD OF 'n011_282.FnMangleSidesRefusalResetsBox'. -/
def fnMangleSidesRefusalResetsBoxCard : Claim7 := { stood := { row := fnMangleSidesRefusalResetsBoxRow, standIns := [], harness := (true, "ab694a44c926982ce0e8da824b8416754eb5270cf6f2e7f1230f99d19cf12138"), looks := true }, kinds := [], alts := [], laidByText := true, laidKinds := [.data, .pinned, .pinned], laidTests := true, laidLooks := .later }
def FnMangleSidesRefusalResetsBoxCardSaid : Prop := Claim7.holds Tryd.pinned (.plain (OpenSpec.ofChange fnMangleSidesRefusalResetsBoxSpec)) fnMangleSidesRefusalResetsBoxCard

/-- THE SECOND FORM's CARD OF 'n011_282.FnMangleSidesRefusalResetsBox'. -/
def fnMangleSidesRefusalResetsBoxUptoCard : Claim7 := { stood := { row := fnMangleSidesRefusalResetsBoxUptoRow, standIns := [], harness := (true, "ab694a44c926982ce0e8da824b8416754eb5270cf6f2e7f1230f99d19cf12138"), looks := true }, kinds := [], alts := [], laidByText := true, laidKinds := [.data, .pinned, .pinned], laidTests := true, laidLooks := .later }
def FnMangleSidesRefusalResetsBoxUptoCardSaid : Prop := Claim7.holds Tryd.pinned (.plain (OpenSpec.upto fnMangleSidesRefusalResetsBoxSpec)) fnMangleSidesRefusalResetsBoxUptoCard
end Rows
end Go.Proofs.YtnihlfldlkkobaaDoor
