/-
  DERIVED. GIVEN WITH THE SEED: THE CARDS: each row of YtibdmppjmaacpaaDoorRows.lean that lists a variable, with what it lists TIED to the program's text (the seventh form; the later family's looks); each row that meets fmt, with fmt's text TOLD by the authors' own Lean function (tested against real Go, not proved from fmt's source: count such statements apart). THE CARD IS WHAT COUNTS. Prove the row's statement (the work); the ties are given (YtibdmppjmaacpaaDoorTie.lean); close each card by the builder's one call (the guide's Derived/Test/ToyasCard.lean, 'card_holds'). Laid BY PROGRAM, IN A SANDBOX (cutbox-door.mjs). By AI agents, Wed Nov 11 2026. No macro, syntax, notation, axiom, sorry.
-/
import Derived.Test.YtibdmppjmaacpaaDoorRows
import GoSem.ClaimSeven
namespace Go.Proofs.YtibdmppjmaacpaaDoor
namespace Rows

/-- THE TIED CARD OF 'n011_282.FnIncludeUnitOfIsLatticeJoin'. -/
def fnIncludeUnitOfIsLatticeJoinCard : Claim7 := { stood := { row := fnIncludeUnitOfIsLatticeJoinRow, standIns := [], harness := (true, "82c631f882f0e0177987c1ff380999c6768294b06705d62b8510757aa278f701"), looks := false }, kinds := [], alts := [], laidByText := true, laidKinds := [.data, .pinned, .pinned], laidTests := true, laidLooks := .later }
def FnIncludeUnitOfIsLatticeJoinCardSaid : Prop := Claim7.holds Tryd.pinned (.plain (OpenSpec.ofChange fnIncludeUnitOfIsLatticeJoinSpec)) fnIncludeUnitOfIsLatticeJoinCard

/-- THE SECOND FORM's CARD OF 'n011_282.FnIncludeUnitOfIsLatticeJoin'. -/
def fnIncludeUnitOfIsLatticeJoinUptoCard : Claim7 := { stood := { row := fnIncludeUnitOfIsLatticeJoinUptoRow, standIns := [], harness := (true, "82c631f882f0e0177987c1ff380999c6768294b06705d62b8510757aa278f701"), looks := false }, kinds := [], alts := [], laidByText := true, laidKinds := [.data, .pinned, .pinned], laidTests := true, laidLooks := .later }
def FnIncludeUnitOfIsLatticeJoinUptoCardSaid : Prop := Claim7.holds Tryd.pinned (.plain (OpenSpec.upto fnIncludeUnitOfIsLatticeJoinSpec)) fnIncludeUnitOfIsLatticeJoinUptoCard
end Rows
end Go.Proofs.YtibdmppjmaacpaaDoor
