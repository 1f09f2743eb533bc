/-
  DERIVED. GIVEN WITH THE SEED: THE CARDS: each row of YtmaljklijpoojaaDoorRows.lean that lists a variable, with what it lists TIED to the program's text (the seventh form; the later family's looks); each row that meets fmt, with fmt's text TOLD by the authors' own Lean function (tested against real Go, not proved from fmt's source: count such statements apart). THE CARD IS WHAT COUNTS. Prove the row's statement (the work); the ties are given (YtmaljklijpoojaaDoorTie.lean); close each card by the builder's one call (the guide's Derived/Test/ToyasCard.lean, 'card_holds'). Laid BY PROGRAM, IN A SANDBOX (cutbox-door.mjs). By AI agents, Wed Nov 11 2026. No macro, syntax, notation, axiom, sorry.
-/
import Derived.Test.YtmaljklijpoojaaDoorRows
import GoSem.ClaimSeven
namespace Go.Proofs.YtmaljklijpoojaaDoor
namespace Rows

/-- THE TIED CARD OF 'n011_161.FnMangleCornerFourLonghandsMerge'. -/
def fnMangleCornerFourLonghandsMergeCard : Claim7 := { stood := { row := fnMangleCornerFourLonghandsMergeRow, standIns := [], harness := (true, "35c9a36eea33c0e39ba6d8ec7a4f732f2c2f2f79f62d4d7246cf4b602f8686c3"), looks := true }, kinds := [], alts := [], laidByText := true, laidKinds := [.data, .pinned, .pinned], laidTests := true, laidLooks := .later }
def FnMangleCornerFourLonghandsMergeCardSaid : Prop := Claim7.holds Tryd.pinned (.plain (OpenSpec.ofChange fnMangleCornerFourLonghandsMergeSpec)) fnMangleCornerFourLonghandsMergeCard

/-- THE SECOND FORM's CARD OF 'n011_161.FnMangleCornerFourLonghandsMerge'. -/
def fnMangleCornerFourLonghandsMergeUptoCard : Claim7 := { stood := { row := fnMangleCornerFourLonghandsMergeUptoRow, standIns := [], harness := (true, "35c9a36eea33c0e39ba6d8ec7a4f732f2c2f2f79f62d4d7246cf4b602f8686c3"), looks := true }, kinds := [], alts := [], laidByText := true, laidKinds := [.data, .pinned, .pinned], laidTests := true, laidLooks := .later }
def FnMangleCornerFourLonghandsMergeUptoCardSaid : Prop := Claim7.holds Tryd.pinned (.plain (OpenSpec.upto fnMangleCornerFourLonghandsMergeSpec)) fnMangleCornerFourLonghandsMergeUptoCard
end Rows
end Go.Proofs.YtmaljklijpoojaaDoor
