/-
  DERIVED. GIVEN WITH THE SEED: THE CARDS: each row of YtelanacgjjdmnaaDoorRows.lean that lists a variable, with what it lists TIED to the program's text (the seventh form; the later family's looks); each row that meets fmt, with fmt's text TOLD by the authors' own Lean function (tested against real Go, not proved from fmt's source: count such statements apart). THE CARD IS WHAT COUNTS. Prove the row's statement (the work); the ties are given (YtelanacgjjdmnaaDoorTie.lean); close each card by the builder's one call (the guide's Derived/Test/ToyasCard.lean, 'card_holds'). Laid BY PROGRAM, IN A SANDBOX (cutbox-door.mjs). By AI agents, Wed Nov 11 2026. No macro, syntax, notation, axiom, sorry.
-/
import Derived.Test.YtelanacgjjdmnaaDoorRows
import GoSem.ClaimSeven
namespace Go.Proofs.YtelanacgjjdmnaaDoor
namespace Rows

/-- THE TIED CARD OF 'n011_148.FnMangleSideRedeclaredSideDropsEarlierRule'. -/
def fnMangleSideRedeclaredSideDropsEarlierRuleCard : Claim7 := { stood := { row := fnMangleSideRedeclaredSideDropsEarlierRuleRow, standIns := [], harness := (true, "47a1778d97ceaed2e4e78946a4d5e21b19011726449ad3b9642c93e4c54f3ad0"), looks := true }, kinds := [], alts := [], laidByText := true, laidKinds := [.data, .data, .data, .pinned, .pinned], laidTests := true, laidLooks := .later }
def FnMangleSideRedeclaredSideDropsEarlierRuleCardSaid : Prop := Claim7.holds Tryd.pinned (.plain (OpenSpec.ofChange fnMangleSideRedeclaredSideDropsEarlierRuleSpec)) fnMangleSideRedeclaredSideDropsEarlierRuleCard

/-- THE SECOND FORM's CARD OF 'n011_148.FnMangleSideRedeclaredSideDropsEarlierRule'. -/
def fnMangleSideRedeclaredSideDropsEarlierRuleUptoCard : Claim7 := { stood := { row := fnMangleSideRedeclaredSideDropsEarlierRuleUptoRow, standIns := [], harness := (true, "47a1778d97ceaed2e4e78946a4d5e21b19011726449ad3b9642c93e4c54f3ad0"), looks := true }, kinds := [], alts := [], laidByText := true, laidKinds := [.data, .data, .data, .pinned, .pinned], laidTests := true, laidLooks := .later }
def FnMangleSideRedeclaredSideDropsEarlierRuleUptoCardSaid : Prop := Claim7.holds Tryd.pinned (.plain (OpenSpec.upto fnMangleSideRedeclaredSideDropsEarlierRuleSpec)) fnMangleSideRedeclaredSideDropsEarlierRuleUptoCard
end Rows
end Go.Proofs.YtelanacgjjdmnaaDoor
