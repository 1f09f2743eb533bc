/-
  No cell of these rows narrows 'for every input' (looked for: loops, veiled, ifaces, maps, wideKeys, modest, calm, conditions, laid).
  DERIVED. THE GIVEN ROWS OF THIS SEAT. 1 by the template 'for every input the law returns true; each argument reads behind the call as it read before'; 0 by the template 'total and deterministic' (their statements: YtfhkkpfkkhpohabFmtTotals.lean).
  GIVEN WITH THE SEED: the statements are not yours to turn. If you find one false, say at which input.
  Laid BY PROGRAM, IN A SANDBOX (cutbox-rows.mjs): the forced cells as the released guide's own fill.sh prints them over the translation fde1d9753bae1f88… (all of the seat's roots in one cut). By AI agents, Wed Nov 11 2026. No macro, syntax, notation, axiom, sorry.
-/
import Derived.Test.YtfhkkpfkkhpohabFmtChecked
import GoSem.Claim
import GoSem.ClaimJoined
import GoSem.ClaimMapViews
import Derived.JoinedTies
import Derived.KernelRfl
namespace Go.Proofs.YtfhkkpfkkhpohabFmt
/- THE CELL 'sum', in the pinned program and in every row, IS THE sha256 OF THE DUMP (.gsa) THAT YtfhkkpfkkhpohabFmtProg.lean LOADS. Nothing in Lean hashes anything: it is a label: what it is worth is what the hold of that sum in a sandbox is worth. -/
noncomputable def Tryf.pinned : Pinned := { name := "ytfhkkpfkkhpohabfmt", sum := "fde1d9753bae1f88f187af0962e67b3f54588c39ce3a24bf9b0a26060226bb30", checked := Tryf.checked }
namespace Rows
def none {H : Type} : Left H := { results := [], args := [] }

/-- 'n011_214.FnTurnPercentIntoNumberIfShorterExact': WHATEVER THE INPUT: true; the input reads as it did. -/
def fnTurnPercentIntoNumberIfShorterExactSpec : ChangeSpec := { name := "fnTurnPercentIntoNumberIfShorterExact", fn := fun _ => fun
  | [d1, d2, d3, d4] => { results := [.lit (.bool true)], args := [d1, d2, d3, d4] }
  | _ => none }
def fnTurnPercentIntoNumberIfShorterExactRow : OpenClaim := { program := "ytfhkkpfkkhpohabfmt", sum := "fde1d9753bae1f88f187af0962e67b3f54588c39ce3a24bf9b0a26060226bb30", func := "github.com/evanw/esbuild/n011_214.FnTurnPercentIntoNumberIfShorterExact", spec := "fnTurnPercentIntoNumberIfShorterExact", stops := ["fmt.Sprintf"], inPlace := ["internal/bytealg.IndexByteString", "internal/bytealg.IndexString", "internal/abi.NoEscape", "internal/bytealg.MakeNoZero", "fmt.Sprintf"], named := ["internal/bytealg.MaxLen"], apart := false }
/-- NO THEOREM (fmt's text is open here; it may be false): for the released tool's asking of the row's closed facts alone. THE STATEMENT IS 'FnTurnPercentIntoNumberIfShorterExactToldSaid' (YtfhkkpfkkhpohabFmtCards.lean). -/
def FnTurnPercentIntoNumberIfShorterExactFormAsk : Prop := fnTurnPercentIntoNumberIfShorterExactRow.holds Tryf.pinned (OpenSpec.ofChange fnTurnPercentIntoNumberIfShorterExactSpec)

/-- ITS FALSE NEIGHBOUR: 'it returns false'. Refute it at one input. -/
def fnTurnPercentIntoNumberIfShorterExactWrong : ChangeSpec := { name := "fnTurnPercentIntoNumberIfShorterExact", fn := fun _ => fun
  | [d1, d2, d3, d4] => { results := [.lit (.bool false)], args := [d1, d2, d3, d4] }
  | _ => none }
def FnTurnPercentIntoNumberIfShorterExactWrongFormAsk : Prop := fnTurnPercentIntoNumberIfShorterExactRow.holds Tryf.pinned (OpenSpec.ofChange fnTurnPercentIntoNumberIfShorterExactWrong)

end Rows
end Go.Proofs.YtfhkkpfkkhpohabFmt
