/-
  No cell of these rows narrows 'for every input' (looked for: loops, veiled, ifaces, maps, wideKeys, modest, calm, conditions, laid).
  DERIVED. THE GIVEN ROWS OF THIS SEAT. 6 by the template 'for every input the law returns true; each argument reads behind the call as it read before'; 0 by the template 'total and deterministic' (their statements: YtfbmomnfbkdbbaaTotals.lean).
  GIVEN WITH THE SEED: the statements are not yours to turn. If you find one false, say at which input.
  Laid BY PROGRAM, IN A SANDBOX (cutbox-rows.mjs): the forced cells as the released guide's own fill.sh prints them over the translation 976fc3ca4b5c8b39… (all of the seat's roots in one cut). By AI agents, Wed Nov 11 2026. No macro, syntax, notation, axiom, sorry.
-/
import Derived.Test.YtfbmomnfbkdbbaaChecked
import GoSem.Claim
import GoSem.ClaimJoined
import GoSem.ClaimMapViews
import Derived.JoinedTies
import Derived.KernelRfl
namespace Go.Proofs.Ytfbmomnfbkdbbaa
/- THE CELL 'sum', in the pinned program and in every row, IS THE sha256 OF THE DUMP (.gsa) THAT YtfbmomnfbkdbbaaProg.lean LOADS. Nothing in Lean hashes anything: it is a label: what it is worth is what the hold of that sum in a sandbox is worth. -/
noncomputable def Try.pinned : Pinned := { name := "ytfbmomnfbkdbbaa", sum := "976fc3ca4b5c8b39adc52d95c3de464bc7d1572494ad793f28722ea61e80cc19", checked := Try.checked }
namespace Rows
def none {H : Type} : Left H := { results := [], args := [] }

/-- 'n011_84.FnCompactHexInvertsExpandHex': WHATEVER THE INPUT: true; the input reads as it did. -/
def fnCompactHexInvertsExpandHexSpec : ChangeSpec := { name := "fnCompactHexInvertsExpandHex", fn := fun _ => fun
  | [d] => { results := [.lit (.bool true)], args := [d] }
  | _ => none }
def fnCompactHexInvertsExpandHexRow : OpenClaim := { program := "ytfbmomnfbkdbbaa", sum := "976fc3ca4b5c8b39adc52d95c3de464bc7d1572494ad793f28722ea61e80cc19", func := "github.com/evanw/esbuild/n011_84.FnCompactHexInvertsExpandHex", spec := "fnCompactHexInvertsExpandHex", apart := false }
def FnCompactHexInvertsExpandHexSaid : Prop := fnCompactHexInvertsExpandHexRow.holds Try.pinned (OpenSpec.ofChange fnCompactHexInvertsExpandHexSpec)

/-- ITS FALSE NEIGHBOUR: 'it returns false'. Refute it at one input. -/
def fnCompactHexInvertsExpandHexWrong : ChangeSpec := { name := "fnCompactHexInvertsExpandHex", fn := fun _ => fun
  | [d] => { results := [.lit (.bool false)], args := [d] }
  | _ => none }
def FnCompactHexInvertsExpandHexWrongFalsely : Prop := fnCompactHexInvertsExpandHexRow.holds Try.pinned (OpenSpec.ofChange fnCompactHexInvertsExpandHexWrong)

/-- 'n011_199.FnHexChannelsOfPackedBytes': WHATEVER THE INPUT: true; the input reads as it did. -/
def fnHexChannelsOfPackedBytesSpec : ChangeSpec := { name := "fnHexChannelsOfPackedBytes", fn := fun _ => fun
  | [d1, d2, d3, d4] => { results := [.lit (.bool true)], args := [d1, d2, d3, d4] }
  | _ => none }
def fnHexChannelsOfPackedBytesRow : OpenClaim := { program := "ytfbmomnfbkdbbaa", sum := "976fc3ca4b5c8b39adc52d95c3de464bc7d1572494ad793f28722ea61e80cc19", func := "github.com/evanw/esbuild/n011_199.FnHexChannelsOfPackedBytes", spec := "fnHexChannelsOfPackedBytes", apart := false }
def FnHexChannelsOfPackedBytesSaid : Prop := fnHexChannelsOfPackedBytesRow.holds Try.pinned (OpenSpec.ofChange fnHexChannelsOfPackedBytesSpec)

/-- ITS FALSE NEIGHBOUR: 'it returns false'. Refute it at one input. -/
def fnHexChannelsOfPackedBytesWrong : ChangeSpec := { name := "fnHexChannelsOfPackedBytes", fn := fun _ => fun
  | [d1, d2, d3, d4] => { results := [.lit (.bool false)], args := [d1, d2, d3, d4] }
  | _ => none }
def FnHexChannelsOfPackedBytesWrongFalsely : Prop := fnHexChannelsOfPackedBytesRow.holds Try.pinned (OpenSpec.ofChange fnHexChannelsOfPackedBytesWrong)

/-- 'n011_71.FnInvertChainOfDimensionCancelsInPairs': WHATEVER THE INPUT: true; the input reads as it did. -/
def fnInvertChainOfDimensionCancelsInPairsSpec : ChangeSpec := { name := "fnInvertChainOfDimensionCancelsInPairs", fn := fun _ => fun
  | [d1, d2, d3] => { results := [.lit (.bool true)], args := [d1, d2, d3] }
  | _ => none }
def fnInvertChainOfDimensionCancelsInPairsRow : OpenClaim := { program := "ytfbmomnfbkdbbaa", sum := "976fc3ca4b5c8b39adc52d95c3de464bc7d1572494ad793f28722ea61e80cc19", func := "github.com/evanw/esbuild/n011_71.FnInvertChainOfDimensionCancelsInPairs", spec := "fnInvertChainOfDimensionCancelsInPairs", unfollowed := true, recurses := true, apart := false }
def FnInvertChainOfDimensionCancelsInPairsSaid : Prop := fnInvertChainOfDimensionCancelsInPairsRow.holds Try.pinned (OpenSpec.ofChange fnInvertChainOfDimensionCancelsInPairsSpec)

/-- ITS FALSE NEIGHBOUR: 'it returns false'. Refute it at one input. -/
def fnInvertChainOfDimensionCancelsInPairsWrong : ChangeSpec := { name := "fnInvertChainOfDimensionCancelsInPairs", fn := fun _ => fun
  | [d1, d2, d3] => { results := [.lit (.bool false)], args := [d1, d2, d3] }
  | _ => none }
def FnInvertChainOfDimensionCancelsInPairsWrongFalsely : Prop := fnInvertChainOfDimensionCancelsInPairsRow.holds Try.pinned (OpenSpec.ofChange fnInvertChainOfDimensionCancelsInPairsWrong)

/-- 'n011_84.FnParseHexReadsFormattedWord': WHATEVER THE INPUT: true; the input reads as it did. -/
def fnParseHexReadsFormattedWordSpec : ChangeSpec := { name := "fnParseHexReadsFormattedWord", fn := fun _ => fun
  | [d1, d2, d3] => { results := [.lit (.bool true)], args := [d1, d2, d3] }
  | _ => none }
def fnParseHexReadsFormattedWordRow : OpenClaim := { program := "ytfbmomnfbkdbbaa", sum := "976fc3ca4b5c8b39adc52d95c3de464bc7d1572494ad793f28722ea61e80cc19", func := "github.com/evanw/esbuild/n011_84.FnParseHexReadsFormattedWord", spec := "fnParseHexReadsFormattedWord", apart := false }
def FnParseHexReadsFormattedWordSaid : Prop := fnParseHexReadsFormattedWordRow.holds Try.pinned (OpenSpec.ofChange fnParseHexReadsFormattedWordSpec)

/-- ITS FALSE NEIGHBOUR: 'it returns false'. Refute it at one input. -/
def fnParseHexReadsFormattedWordWrong : ChangeSpec := { name := "fnParseHexReadsFormattedWord", fn := fun _ => fun
  | [d1, d2, d3] => { results := [.lit (.bool false)], args := [d1, d2, d3] }
  | _ => none }
def FnParseHexReadsFormattedWordWrongFalsely : Prop := fnParseHexReadsFormattedWordRow.holds Try.pinned (OpenSpec.ofChange fnParseHexReadsFormattedWordWrong)

/-- 'n011_18.FnParseIntegerZeroPadding': WHATEVER THE INPUT: true; the input reads as it did. -/
def fnParseIntegerZeroPaddingSpec : ChangeSpec := { name := "fnParseIntegerZeroPadding", fn := fun _ => fun
  | [d1, d2] => { results := [.lit (.bool true)], args := [d1, d2] }
  | _ => none }
def fnParseIntegerZeroPaddingRow : OpenClaim := { program := "ytfbmomnfbkdbbaa", sum := "976fc3ca4b5c8b39adc52d95c3de464bc7d1572494ad793f28722ea61e80cc19", func := "github.com/evanw/esbuild/n011_18.FnParseIntegerZeroPadding", spec := "fnParseIntegerZeroPadding", apart := false }
def FnParseIntegerZeroPaddingSaid : Prop := fnParseIntegerZeroPaddingRow.holds Try.pinned (OpenSpec.ofChange fnParseIntegerZeroPaddingSpec)

/-- ITS FALSE NEIGHBOUR: 'it returns false'. Refute it at one input. -/
def fnParseIntegerZeroPaddingWrong : ChangeSpec := { name := "fnParseIntegerZeroPadding", fn := fun _ => fun
  | [d1, d2] => { results := [.lit (.bool false)], args := [d1, d2] }
  | _ => none }
def FnParseIntegerZeroPaddingWrongFalsely : Prop := fnParseIntegerZeroPaddingRow.holds Try.pinned (OpenSpec.ofChange fnParseIntegerZeroPaddingWrong)

/-- 'n011_10.FnScanMediaComparisonWhitespaceSplitsTwoCharOperator': WHATEVER THE INPUT: true; the input reads as it did. -/
def fnScanMediaComparisonWhitespaceSplitsTwoCharOperatorSpec : ChangeSpec := { name := "fnScanMediaComparisonWhitespaceSplitsTwoCharOperator", fn := fun _ => fun
  | [d1, d2] => { results := [.lit (.bool true)], args := [d1, d2] }
  | _ => none }
def fnScanMediaComparisonWhitespaceSplitsTwoCharOperatorRow : OpenClaim := { program := "ytfbmomnfbkdbbaa", sum := "976fc3ca4b5c8b39adc52d95c3de464bc7d1572494ad793f28722ea61e80cc19", func := "github.com/evanw/esbuild/n011_10.FnScanMediaComparisonWhitespaceSplitsTwoCharOperator", spec := "fnScanMediaComparisonWhitespaceSplitsTwoCharOperator", apart := false }
def FnScanMediaComparisonWhitespaceSplitsTwoCharOperatorSaid : Prop := fnScanMediaComparisonWhitespaceSplitsTwoCharOperatorRow.holds Try.pinned (OpenSpec.ofChange fnScanMediaComparisonWhitespaceSplitsTwoCharOperatorSpec)

/-- ITS FALSE NEIGHBOUR: 'it returns false'. Refute it at one input. -/
def fnScanMediaComparisonWhitespaceSplitsTwoCharOperatorWrong : ChangeSpec := { name := "fnScanMediaComparisonWhitespaceSplitsTwoCharOperator", fn := fun _ => fun
  | [d1, d2] => { results := [.lit (.bool false)], args := [d1, d2] }
  | _ => none }
def FnScanMediaComparisonWhitespaceSplitsTwoCharOperatorWrongFalsely : Prop := fnScanMediaComparisonWhitespaceSplitsTwoCharOperatorRow.holds Try.pinned (OpenSpec.ofChange fnScanMediaComparisonWhitespaceSplitsTwoCharOperatorWrong)

/- THE SECOND FORM. 'bulk': how many values and letters a reading holds, each counted each time it is reached (what is shared counts as often as it is met; a slice's spare places count too). A statement '..UptoSaid' is the law's where the arguments, and the package variables that the reading takes, are together of bulk at most 1048576: NARROWER than '..Said'. Prove '..Said' where nothing that the law and all that it calls make is longer than what came in: it says more and counts as full. Else prove '..UptoSaid'. A law counts once. -/
mutual
def uptoBulk {H : Type} : DataW H → Nat
  | .lit (.string bytes) => bytes.length + 1
  | .lit _ => 1
  | .nil => 1
  | .ptr d => uptoBulk d + 1
  | .slice elems spare => uptoBulkAll elems + uptoBulkAll spare + 1
  | .agg parts => uptoBulkAll parts + 1
  | .iface _ d => uptoBulk d + 1
  | .map entries => uptoBulkEntries entries + 1
  | .held _ => 1
def uptoBulkAll {H : Type} : List (DataW H) → Nat
  | [] => 0
  | d :: r => uptoBulk d + uptoBulkAll r
def uptoBulkEntries {H : Type} : List (Lit × DataW H) → Nat
  | [] => 0
  | x :: r => uptoBulkEntry x + uptoBulkEntries r
def uptoBulkEntry {H : Type} : Lit × DataW H → Nat
  | (.string bytes, d) => bytes.length + uptoBulk d + 1
  | (_, d) => uptoBulk d + 1
 end
def uptoSmall : (H : Type) → List (DataW H) → Bool := fun _ ds => decide (uptoBulkAll ds ≤ 1048576)
def OpenSpec.upto (s : _root_.Go.ChangeSpec) : _root_.Go.OpenSpec := { _root_.Go.OpenSpec.ofChange s with cond := some uptoSmall }

/-- 'n011_84.FnCompactHexInvertsExpandHex', WHERE WHAT IT READS IS OF BULK AT MOST 1048576: true; the input reads as it did. -/
def fnCompactHexInvertsExpandHexUptoRow : OpenClaim := { program := "ytfbmomnfbkdbbaa", sum := "976fc3ca4b5c8b39adc52d95c3de464bc7d1572494ad793f28722ea61e80cc19", func := "github.com/evanw/esbuild/n011_84.FnCompactHexInvertsExpandHex", spec := "fnCompactHexInvertsExpandHex", apart := false, narrowed := true }
def FnCompactHexInvertsExpandHexUptoSaid : Prop := fnCompactHexInvertsExpandHexUptoRow.holds Try.pinned (OpenSpec.upto fnCompactHexInvertsExpandHexSpec)

/-- 'n011_199.FnHexChannelsOfPackedBytes', WHERE WHAT IT READS IS OF BULK AT MOST 1048576: true; the input reads as it did. -/
def fnHexChannelsOfPackedBytesUptoRow : OpenClaim := { program := "ytfbmomnfbkdbbaa", sum := "976fc3ca4b5c8b39adc52d95c3de464bc7d1572494ad793f28722ea61e80cc19", func := "github.com/evanw/esbuild/n011_199.FnHexChannelsOfPackedBytes", spec := "fnHexChannelsOfPackedBytes", apart := false, narrowed := true }
def FnHexChannelsOfPackedBytesUptoSaid : Prop := fnHexChannelsOfPackedBytesUptoRow.holds Try.pinned (OpenSpec.upto fnHexChannelsOfPackedBytesSpec)

/-- 'n011_71.FnInvertChainOfDimensionCancelsInPairs', WHERE WHAT IT READS IS OF BULK AT MOST 1048576: true; the input reads as it did. -/
def fnInvertChainOfDimensionCancelsInPairsUptoRow : OpenClaim := { program := "ytfbmomnfbkdbbaa", sum := "976fc3ca4b5c8b39adc52d95c3de464bc7d1572494ad793f28722ea61e80cc19", func := "github.com/evanw/esbuild/n011_71.FnInvertChainOfDimensionCancelsInPairs", spec := "fnInvertChainOfDimensionCancelsInPairs", unfollowed := true, recurses := true, apart := false, narrowed := true }
def FnInvertChainOfDimensionCancelsInPairsUptoSaid : Prop := fnInvertChainOfDimensionCancelsInPairsUptoRow.holds Try.pinned (OpenSpec.upto fnInvertChainOfDimensionCancelsInPairsSpec)

/-- 'n011_84.FnParseHexReadsFormattedWord', WHERE WHAT IT READS IS OF BULK AT MOST 1048576: true; the input reads as it did. -/
def fnParseHexReadsFormattedWordUptoRow : OpenClaim := { program := "ytfbmomnfbkdbbaa", sum := "976fc3ca4b5c8b39adc52d95c3de464bc7d1572494ad793f28722ea61e80cc19", func := "github.com/evanw/esbuild/n011_84.FnParseHexReadsFormattedWord", spec := "fnParseHexReadsFormattedWord", apart := false, narrowed := true }
def FnParseHexReadsFormattedWordUptoSaid : Prop := fnParseHexReadsFormattedWordUptoRow.holds Try.pinned (OpenSpec.upto fnParseHexReadsFormattedWordSpec)

/-- 'n011_18.FnParseIntegerZeroPadding', WHERE WHAT IT READS IS OF BULK AT MOST 1048576: true; the input reads as it did. -/
def fnParseIntegerZeroPaddingUptoRow : OpenClaim := { program := "ytfbmomnfbkdbbaa", sum := "976fc3ca4b5c8b39adc52d95c3de464bc7d1572494ad793f28722ea61e80cc19", func := "github.com/evanw/esbuild/n011_18.FnParseIntegerZeroPadding", spec := "fnParseIntegerZeroPadding", apart := false, narrowed := true }
def FnParseIntegerZeroPaddingUptoSaid : Prop := fnParseIntegerZeroPaddingUptoRow.holds Try.pinned (OpenSpec.upto fnParseIntegerZeroPaddingSpec)

/-- 'n011_10.FnScanMediaComparisonWhitespaceSplitsTwoCharOperator', WHERE WHAT IT READS IS OF BULK AT MOST 1048576: true; the input reads as it did. -/
def fnScanMediaComparisonWhitespaceSplitsTwoCharOperatorUptoRow : OpenClaim := { program := "ytfbmomnfbkdbbaa", sum := "976fc3ca4b5c8b39adc52d95c3de464bc7d1572494ad793f28722ea61e80cc19", func := "github.com/evanw/esbuild/n011_10.FnScanMediaComparisonWhitespaceSplitsTwoCharOperator", spec := "fnScanMediaComparisonWhitespaceSplitsTwoCharOperator", apart := false, narrowed := true }
def FnScanMediaComparisonWhitespaceSplitsTwoCharOperatorUptoSaid : Prop := fnScanMediaComparisonWhitespaceSplitsTwoCharOperatorUptoRow.holds Try.pinned (OpenSpec.upto fnScanMediaComparisonWhitespaceSplitsTwoCharOperatorSpec)

end Rows
end Go.Proofs.Ytfbmomnfbkdbbaa
