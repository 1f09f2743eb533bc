/-
  No cell of these rows narrows 'for every input' (looked for: loops, veiled, ifaces, maps, wideKeys, modest, calm, conditions, laid).
  DERIVED. THE GIVEN ROWS OF THIS SEAT. 6 by the template 'for every input the law returns true; each argument reads behind the call as it read before'; 0 by the template 'total and deterministic' (their statements: YthjgigahhooilaaTotals.lean).
  GIVEN WITH THE SEED: the statements are not yours to turn. If you find one false, say at which input.
  Laid BY PROGRAM, IN A SANDBOX (cutbox-rows.mjs): the forced cells as the released guide's own fill.sh prints them over the translation 77cb59c2d34afb17… (all of the seat's roots in one cut). By AI agents, Wed Nov 11 2026. No macro, syntax, notation, axiom, sorry.
-/
import Derived.Test.YthjgigahhooilaaChecked
import GoSem.Claim
import GoSem.ClaimJoined
import GoSem.ClaimMapViews
import Derived.JoinedTies
import Derived.KernelRfl
namespace Go.Proofs.Ythjgigahhooilaa
/- THE CELL 'sum', in the pinned program and in every row, IS THE sha256 OF THE DUMP (.gsa) THAT YthjgigahhooilaaProg.lean LOADS. Nothing in Lean hashes anything: it is a label: what it is worth is what the hold of that sum in a sandbox is worth. -/
noncomputable def Try.pinned : Pinned := { name := "ythjgigahhooilaa", sum := "77cb59c2d34afb179a73e66d24854b8461e626d28faf0840a82baf3e8562fc9f", checked := Try.checked }
namespace Rows
def none {H : Type} : Left H := { results := [], args := [] }

/-- 'n011_226.FnXyzToLinA98rgbSendsD65GrayToEqualChannels': WHATEVER THE INPUT: true; the input reads as it did. -/
def fnXyzToLinA98rgbSendsD65GrayToEqualChannelsSpec : ChangeSpec := { name := "fnXyzToLinA98rgbSendsD65GrayToEqualChannels", fn := fun _ => fun
  | [d] => { results := [.lit (.bool true)], args := [d] }
  | _ => none }
def fnXyzToLinA98rgbSendsD65GrayToEqualChannelsRow : OpenClaim := { program := "ythjgigahhooilaa", sum := "77cb59c2d34afb179a73e66d24854b8461e626d28faf0840a82baf3e8562fc9f", func := "github.com/evanw/esbuild/n011_226.FnXyzToLinA98rgbSendsD65GrayToEqualChannels", spec := "fnXyzToLinA98rgbSendsD65GrayToEqualChannels", apart := false }
def FnXyzToLinA98rgbSendsD65GrayToEqualChannelsSaid : Prop := fnXyzToLinA98rgbSendsD65GrayToEqualChannelsRow.holds Try.pinned (OpenSpec.ofChange fnXyzToLinA98rgbSendsD65GrayToEqualChannelsSpec)

/-- ITS FALSE NEIGHBOUR: 'it returns false'. Refute it at one input. -/
def fnXyzToLinA98rgbSendsD65GrayToEqualChannelsWrong : ChangeSpec := { name := "fnXyzToLinA98rgbSendsD65GrayToEqualChannels", fn := fun _ => fun
  | [d] => { results := [.lit (.bool false)], args := [d] }
  | _ => none }
def FnXyzToLinA98rgbSendsD65GrayToEqualChannelsWrongFalsely : Prop := fnXyzToLinA98rgbSendsD65GrayToEqualChannelsRow.holds Try.pinned (OpenSpec.ofChange fnXyzToLinA98rgbSendsD65GrayToEqualChannelsWrong)

/-- 'n011_83.FnXyzToLinP3MapsD65GraysToEqualChannels': WHATEVER THE INPUT: true; the input reads as it did. -/
def fnXyzToLinP3MapsD65GraysToEqualChannelsSpec : ChangeSpec := { name := "fnXyzToLinP3MapsD65GraysToEqualChannels", fn := fun _ => fun
  | [d] => { results := [.lit (.bool true)], args := [d] }
  | _ => none }
def fnXyzToLinP3MapsD65GraysToEqualChannelsRow : OpenClaim := { program := "ythjgigahhooilaa", sum := "77cb59c2d34afb179a73e66d24854b8461e626d28faf0840a82baf3e8562fc9f", func := "github.com/evanw/esbuild/n011_83.FnXyzToLinP3MapsD65GraysToEqualChannels", spec := "fnXyzToLinP3MapsD65GraysToEqualChannels", apart := false }
def FnXyzToLinP3MapsD65GraysToEqualChannelsSaid : Prop := fnXyzToLinP3MapsD65GraysToEqualChannelsRow.holds Try.pinned (OpenSpec.ofChange fnXyzToLinP3MapsD65GraysToEqualChannelsSpec)

/-- ITS FALSE NEIGHBOUR: 'it returns false'. Refute it at one input. -/
def fnXyzToLinP3MapsD65GraysToEqualChannelsWrong : ChangeSpec := { name := "fnXyzToLinP3MapsD65GraysToEqualChannels", fn := fun _ => fun
  | [d] => { results := [.lit (.bool false)], args := [d] }
  | _ => none }
def FnXyzToLinP3MapsD65GraysToEqualChannelsWrongFalsely : Prop := fnXyzToLinP3MapsD65GraysToEqualChannelsRow.holds Try.pinned (OpenSpec.ofChange fnXyzToLinP3MapsD65GraysToEqualChannelsWrong)

/-- 'n011_225.FnLinP3ToXyzInvertedByXyzToLinP3': WHATEVER THE INPUT: true; the input reads as it did. -/
def fnLinP3ToXyzInvertedByXyzToLinP3Spec : ChangeSpec := { name := "fnLinP3ToXyzInvertedByXyzToLinP3", fn := fun _ => fun
  | [d1, d2, d3] => { results := [.lit (.bool true)], args := [d1, d2, d3] }
  | _ => none }
def fnLinP3ToXyzInvertedByXyzToLinP3Row : OpenClaim := { program := "ythjgigahhooilaa", sum := "77cb59c2d34afb179a73e66d24854b8461e626d28faf0840a82baf3e8562fc9f", func := "github.com/evanw/esbuild/n011_225.FnLinP3ToXyzInvertedByXyzToLinP3", spec := "fnLinP3ToXyzInvertedByXyzToLinP3", apart := false }
def FnLinP3ToXyzInvertedByXyzToLinP3Said : Prop := fnLinP3ToXyzInvertedByXyzToLinP3Row.holds Try.pinned (OpenSpec.ofChange fnLinP3ToXyzInvertedByXyzToLinP3Spec)

/-- ITS FALSE NEIGHBOUR: 'it returns false'. Refute it at one input. -/
def fnLinP3ToXyzInvertedByXyzToLinP3Wrong : ChangeSpec := { name := "fnLinP3ToXyzInvertedByXyzToLinP3", fn := fun _ => fun
  | [d1, d2, d3] => { results := [.lit (.bool false)], args := [d1, d2, d3] }
  | _ => none }
def FnLinP3ToXyzInvertedByXyzToLinP3WrongFalsely : Prop := fnLinP3ToXyzInvertedByXyzToLinP3Row.holds Try.pinned (OpenSpec.ofChange fnLinP3ToXyzInvertedByXyzToLinP3Wrong)

/-- 'n011_70.FnD65ToD50RoundTrip': WHATEVER THE INPUT: true; the input reads as it did. -/
def fnD65ToD50RoundTripSpec : ChangeSpec := { name := "fnD65ToD50RoundTrip", fn := fun _ => fun
  | [d1, d2, d3] => { results := [.lit (.bool true)], args := [d1, d2, d3] }
  | _ => none }
def fnD65ToD50RoundTripRow : OpenClaim := { program := "ythjgigahhooilaa", sum := "77cb59c2d34afb179a73e66d24854b8461e626d28faf0840a82baf3e8562fc9f", func := "github.com/evanw/esbuild/n011_70.FnD65ToD50RoundTrip", spec := "fnD65ToD50RoundTrip", apart := false }
def FnD65ToD50RoundTripSaid : Prop := fnD65ToD50RoundTripRow.holds Try.pinned (OpenSpec.ofChange fnD65ToD50RoundTripSpec)

/-- ITS FALSE NEIGHBOUR: 'it returns false'. Refute it at one input. -/
def fnD65ToD50RoundTripWrong : ChangeSpec := { name := "fnD65ToD50RoundTrip", fn := fun _ => fun
  | [d1, d2, d3] => { results := [.lit (.bool false)], args := [d1, d2, d3] }
  | _ => none }
def FnD65ToD50RoundTripWrongFalsely : Prop := fnD65ToD50RoundTripRow.holds Try.pinned (OpenSpec.ofChange fnD65ToD50RoundTripWrong)

/-- 'n011_293.FnXyzToLinProphotoIsOddAndExactlyHomogeneous': WHATEVER THE INPUT: true; the input reads as it did. -/
def fnXyzToLinProphotoIsOddAndExactlyHomogeneousSpec : ChangeSpec := { name := "fnXyzToLinProphotoIsOddAndExactlyHomogeneous", fn := fun _ => fun
  | [d1, d2, d3] => { results := [.lit (.bool true)], args := [d1, d2, d3] }
  | _ => none }
def fnXyzToLinProphotoIsOddAndExactlyHomogeneousRow : OpenClaim := { program := "ythjgigahhooilaa", sum := "77cb59c2d34afb179a73e66d24854b8461e626d28faf0840a82baf3e8562fc9f", func := "github.com/evanw/esbuild/n011_293.FnXyzToLinProphotoIsOddAndExactlyHomogeneous", spec := "fnXyzToLinProphotoIsOddAndExactlyHomogeneous", apart := false }
def FnXyzToLinProphotoIsOddAndExactlyHomogeneousSaid : Prop := fnXyzToLinProphotoIsOddAndExactlyHomogeneousRow.holds Try.pinned (OpenSpec.ofChange fnXyzToLinProphotoIsOddAndExactlyHomogeneousSpec)

/-- ITS FALSE NEIGHBOUR: 'it returns false'. Refute it at one input. -/
def fnXyzToLinProphotoIsOddAndExactlyHomogeneousWrong : ChangeSpec := { name := "fnXyzToLinProphotoIsOddAndExactlyHomogeneous", fn := fun _ => fun
  | [d1, d2, d3] => { results := [.lit (.bool false)], args := [d1, d2, d3] }
  | _ => none }
def FnXyzToLinProphotoIsOddAndExactlyHomogeneousWrongFalsely : Prop := fnXyzToLinProphotoIsOddAndExactlyHomogeneousRow.holds Try.pinned (OpenSpec.ofChange fnXyzToLinProphotoIsOddAndExactlyHomogeneousWrong)

/-- 'n011_142.FnDeltaEOKIsSymmetricAndZeroOnItself': WHATEVER THE INPUT: true; the input reads as it did. -/
def fnDeltaEOKIsSymmetricAndZeroOnItselfSpec : ChangeSpec := { name := "fnDeltaEOKIsSymmetricAndZeroOnItself", fn := fun _ => fun
  | [d1, d2, d3, d4, d5, d6] => { results := [.lit (.bool true)], args := [d1, d2, d3, d4, d5, d6] }
  | _ => none }
def fnDeltaEOKIsSymmetricAndZeroOnItselfRow : OpenClaim := { program := "ythjgigahhooilaa", sum := "77cb59c2d34afb179a73e66d24854b8461e626d28faf0840a82baf3e8562fc9f", func := "github.com/evanw/esbuild/n011_142.FnDeltaEOKIsSymmetricAndZeroOnItself", spec := "fnDeltaEOKIsSymmetricAndZeroOnItself", inPlace := ["math.sqrt"], apart := false }
def FnDeltaEOKIsSymmetricAndZeroOnItselfSaid : Prop := fnDeltaEOKIsSymmetricAndZeroOnItselfRow.holds Try.pinned (OpenSpec.ofChange fnDeltaEOKIsSymmetricAndZeroOnItselfSpec)

/-- ITS FALSE NEIGHBOUR: 'it returns false'. Refute it at one input. -/
def fnDeltaEOKIsSymmetricAndZeroOnItselfWrong : ChangeSpec := { name := "fnDeltaEOKIsSymmetricAndZeroOnItself", fn := fun _ => fun
  | [d1, d2, d3, d4, d5, d6] => { results := [.lit (.bool false)], args := [d1, d2, d3, d4, d5, d6] }
  | _ => none }
def FnDeltaEOKIsSymmetricAndZeroOnItselfWrongFalsely : Prop := fnDeltaEOKIsSymmetricAndZeroOnItselfRow.holds Try.pinned (OpenSpec.ofChange fnDeltaEOKIsSymmetricAndZeroOnItselfWrong)

/- THE SECOND FORM. 'bulk': how many values and letters a reading holds, each counted each time it is reached (what is shared counts as often as it is met; a slice's spare places count too). A statement '..UptoSaid' is the law's where the arguments, and the package variables that the reading takes, are together of bulk at most 1048576: NARROWER than '..Said'. Prove '..Said' where nothing that the law and all that it calls make is longer than what came in: it says more and counts as full. Else prove '..UptoSaid'. A law counts once. -/
mutual
def uptoBulk {H : Type} : DataW H → Nat
  | .lit (.string bytes) => bytes.length + 1
  | .lit _ => 1
  | .nil => 1
  | .ptr d => uptoBulk d + 1
  | .slice elems spare => uptoBulkAll elems + uptoBulkAll spare + 1
  | .agg parts => uptoBulkAll parts + 1
  | .iface _ d => uptoBulk d + 1
  | .map entries => uptoBulkEntries entries + 1
  | .held _ => 1
def uptoBulkAll {H : Type} : List (DataW H) → Nat
  | [] => 0
  | d :: r => uptoBulk d + uptoBulkAll r
def uptoBulkEntries {H : Type} : List (Lit × DataW H) → Nat
  | [] => 0
  | x :: r => uptoBulkEntry x + uptoBulkEntries r
def uptoBulkEntry {H : Type} : Lit × DataW H → Nat
  | (.string bytes, d) => bytes.length + uptoBulk d + 1
  | (_, d) => uptoBulk d + 1
 end
def uptoSmall : (H : Type) → List (DataW H) → Bool := fun _ ds => decide (uptoBulkAll ds ≤ 1048576)
def OpenSpec.upto (s : _root_.Go.ChangeSpec) : _root_.Go.OpenSpec := { _root_.Go.OpenSpec.ofChange s with cond := some uptoSmall }

/-- 'n011_226.FnXyzToLinA98rgbSendsD65GrayToEqualChannels', WHERE WHAT IT READS IS OF BULK AT MOST 1048576: true; the input reads as it did. -/
def fnXyzToLinA98rgbSendsD65GrayToEqualChannelsUptoRow : OpenClaim := { program := "ythjgigahhooilaa", sum := "77cb59c2d34afb179a73e66d24854b8461e626d28faf0840a82baf3e8562fc9f", func := "github.com/evanw/esbuild/n011_226.FnXyzToLinA98rgbSendsD65GrayToEqualChannels", spec := "fnXyzToLinA98rgbSendsD65GrayToEqualChannels", apart := false, narrowed := true }
def FnXyzToLinA98rgbSendsD65GrayToEqualChannelsUptoSaid : Prop := fnXyzToLinA98rgbSendsD65GrayToEqualChannelsUptoRow.holds Try.pinned (OpenSpec.upto fnXyzToLinA98rgbSendsD65GrayToEqualChannelsSpec)

/-- 'n011_83.FnXyzToLinP3MapsD65GraysToEqualChannels', WHERE WHAT IT READS IS OF BULK AT MOST 1048576: true; the input reads as it did. -/
def fnXyzToLinP3MapsD65GraysToEqualChannelsUptoRow : OpenClaim := { program := "ythjgigahhooilaa", sum := "77cb59c2d34afb179a73e66d24854b8461e626d28faf0840a82baf3e8562fc9f", func := "github.com/evanw/esbuild/n011_83.FnXyzToLinP3MapsD65GraysToEqualChannels", spec := "fnXyzToLinP3MapsD65GraysToEqualChannels", apart := false, narrowed := true }
def FnXyzToLinP3MapsD65GraysToEqualChannelsUptoSaid : Prop := fnXyzToLinP3MapsD65GraysToEqualChannelsUptoRow.holds Try.pinned (OpenSpec.upto fnXyzToLinP3MapsD65GraysToEqualChannelsSpec)

/-- 'n011_225.FnLinP3ToXyzInvertedByXyzToLinP3', WHERE WHAT IT READS IS OF BULK AT MOST 1048576: true; the input reads as it did. -/
def fnLinP3ToXyzInvertedByXyzToLinP3UptoRow : OpenClaim := { program := "ythjgigahhooilaa", sum := "77cb59c2d34afb179a73e66d24854b8461e626d28faf0840a82baf3e8562fc9f", func := "github.com/evanw/esbuild/n011_225.FnLinP3ToXyzInvertedByXyzToLinP3", spec := "fnLinP3ToXyzInvertedByXyzToLinP3", apart := false, narrowed := true }
def FnLinP3ToXyzInvertedByXyzToLinP3UptoSaid : Prop := fnLinP3ToXyzInvertedByXyzToLinP3UptoRow.holds Try.pinned (OpenSpec.upto fnLinP3ToXyzInvertedByXyzToLinP3Spec)

/-- 'n011_70.FnD65ToD50RoundTrip', WHERE WHAT IT READS IS OF BULK AT MOST 1048576: true; the input reads as it did. -/
def fnD65ToD50RoundTripUptoRow : OpenClaim := { program := "ythjgigahhooilaa", sum := "77cb59c2d34afb179a73e66d24854b8461e626d28faf0840a82baf3e8562fc9f", func := "github.com/evanw/esbuild/n011_70.FnD65ToD50RoundTrip", spec := "fnD65ToD50RoundTrip", apart := false, narrowed := true }
def FnD65ToD50RoundTripUptoSaid : Prop := fnD65ToD50RoundTripUptoRow.holds Try.pinned (OpenSpec.upto fnD65ToD50RoundTripSpec)

/-- 'n011_293.FnXyzToLinProphotoIsOddAndExactlyHomogeneous', WHERE WHAT IT READS IS OF BULK AT MOST 1048576: true; the input reads as it did. -/
def fnXyzToLinProphotoIsOddAndExactlyHomogeneousUptoRow : OpenClaim := { program := "ythjgigahhooilaa", sum := "77cb59c2d34afb179a73e66d24854b8461e626d28faf0840a82baf3e8562fc9f", func := "github.com/evanw/esbuild/n011_293.FnXyzToLinProphotoIsOddAndExactlyHomogeneous", spec := "fnXyzToLinProphotoIsOddAndExactlyHomogeneous", apart := false, narrowed := true }
def FnXyzToLinProphotoIsOddAndExactlyHomogeneousUptoSaid : Prop := fnXyzToLinProphotoIsOddAndExactlyHomogeneousUptoRow.holds Try.pinned (OpenSpec.upto fnXyzToLinProphotoIsOddAndExactlyHomogeneousSpec)

/-- 'n011_142.FnDeltaEOKIsSymmetricAndZeroOnItself', WHERE WHAT IT READS IS OF BULK AT MOST 1048576: true; the input reads as it did. -/
def fnDeltaEOKIsSymmetricAndZeroOnItselfUptoRow : OpenClaim := { program := "ythjgigahhooilaa", sum := "77cb59c2d34afb179a73e66d24854b8461e626d28faf0840a82baf3e8562fc9f", func := "github.com/evanw/esbuild/n011_142.FnDeltaEOKIsSymmetricAndZeroOnItself", spec := "fnDeltaEOKIsSymmetricAndZeroOnItself", inPlace := ["math.sqrt"], apart := false, narrowed := true }
def FnDeltaEOKIsSymmetricAndZeroOnItselfUptoSaid : Prop := fnDeltaEOKIsSymmetricAndZeroOnItselfUptoRow.holds Try.pinned (OpenSpec.upto fnDeltaEOKIsSymmetricAndZeroOnItselfSpec)

end Rows
end Go.Proofs.Ythjgigahhooilaa
