/-
  No cell of these rows narrows 'for every input' (looked for: loops, veiled, ifaces, maps, wideKeys, modest, calm, conditions, laid).
  DERIVED. THE GIVEN ROWS OF THIS SEAT. 8 by the template 'for every input the law returns true; each argument reads behind the call as it read before'; 0 by the template 'total and deterministic' (their statements: YtafeeebgleecfaaTotals.lean).
  GIVEN WITH THE SEED: the statements are not yours to turn. If you find one false, say at which input.
  Laid BY PROGRAM, IN A SANDBOX (cutbox-rows.mjs): the forced cells as the released guide's own fill.sh prints them over the translation 737a218214bac8ce… (all of the seat's roots in one cut). By AI agents, Wed Nov 11 2026. No macro, syntax, notation, axiom, sorry.
-/
import Derived.Test.YtafeeebgleecfaaChecked
import GoSem.Claim
import GoSem.ClaimJoined
import GoSem.ClaimMapViews
import Derived.JoinedTies
import Derived.KernelRfl
namespace Go.Proofs.Ytafeeebgleecfaa
/- THE CELL 'sum', in the pinned program and in every row, IS THE sha256 OF THE DUMP (.gsa) THAT YtafeeebgleecfaaProg.lean LOADS. Nothing in Lean hashes anything: it is a label: what it is worth is what the hold of that sum in a sandbox is worth. -/
noncomputable def Try.pinned : Pinned := { name := "ytafeeebgleecfaa", sum := "737a218214bac8ce728a7bcafeff7f764aad0650621902a7f2e5de3365995d3f", checked := Try.checked }
namespace Rows
def none {H : Type} : Left H := { results := [], args := [] }

/-- 'n011_126.FnHslToRgbMatchesCssClosedForm': WHATEVER THE INPUT: true; the input reads as it did. -/
def fnHslToRgbMatchesCssClosedFormSpec : ChangeSpec := { name := "fnHslToRgbMatchesCssClosedForm", fn := fun _ => fun
  | [d1, d2, d3] => { results := [.lit (.bool true)], args := [d1, d2, d3] }
  | _ => none }
def fnHslToRgbMatchesCssClosedFormRow : OpenClaim := { program := "ytafeeebgleecfaa", sum := "737a218214bac8ce728a7bcafeff7f764aad0650621902a7f2e5de3365995d3f", func := "github.com/evanw/esbuild/n011_126.FnHslToRgbMatchesCssClosedForm", spec := "fnHslToRgbMatchesCssClosedForm", inPlace := ["math.archFloor", "math.Float64bits", "math.Float64frombits", "math.archTrunc"], apart := false }
def FnHslToRgbMatchesCssClosedFormSaid : Prop := fnHslToRgbMatchesCssClosedFormRow.holds Try.pinned (OpenSpec.ofChange fnHslToRgbMatchesCssClosedFormSpec)

/-- ITS FALSE NEIGHBOUR: 'it returns false'. Refute it at one input. -/
def fnHslToRgbMatchesCssClosedFormWrong : ChangeSpec := { name := "fnHslToRgbMatchesCssClosedForm", fn := fun _ => fun
  | [d1, d2, d3] => { results := [.lit (.bool false)], args := [d1, d2, d3] }
  | _ => none }
def FnHslToRgbMatchesCssClosedFormWrongFalsely : Prop := fnHslToRgbMatchesCssClosedFormRow.holds Try.pinned (OpenSpec.ofChange fnHslToRgbMatchesCssClosedFormWrong)

/-- 'n011_166.FnLabToXyzInvertedByXyzToLab': WHATEVER THE INPUT: true; the input reads as it did. -/
def fnLabToXyzInvertedByXyzToLabSpec : ChangeSpec := { name := "fnLabToXyzInvertedByXyzToLab", fn := fun _ => fun
  | [d1, d2, d3] => { results := [.lit (.bool true)], args := [d1, d2, d3] }
  | _ => none }
def fnLabToXyzInvertedByXyzToLabRow : OpenClaim := { program := "ytafeeebgleecfaa", sum := "737a218214bac8ce728a7bcafeff7f764aad0650621902a7f2e5de3365995d3f", func := "github.com/evanw/esbuild/n011_166.FnLabToXyzInvertedByXyzToLab", spec := "fnLabToXyzInvertedByXyzToLab", inPlace := ["math.Float64bits", "math.Float64frombits"], apart := false }
def FnLabToXyzInvertedByXyzToLabSaid : Prop := fnLabToXyzInvertedByXyzToLabRow.holds Try.pinned (OpenSpec.ofChange fnLabToXyzInvertedByXyzToLabSpec)

/-- ITS FALSE NEIGHBOUR: 'it returns false'. Refute it at one input. -/
def fnLabToXyzInvertedByXyzToLabWrong : ChangeSpec := { name := "fnLabToXyzInvertedByXyzToLab", fn := fun _ => fun
  | [d1, d2, d3] => { results := [.lit (.bool false)], args := [d1, d2, d3] }
  | _ => none }
def FnLabToXyzInvertedByXyzToLabWrongFalsely : Prop := fnLabToXyzInvertedByXyzToLabRow.holds Try.pinned (OpenSpec.ofChange fnLabToXyzInvertedByXyzToLabWrong)

/-- 'n011_70.FnXyzToLabRoundTrip': WHATEVER THE INPUT: true; the input reads as it did. -/
def fnXyzToLabRoundTripSpec : ChangeSpec := { name := "fnXyzToLabRoundTrip", fn := fun _ => fun
  | [d1, d2, d3] => { results := [.lit (.bool true)], args := [d1, d2, d3] }
  | _ => none }
def fnXyzToLabRoundTripRow : OpenClaim := { program := "ytafeeebgleecfaa", sum := "737a218214bac8ce728a7bcafeff7f764aad0650621902a7f2e5de3365995d3f", func := "github.com/evanw/esbuild/n011_70.FnXyzToLabRoundTrip", spec := "fnXyzToLabRoundTrip", inPlace := ["math.Float64bits", "math.Float64frombits"], apart := false }
def FnXyzToLabRoundTripSaid : Prop := fnXyzToLabRoundTripRow.holds Try.pinned (OpenSpec.ofChange fnXyzToLabRoundTripSpec)

/-- ITS FALSE NEIGHBOUR: 'it returns false'. Refute it at one input. -/
def fnXyzToLabRoundTripWrong : ChangeSpec := { name := "fnXyzToLabRoundTrip", fn := fun _ => fun
  | [d1, d2, d3] => { results := [.lit (.bool false)], args := [d1, d2, d3] }
  | _ => none }
def FnXyzToLabRoundTripWrongFalsely : Prop := fnXyzToLabRoundTripRow.holds Try.pinned (OpenSpec.ofChange fnXyzToLabRoundTripWrong)

/-- 'n011_142.FnHSLRoundTripsRGB': WHATEVER THE INPUT: true; the input reads as it did. -/
def fnHSLRoundTripsRGBSpec : ChangeSpec := { name := "fnHSLRoundTripsRGB", fn := fun _ => fun
  | [d1, d2, d3] => { results := [.lit (.bool true)], args := [d1, d2, d3] }
  | _ => none }
def fnHSLRoundTripsRGBRow : OpenClaim := { program := "ytafeeebgleecfaa", sum := "737a218214bac8ce728a7bcafeff7f764aad0650621902a7f2e5de3365995d3f", func := "github.com/evanw/esbuild/n011_142.FnHSLRoundTripsRGB", spec := "fnHSLRoundTripsRGB", inPlace := ["math.archMax", "math.Float64bits", "math.Float64frombits", "math.archMin", "math.archFloor", "math.archTrunc"], unfollowed := true, recurses := true, apart := false }
def FnHSLRoundTripsRGBSaid : Prop := fnHSLRoundTripsRGBRow.holds Try.pinned (OpenSpec.ofChange fnHSLRoundTripsRGBSpec)

/-- ITS FALSE NEIGHBOUR: 'it returns false'. Refute it at one input. -/
def fnHSLRoundTripsRGBWrong : ChangeSpec := { name := "fnHSLRoundTripsRGB", fn := fun _ => fun
  | [d1, d2, d3] => { results := [.lit (.bool false)], args := [d1, d2, d3] }
  | _ => none }
def FnHSLRoundTripsRGBWrongFalsely : Prop := fnHSLRoundTripsRGBRow.holds Try.pinned (OpenSpec.ofChange fnHSLRoundTripsRGBWrong)

/-- 'n011_130.FnFloatToByteQuarterGrid': WHATEVER THE INPUT: true; the input reads as it did. -/
def fnFloatToByteQuarterGridSpec : ChangeSpec := { name := "fnFloatToByteQuarterGrid", fn := fun _ => fun
  | [d] => { results := [.lit (.bool true)], args := [d] }
  | _ => none }
def fnFloatToByteQuarterGridRow : OpenClaim := { program := "ytafeeebgleecfaa", sum := "737a218214bac8ce728a7bcafeff7f764aad0650621902a7f2e5de3365995d3f", func := "github.com/evanw/esbuild/n011_130.FnFloatToByteQuarterGrid", spec := "fnFloatToByteQuarterGrid", inPlace := ["math.Float64bits", "math.Float64frombits"], apart := false }
def FnFloatToByteQuarterGridSaid : Prop := fnFloatToByteQuarterGridRow.holds Try.pinned (OpenSpec.ofChange fnFloatToByteQuarterGridSpec)

/-- ITS FALSE NEIGHBOUR: 'it returns false'. Refute it at one input. -/
def fnFloatToByteQuarterGridWrong : ChangeSpec := { name := "fnFloatToByteQuarterGrid", fn := fun _ => fun
  | [d] => { results := [.lit (.bool false)], args := [d] }
  | _ => none }
def FnFloatToByteQuarterGridWrongFalsely : Prop := fnFloatToByteQuarterGridRow.holds Try.pinned (OpenSpec.ofChange fnFloatToByteQuarterGridWrong)

/-- 'n011_267.FnRgbToHwbTwoLevelCornerTable': WHATEVER THE INPUT: true; the input reads as it did. -/
def fnRgbToHwbTwoLevelCornerTableSpec : ChangeSpec := { name := "fnRgbToHwbTwoLevelCornerTable", fn := fun _ => fun
  | [d1, d2, d3] => { results := [.lit (.bool true)], args := [d1, d2, d3] }
  | _ => none }
def fnRgbToHwbTwoLevelCornerTableRow : OpenClaim := { program := "ytafeeebgleecfaa", sum := "737a218214bac8ce728a7bcafeff7f764aad0650621902a7f2e5de3365995d3f", func := "github.com/evanw/esbuild/n011_267.FnRgbToHwbTwoLevelCornerTable", spec := "fnRgbToHwbTwoLevelCornerTable", inPlace := ["math.archMax", "math.Float64bits", "math.Float64frombits", "math.archMin"], apart := false }
def FnRgbToHwbTwoLevelCornerTableSaid : Prop := fnRgbToHwbTwoLevelCornerTableRow.holds Try.pinned (OpenSpec.ofChange fnRgbToHwbTwoLevelCornerTableSpec)

/-- ITS FALSE NEIGHBOUR: 'it returns false'. Refute it at one input. -/
def fnRgbToHwbTwoLevelCornerTableWrong : ChangeSpec := { name := "fnRgbToHwbTwoLevelCornerTable", fn := fun _ => fun
  | [d1, d2, d3] => { results := [.lit (.bool false)], args := [d1, d2, d3] }
  | _ => none }
def FnRgbToHwbTwoLevelCornerTableWrongFalsely : Prop := fnRgbToHwbTwoLevelCornerTableRow.holds Try.pinned (OpenSpec.ofChange fnRgbToHwbTwoLevelCornerTableWrong)

/-- 'n011_257.FnInterpolateHuesCaseTable': WHATEVER THE INPUT: true; the input reads as it did. -/
def fnInterpolateHuesCaseTableSpec : ChangeSpec := { name := "fnInterpolateHuesCaseTable", fn := fun _ => fun
  | [d1, d2, d3, d4] => { results := [.lit (.bool true)], args := [d1, d2, d3, d4] }
  | _ => none }
def fnInterpolateHuesCaseTableRow : OpenClaim := { program := "ytafeeebgleecfaa", sum := "737a218214bac8ce728a7bcafeff7f764aad0650621902a7f2e5de3365995d3f", func := "github.com/evanw/esbuild/n011_257.FnInterpolateHuesCaseTable", spec := "fnInterpolateHuesCaseTable", inPlace := ["math.archFloor", "math.Float64bits", "math.Float64frombits", "math.archTrunc"], apart := false }
def FnInterpolateHuesCaseTableSaid : Prop := fnInterpolateHuesCaseTableRow.holds Try.pinned (OpenSpec.ofChange fnInterpolateHuesCaseTableSpec)

/-- ITS FALSE NEIGHBOUR: 'it returns false'. Refute it at one input. -/
def fnInterpolateHuesCaseTableWrong : ChangeSpec := { name := "fnInterpolateHuesCaseTable", fn := fun _ => fun
  | [d1, d2, d3, d4] => { results := [.lit (.bool false)], args := [d1, d2, d3, d4] }
  | _ => none }
def FnInterpolateHuesCaseTableWrongFalsely : Prop := fnInterpolateHuesCaseTableRow.holds Try.pinned (OpenSpec.ofChange fnInterpolateHuesCaseTableWrong)

/-- 'n011_191.FnOklabToOklchBoundsAndHueHalfPlanes': WHATEVER THE INPUT: true; the input reads as it did. -/
def fnOklabToOklchBoundsAndHueHalfPlanesSpec : ChangeSpec := { name := "fnOklabToOklchBoundsAndHueHalfPlanes", fn := fun _ => fun
  | [d1, d2, d3] => { results := [.lit (.bool true)], args := [d1, d2, d3] }
  | _ => none }
def fnOklabToOklchBoundsAndHueHalfPlanesRow : OpenClaim := { program := "ytafeeebgleecfaa", sum := "737a218214bac8ce728a7bcafeff7f764aad0650621902a7f2e5de3365995d3f", func := "github.com/evanw/esbuild/n011_191.FnOklabToOklchBoundsAndHueHalfPlanes", spec := "fnOklabToOklchBoundsAndHueHalfPlanes", inPlace := ["math.Float64frombits", "math.Float64bits", "math.sqrt"], apart := false }
def FnOklabToOklchBoundsAndHueHalfPlanesSaid : Prop := fnOklabToOklchBoundsAndHueHalfPlanesRow.holds Try.pinned (OpenSpec.ofChange fnOklabToOklchBoundsAndHueHalfPlanesSpec)

/-- ITS FALSE NEIGHBOUR: 'it returns false'. Refute it at one input. -/
def fnOklabToOklchBoundsAndHueHalfPlanesWrong : ChangeSpec := { name := "fnOklabToOklchBoundsAndHueHalfPlanes", fn := fun _ => fun
  | [d1, d2, d3] => { results := [.lit (.bool false)], args := [d1, d2, d3] }
  | _ => none }
def FnOklabToOklchBoundsAndHueHalfPlanesWrongFalsely : Prop := fnOklabToOklchBoundsAndHueHalfPlanesRow.holds Try.pinned (OpenSpec.ofChange fnOklabToOklchBoundsAndHueHalfPlanesWrong)

/- THE SECOND FORM. 'bulk': how many values and letters a reading holds, each counted each time it is reached (what is shared counts as often as it is met; a slice's spare places count too). A statement '..UptoSaid' is the law's where the arguments, and the package variables that the reading takes, are together of bulk at most 1048576: NARROWER than '..Said'. Prove '..Said' where nothing that the law and all that it calls make is longer than what came in: it says more and counts as full. Else prove '..UptoSaid'. A law counts once. -/
mutual
def uptoBulk {H : Type} : DataW H → Nat
  | .lit (.string bytes) => bytes.length + 1
  | .lit _ => 1
  | .nil => 1
  | .ptr d => uptoBulk d + 1
  | .slice elems spare => uptoBulkAll elems + uptoBulkAll spare + 1
  | .agg parts => uptoBulkAll parts + 1
  | .iface _ d => uptoBulk d + 1
  | .map entries => uptoBulkEntries entries + 1
  | .held _ => 1
def uptoBulkAll {H : Type} : List (DataW H) → Nat
  | [] => 0
  | d :: r => uptoBulk d + uptoBulkAll r
def uptoBulkEntries {H : Type} : List (Lit × DataW H) → Nat
  | [] => 0
  | x :: r => uptoBulkEntry x + uptoBulkEntries r
def uptoBulkEntry {H : Type} : Lit × DataW H → Nat
  | (.string bytes, d) => bytes.length + uptoBulk d + 1
  | (_, d) => uptoBulk d + 1
 end
def uptoSmall : (H : Type) → List (DataW H) → Bool := fun _ ds => decide (uptoBulkAll ds ≤ 1048576)
def OpenSpec.upto (s : _root_.Go.ChangeSpec) : _root_.Go.OpenSpec := { _root_.Go.OpenSpec.ofChange s with cond := some uptoSmall }

/-- 'n011_126.FnHslToRgbMatchesCssClosedForm', WHERE WHAT IT READS IS OF BULK AT MOST 1048576: true; the input reads as it did. -/
def fnHslToRgbMatchesCssClosedFormUptoRow : OpenClaim := { program := "ytafeeebgleecfaa", sum := "737a218214bac8ce728a7bcafeff7f764aad0650621902a7f2e5de3365995d3f", func := "github.com/evanw/esbuild/n011_126.FnHslToRgbMatchesCssClosedForm", spec := "fnHslToRgbMatchesCssClosedForm", inPlace := ["math.archFloor", "math.Float64bits", "math.Float64frombits", "math.archTrunc"], apart := false, narrowed := true }
def FnHslToRgbMatchesCssClosedFormUptoSaid : Prop := fnHslToRgbMatchesCssClosedFormUptoRow.holds Try.pinned (OpenSpec.upto fnHslToRgbMatchesCssClosedFormSpec)

/-- 'n011_166.FnLabToXyzInvertedByXyzToLab', WHERE WHAT IT READS IS OF BULK AT MOST 1048576: true; the input reads as it did. -/
def fnLabToXyzInvertedByXyzToLabUptoRow : OpenClaim := { program := "ytafeeebgleecfaa", sum := "737a218214bac8ce728a7bcafeff7f764aad0650621902a7f2e5de3365995d3f", func := "github.com/evanw/esbuild/n011_166.FnLabToXyzInvertedByXyzToLab", spec := "fnLabToXyzInvertedByXyzToLab", inPlace := ["math.Float64bits", "math.Float64frombits"], apart := false, narrowed := true }
def FnLabToXyzInvertedByXyzToLabUptoSaid : Prop := fnLabToXyzInvertedByXyzToLabUptoRow.holds Try.pinned (OpenSpec.upto fnLabToXyzInvertedByXyzToLabSpec)

/-- 'n011_70.FnXyzToLabRoundTrip', WHERE WHAT IT READS IS OF BULK AT MOST 1048576: true; the input reads as it did. -/
def fnXyzToLabRoundTripUptoRow : OpenClaim := { program := "ytafeeebgleecfaa", sum := "737a218214bac8ce728a7bcafeff7f764aad0650621902a7f2e5de3365995d3f", func := "github.com/evanw/esbuild/n011_70.FnXyzToLabRoundTrip", spec := "fnXyzToLabRoundTrip", inPlace := ["math.Float64bits", "math.Float64frombits"], apart := false, narrowed := true }
def FnXyzToLabRoundTripUptoSaid : Prop := fnXyzToLabRoundTripUptoRow.holds Try.pinned (OpenSpec.upto fnXyzToLabRoundTripSpec)

/-- 'n011_142.FnHSLRoundTripsRGB', WHERE WHAT IT READS IS OF BULK AT MOST 1048576: true; the input reads as it did. -/
def fnHSLRoundTripsRGBUptoRow : OpenClaim := { program := "ytafeeebgleecfaa", sum := "737a218214bac8ce728a7bcafeff7f764aad0650621902a7f2e5de3365995d3f", func := "github.com/evanw/esbuild/n011_142.FnHSLRoundTripsRGB", spec := "fnHSLRoundTripsRGB", inPlace := ["math.archMax", "math.Float64bits", "math.Float64frombits", "math.archMin", "math.archFloor", "math.archTrunc"], unfollowed := true, recurses := true, apart := false, narrowed := true }
def FnHSLRoundTripsRGBUptoSaid : Prop := fnHSLRoundTripsRGBUptoRow.holds Try.pinned (OpenSpec.upto fnHSLRoundTripsRGBSpec)

/-- 'n011_130.FnFloatToByteQuarterGrid', WHERE WHAT IT READS IS OF BULK AT MOST 1048576: true; the input reads as it did. -/
def fnFloatToByteQuarterGridUptoRow : OpenClaim := { program := "ytafeeebgleecfaa", sum := "737a218214bac8ce728a7bcafeff7f764aad0650621902a7f2e5de3365995d3f", func := "github.com/evanw/esbuild/n011_130.FnFloatToByteQuarterGrid", spec := "fnFloatToByteQuarterGrid", inPlace := ["math.Float64bits", "math.Float64frombits"], apart := false, narrowed := true }
def FnFloatToByteQuarterGridUptoSaid : Prop := fnFloatToByteQuarterGridUptoRow.holds Try.pinned (OpenSpec.upto fnFloatToByteQuarterGridSpec)

/-- 'n011_267.FnRgbToHwbTwoLevelCornerTable', WHERE WHAT IT READS IS OF BULK AT MOST 1048576: true; the input reads as it did. -/
def fnRgbToHwbTwoLevelCornerTableUptoRow : OpenClaim := { program := "ytafeeebgleecfaa", sum := "737a218214bac8ce728a7bcafeff7f764aad0650621902a7f2e5de3365995d3f", func := "github.com/evanw/esbuild/n011_267.FnRgbToHwbTwoLevelCornerTable", spec := "fnRgbToHwbTwoLevelCornerTable", inPlace := ["math.archMax", "math.Float64bits", "math.Float64frombits", "math.archMin"], apart := false, narrowed := true }
def FnRgbToHwbTwoLevelCornerTableUptoSaid : Prop := fnRgbToHwbTwoLevelCornerTableUptoRow.holds Try.pinned (OpenSpec.upto fnRgbToHwbTwoLevelCornerTableSpec)

/-- 'n011_257.FnInterpolateHuesCaseTable', WHERE WHAT IT READS IS OF BULK AT MOST 1048576: true; the input reads as it did. -/
def fnInterpolateHuesCaseTableUptoRow : OpenClaim := { program := "ytafeeebgleecfaa", sum := "737a218214bac8ce728a7bcafeff7f764aad0650621902a7f2e5de3365995d3f", func := "github.com/evanw/esbuild/n011_257.FnInterpolateHuesCaseTable", spec := "fnInterpolateHuesCaseTable", inPlace := ["math.archFloor", "math.Float64bits", "math.Float64frombits", "math.archTrunc"], apart := false, narrowed := true }
def FnInterpolateHuesCaseTableUptoSaid : Prop := fnInterpolateHuesCaseTableUptoRow.holds Try.pinned (OpenSpec.upto fnInterpolateHuesCaseTableSpec)

/-- 'n011_191.FnOklabToOklchBoundsAndHueHalfPlanes', WHERE WHAT IT READS IS OF BULK AT MOST 1048576: true; the input reads as it did. -/
def fnOklabToOklchBoundsAndHueHalfPlanesUptoRow : OpenClaim := { program := "ytafeeebgleecfaa", sum := "737a218214bac8ce728a7bcafeff7f764aad0650621902a7f2e5de3365995d3f", func := "github.com/evanw/esbuild/n011_191.FnOklabToOklchBoundsAndHueHalfPlanes", spec := "fnOklabToOklchBoundsAndHueHalfPlanes", inPlace := ["math.Float64frombits", "math.Float64bits", "math.sqrt"], apart := false, narrowed := true }
def FnOklabToOklchBoundsAndHueHalfPlanesUptoSaid : Prop := fnOklabToOklchBoundsAndHueHalfPlanesUptoRow.holds Try.pinned (OpenSpec.upto fnOklabToOklchBoundsAndHueHalfPlanesSpec)

end Rows
end Go.Proofs.Ytafeeebgleecfaa
