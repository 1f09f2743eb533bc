/-
  NARROWER THAN 'FOR EVERY INPUT', by the rows' own cells (each row's printed sentence says how): FnListStyleShorthandSingleAgreesWithType: maps, laid.
  DERIVED. THE GIVEN ROWS OF THIS SEAT. 1 by the template 'for every input the law returns true; each argument reads behind the call as it read before'; 0 by the template 'total and deterministic' (their statements: YtkphnplmjpjbjabDoorTotals.lean).
  GIVEN WITH THE SEED: the statements are not yours to turn. If you find one false, say at which input.
  Laid BY PROGRAM, IN A SANDBOX (cutbox-rows.mjs): the forced cells as the released guide's own fill.sh prints them over the translation d049f0e6148d3ccc… (all of the seat's roots in one cut). By AI agents, Wed Nov 11 2026. No macro, syntax, notation, axiom, sorry.
-/
import Derived.Test.YtkphnplmjpjbjabDoorChecked
import GoSem.PinnedTables
import GoSem.Claim
import GoSem.ClaimJoined
import GoSem.ClaimMapViews
import Derived.JoinedTies
import Derived.KernelRfl
namespace Go.Proofs.YtkphnplmjpjbjabDoor
/- THE CELL 'sum', in the pinned program and in every row, IS THE sha256 OF THE DUMP (.gsa) THAT YtkphnplmjpjbjabDoorProg.lean LOADS. Nothing in Lean hashes anything: it is a label: what it is worth is what the hold of that sum in a sandbox is worth. -/
noncomputable def Tryd.pinned : Pinned := { name := "ytkphnplmjpjbjabdoor", sum := "d049f0e6148d3ccc9abfe4a841bf482051066af1624e85b68a2a61cbf44a56dc", checked := Tryd.checked }
namespace Rows
def none {H : Type} : Left H := { results := [], args := [] }

/- WHAT THE LISTED PACKAGE-LEVEL VARIABLES READ AS WHEN THE CALL BEGINS. Each datum BY PROGRAM (the guide's laid-datum.mjs) off the statement by which the dump's own 'gosem.cut.vars' lays the variable. In a bare row this is a premise. The card (YtkphnplmjpjbjabDoorCards.lean) ties it to the program's text. -/
def laid_unicode_utf8_acceptRanges {H : Type} : DataW H := .agg [.agg [.lit (.int .u8 128), .lit (.int .u8 191)], .agg [.lit (.int .u8 160), .lit (.int .u8 191)], .agg [.lit (.int .u8 128), .lit (.int .u8 159)], .agg [.lit (.int .u8 144), .lit (.int .u8 191)], .agg [.lit (.int .u8 128), .lit (.int .u8 143)], .agg [.lit (.int .u8 0), .lit (.int .u8 0)], .agg [.lit (.int .u8 0), .lit (.int .u8 0)], .agg [.lit (.int .u8 0), .lit (.int .u8 0)], .agg [.lit (.int .u8 0), .lit (.int .u8 0)], .agg [.lit (.int .u8 0), .lit (.int .u8 0)], .agg [.lit (.int .u8 0), .lit (.int .u8 0)], .agg [.lit (.int .u8 0), .lit (.int .u8 0)], .agg [.lit (.int .u8 0), .lit (.int .u8 0)], .agg [.lit (.int .u8 0), .lit (.int .u8 0)], .agg [.lit (.int .u8 0), .lit (.int .u8 0)], .agg [.lit (.int .u8 0), .lit (.int .u8 0)]]
def laid_github_com_evanw_esbuild_internal_ast_InvalidRef {H : Type} : DataW H := .agg [.lit (.int .u32 4294967295), .lit (.int .u32 4294967295)]
def laid_github_com_evanw_esbuild_internal_css_parser_cssWideAndReservedKeywords {H : Type} : DataW H := .map [(.string [100, 101, 102, 97, 117, 108, 116], .lit (.bool true)), (.string [105, 110, 104, 101, 114, 105, 116], .lit (.bool true)), (.string [105, 110, 105, 116, 105, 97, 108], .lit (.bool true)), (.string [114, 101, 118, 101, 114, 116], .lit (.bool true)), (.string [114, 101, 118, 101, 114, 116, 45, 108, 97, 121, 101, 114], .lit (.bool true)), (.string [117, 110, 115, 101, 116], .lit (.bool true))]
def laid_github_com_evanw_esbuild_internal_css_parser_predefinedCounterStyles {H : Type} : DataW H := .map [(.string [97, 114, 97, 98, 105, 99, 45, 105, 110, 100, 105, 99], .lit (.bool true)), (.string [97, 114, 109, 101, 110, 105, 97, 110], .lit (.bool true)), (.string [98, 101, 110, 103, 97, 108, 105], .lit (.bool true)), (.string [99, 97, 109, 98, 111, 100, 105, 97, 110], .lit (.bool true)), (.string [99, 105, 114, 99, 108, 101], .lit (.bool true)), (.string [99, 106, 107, 45, 100, 101, 99, 105, 109, 97, 108], .lit (.bool true)), (.string [99, 106, 107, 45, 101, 97, 114, 116, 104, 108, 121, 45, 98, 114, 97, 110, 99, 104], .lit (.bool true)), (.string [99, 106, 107, 45, 104, 101, 97, 118, 101, 110, 108, 121, 45, 115, 116, 101, 109], .lit (.bool true)), (.string [100, 101, 99, 105, 109, 97, 108], .lit (.bool true)), (.string [100, 101, 99, 105, 109, 97, 108, 45, 108, 101, 97, 100, 105, 110, 103, 45, 122, 101, 114, 111], .lit (.bool true)), (.string [100, 101, 118, 97, 110, 97, 103, 97, 114, 105], .lit (.bool true)), (.string [100, 105, 115, 99], .lit (.bool true)), (.string [100, 105, 115, 99, 108, 111, 115, 117, 114, 101, 45, 99, 108, 111, 115, 101, 100], .lit (.bool true)), (.string [100, 105, 115, 99, 108, 111, 115, 117, 114, 101, 45, 111, 112, 101, 110], .lit (.bool true)), (.string [101, 116, 104, 105, 111, 112, 105, 99, 45, 110, 117, 109, 101, 114, 105, 99], .lit (.bool true)), (.string [103, 101, 111, 114, 103, 105, 97, 110], .lit (.bool true)), (.string [103, 117, 106, 97, 114, 97, 116, 105], .lit (.bool true)), (.string [103, 117, 114, 109, 117, 107, 104, 105], .lit (.bool true)), (.string [104, 101, 98, 114, 101, 119], .lit (.bool true)), (.string [104, 105, 114, 97, 103, 97, 110, 97], .lit (.bool true)), (.string [104, 105, 114, 97, 103, 97, 110, 97, 45, 105, 114, 111, 104, 97], .lit (.bool true)), (.string [106, 97, 112, 97, 110, 101, 115, 101, 45, 102, 111, 114, 109, 97, 108], .lit (.bool true)), (.string [106, 97, 112, 97, 110, 101, 115, 101, 45, 105, 110, 102, 111, 114, 109, 97, 108], .lit (.bool true)), (.string [107, 97, 110, 110, 97, 100, 97], .lit (.bool true)), (.string [107, 97, 116, 97, 107, 97, 110, 97], .lit (.bool true)), (.string [107, 97, 116, 97, 107, 97, 110, 97, 45, 105, 114, 111, 104, 97], .lit (.bool true)), (.string [107, 104, 109, 101, 114], .lit (.bool true)), (.string [107, 111, 114, 101, 97, 110, 45, 104, 97, 110, 103, 117, 108, 45, 102, 111, 114, 109, 97, 108], .lit (.bool true)), (.string [107, 111, 114, 101, 97, 110, 45, 104, 97, 110, 106, 97, 45, 102, 111, 114, 109, 97, 108], .lit (.bool true)), (.string [107, 111, 114, 101, 97, 110, 45, 104, 97, 110, 106, 97, 45, 105, 110, 102, 111, 114, 109, 97, 108], .lit (.bool true)), (.string [108, 97, 111], .lit (.bool true)), (.string [108, 111, 119, 101, 114, 45, 97, 108, 112, 104, 97], .lit (.bool true)), (.string [108, 111, 119, 101, 114, 45, 97, 114, 109, 101, 110, 105, 97, 110], .lit (.bool true)), (.string [108, 111, 119, 101, 114, 45, 103, 114, 101, 101, 107], .lit (.bool true)), (.string [108, 111, 119, 101, 114, 45, 108, 97, 116, 105, 110], .lit (.bool true)), (.string [108, 111, 119, 101, 114, 45, 114, 111, 109, 97, 110], .lit (.bool true)), (.string [109, 97, 108, 97, 121, 97, 108, 97, 109], .lit (.bool true)), (.string [109, 111, 110, 103, 111, 108, 105, 97, 110], .lit (.bool true)), (.string [109, 121, 97, 110, 109, 97, 114], .lit (.bool true)), (.string [111, 114, 105, 121, 97], .lit (.bool true)), (.string [112, 101, 114, 115, 105, 97, 110], .lit (.bool true)), (.string [115, 105, 109, 112, 45, 99, 104, 105, 110, 101, 115, 101, 45, 102, 111, 114, 109, 97, 108], .lit (.bool true)), (.string [115, 105, 109, 112, 45, 99, 104, 105, 110, 101, 115, 101, 45, 105, 110, 102, 111, 114, 109, 97, 108], .lit (.bool true)), (.string [115, 113, 117, 97, 114, 101], .lit (.bool true)), (.string [116, 97, 109, 105, 108], .lit (.bool true)), (.string [116, 101, 108, 117, 103, 117], .lit (.bool true)), (.string [116, 104, 97, 105], .lit (.bool true)), (.string [116, 105, 98, 101, 116, 97, 110], .lit (.bool true)), (.string [116, 114, 97, 100, 45, 99, 104, 105, 110, 101, 115, 101, 45, 102, 111, 114, 109, 97, 108], .lit (.bool true)), (.string [116, 114, 97, 100, 45, 99, 104, 105, 110, 101, 115, 101, 45, 105, 110, 102, 111, 114, 109, 97, 108], .lit (.bool true)), (.string [117, 112, 112, 101, 114, 45, 97, 108, 112, 104, 97], .lit (.bool true)), (.string [117, 112, 112, 101, 114, 45, 97, 114, 109, 101, 110, 105, 97, 110], .lit (.bool true)), (.string [117, 112, 112, 101, 114, 45, 108, 97, 116, 105, 110], .lit (.bool true)), (.string [117, 112, 112, 101, 114, 45, 114, 111, 109, 97, 110], .lit (.bool true))]
/-- One of Go's own tables, pinned by name: the form's constant. -/
def laid_unicode_CaseRanges : DataW Unit := Go.Pinned.caseRanges
/-- One of Go's own tables, pinned by name: the form's constant. -/
def laid_unicode_utf8_first : DataW Unit := Go.Pinned.utf8First

/-- 'n011_231.FnListStyleShorthandSingleAgreesWithType': WHATEVER THE INPUT: true; the input reads as it did. -/
def fnListStyleShorthandSingleAgreesWithTypeSpec : ChangeSpec := { name := "fnListStyleShorthandSingleAgreesWithType", vars := ["github.com/evanw/esbuild/internal/css_parser.cssWideAndReservedKeywords", "github.com/evanw/esbuild/internal/css_parser.predefinedCounterStyles", "github.com/evanw/esbuild/internal/ast.InvalidRef"], fn := fun _ => fun
  | [d1, d2, d3, d4, g1, g2, g3] => { results := [.lit (.bool true)], args := [d1, d2, d3, d4], vars := [g1, g2, g3] }
  | _ => none }
def fnListStyleShorthandSingleAgreesWithTypeRow : OpenClaim := { program := "ytkphnplmjpjbjabdoor", sum := "d049f0e6148d3ccc9abfe4a841bf482051066af1624e85b68a2a61cbf44a56dc", func := "github.com/evanw/esbuild/n011_231.FnListStyleShorthandSingleAgreesWithType", spec := "fnListStyleShorthandSingleAgreesWithType", inPlace := ["internal/abi.NoEscape", "internal/bytealg.MakeNoZero"], unfollowed := true, recurses := true, named := ["github.com/evanw/esbuild/internal/css_parser.cssWideAndReservedKeywords", "github.com/evanw/esbuild/internal/css_parser.predefinedCounterStyles", "unicode/utf8.first", "unicode/utf8.acceptRanges", "unicode.CaseRanges", "github.com/evanw/esbuild/internal/ast.InvalidRef"], maps := true, plainKeys := false, apart := false, laid := [("unicode/utf8.acceptRanges", laid_unicode_utf8_acceptRanges), ("github.com/evanw/esbuild/internal/ast.InvalidRef", laid_github_com_evanw_esbuild_internal_ast_InvalidRef), ("github.com/evanw/esbuild/internal/css_parser.cssWideAndReservedKeywords", laid_github_com_evanw_esbuild_internal_css_parser_cssWideAndReservedKeywords), ("github.com/evanw/esbuild/internal/css_parser.predefinedCounterStyles", laid_github_com_evanw_esbuild_internal_css_parser_predefinedCounterStyles), ("unicode.CaseRanges", laid_unicode_CaseRanges), ("unicode/utf8.first", laid_unicode_utf8_first)] }
def FnListStyleShorthandSingleAgreesWithTypeSaid : Prop := fnListStyleShorthandSingleAgreesWithTypeRow.holds Tryd.pinned (OpenSpec.ofChange fnListStyleShorthandSingleAgreesWithTypeSpec)

/-- ITS FALSE NEIGHBOUR: 'it returns false'. Refute it at one input. -/
def fnListStyleShorthandSingleAgreesWithTypeWrong : ChangeSpec := { name := "fnListStyleShorthandSingleAgreesWithType", vars := ["github.com/evanw/esbuild/internal/css_parser.cssWideAndReservedKeywords", "github.com/evanw/esbuild/internal/css_parser.predefinedCounterStyles", "github.com/evanw/esbuild/internal/ast.InvalidRef"], fn := fun _ => fun
  | [d1, d2, d3, d4, g1, g2, g3] => { results := [.lit (.bool false)], args := [d1, d2, d3, d4], vars := [g1, g2, g3] }
  | _ => none }
def FnListStyleShorthandSingleAgreesWithTypeWrongFalsely : Prop := fnListStyleShorthandSingleAgreesWithTypeRow.holds Tryd.pinned (OpenSpec.ofChange fnListStyleShorthandSingleAgreesWithTypeWrong)

/- THE SECOND FORM. 'bulk': how many values and letters a reading holds, each counted each time it is reached (what is shared counts as often as it is met; a slice's spare places count too). A statement '..UptoSaid' is the law's where the arguments, and the package variables that the reading takes, are together of bulk at most 1048576: NARROWER than '..Said'. Prove '..Said' where nothing that the law and all that it calls make is longer than what came in: it says more and counts as full. Else prove '..UptoSaid'. A law counts once. -/
mutual
def uptoBulk {H : Type} : DataW H → Nat
  | .lit (.string bytes) => bytes.length + 1
  | .lit _ => 1
  | .nil => 1
  | .ptr d => uptoBulk d + 1
  | .slice elems spare => uptoBulkAll elems + uptoBulkAll spare + 1
  | .agg parts => uptoBulkAll parts + 1
  | .iface _ d => uptoBulk d + 1
  | .map entries => uptoBulkEntries entries + 1
  | .held _ => 1
def uptoBulkAll {H : Type} : List (DataW H) → Nat
  | [] => 0
  | d :: r => uptoBulk d + uptoBulkAll r
def uptoBulkEntries {H : Type} : List (Lit × DataW H) → Nat
  | [] => 0
  | x :: r => uptoBulkEntry x + uptoBulkEntries r
def uptoBulkEntry {H : Type} : Lit × DataW H → Nat
  | (.string bytes, d) => bytes.length + uptoBulk d + 1
  | (_, d) => uptoBulk d + 1
 end
def uptoSmall : (H : Type) → List (DataW H) → Bool := fun _ ds => decide (uptoBulkAll ds ≤ 1048576)
def OpenSpec.upto (s : _root_.Go.ChangeSpec) : _root_.Go.OpenSpec := { _root_.Go.OpenSpec.ofChange s with cond := some uptoSmall }

/-- 'n011_231.FnListStyleShorthandSingleAgreesWithType', WHERE WHAT IT READS IS OF BULK AT MOST 1048576: true; the input reads as it did. -/
def fnListStyleShorthandSingleAgreesWithTypeUptoRow : OpenClaim := { program := "ytkphnplmjpjbjabdoor", sum := "d049f0e6148d3ccc9abfe4a841bf482051066af1624e85b68a2a61cbf44a56dc", func := "github.com/evanw/esbuild/n011_231.FnListStyleShorthandSingleAgreesWithType", spec := "fnListStyleShorthandSingleAgreesWithType", inPlace := ["internal/abi.NoEscape", "internal/bytealg.MakeNoZero"], unfollowed := true, recurses := true, named := ["github.com/evanw/esbuild/internal/css_parser.cssWideAndReservedKeywords", "github.com/evanw/esbuild/internal/css_parser.predefinedCounterStyles", "unicode/utf8.first", "unicode/utf8.acceptRanges", "unicode.CaseRanges", "github.com/evanw/esbuild/internal/ast.InvalidRef"], maps := true, plainKeys := false, apart := false, laid := [("unicode/utf8.acceptRanges", laid_unicode_utf8_acceptRanges), ("github.com/evanw/esbuild/internal/ast.InvalidRef", laid_github_com_evanw_esbuild_internal_ast_InvalidRef), ("github.com/evanw/esbuild/internal/css_parser.cssWideAndReservedKeywords", laid_github_com_evanw_esbuild_internal_css_parser_cssWideAndReservedKeywords), ("github.com/evanw/esbuild/internal/css_parser.predefinedCounterStyles", laid_github_com_evanw_esbuild_internal_css_parser_predefinedCounterStyles), ("unicode.CaseRanges", laid_unicode_CaseRanges), ("unicode/utf8.first", laid_unicode_utf8_first)], narrowed := true }
def FnListStyleShorthandSingleAgreesWithTypeUptoSaid : Prop := fnListStyleShorthandSingleAgreesWithTypeUptoRow.holds Tryd.pinned (OpenSpec.upto fnListStyleShorthandSingleAgreesWithTypeSpec)

end Rows
end Go.Proofs.YtkphnplmjpjbjabDoor
