/-
  NARROWER THAN 'FOR EVERY INPUT', by the rows' own cells (each row's printed sentence says how): FnParseComponentValueModel: laid.
  DERIVED. THE GIVEN ROWS OF THIS SEAT. 1 by the template 'for every input the law returns true; each argument reads behind the call as it read before'; 0 by the template 'total and deterministic' (their statements: YtelpdhhcpdagbaaFmtTotals.lean).
  GIVEN WITH THE SEED: the statements are not yours to turn. If you find one false, say at which input.
  Laid BY PROGRAM, IN A SANDBOX (cutbox-rows.mjs): the forced cells as the released guide's own fill.sh prints them over the translation f0889fdf31b368d3… (all of the seat's roots in one cut). By AI agents, Wed Nov 11 2026. No macro, syntax, notation, axiom, sorry.
-/
import Derived.Test.YtelpdhhcpdagbaaFmtChecked
import GoSem.PinnedTables
import GoSem.Claim
import GoSem.ClaimJoined
import GoSem.ClaimMapViews
import Derived.JoinedTies
import Derived.KernelRfl
namespace Go.Proofs.YtelpdhhcpdagbaaFmt
/- THE CELL 'sum', in the pinned program and in every row, IS THE sha256 OF THE DUMP (.gsa) THAT YtelpdhhcpdagbaaFmtProg.lean LOADS. Nothing in Lean hashes anything: it is a label: what it is worth is what the hold of that sum in a sandbox is worth. -/
noncomputable def Tryf.pinned : Pinned := { name := "ytelpdhhcpdagbaafmt", sum := "f0889fdf31b368d3579b77f5a247c0ebd153f8c0ab0bb664e24d8835b79e65a4", checked := Tryf.checked }
namespace Rows
def none {H : Type} : Left H := { results := [], args := [] }

/- WHAT THE LISTED PACKAGE-LEVEL VARIABLES READ AS WHEN THE CALL BEGINS. Each datum BY PROGRAM (the guide's laid-datum.mjs) off the statement by which the dump's own 'gosem.cut.vars' lays the variable. In a bare row this is a premise. The card (YtelpdhhcpdagbaaFmtCards.lean) ties it to the program's text. -/
def laid_unicode_utf8_acceptRanges {H : Type} : DataW H := .agg [.agg [.lit (.int .u8 128), .lit (.int .u8 191)], .agg [.lit (.int .u8 160), .lit (.int .u8 191)], .agg [.lit (.int .u8 128), .lit (.int .u8 159)], .agg [.lit (.int .u8 144), .lit (.int .u8 191)], .agg [.lit (.int .u8 128), .lit (.int .u8 143)], .agg [.lit (.int .u8 0), .lit (.int .u8 0)], .agg [.lit (.int .u8 0), .lit (.int .u8 0)], .agg [.lit (.int .u8 0), .lit (.int .u8 0)], .agg [.lit (.int .u8 0), .lit (.int .u8 0)], .agg [.lit (.int .u8 0), .lit (.int .u8 0)], .agg [.lit (.int .u8 0), .lit (.int .u8 0)], .agg [.lit (.int .u8 0), .lit (.int .u8 0)], .agg [.lit (.int .u8 0), .lit (.int .u8 0)], .agg [.lit (.int .u8 0), .lit (.int .u8 0)], .agg [.lit (.int .u8 0), .lit (.int .u8 0)], .agg [.lit (.int .u8 0), .lit (.int .u8 0)]]
def laid_github_com_evanw_esbuild_internal_css_lexer_tokenToString {H : Type} : DataW H := .slice [.lit (.string [101, 110, 100, 32, 111, 102, 32, 102, 105, 108, 101]), .lit (.string [64, 45, 107, 101, 121, 119, 111, 114, 100]), .lit (.string [98, 97, 100, 32, 115, 116, 114, 105, 110, 103, 32, 116, 111, 107, 101, 110]), .lit (.string [98, 97, 100, 32, 85, 82, 76, 32, 116, 111, 107, 101, 110]), .lit (.string [34, 45, 45, 62, 34]), .lit (.string [34, 60, 33, 45, 45, 34]), .lit (.string [34, 125, 34]), .lit (.string [34, 93, 34]), .lit (.string [34, 41, 34]), .lit (.string [34, 58, 34]), .lit (.string [34, 44, 34]), .lit (.string [100, 101, 108, 105, 109, 105, 116, 101, 114]), .lit (.string [34, 38, 34]), .lit (.string [34, 42, 34]), .lit (.string [34, 124, 34]), .lit (.string [34, 94, 34]), .lit (.string [34, 36, 34]), .lit (.string [34, 46, 34]), .lit (.string [34, 61, 34]), .lit (.string [34, 33, 34]), .lit (.string [34, 62, 34]), .lit (.string [34, 60, 34]), .lit (.string [34, 45, 34]), .lit (.string [34, 43, 34]), .lit (.string [34, 47, 34]), .lit (.string [34, 126, 34]), .lit (.string [100, 105, 109, 101, 110, 115, 105, 111, 110]), .lit (.string [102, 117, 110, 99, 116, 105, 111, 110, 32, 116, 111, 107, 101, 110]), .lit (.string [104, 97, 115, 104, 32, 116, 111, 107, 101, 110]), .lit (.string [105, 100, 101, 110, 116, 105, 102, 105, 101, 114]), .lit (.string [110, 117, 109, 98, 101, 114]), .lit (.string [34, 123, 34]), .lit (.string [34, 91, 34]), .lit (.string [34, 40, 34]), .lit (.string [112, 101, 114, 99, 101, 110, 116, 97, 103, 101]), .lit (.string [34, 59, 34]), .lit (.string [115, 116, 114, 105, 110, 103, 32, 116, 111, 107, 101, 110]), .lit (.string [85, 82, 76, 32, 116, 111, 107, 101, 110]), .lit (.string [119, 104, 105, 116, 101, 115, 112, 97, 99, 101]), .lit (.string [105, 100, 101, 110, 116, 105, 102, 105, 101, 114])] []
/-- One of Go's own tables, pinned by name: the form's constant. -/
def laid_unicode_utf8_first : DataW Unit := Go.Pinned.utf8First

/-- 'n011_198.FnParseComponentValueModel': WHATEVER THE INPUT: true; the input reads as it did. -/
def fnParseComponentValueModelSpec : ChangeSpec := { name := "fnParseComponentValueModel", vars := ["github.com/evanw/esbuild/internal/css_lexer.tokenToString"], fn := fun _ => fun
  | [d1, d2, g1] => { results := [.lit (.bool true)], args := [d1, d2], vars := [g1] }
  | _ => none }
def fnParseComponentValueModelRow : OpenClaim := { program := "ytelpdhhcpdagbaafmt", sum := "f0889fdf31b368d3579b77f5a247c0ebd153f8c0ab0bb664e24d8835b79e65a4", func := "github.com/evanw/esbuild/n011_198.FnParseComponentValueModel", spec := "fnParseComponentValueModel", stops := ["fmt.Sprintf"], inPlace := ["fmt.Sprintf"], unfollowed := true, recurses := true, named := ["github.com/evanw/esbuild/internal/css_lexer.tokenToString", "unicode/utf8.first", "unicode/utf8.acceptRanges"], plainKeys := false, apart := false, laid := [("unicode/utf8.acceptRanges", laid_unicode_utf8_acceptRanges), ("github.com/evanw/esbuild/internal/css_lexer.tokenToString", laid_github_com_evanw_esbuild_internal_css_lexer_tokenToString), ("unicode/utf8.first", laid_unicode_utf8_first)] }
/-- NO THEOREM (fmt's text is open here; it may be false): for the released tool's asking of the row's closed facts alone. THE STATEMENT IS 'FnParseComponentValueModelToldSaid' (YtelpdhhcpdagbaaFmtCards.lean). -/
def FnParseComponentValueModelFormAsk : Prop := fnParseComponentValueModelRow.holds Tryf.pinned (OpenSpec.ofChange fnParseComponentValueModelSpec)

/-- ITS FALSE NEIGHBOUR: 'it returns false'. Refute it at one input. -/
def fnParseComponentValueModelWrong : ChangeSpec := { name := "fnParseComponentValueModel", vars := ["github.com/evanw/esbuild/internal/css_lexer.tokenToString"], fn := fun _ => fun
  | [d1, d2, g1] => { results := [.lit (.bool false)], args := [d1, d2], vars := [g1] }
  | _ => none }
def FnParseComponentValueModelWrongFormAsk : Prop := fnParseComponentValueModelRow.holds Tryf.pinned (OpenSpec.ofChange fnParseComponentValueModelWrong)

end Rows
end Go.Proofs.YtelpdhhcpdagbaaFmt
