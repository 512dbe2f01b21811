/-
  NARROWER THAN 'FOR EVERY INPUT', by the rows' own cells (each row's printed sentence says how): FnSjStringExact: laid · FnGjQuoteApart: laid · FnGjToStrText: laid · FnMtAllowable: laid · FnMtCount: laid · FnJpParseStringForms: laid · FnMtNoCaseLimit: laid.
  DERIVED. THE GIVEN ROWS OF THIS SEAT. 7 by the template 'for every input the law returns true; each argument reads behind the call as it read before'; 0 by the template 'total and deterministic' (their statements: YtegbajfmhkmolaaDoorTotals.lean).
  GIVEN WITH THE SEED: the statements are not yours to turn. If you find one false, say at which input.
  Laid BY PROGRAM, IN A SANDBOX (cutbox-rows.mjs): the forced cells as the released guide's own fill.sh prints them over the translation 0d5cfe6b935e2183… (all of the seat's roots in one cut). By AI agents, Wed Nov 11 2026. No macro, syntax, notation, axiom, sorry.
-/
import Derived.Test.YtegbajfmhkmolaaDoorChecked
import GoSem.PinnedTables
import GoSem.Claim
import GoSem.ClaimJoined
import GoSem.ClaimMapViews
import Derived.JoinedTies
import Derived.KernelRfl
namespace Go.Proofs.YtegbajfmhkmolaaDoor
/- THE CELL 'sum', in the pinned program and in every row, IS THE sha256 OF THE DUMP (.gsa) THAT YtegbajfmhkmolaaDoorProg.lean LOADS. Nothing in Lean hashes anything: it is a label: what it is worth is what the hold of that sum in a sandbox is worth. -/
noncomputable def Tryd.pinned : Pinned := { name := "ytegbajfmhkmolaadoor", sum := "0d5cfe6b935e2183dd43a1aee65740bd3d28c1cfa1fe72da514846dcbd71d33b", checked := Tryd.checked }
namespace Rows
def none {H : Type} : Left H := { results := [], args := [] }

/- WHAT THE LISTED PACKAGE-LEVEL VARIABLES READ AS WHEN THE CALL BEGINS. Each datum BY PROGRAM (the guide's laid-datum.mjs) off the statement by which the dump's own 'gosem.cut.vars' lays the variable. In a bare row this is a premise. The card (YtegbajfmhkmolaaDoorCards.lean) ties it to the program's text. -/
def laid_unicode_utf8_acceptRanges {H : Type} : DataW H := .agg [.agg [.lit (.int .u8 128), .lit (.int .u8 191)], .agg [.lit (.int .u8 160), .lit (.int .u8 191)], .agg [.lit (.int .u8 128), .lit (.int .u8 159)], .agg [.lit (.int .u8 144), .lit (.int .u8 191)], .agg [.lit (.int .u8 128), .lit (.int .u8 143)], .agg [.lit (.int .u8 0), .lit (.int .u8 0)], .agg [.lit (.int .u8 0), .lit (.int .u8 0)], .agg [.lit (.int .u8 0), .lit (.int .u8 0)], .agg [.lit (.int .u8 0), .lit (.int .u8 0)], .agg [.lit (.int .u8 0), .lit (.int .u8 0)], .agg [.lit (.int .u8 0), .lit (.int .u8 0)], .agg [.lit (.int .u8 0), .lit (.int .u8 0)], .agg [.lit (.int .u8 0), .lit (.int .u8 0)], .agg [.lit (.int .u8 0), .lit (.int .u8 0)], .agg [.lit (.int .u8 0), .lit (.int .u8 0)], .agg [.lit (.int .u8 0), .lit (.int .u8 0)]]
/-- One of Go's own tables, pinned by name: the form's constant. -/
def laid_unicode_utf8_first : DataW Unit := Go.Pinned.utf8First
def laid_pub_tetrapla_pub_gjson_hexchars {H : Type} : DataW H := .agg [.lit (.int .u8 48), .lit (.int .u8 49), .lit (.int .u8 50), .lit (.int .u8 51), .lit (.int .u8 52), .lit (.int .u8 53), .lit (.int .u8 54), .lit (.int .u8 55), .lit (.int .u8 56), .lit (.int .u8 57), .lit (.int .u8 97), .lit (.int .u8 98), .lit (.int .u8 99), .lit (.int .u8 100), .lit (.int .u8 101), .lit (.int .u8 102)]
def laid_pub_tetrapla_pub_match_maxRuneBytes {H : Type} : DataW H := .agg [.lit (.int .u8 244), .lit (.int .u8 143), .lit (.int .u8 191), .lit (.int .u8 191)]
def laid_pub_tetrapla_pub_jsonparser_DefaultConfig {H : Type} : DataW H := .agg [.lit (.bool false), .lit (.bool false), .lit (.int .i64 0)]
def laid_pub_tetrapla_pub_jsonparser_backslashCharEscapeTable {H : Type} : DataW H := .agg [.lit (.int .u8 0), .lit (.int .u8 0), .lit (.int .u8 0), .lit (.int .u8 0), .lit (.int .u8 0), .lit (.int .u8 0), .lit (.int .u8 0), .lit (.int .u8 0), .lit (.int .u8 0), .lit (.int .u8 0), .lit (.int .u8 0), .lit (.int .u8 0), .lit (.int .u8 0), .lit (.int .u8 0), .lit (.int .u8 0), .lit (.int .u8 0), .lit (.int .u8 0), .lit (.int .u8 0), .lit (.int .u8 0), .lit (.int .u8 0), .lit (.int .u8 0), .lit (.int .u8 0), .lit (.int .u8 0), .lit (.int .u8 0), .lit (.int .u8 0), .lit (.int .u8 0), .lit (.int .u8 0), .lit (.int .u8 0), .lit (.int .u8 0), .lit (.int .u8 0), .lit (.int .u8 0), .lit (.int .u8 0), .lit (.int .u8 0), .lit (.int .u8 0), .lit (.int .u8 34), .lit (.int .u8 0), .lit (.int .u8 0), .lit (.int .u8 0), .lit (.int .u8 0), .lit (.int .u8 0), .lit (.int .u8 0), .lit (.int .u8 0), .lit (.int .u8 0), .lit (.int .u8 0), .lit (.int .u8 0), .lit (.int .u8 0), .lit (.int .u8 0), .lit (.int .u8 47), .lit (.int .u8 0), .lit (.int .u8 0), .lit (.int .u8 0), .lit (.int .u8 0), .lit (.int .u8 0), .lit (.int .u8 0), .lit (.int .u8 0), .lit (.int .u8 0), .lit (.int .u8 0), .lit (.int .u8 0), .lit (.int .u8 0), .lit (.int .u8 0), .lit (.int .u8 0), .lit (.int .u8 0), .lit (.int .u8 0), .lit (.int .u8 0), .lit (.int .u8 0), .lit (.int .u8 0), .lit (.int .u8 0), .lit (.int .u8 0), .lit (.int .u8 0), .lit (.int .u8 0), .lit (.int .u8 0), .lit (.int .u8 0), .lit (.int .u8 0), .lit (.int .u8 0), .lit (.int .u8 0), .lit (.int .u8 0), .lit (.int .u8 0), .lit (.int .u8 0), .lit (.int .u8 0), .lit (.int .u8 0), .lit (.int .u8 0), .lit (.int .u8 0), .lit (.int .u8 0), .lit (.int .u8 0), .lit (.int .u8 0), .lit (.int .u8 0), .lit (.int .u8 0), .lit (.int .u8 0), .lit (.int .u8 0), .lit (.int .u8 0), .lit (.int .u8 0), .lit (.int .u8 0), .lit (.int .u8 92), .lit (.int .u8 0), .lit (.int .u8 0), .lit (.int .u8 0), .lit (.int .u8 0), .lit (.int .u8 0), .lit (.int .u8 8), .lit (.int .u8 0), .lit (.int .u8 0), .lit (.int .u8 0), .lit (.int .u8 12), .lit (.int .u8 0), .lit (.int .u8 0), .lit (.int .u8 0), .lit (.int .u8 0), .lit (.int .u8 0), .lit (.int .u8 0), .lit (.int .u8 0), .lit (.int .u8 10), .lit (.int .u8 0), .lit (.int .u8 0), .lit (.int .u8 0), .lit (.int .u8 13), .lit (.int .u8 0), .lit (.int .u8 9)]
def laid_pub_tetrapla_pub_jsonparser_MalformedValueError {H : Type} : DataW H := .iface "*errors.errorString" (.ptr (.agg [.lit (.string [86, 97, 108, 117, 101, 32, 108, 111, 111, 107, 115, 32, 108, 105, 107, 101, 32, 78, 117, 109, 98, 101, 114, 47, 66, 111, 111, 108, 101, 97, 110, 47, 78, 111, 110, 101, 44, 32, 98, 117, 116, 32, 99, 97, 110, 39, 116, 32, 102, 105, 110, 100, 32, 105, 116, 115, 32, 101, 110, 100, 58, 32, 39, 44, 39, 32, 111, 114, 32, 39, 125, 39, 32, 115, 121, 109, 98, 111, 108])]))
def laid_pub_tetrapla_pub_jsonparser_MalformedStringEscapeError {H : Type} : DataW H := .iface "*errors.errorString" (.ptr (.agg [.lit (.string [69, 110, 99, 111, 117, 110, 116, 101, 114, 101, 100, 32, 97, 110, 32, 105, 110, 118, 97, 108, 105, 100, 32, 101, 115, 99, 97, 112, 101, 32, 115, 101, 113, 117, 101, 110, 99, 101, 32, 105, 110, 32, 97, 32, 115, 116, 114, 105, 110, 103])]))

/-- 'laws.FnSjStringExact': WHATEVER THE INPUT: true; the input reads as it did. -/
def fnSjStringExactSpec : ChangeSpec := { name := "fnSjStringExact", fn := fun _ => fun
  | [d] => { results := [.lit (.bool true)], args := [d] }
  | _ => none }
def fnSjStringExactRow : OpenClaim := { program := "ytegbajfmhkmolaadoor", sum := "0d5cfe6b935e2183dd43a1aee65740bd3d28c1cfa1fe72da514846dcbd71d33b", func := "pub-tetrapla/laws.FnSjStringExact", spec := "fnSjStringExact", named := ["unicode/utf8.first", "unicode/utf8.acceptRanges"], apart := false, laid := [("unicode/utf8.acceptRanges", laid_unicode_utf8_acceptRanges), ("unicode/utf8.first", laid_unicode_utf8_first)] }
def FnSjStringExactSaid : Prop := fnSjStringExactRow.holds Tryd.pinned (OpenSpec.ofChange fnSjStringExactSpec)

/-- ITS FALSE NEIGHBOUR: 'it returns false'. Refute it at one input. -/
def fnSjStringExactWrong : ChangeSpec := { name := "fnSjStringExact", fn := fun _ => fun
  | [d] => { results := [.lit (.bool false)], args := [d] }
  | _ => none }
def FnSjStringExactWrongFalsely : Prop := fnSjStringExactRow.holds Tryd.pinned (OpenSpec.ofChange fnSjStringExactWrong)

/-- 'laws.FnGjQuoteApart': WHATEVER THE INPUT: true; the input reads as it did. -/
def fnGjQuoteApartSpec : ChangeSpec := { name := "fnGjQuoteApart", fn := fun _ => fun
  | [d1, d2] => { results := [.lit (.bool true)], args := [d1, d2] }
  | _ => none }
def fnGjQuoteApartRow : OpenClaim := { program := "ytegbajfmhkmolaadoor", sum := "0d5cfe6b935e2183dd43a1aee65740bd3d28c1cfa1fe72da514846dcbd71d33b", func := "pub-tetrapla/laws.FnGjQuoteApart", spec := "fnGjQuoteApart", named := ["pub-tetrapla/pub/gjson.hexchars", "unicode/utf8.first", "unicode/utf8.acceptRanges"], apart := false, laid := [("unicode/utf8.acceptRanges", laid_unicode_utf8_acceptRanges), ("pub-tetrapla/pub/gjson.hexchars", laid_pub_tetrapla_pub_gjson_hexchars), ("unicode/utf8.first", laid_unicode_utf8_first)] }
def FnGjQuoteApartSaid : Prop := fnGjQuoteApartRow.holds Tryd.pinned (OpenSpec.ofChange fnGjQuoteApartSpec)

/-- ITS FALSE NEIGHBOUR: 'it returns false'. Refute it at one input. -/
def fnGjQuoteApartWrong : ChangeSpec := { name := "fnGjQuoteApart", fn := fun _ => fun
  | [d1, d2] => { results := [.lit (.bool false)], args := [d1, d2] }
  | _ => none }
def FnGjQuoteApartWrongFalsely : Prop := fnGjQuoteApartRow.holds Tryd.pinned (OpenSpec.ofChange fnGjQuoteApartWrong)

/-- 'laws.FnGjToStrText': WHATEVER THE INPUT: true; the input reads as it did. -/
def fnGjToStrTextSpec : ChangeSpec := { name := "fnGjToStrText", fn := fun _ => fun
  | [d] => { results := [.lit (.bool true)], args := [d] }
  | _ => none }
def fnGjToStrTextRow : OpenClaim := { program := "ytegbajfmhkmolaadoor", sum := "0d5cfe6b935e2183dd43a1aee65740bd3d28c1cfa1fe72da514846dcbd71d33b", func := "pub-tetrapla/laws.FnGjToStrText", spec := "fnGjToStrText", recurses := true, named := ["pub-tetrapla/pub/gjson.hexchars", "unicode/utf8.first", "unicode/utf8.acceptRanges"], apart := false, laid := [("unicode/utf8.acceptRanges", laid_unicode_utf8_acceptRanges), ("pub-tetrapla/pub/gjson.hexchars", laid_pub_tetrapla_pub_gjson_hexchars), ("unicode/utf8.first", laid_unicode_utf8_first)] }
def FnGjToStrTextSaid : Prop := fnGjToStrTextRow.holds Tryd.pinned (OpenSpec.ofChange fnGjToStrTextSpec)

/-- ITS FALSE NEIGHBOUR: 'it returns false'. Refute it at one input. -/
def fnGjToStrTextWrong : ChangeSpec := { name := "fnGjToStrText", fn := fun _ => fun
  | [d] => { results := [.lit (.bool false)], args := [d] }
  | _ => none }
def FnGjToStrTextWrongFalsely : Prop := fnGjToStrTextRow.holds Tryd.pinned (OpenSpec.ofChange fnGjToStrTextWrong)

/-- 'laws.FnMtAllowable': WHATEVER THE INPUT: true; the input reads as it did. -/
def fnMtAllowableSpec : ChangeSpec := { name := "fnMtAllowable", fn := fun _ => fun
  | [d1, d2] => { results := [.lit (.bool true)], args := [d1, d2] }
  | _ => none }
def fnMtAllowableRow : OpenClaim := { program := "ytegbajfmhkmolaadoor", sum := "0d5cfe6b935e2183dd43a1aee65740bd3d28c1cfa1fe72da514846dcbd71d33b", func := "pub-tetrapla/laws.FnMtAllowable", spec := "fnMtAllowable", named := ["pub-tetrapla/pub/match.maxRuneBytes", "unicode/utf8.first", "unicode/utf8.acceptRanges"], apart := false, laid := [("unicode/utf8.acceptRanges", laid_unicode_utf8_acceptRanges), ("pub-tetrapla/pub/match.maxRuneBytes", laid_pub_tetrapla_pub_match_maxRuneBytes), ("unicode/utf8.first", laid_unicode_utf8_first)] }
def FnMtAllowableSaid : Prop := fnMtAllowableRow.holds Tryd.pinned (OpenSpec.ofChange fnMtAllowableSpec)

/-- ITS FALSE NEIGHBOUR: 'it returns false'. Refute it at one input. -/
def fnMtAllowableWrong : ChangeSpec := { name := "fnMtAllowable", fn := fun _ => fun
  | [d1, d2] => { results := [.lit (.bool false)], args := [d1, d2] }
  | _ => none }
def FnMtAllowableWrongFalsely : Prop := fnMtAllowableRow.holds Tryd.pinned (OpenSpec.ofChange fnMtAllowableWrong)

/-- 'laws.FnMtCount': WHATEVER THE INPUT: true; the input reads as it did. -/
def fnMtCountSpec : ChangeSpec := { name := "fnMtCount", fn := fun _ => fun
  | [d1, d2] => { results := [.lit (.bool true)], args := [d1, d2] }
  | _ => none }
def fnMtCountRow : OpenClaim := { program := "ytegbajfmhkmolaadoor", sum := "0d5cfe6b935e2183dd43a1aee65740bd3d28c1cfa1fe72da514846dcbd71d33b", func := "pub-tetrapla/laws.FnMtCount", spec := "fnMtCount", recurses := true, named := ["unicode/utf8.first", "unicode/utf8.acceptRanges"], apart := false, laid := [("unicode/utf8.acceptRanges", laid_unicode_utf8_acceptRanges), ("unicode/utf8.first", laid_unicode_utf8_first)] }
def FnMtCountSaid : Prop := fnMtCountRow.holds Tryd.pinned (OpenSpec.ofChange fnMtCountSpec)

/-- ITS FALSE NEIGHBOUR: 'it returns false'. Refute it at one input. -/
def fnMtCountWrong : ChangeSpec := { name := "fnMtCount", fn := fun _ => fun
  | [d1, d2] => { results := [.lit (.bool false)], args := [d1, d2] }
  | _ => none }
def FnMtCountWrongFalsely : Prop := fnMtCountRow.holds Tryd.pinned (OpenSpec.ofChange fnMtCountWrong)

/-- 'laws.FnJpParseStringForms': WHATEVER THE INPUT: true; the input reads as it did. -/
def fnJpParseStringFormsSpec : ChangeSpec := { name := "fnJpParseStringForms", fn := fun _ => fun
  | [d1, d2] => { results := [.lit (.bool true)], args := [d1, d2] }
  | _ => none }
def fnJpParseStringFormsRow : OpenClaim := { program := "ytegbajfmhkmolaadoor", sum := "0d5cfe6b935e2183dd43a1aee65740bd3d28c1cfa1fe72da514846dcbd71d33b", func := "pub-tetrapla/laws.FnJpParseStringForms", spec := "fnJpParseStringForms", inPlace := ["internal/bytealg.IndexByte"], recurses := true, named := ["pub-tetrapla/pub/jsonparser.MalformedValueError", "pub-tetrapla/pub/jsonparser.DefaultConfig", "pub-tetrapla/pub/jsonparser.MalformedStringEscapeError", "pub-tetrapla/pub/jsonparser.backslashCharEscapeTable"], apart := false, laid := [("pub-tetrapla/pub/jsonparser.DefaultConfig", laid_pub_tetrapla_pub_jsonparser_DefaultConfig), ("pub-tetrapla/pub/jsonparser.backslashCharEscapeTable", laid_pub_tetrapla_pub_jsonparser_backslashCharEscapeTable), ("pub-tetrapla/pub/jsonparser.MalformedValueError", laid_pub_tetrapla_pub_jsonparser_MalformedValueError), ("pub-tetrapla/pub/jsonparser.MalformedStringEscapeError", laid_pub_tetrapla_pub_jsonparser_MalformedStringEscapeError)] }
def FnJpParseStringFormsSaid : Prop := fnJpParseStringFormsRow.holds Tryd.pinned (OpenSpec.ofChange fnJpParseStringFormsSpec)

/-- ITS FALSE NEIGHBOUR: 'it returns false'. Refute it at one input. -/
def fnJpParseStringFormsWrong : ChangeSpec := { name := "fnJpParseStringForms", fn := fun _ => fun
  | [d1, d2] => { results := [.lit (.bool false)], args := [d1, d2] }
  | _ => none }
def FnJpParseStringFormsWrongFalsely : Prop := fnJpParseStringFormsRow.holds Tryd.pinned (OpenSpec.ofChange fnJpParseStringFormsWrong)

/-- 'laws.FnMtNoCaseLimit': WHATEVER THE INPUT: true; the input reads as it did. -/
def fnMtNoCaseLimitSpec : ChangeSpec := { name := "fnMtNoCaseLimit", fn := fun _ => fun
  | [d1, d2, d3] => { results := [.lit (.bool true)], args := [d1, d2, d3] }
  | _ => none }
def fnMtNoCaseLimitRow : OpenClaim := { program := "ytegbajfmhkmolaadoor", sum := "0d5cfe6b935e2183dd43a1aee65740bd3d28c1cfa1fe72da514846dcbd71d33b", func := "pub-tetrapla/laws.FnMtNoCaseLimit", spec := "fnMtNoCaseLimit", recurses := true, named := ["unicode/utf8.first", "unicode/utf8.acceptRanges"], apart := false, laid := [("unicode/utf8.acceptRanges", laid_unicode_utf8_acceptRanges), ("unicode/utf8.first", laid_unicode_utf8_first)] }
def FnMtNoCaseLimitSaid : Prop := fnMtNoCaseLimitRow.holds Tryd.pinned (OpenSpec.ofChange fnMtNoCaseLimitSpec)

/-- ITS FALSE NEIGHBOUR: 'it returns false'. Refute it at one input. -/
def fnMtNoCaseLimitWrong : ChangeSpec := { name := "fnMtNoCaseLimit", fn := fun _ => fun
  | [d1, d2, d3] => { results := [.lit (.bool false)], args := [d1, d2, d3] }
  | _ => none }
def FnMtNoCaseLimitWrongFalsely : Prop := fnMtNoCaseLimitRow.holds Tryd.pinned (OpenSpec.ofChange fnMtNoCaseLimitWrong)

/- THE SECOND FORM. 'bulk': how many values and letters a reading holds, each counted each time it is reached (what is shared counts as often as it is met; a slice's spare places count too). A statement '..UptoSaid' is the law's where the arguments, and the package variables that the reading takes, are together of bulk at most 1048576: NARROWER than '..Said'. Prove '..Said' where nothing that the law and all that it calls make is longer than what came in: it says more and counts as full. Else prove '..UptoSaid'. A law counts once. -/
mutual
def uptoBulk {H : Type} : DataW H → Nat
  | .lit (.string bytes) => bytes.length + 1
  | .lit _ => 1
  | .nil => 1
  | .ptr d => uptoBulk d + 1
  | .slice elems spare => uptoBulkAll elems + uptoBulkAll spare + 1
  | .agg parts => uptoBulkAll parts + 1
  | .iface _ d => uptoBulk d + 1
  | .map entries => uptoBulkEntries entries + 1
  | .held _ => 1
def uptoBulkAll {H : Type} : List (DataW H) → Nat
  | [] => 0
  | d :: r => uptoBulk d + uptoBulkAll r
def uptoBulkEntries {H : Type} : List (Lit × DataW H) → Nat
  | [] => 0
  | x :: r => uptoBulkEntry x + uptoBulkEntries r
def uptoBulkEntry {H : Type} : Lit × DataW H → Nat
  | (.string bytes, d) => bytes.length + uptoBulk d + 1
  | (_, d) => uptoBulk d + 1
 end
def uptoSmall : (H : Type) → List (DataW H) → Bool := fun _ ds => decide (uptoBulkAll ds ≤ 1048576)
def OpenSpec.upto (s : _root_.Go.ChangeSpec) : _root_.Go.OpenSpec := { _root_.Go.OpenSpec.ofChange s with cond := some uptoSmall }

/-- 'laws.FnSjStringExact', WHERE WHAT IT READS IS OF BULK AT MOST 1048576: true; the input reads as it did. -/
def fnSjStringExactUptoRow : OpenClaim := { program := "ytegbajfmhkmolaadoor", sum := "0d5cfe6b935e2183dd43a1aee65740bd3d28c1cfa1fe72da514846dcbd71d33b", func := "pub-tetrapla/laws.FnSjStringExact", spec := "fnSjStringExact", named := ["unicode/utf8.first", "unicode/utf8.acceptRanges"], apart := false, laid := [("unicode/utf8.acceptRanges", laid_unicode_utf8_acceptRanges), ("unicode/utf8.first", laid_unicode_utf8_first)], narrowed := true }
def FnSjStringExactUptoSaid : Prop := fnSjStringExactUptoRow.holds Tryd.pinned (OpenSpec.upto fnSjStringExactSpec)

/-- 'laws.FnGjQuoteApart', WHERE WHAT IT READS IS OF BULK AT MOST 1048576: true; the input reads as it did. -/
def fnGjQuoteApartUptoRow : OpenClaim := { program := "ytegbajfmhkmolaadoor", sum := "0d5cfe6b935e2183dd43a1aee65740bd3d28c1cfa1fe72da514846dcbd71d33b", func := "pub-tetrapla/laws.FnGjQuoteApart", spec := "fnGjQuoteApart", named := ["pub-tetrapla/pub/gjson.hexchars", "unicode/utf8.first", "unicode/utf8.acceptRanges"], apart := false, laid := [("unicode/utf8.acceptRanges", laid_unicode_utf8_acceptRanges), ("pub-tetrapla/pub/gjson.hexchars", laid_pub_tetrapla_pub_gjson_hexchars), ("unicode/utf8.first", laid_unicode_utf8_first)], narrowed := true }
def FnGjQuoteApartUptoSaid : Prop := fnGjQuoteApartUptoRow.holds Tryd.pinned (OpenSpec.upto fnGjQuoteApartSpec)

/-- 'laws.FnGjToStrText', WHERE WHAT IT READS IS OF BULK AT MOST 1048576: true; the input reads as it did. -/
def fnGjToStrTextUptoRow : OpenClaim := { program := "ytegbajfmhkmolaadoor", sum := "0d5cfe6b935e2183dd43a1aee65740bd3d28c1cfa1fe72da514846dcbd71d33b", func := "pub-tetrapla/laws.FnGjToStrText", spec := "fnGjToStrText", recurses := true, named := ["pub-tetrapla/pub/gjson.hexchars", "unicode/utf8.first", "unicode/utf8.acceptRanges"], apart := false, laid := [("unicode/utf8.acceptRanges", laid_unicode_utf8_acceptRanges), ("pub-tetrapla/pub/gjson.hexchars", laid_pub_tetrapla_pub_gjson_hexchars), ("unicode/utf8.first", laid_unicode_utf8_first)], narrowed := true }
def FnGjToStrTextUptoSaid : Prop := fnGjToStrTextUptoRow.holds Tryd.pinned (OpenSpec.upto fnGjToStrTextSpec)

/-- 'laws.FnMtAllowable', WHERE WHAT IT READS IS OF BULK AT MOST 1048576: true; the input reads as it did. -/
def fnMtAllowableUptoRow : OpenClaim := { program := "ytegbajfmhkmolaadoor", sum := "0d5cfe6b935e2183dd43a1aee65740bd3d28c1cfa1fe72da514846dcbd71d33b", func := "pub-tetrapla/laws.FnMtAllowable", spec := "fnMtAllowable", named := ["pub-tetrapla/pub/match.maxRuneBytes", "unicode/utf8.first", "unicode/utf8.acceptRanges"], apart := false, laid := [("unicode/utf8.acceptRanges", laid_unicode_utf8_acceptRanges), ("pub-tetrapla/pub/match.maxRuneBytes", laid_pub_tetrapla_pub_match_maxRuneBytes), ("unicode/utf8.first", laid_unicode_utf8_first)], narrowed := true }
def FnMtAllowableUptoSaid : Prop := fnMtAllowableUptoRow.holds Tryd.pinned (OpenSpec.upto fnMtAllowableSpec)

/-- 'laws.FnMtCount', WHERE WHAT IT READS IS OF BULK AT MOST 1048576: true; the input reads as it did. -/
def fnMtCountUptoRow : OpenClaim := { program := "ytegbajfmhkmolaadoor", sum := "0d5cfe6b935e2183dd43a1aee65740bd3d28c1cfa1fe72da514846dcbd71d33b", func := "pub-tetrapla/laws.FnMtCount", spec := "fnMtCount", recurses := true, named := ["unicode/utf8.first", "unicode/utf8.acceptRanges"], apart := false, laid := [("unicode/utf8.acceptRanges", laid_unicode_utf8_acceptRanges), ("unicode/utf8.first", laid_unicode_utf8_first)], narrowed := true }
def FnMtCountUptoSaid : Prop := fnMtCountUptoRow.holds Tryd.pinned (OpenSpec.upto fnMtCountSpec)

/-- 'laws.FnJpParseStringForms', WHERE WHAT IT READS IS OF BULK AT MOST 1048576: true; the input reads as it did. -/
def fnJpParseStringFormsUptoRow : OpenClaim := { program := "ytegbajfmhkmolaadoor", sum := "0d5cfe6b935e2183dd43a1aee65740bd3d28c1cfa1fe72da514846dcbd71d33b", func := "pub-tetrapla/laws.FnJpParseStringForms", spec := "fnJpParseStringForms", inPlace := ["internal/bytealg.IndexByte"], recurses := true, named := ["pub-tetrapla/pub/jsonparser.MalformedValueError", "pub-tetrapla/pub/jsonparser.DefaultConfig", "pub-tetrapla/pub/jsonparser.MalformedStringEscapeError", "pub-tetrapla/pub/jsonparser.backslashCharEscapeTable"], apart := false, laid := [("pub-tetrapla/pub/jsonparser.DefaultConfig", laid_pub_tetrapla_pub_jsonparser_DefaultConfig), ("pub-tetrapla/pub/jsonparser.backslashCharEscapeTable", laid_pub_tetrapla_pub_jsonparser_backslashCharEscapeTable), ("pub-tetrapla/pub/jsonparser.MalformedValueError", laid_pub_tetrapla_pub_jsonparser_MalformedValueError), ("pub-tetrapla/pub/jsonparser.MalformedStringEscapeError", laid_pub_tetrapla_pub_jsonparser_MalformedStringEscapeError)], narrowed := true }
def FnJpParseStringFormsUptoSaid : Prop := fnJpParseStringFormsUptoRow.holds Tryd.pinned (OpenSpec.upto fnJpParseStringFormsSpec)

/-- 'laws.FnMtNoCaseLimit', WHERE WHAT IT READS IS OF BULK AT MOST 1048576: true; the input reads as it did. -/
def fnMtNoCaseLimitUptoRow : OpenClaim := { program := "ytegbajfmhkmolaadoor", sum := "0d5cfe6b935e2183dd43a1aee65740bd3d28c1cfa1fe72da514846dcbd71d33b", func := "pub-tetrapla/laws.FnMtNoCaseLimit", spec := "fnMtNoCaseLimit", recurses := true, named := ["unicode/utf8.first", "unicode/utf8.acceptRanges"], apart := false, laid := [("unicode/utf8.acceptRanges", laid_unicode_utf8_acceptRanges), ("unicode/utf8.first", laid_unicode_utf8_first)], narrowed := true }
def FnMtNoCaseLimitUptoSaid : Prop := fnMtNoCaseLimitUptoRow.holds Tryd.pinned (OpenSpec.upto fnMtNoCaseLimitSpec)

end Rows
end Go.Proofs.YtegbajfmhkmolaaDoor
