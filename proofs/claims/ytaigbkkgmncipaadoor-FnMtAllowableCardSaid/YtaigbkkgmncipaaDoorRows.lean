/-
  NARROWER THAN 'FOR EVERY INPUT', by the rows' own cells (each row's printed sentence says how): FnMtAllowable: laid · FnJpParseStringForms: laid · FnJrUnescape: laid · FnGjUnescapeWhole: laid · FnGjStringText: laid.
  DERIVED. THE GIVEN ROWS OF THIS SEAT. 5 by the template 'for every input the law returns true; each argument reads behind the call as it read before'; 0 by the template 'total and deterministic' (their statements: YtaigbkkgmncipaaDoorTotals.lean).
  GIVEN WITH THE SEED: the statements are not yours to turn. If you find one false, say at which input.
  Laid BY PROGRAM, IN A SANDBOX (cutbox-rows.mjs): the forced cells as the released guide's own fill.sh prints them over the translation f2e784a903772197… (all of the seat's roots in one cut). By AI agents, Wed Nov 11 2026. No macro, syntax, notation, axiom, sorry.
-/
import Derived.Test.YtaigbkkgmncipaaDoorChecked
import GoSem.PinnedTables
import GoSem.Claim
import GoSem.ClaimJoined
import GoSem.ClaimMapViews
import Derived.JoinedTies
import Derived.KernelRfl
namespace Go.Proofs.YtaigbkkgmncipaaDoor
/- THE CELL 'sum', in the pinned program and in every row, IS THE sha256 OF THE DUMP (.gsa) THAT YtaigbkkgmncipaaDoorProg.lean LOADS. Nothing in Lean hashes anything: it is a label: what it is worth is what the hold of that sum in a sandbox is worth. -/
noncomputable def Tryd.pinned : Pinned := { name := "ytaigbkkgmncipaadoor", sum := "f2e784a9037721973521d24d548583b2ca087afa629e84ca111049899c3c17e7", checked := Tryd.checked }
namespace Rows
def none {H : Type} : Left H := { results := [], args := [] }

/- WHAT THE LISTED PACKAGE-LEVEL VARIABLES READ AS WHEN THE CALL BEGINS. Each datum BY PROGRAM (the guide's laid-datum.mjs) off the statement by which the dump's own 'gosem.cut.vars' lays the variable. In a bare row this is a premise. The card (YtaigbkkgmncipaaDoorCards.lean) ties it to the program's text. -/
def laid_unicode_utf8_acceptRanges {H : Type} : DataW H := .agg [.agg [.lit (.int .u8 128), .lit (.int .u8 191)], .agg [.lit (.int .u8 160), .lit (.int .u8 191)], .agg [.lit (.int .u8 128), .lit (.int .u8 159)], .agg [.lit (.int .u8 144), .lit (.int .u8 191)], .agg [.lit (.int .u8 128), .lit (.int .u8 143)], .agg [.lit (.int .u8 0), .lit (.int .u8 0)], .agg [.lit (.int .u8 0), .lit (.int .u8 0)], .agg [.lit (.int .u8 0), .lit (.int .u8 0)], .agg [.lit (.int .u8 0), .lit (.int .u8 0)], .agg [.lit (.int .u8 0), .lit (.int .u8 0)], .agg [.lit (.int .u8 0), .lit (.int .u8 0)], .agg [.lit (.int .u8 0), .lit (.int .u8 0)], .agg [.lit (.int .u8 0), .lit (.int .u8 0)], .agg [.lit (.int .u8 0), .lit (.int .u8 0)], .agg [.lit (.int .u8 0), .lit (.int .u8 0)], .agg [.lit (.int .u8 0), .lit (.int .u8 0)]]
def laid_pub_tetrapla_pub_match_maxRuneBytes {H : Type} : DataW H := .agg [.lit (.int .u8 244), .lit (.int .u8 143), .lit (.int .u8 191), .lit (.int .u8 191)]
/-- One of Go's own tables, pinned by name: the form's constant. -/
def laid_unicode_utf8_first : DataW Unit := Go.Pinned.utf8First
def laid_pub_tetrapla_pub_jsonparser_DefaultConfig {H : Type} : DataW H := .agg [.lit (.bool false), .lit (.bool false), .lit (.int .i64 0)]
def laid_pub_tetrapla_pub_jsonparser_backslashCharEscapeTable {H : Type} : DataW H := .agg [.lit (.int .u8 0), .lit (.int .u8 0), .lit (.int .u8 0), .lit (.int .u8 0), .lit (.int .u8 0), .lit (.int .u8 0), .lit (.int .u8 0), .lit (.int .u8 0), .lit (.int .u8 0), .lit (.int .u8 0), .lit (.int .u8 0), .lit (.int .u8 0), .lit (.int .u8 0), .lit (.int .u8 0), .lit (.int .u8 0), .lit (.int .u8 0), .lit (.int .u8 0), .lit (.int .u8 0), .lit (.int .u8 0), .lit (.int .u8 0), .lit (.int .u8 0), .lit (.int .u8 0), .lit (.int .u8 0), .lit (.int .u8 0), .lit (.int .u8 0), .lit (.int .u8 0), .lit (.int .u8 0), .lit (.int .u8 0), .lit (.int .u8 0), .lit (.int .u8 0), .lit (.int .u8 0), .lit (.int .u8 0), .lit (.int .u8 0), .lit (.int .u8 0), .lit (.int .u8 34), .lit (.int .u8 0), .lit (.int .u8 0), .lit (.int .u8 0), .lit (.int .u8 0), .lit (.int .u8 0), .lit (.int .u8 0), .lit (.int .u8 0), .lit (.int .u8 0), .lit (.int .u8 0), .lit (.int .u8 0), .lit (.int .u8 0), .lit (.int .u8 0), .lit (.int .u8 47), .lit (.int .u8 0), .lit (.int .u8 0), .lit (.int .u8 0), .lit (.int .u8 0), .lit (.int .u8 0), .lit (.int .u8 0), .lit (.int .u8 0), .lit (.int .u8 0), .lit (.int .u8 0), .lit (.int .u8 0), .lit (.int .u8 0), .lit (.int .u8 0), .lit (.int .u8 0), .lit (.int .u8 0), .lit (.int .u8 0), .lit (.int .u8 0), .lit (.int .u8 0), .lit (.int .u8 0), .lit (.int .u8 0), .lit (.int .u8 0), .lit (.int .u8 0), .lit (.int .u8 0), .lit (.int .u8 0), .lit (.int .u8 0), .lit (.int .u8 0), .lit (.int .u8 0), .lit (.int .u8 0), .lit (.int .u8 0), .lit (.int .u8 0), .lit (.int .u8 0), .lit (.int .u8 0), .lit (.int .u8 0), .lit (.int .u8 0), .lit (.int .u8 0), .lit (.int .u8 0), .lit (.int .u8 0), .lit (.int .u8 0), .lit (.int .u8 0), .lit (.int .u8 0), .lit (.int .u8 0), .lit (.int .u8 0), .lit (.int .u8 0), .lit (.int .u8 0), .lit (.int .u8 0), .lit (.int .u8 92), .lit (.int .u8 0), .lit (.int .u8 0), .lit (.int .u8 0), .lit (.int .u8 0), .lit (.int .u8 0), .lit (.int .u8 8), .lit (.int .u8 0), .lit (.int .u8 0), .lit (.int .u8 0), .lit (.int .u8 12), .lit (.int .u8 0), .lit (.int .u8 0), .lit (.int .u8 0), .lit (.int .u8 0), .lit (.int .u8 0), .lit (.int .u8 0), .lit (.int .u8 0), .lit (.int .u8 10), .lit (.int .u8 0), .lit (.int .u8 0), .lit (.int .u8 0), .lit (.int .u8 13), .lit (.int .u8 0), .lit (.int .u8 9)]
def laid_pub_tetrapla_pub_jsonparser_MalformedValueError {H : Type} : DataW H := .iface "*errors.errorString" (.ptr (.agg [.lit (.string [86, 97, 108, 117, 101, 32, 108, 111, 111, 107, 115, 32, 108, 105, 107, 101, 32, 78, 117, 109, 98, 101, 114, 47, 66, 111, 111, 108, 101, 97, 110, 47, 78, 111, 110, 101, 44, 32, 98, 117, 116, 32, 99, 97, 110, 39, 116, 32, 102, 105, 110, 100, 32, 105, 116, 115, 32, 101, 110, 100, 58, 32, 39, 44, 39, 32, 111, 114, 32, 39, 125, 39, 32, 115, 121, 109, 98, 111, 108])]))
def laid_pub_tetrapla_pub_jsonparser_MalformedStringEscapeError {H : Type} : DataW H := .iface "*errors.errorString" (.ptr (.agg [.lit (.string [69, 110, 99, 111, 117, 110, 116, 101, 114, 101, 100, 32, 97, 110, 32, 105, 110, 118, 97, 108, 105, 100, 32, 101, 115, 99, 97, 112, 101, 32, 115, 101, 113, 117, 101, 110, 99, 101, 32, 105, 110, 32, 97, 32, 115, 116, 114, 105, 110, 103])]))
def laid_pub_tetrapla_pub_jsonparser_KeyPathNotFoundError {H : Type} : DataW H := .iface "*errors.errorString" (.ptr (.agg [.lit (.string [75, 101, 121, 32, 112, 97, 116, 104, 32, 110, 111, 116, 32, 102, 111, 117, 110, 100])]))
def laid_pub_tetrapla_pub_jsonparser_UnknownValueTypeError {H : Type} : DataW H := .iface "*errors.errorString" (.ptr (.agg [.lit (.string [85, 110, 107, 110, 111, 119, 110, 32, 118, 97, 108, 117, 101, 32, 116, 121, 112, 101])]))
def laid_pub_tetrapla_pub_jsonparser_MalformedJsonError {H : Type} : DataW H := .iface "*errors.errorString" (.ptr (.agg [.lit (.string [77, 97, 108, 102, 111, 114, 109, 101, 100, 32, 74, 83, 79, 78, 32, 101, 114, 114, 111, 114])]))
def laid_pub_tetrapla_pub_jsonparser_MalformedStringError {H : Type} : DataW H := .iface "*errors.errorString" (.ptr (.agg [.lit (.string [86, 97, 108, 117, 101, 32, 105, 115, 32, 115, 116, 114, 105, 110, 103, 44, 32, 98, 117, 116, 32, 99, 97, 110, 39, 116, 32, 102, 105, 110, 100, 32, 99, 108, 111, 115, 105, 110, 103, 32, 39, 34, 39, 32, 115, 121, 109, 98, 111, 108])]))
def laid_pub_tetrapla_pub_jsonparser_MalformedArrayError {H : Type} : DataW H := .iface "*errors.errorString" (.ptr (.agg [.lit (.string [86, 97, 108, 117, 101, 32, 105, 115, 32, 97, 114, 114, 97, 121, 44, 32, 98, 117, 116, 32, 99, 97, 110, 39, 116, 32, 102, 105, 110, 100, 32, 99, 108, 111, 115, 105, 110, 103, 32, 39, 93, 39, 32, 115, 121, 109, 98, 111, 108])]))
def laid_pub_tetrapla_pub_jsonparser_MalformedObjectError {H : Type} : DataW H := .iface "*errors.errorString" (.ptr (.agg [.lit (.string [86, 97, 108, 117, 101, 32, 108, 111, 111, 107, 115, 32, 108, 105, 107, 101, 32, 111, 98, 106, 101, 99, 116, 44, 32, 98, 117, 116, 32, 99, 97, 110, 39, 116, 32, 102, 105, 110, 100, 32, 99, 108, 111, 115, 105, 110, 103, 32, 39, 125, 39, 32, 115, 121, 109, 98, 111, 108])]))
def laid_pub_tetrapla_pub_jsonparser_OverflowIntegerError {H : Type} : DataW H := .iface "*errors.errorString" (.ptr (.agg [.lit (.string [86, 97, 108, 117, 101, 32, 105, 115, 32, 110, 117, 109, 98, 101, 114, 44, 32, 98, 117, 116, 32, 111, 118, 101, 114, 102, 108, 111, 119, 101, 100, 32, 119, 104, 105, 108, 101, 32, 112, 97, 114, 115, 105, 110, 103])]))
def laid_pub_tetrapla_pub_jsonparser_NullValueError {H : Type} : DataW H := .iface "*errors.errorString" (.ptr (.agg [.lit (.string [86, 97, 108, 117, 101, 32, 105, 115, 32, 110, 117, 108, 108])]))
def laid_math_bits_deBruijn32tab {H : Type} : DataW H := .agg [.lit (.int .u8 0), .lit (.int .u8 1), .lit (.int .u8 28), .lit (.int .u8 2), .lit (.int .u8 29), .lit (.int .u8 14), .lit (.int .u8 24), .lit (.int .u8 3), .lit (.int .u8 30), .lit (.int .u8 22), .lit (.int .u8 20), .lit (.int .u8 15), .lit (.int .u8 25), .lit (.int .u8 17), .lit (.int .u8 4), .lit (.int .u8 8), .lit (.int .u8 31), .lit (.int .u8 27), .lit (.int .u8 13), .lit (.int .u8 23), .lit (.int .u8 21), .lit (.int .u8 19), .lit (.int .u8 16), .lit (.int .u8 7), .lit (.int .u8 26), .lit (.int .u8 12), .lit (.int .u8 18), .lit (.int .u8 6), .lit (.int .u8 11), .lit (.int .u8 5), .lit (.int .u8 10), .lit (.int .u8 9)]
def laid_math_bits_deBruijn64tab {H : Type} : DataW H := .agg [.lit (.int .u8 0), .lit (.int .u8 1), .lit (.int .u8 56), .lit (.int .u8 2), .lit (.int .u8 57), .lit (.int .u8 49), .lit (.int .u8 28), .lit (.int .u8 3), .lit (.int .u8 61), .lit (.int .u8 58), .lit (.int .u8 42), .lit (.int .u8 50), .lit (.int .u8 38), .lit (.int .u8 29), .lit (.int .u8 17), .lit (.int .u8 4), .lit (.int .u8 62), .lit (.int .u8 47), .lit (.int .u8 59), .lit (.int .u8 36), .lit (.int .u8 45), .lit (.int .u8 43), .lit (.int .u8 51), .lit (.int .u8 22), .lit (.int .u8 53), .lit (.int .u8 39), .lit (.int .u8 33), .lit (.int .u8 30), .lit (.int .u8 24), .lit (.int .u8 18), .lit (.int .u8 12), .lit (.int .u8 5), .lit (.int .u8 63), .lit (.int .u8 55), .lit (.int .u8 48), .lit (.int .u8 27), .lit (.int .u8 60), .lit (.int .u8 41), .lit (.int .u8 37), .lit (.int .u8 16), .lit (.int .u8 46), .lit (.int .u8 35), .lit (.int .u8 44), .lit (.int .u8 21), .lit (.int .u8 52), .lit (.int .u8 32), .lit (.int .u8 23), .lit (.int .u8 11), .lit (.int .u8 54), .lit (.int .u8 26), .lit (.int .u8 40), .lit (.int .u8 15), .lit (.int .u8 34), .lit (.int .u8 20), .lit (.int .u8 31), .lit (.int .u8 10), .lit (.int .u8 25), .lit (.int .u8 14), .lit (.int .u8 19), .lit (.int .u8 9), .lit (.int .u8 13), .lit (.int .u8 8), .lit (.int .u8 7), .lit (.int .u8 6)]
def laid_internal_strconv_uint64pow10 {H : Type} : DataW H := .agg [.lit (.int .u64 1), .lit (.int .u64 10), .lit (.int .u64 100), .lit (.int .u64 1000), .lit (.int .u64 10000), .lit (.int .u64 100000), .lit (.int .u64 1000000), .lit (.int .u64 10000000), .lit (.int .u64 100000000), .lit (.int .u64 1000000000), .lit (.int .u64 10000000000), .lit (.int .u64 100000000000), .lit (.int .u64 1000000000000), .lit (.int .u64 10000000000000), .lit (.int .u64 100000000000000), .lit (.int .u64 1000000000000000), .lit (.int .u64 10000000000000000), .lit (.int .u64 100000000000000000), .lit (.int .u64 1000000000000000000), .lit (.int .u64 10000000000000000000)]
def laid_strconv_ErrRange {H : Type} : DataW H := .iface "*errors.errorString" (.ptr (.agg [.lit (.string [118, 97, 108, 117, 101, 32, 111, 117, 116, 32, 111, 102, 32, 114, 97, 110, 103, 101])]))
def laid_strconv_ErrSyntax {H : Type} : DataW H := .iface "*errors.errorString" (.ptr (.agg [.lit (.string [105, 110, 118, 97, 108, 105, 100, 32, 115, 121, 110, 116, 97, 120])]))

/-- 'laws.FnMtAllowable': WHATEVER THE INPUT: true; the input reads as it did. -/
def fnMtAllowableSpec : ChangeSpec := { name := "fnMtAllowable", fn := fun _ => fun
  | [d1, d2] => { results := [.lit (.bool true)], args := [d1, d2] }
  | _ => none }
def fnMtAllowableRow : OpenClaim := { program := "ytaigbkkgmncipaadoor", sum := "f2e784a9037721973521d24d548583b2ca087afa629e84ca111049899c3c17e7", func := "pub-tetrapla/laws.FnMtAllowable", spec := "fnMtAllowable", named := ["pub-tetrapla/pub/match.maxRuneBytes", "unicode/utf8.first", "unicode/utf8.acceptRanges"], apart := false, laid := [("unicode/utf8.acceptRanges", laid_unicode_utf8_acceptRanges), ("pub-tetrapla/pub/match.maxRuneBytes", laid_pub_tetrapla_pub_match_maxRuneBytes), ("unicode/utf8.first", laid_unicode_utf8_first)] }
def FnMtAllowableSaid : Prop := fnMtAllowableRow.holds Tryd.pinned (OpenSpec.ofChange fnMtAllowableSpec)

/-- ITS FALSE NEIGHBOUR: 'it returns false'. Refute it at one input. -/
def fnMtAllowableWrong : ChangeSpec := { name := "fnMtAllowable", fn := fun _ => fun
  | [d1, d2] => { results := [.lit (.bool false)], args := [d1, d2] }
  | _ => none }
def FnMtAllowableWrongFalsely : Prop := fnMtAllowableRow.holds Tryd.pinned (OpenSpec.ofChange fnMtAllowableWrong)

/-- 'laws.FnJpParseStringForms': WHATEVER THE INPUT: true; the input reads as it did. -/
def fnJpParseStringFormsSpec : ChangeSpec := { name := "fnJpParseStringForms", fn := fun _ => fun
  | [d1, d2] => { results := [.lit (.bool true)], args := [d1, d2] }
  | _ => none }
def fnJpParseStringFormsRow : OpenClaim := { program := "ytaigbkkgmncipaadoor", sum := "f2e784a9037721973521d24d548583b2ca087afa629e84ca111049899c3c17e7", func := "pub-tetrapla/laws.FnJpParseStringForms", spec := "fnJpParseStringForms", inPlace := ["internal/bytealg.IndexByte"], recurses := true, named := ["pub-tetrapla/pub/jsonparser.MalformedValueError", "pub-tetrapla/pub/jsonparser.DefaultConfig", "pub-tetrapla/pub/jsonparser.MalformedStringEscapeError", "pub-tetrapla/pub/jsonparser.backslashCharEscapeTable"], apart := false, laid := [("pub-tetrapla/pub/jsonparser.DefaultConfig", laid_pub_tetrapla_pub_jsonparser_DefaultConfig), ("pub-tetrapla/pub/jsonparser.backslashCharEscapeTable", laid_pub_tetrapla_pub_jsonparser_backslashCharEscapeTable), ("pub-tetrapla/pub/jsonparser.MalformedValueError", laid_pub_tetrapla_pub_jsonparser_MalformedValueError), ("pub-tetrapla/pub/jsonparser.MalformedStringEscapeError", laid_pub_tetrapla_pub_jsonparser_MalformedStringEscapeError)] }
def FnJpParseStringFormsSaid : Prop := fnJpParseStringFormsRow.holds Tryd.pinned (OpenSpec.ofChange fnJpParseStringFormsSpec)

/-- ITS FALSE NEIGHBOUR: 'it returns false'. Refute it at one input. -/
def fnJpParseStringFormsWrong : ChangeSpec := { name := "fnJpParseStringForms", fn := fun _ => fun
  | [d1, d2] => { results := [.lit (.bool false)], args := [d1, d2] }
  | _ => none }
def FnJpParseStringFormsWrongFalsely : Prop := fnJpParseStringFormsRow.holds Tryd.pinned (OpenSpec.ofChange fnJpParseStringFormsWrong)

/-- 'laws.FnJrUnescape': WHATEVER THE INPUT: true; the input reads as it did. -/
def fnJrUnescapeSpec : ChangeSpec := { name := "fnJrUnescape", fn := fun _ => fun
  | [d] => { results := [.lit (.bool true)], args := [d] }
  | _ => none }
def fnJrUnescapeRow : OpenClaim := { program := "ytaigbkkgmncipaadoor", sum := "f2e784a9037721973521d24d548583b2ca087afa629e84ca111049899c3c17e7", func := "pub-tetrapla/laws.FnJrUnescape", spec := "fnJrUnescape", inPlace := ["internal/bytealg.IndexByte"], named := ["pub-tetrapla/pub/jsonparser.DefaultConfig", "pub-tetrapla/pub/jsonparser.MalformedStringEscapeError", "pub-tetrapla/pub/jsonparser.backslashCharEscapeTable", "pub-tetrapla/pub/jsonparser.KeyPathNotFoundError", "pub-tetrapla/pub/jsonparser.UnknownValueTypeError", "pub-tetrapla/pub/jsonparser.MalformedJsonError", "pub-tetrapla/pub/jsonparser.MalformedStringError", "pub-tetrapla/pub/jsonparser.MalformedArrayError", "pub-tetrapla/pub/jsonparser.MalformedObjectError", "pub-tetrapla/pub/jsonparser.MalformedValueError", "pub-tetrapla/pub/jsonparser.OverflowIntegerError", "pub-tetrapla/pub/jsonparser.NullValueError"], apart := false, laid := [("pub-tetrapla/pub/jsonparser.DefaultConfig", laid_pub_tetrapla_pub_jsonparser_DefaultConfig), ("pub-tetrapla/pub/jsonparser.backslashCharEscapeTable", laid_pub_tetrapla_pub_jsonparser_backslashCharEscapeTable), ("pub-tetrapla/pub/jsonparser.KeyPathNotFoundError", laid_pub_tetrapla_pub_jsonparser_KeyPathNotFoundError), ("pub-tetrapla/pub/jsonparser.UnknownValueTypeError", laid_pub_tetrapla_pub_jsonparser_UnknownValueTypeError), ("pub-tetrapla/pub/jsonparser.MalformedJsonError", laid_pub_tetrapla_pub_jsonparser_MalformedJsonError), ("pub-tetrapla/pub/jsonparser.MalformedStringError", laid_pub_tetrapla_pub_jsonparser_MalformedStringError), ("pub-tetrapla/pub/jsonparser.MalformedArrayError", laid_pub_tetrapla_pub_jsonparser_MalformedArrayError), ("pub-tetrapla/pub/jsonparser.MalformedObjectError", laid_pub_tetrapla_pub_jsonparser_MalformedObjectError), ("pub-tetrapla/pub/jsonparser.MalformedValueError", laid_pub_tetrapla_pub_jsonparser_MalformedValueError), ("pub-tetrapla/pub/jsonparser.OverflowIntegerError", laid_pub_tetrapla_pub_jsonparser_OverflowIntegerError), ("pub-tetrapla/pub/jsonparser.MalformedStringEscapeError", laid_pub_tetrapla_pub_jsonparser_MalformedStringEscapeError), ("pub-tetrapla/pub/jsonparser.NullValueError", laid_pub_tetrapla_pub_jsonparser_NullValueError)] }
def FnJrUnescapeSaid : Prop := fnJrUnescapeRow.holds Tryd.pinned (OpenSpec.ofChange fnJrUnescapeSpec)

/-- ITS FALSE NEIGHBOUR: 'it returns false'. Refute it at one input. -/
def fnJrUnescapeWrong : ChangeSpec := { name := "fnJrUnescape", fn := fun _ => fun
  | [d] => { results := [.lit (.bool false)], args := [d] }
  | _ => none }
def FnJrUnescapeWrongFalsely : Prop := fnJrUnescapeRow.holds Tryd.pinned (OpenSpec.ofChange fnJrUnescapeWrong)

/-- 'laws.FnGjUnescapeWhole': WHATEVER THE INPUT: true; the input reads as it did. -/
def fnGjUnescapeWholeSpec : ChangeSpec := { name := "fnGjUnescapeWhole", fn := fun _ => fun
  | [d1, d2] => { results := [.lit (.bool true)], args := [d1, d2] }
  | _ => none }
def fnGjUnescapeWholeRow : OpenClaim := { program := "ytaigbkkgmncipaadoor", sum := "f2e784a9037721973521d24d548583b2ca087afa629e84ca111049899c3c17e7", func := "pub-tetrapla/laws.FnGjUnescapeWhole", spec := "fnGjUnescapeWhole", recurses := true, named := ["strconv.ErrSyntax", "strconv.ErrRange", "internal/strconv.uint64pow10", "math/bits.deBruijn32tab", "math/bits.deBruijn64tab"], apart := false, laid := [("math/bits.deBruijn32tab", laid_math_bits_deBruijn32tab), ("math/bits.deBruijn64tab", laid_math_bits_deBruijn64tab), ("internal/strconv.uint64pow10", laid_internal_strconv_uint64pow10), ("strconv.ErrRange", laid_strconv_ErrRange), ("strconv.ErrSyntax", laid_strconv_ErrSyntax)] }
def FnGjUnescapeWholeSaid : Prop := fnGjUnescapeWholeRow.holds Tryd.pinned (OpenSpec.ofChange fnGjUnescapeWholeSpec)

/-- ITS FALSE NEIGHBOUR: 'it returns false'. Refute it at one input. -/
def fnGjUnescapeWholeWrong : ChangeSpec := { name := "fnGjUnescapeWhole", fn := fun _ => fun
  | [d1, d2] => { results := [.lit (.bool false)], args := [d1, d2] }
  | _ => none }
def FnGjUnescapeWholeWrongFalsely : Prop := fnGjUnescapeWholeRow.holds Tryd.pinned (OpenSpec.ofChange fnGjUnescapeWholeWrong)

/-- 'laws.FnGjStringText': WHATEVER THE INPUT: true; the input reads as it did. -/
def fnGjStringTextSpec : ChangeSpec := { name := "fnGjStringText", fn := fun _ => fun
  | [d1, d2, d3] => { results := [.lit (.bool true)], args := [d1, d2, d3] }
  | _ => none }
def fnGjStringTextRow : OpenClaim := { program := "ytaigbkkgmncipaadoor", sum := "f2e784a9037721973521d24d548583b2ca087afa629e84ca111049899c3c17e7", func := "pub-tetrapla/laws.FnGjStringText", spec := "fnGjStringText", recurses := true, named := ["strconv.ErrSyntax", "strconv.ErrRange", "internal/strconv.uint64pow10", "math/bits.deBruijn32tab", "math/bits.deBruijn64tab"], apart := false, laid := [("math/bits.deBruijn32tab", laid_math_bits_deBruijn32tab), ("math/bits.deBruijn64tab", laid_math_bits_deBruijn64tab), ("internal/strconv.uint64pow10", laid_internal_strconv_uint64pow10), ("strconv.ErrRange", laid_strconv_ErrRange), ("strconv.ErrSyntax", laid_strconv_ErrSyntax)] }
def FnGjStringTextSaid : Prop := fnGjStringTextRow.holds Tryd.pinned (OpenSpec.ofChange fnGjStringTextSpec)

/-- ITS FALSE NEIGHBOUR: 'it returns false'. Refute it at one input. -/
def fnGjStringTextWrong : ChangeSpec := { name := "fnGjStringText", fn := fun _ => fun
  | [d1, d2, d3] => { results := [.lit (.bool false)], args := [d1, d2, d3] }
  | _ => none }
def FnGjStringTextWrongFalsely : Prop := fnGjStringTextRow.holds Tryd.pinned (OpenSpec.ofChange fnGjStringTextWrong)

/- THE SECOND FORM. 'bulk': how many values and letters a reading holds, each counted each time it is reached (what is shared counts as often as it is met; a slice's spare places count too). A statement '..UptoSaid' is the law's where the arguments, and the package variables that the reading takes, are together of bulk at most 1048576: NARROWER than '..Said'. Prove '..Said' where nothing that the law and all that it calls make is longer than what came in: it says more and counts as full. Else prove '..UptoSaid'. A law counts once. -/
mutual
def uptoBulk {H : Type} : DataW H → Nat
  | .lit (.string bytes) => bytes.length + 1
  | .lit _ => 1
  | .nil => 1
  | .ptr d => uptoBulk d + 1
  | .slice elems spare => uptoBulkAll elems + uptoBulkAll spare + 1
  | .agg parts => uptoBulkAll parts + 1
  | .iface _ d => uptoBulk d + 1
  | .map entries => uptoBulkEntries entries + 1
  | .held _ => 1
def uptoBulkAll {H : Type} : List (DataW H) → Nat
  | [] => 0
  | d :: r => uptoBulk d + uptoBulkAll r
def uptoBulkEntries {H : Type} : List (Lit × DataW H) → Nat
  | [] => 0
  | x :: r => uptoBulkEntry x + uptoBulkEntries r
def uptoBulkEntry {H : Type} : Lit × DataW H → Nat
  | (.string bytes, d) => bytes.length + uptoBulk d + 1
  | (_, d) => uptoBulk d + 1
 end
def uptoSmall : (H : Type) → List (DataW H) → Bool := fun _ ds => decide (uptoBulkAll ds ≤ 1048576)
def OpenSpec.upto (s : _root_.Go.ChangeSpec) : _root_.Go.OpenSpec := { _root_.Go.OpenSpec.ofChange s with cond := some uptoSmall }

/-- 'laws.FnMtAllowable', WHERE WHAT IT READS IS OF BULK AT MOST 1048576: true; the input reads as it did. -/
def fnMtAllowableUptoRow : OpenClaim := { program := "ytaigbkkgmncipaadoor", sum := "f2e784a9037721973521d24d548583b2ca087afa629e84ca111049899c3c17e7", func := "pub-tetrapla/laws.FnMtAllowable", spec := "fnMtAllowable", named := ["pub-tetrapla/pub/match.maxRuneBytes", "unicode/utf8.first", "unicode/utf8.acceptRanges"], apart := false, laid := [("unicode/utf8.acceptRanges", laid_unicode_utf8_acceptRanges), ("pub-tetrapla/pub/match.maxRuneBytes", laid_pub_tetrapla_pub_match_maxRuneBytes), ("unicode/utf8.first", laid_unicode_utf8_first)], narrowed := true }
def FnMtAllowableUptoSaid : Prop := fnMtAllowableUptoRow.holds Tryd.pinned (OpenSpec.upto fnMtAllowableSpec)

/-- 'laws.FnJpParseStringForms', WHERE WHAT IT READS IS OF BULK AT MOST 1048576: true; the input reads as it did. -/
def fnJpParseStringFormsUptoRow : OpenClaim := { program := "ytaigbkkgmncipaadoor", sum := "f2e784a9037721973521d24d548583b2ca087afa629e84ca111049899c3c17e7", func := "pub-tetrapla/laws.FnJpParseStringForms", spec := "fnJpParseStringForms", inPlace := ["internal/bytealg.IndexByte"], recurses := true, named := ["pub-tetrapla/pub/jsonparser.MalformedValueError", "pub-tetrapla/pub/jsonparser.DefaultConfig", "pub-tetrapla/pub/jsonparser.MalformedStringEscapeError", "pub-tetrapla/pub/jsonparser.backslashCharEscapeTable"], apart := false, laid := [("pub-tetrapla/pub/jsonparser.DefaultConfig", laid_pub_tetrapla_pub_jsonparser_DefaultConfig), ("pub-tetrapla/pub/jsonparser.backslashCharEscapeTable", laid_pub_tetrapla_pub_jsonparser_backslashCharEscapeTable), ("pub-tetrapla/pub/jsonparser.MalformedValueError", laid_pub_tetrapla_pub_jsonparser_MalformedValueError), ("pub-tetrapla/pub/jsonparser.MalformedStringEscapeError", laid_pub_tetrapla_pub_jsonparser_MalformedStringEscapeError)], narrowed := true }
def FnJpParseStringFormsUptoSaid : Prop := fnJpParseStringFormsUptoRow.holds Tryd.pinned (OpenSpec.upto fnJpParseStringFormsSpec)

/-- 'laws.FnJrUnescape', WHERE WHAT IT READS IS OF BULK AT MOST 1048576: true; the input reads as it did. -/
def fnJrUnescapeUptoRow : OpenClaim := { program := "ytaigbkkgmncipaadoor", sum := "f2e784a9037721973521d24d548583b2ca087afa629e84ca111049899c3c17e7", func := "pub-tetrapla/laws.FnJrUnescape", spec := "fnJrUnescape", inPlace := ["internal/bytealg.IndexByte"], named := ["pub-tetrapla/pub/jsonparser.DefaultConfig", "pub-tetrapla/pub/jsonparser.MalformedStringEscapeError", "pub-tetrapla/pub/jsonparser.backslashCharEscapeTable", "pub-tetrapla/pub/jsonparser.KeyPathNotFoundError", "pub-tetrapla/pub/jsonparser.UnknownValueTypeError", "pub-tetrapla/pub/jsonparser.MalformedJsonError", "pub-tetrapla/pub/jsonparser.MalformedStringError", "pub-tetrapla/pub/jsonparser.MalformedArrayError", "pub-tetrapla/pub/jsonparser.MalformedObjectError", "pub-tetrapla/pub/jsonparser.MalformedValueError", "pub-tetrapla/pub/jsonparser.OverflowIntegerError", "pub-tetrapla/pub/jsonparser.NullValueError"], apart := false, laid := [("pub-tetrapla/pub/jsonparser.DefaultConfig", laid_pub_tetrapla_pub_jsonparser_DefaultConfig), ("pub-tetrapla/pub/jsonparser.backslashCharEscapeTable", laid_pub_tetrapla_pub_jsonparser_backslashCharEscapeTable), ("pub-tetrapla/pub/jsonparser.KeyPathNotFoundError", laid_pub_tetrapla_pub_jsonparser_KeyPathNotFoundError), ("pub-tetrapla/pub/jsonparser.UnknownValueTypeError", laid_pub_tetrapla_pub_jsonparser_UnknownValueTypeError), ("pub-tetrapla/pub/jsonparser.MalformedJsonError", laid_pub_tetrapla_pub_jsonparser_MalformedJsonError), ("pub-tetrapla/pub/jsonparser.MalformedStringError", laid_pub_tetrapla_pub_jsonparser_MalformedStringError), ("pub-tetrapla/pub/jsonparser.MalformedArrayError", laid_pub_tetrapla_pub_jsonparser_MalformedArrayError), ("pub-tetrapla/pub/jsonparser.MalformedObjectError", laid_pub_tetrapla_pub_jsonparser_MalformedObjectError), ("pub-tetrapla/pub/jsonparser.MalformedValueError", laid_pub_tetrapla_pub_jsonparser_MalformedValueError), ("pub-tetrapla/pub/jsonparser.OverflowIntegerError", laid_pub_tetrapla_pub_jsonparser_OverflowIntegerError), ("pub-tetrapla/pub/jsonparser.MalformedStringEscapeError", laid_pub_tetrapla_pub_jsonparser_MalformedStringEscapeError), ("pub-tetrapla/pub/jsonparser.NullValueError", laid_pub_tetrapla_pub_jsonparser_NullValueError)], narrowed := true }
def FnJrUnescapeUptoSaid : Prop := fnJrUnescapeUptoRow.holds Tryd.pinned (OpenSpec.upto fnJrUnescapeSpec)

/-- 'laws.FnGjUnescapeWhole', WHERE WHAT IT READS IS OF BULK AT MOST 1048576: true; the input reads as it did. -/
def fnGjUnescapeWholeUptoRow : OpenClaim := { program := "ytaigbkkgmncipaadoor", sum := "f2e784a9037721973521d24d548583b2ca087afa629e84ca111049899c3c17e7", func := "pub-tetrapla/laws.FnGjUnescapeWhole", spec := "fnGjUnescapeWhole", recurses := true, named := ["strconv.ErrSyntax", "strconv.ErrRange", "internal/strconv.uint64pow10", "math/bits.deBruijn32tab", "math/bits.deBruijn64tab"], apart := false, laid := [("math/bits.deBruijn32tab", laid_math_bits_deBruijn32tab), ("math/bits.deBruijn64tab", laid_math_bits_deBruijn64tab), ("internal/strconv.uint64pow10", laid_internal_strconv_uint64pow10), ("strconv.ErrRange", laid_strconv_ErrRange), ("strconv.ErrSyntax", laid_strconv_ErrSyntax)], narrowed := true }
def FnGjUnescapeWholeUptoSaid : Prop := fnGjUnescapeWholeUptoRow.holds Tryd.pinned (OpenSpec.upto fnGjUnescapeWholeSpec)

/-- 'laws.FnGjStringText', WHERE WHAT IT READS IS OF BULK AT MOST 1048576: true; the input reads as it did. -/
def fnGjStringTextUptoRow : OpenClaim := { program := "ytaigbkkgmncipaadoor", sum := "f2e784a9037721973521d24d548583b2ca087afa629e84ca111049899c3c17e7", func := "pub-tetrapla/laws.FnGjStringText", spec := "fnGjStringText", recurses := true, named := ["strconv.ErrSyntax", "strconv.ErrRange", "internal/strconv.uint64pow10", "math/bits.deBruijn32tab", "math/bits.deBruijn64tab"], apart := false, laid := [("math/bits.deBruijn32tab", laid_math_bits_deBruijn32tab), ("math/bits.deBruijn64tab", laid_math_bits_deBruijn64tab), ("internal/strconv.uint64pow10", laid_internal_strconv_uint64pow10), ("strconv.ErrRange", laid_strconv_ErrRange), ("strconv.ErrSyntax", laid_strconv_ErrSyntax)], narrowed := true }
def FnGjStringTextUptoSaid : Prop := fnGjStringTextUptoRow.holds Tryd.pinned (OpenSpec.upto fnGjStringTextSpec)

end Rows
end Go.Proofs.YtaigbkkgmncipaaDoor
