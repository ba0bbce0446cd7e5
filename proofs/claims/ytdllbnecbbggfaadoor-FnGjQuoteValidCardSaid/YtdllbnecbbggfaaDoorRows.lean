/-
  NARROWER THAN 'FOR EVERY INPUT', by the rows' own cells (each row's printed sentence says how): FnJpEscapeAt: laid · FnMtNoCase: laid · FnMtWithin: laid · FnJpParseStringBack: laid · FnMtUnlimited: laid · FnGjQuoteValid: laid · FnGjUnescape: laid · FnGjUnescapeJoin: laid.
  DERIVED. THE GIVEN ROWS OF THIS SEAT. 8 by the template 'for every input the law returns true; each argument reads behind the call as it read before'; 0 by the template 'total and deterministic' (their statements: YtdllbnecbbggfaaDoorTotals.lean).
  GIVEN WITH THE SEED: the statements are not yours to turn. If you find one false, say at which input.
  Laid BY PROGRAM, IN A SANDBOX (cutbox-rows.mjs): the forced cells as the released guide's own fill.sh prints them over the translation b01b56e4b56ca729… (all of the seat's roots in one cut). By AI agents, Wed Nov 11 2026. No macro, syntax, notation, axiom, sorry.
-/
import Derived.Test.YtdllbnecbbggfaaDoorChecked
import GoSem.PinnedTables
import GoSem.Claim
import GoSem.ClaimJoined
import GoSem.ClaimMapViews
import Derived.JoinedTies
import Derived.KernelRfl
namespace Go.Proofs.YtdllbnecbbggfaaDoor
/- THE CELL 'sum', in the pinned program and in every row, IS THE sha256 OF THE DUMP (.gsa) THAT YtdllbnecbbggfaaDoorProg.lean LOADS. Nothing in Lean hashes anything: it is a label: what it is worth is what the hold of that sum in a sandbox is worth. -/
noncomputable def Tryd.pinned : Pinned := { name := "ytdllbnecbbggfaadoor", sum := "b01b56e4b56ca729490617d7293c4f9a54bf03119a0cd04ad780e2218deef33a", checked := Tryd.checked }
namespace Rows
def none {H : Type} : Left H := { results := [], args := [] }

/- WHAT THE LISTED PACKAGE-LEVEL VARIABLES READ AS WHEN THE CALL BEGINS. Each datum BY PROGRAM (the guide's laid-datum.mjs) off the statement by which the dump's own 'gosem.cut.vars' lays the variable. In a bare row this is a premise. The card (YtdllbnecbbggfaaDoorCards.lean) ties it to the program's text. -/
def laid_pub_tetrapla_pub_jsonparser_DefaultConfig {H : Type} : DataW H := .agg [.lit (.bool false), .lit (.bool false), .lit (.int .i64 0)]
def laid_pub_tetrapla_pub_jsonparser_backslashCharEscapeTable {H : Type} : DataW H := .agg [.lit (.int .u8 0), .lit (.int .u8 0), .lit (.int .u8 0), .lit (.int .u8 0), .lit (.int .u8 0), .lit (.int .u8 0), .lit (.int .u8 0), .lit (.int .u8 0), .lit (.int .u8 0), .lit (.int .u8 0), .lit (.int .u8 0), .lit (.int .u8 0), .lit (.int .u8 0), .lit (.int .u8 0), .lit (.int .u8 0), .lit (.int .u8 0), .lit (.int .u8 0), .lit (.int .u8 0), .lit (.int .u8 0), .lit (.int .u8 0), .lit (.int .u8 0), .lit (.int .u8 0), .lit (.int .u8 0), .lit (.int .u8 0), .lit (.int .u8 0), .lit (.int .u8 0), .lit (.int .u8 0), .lit (.int .u8 0), .lit (.int .u8 0), .lit (.int .u8 0), .lit (.int .u8 0), .lit (.int .u8 0), .lit (.int .u8 0), .lit (.int .u8 0), .lit (.int .u8 34), .lit (.int .u8 0), .lit (.int .u8 0), .lit (.int .u8 0), .lit (.int .u8 0), .lit (.int .u8 0), .lit (.int .u8 0), .lit (.int .u8 0), .lit (.int .u8 0), .lit (.int .u8 0), .lit (.int .u8 0), .lit (.int .u8 0), .lit (.int .u8 0), .lit (.int .u8 47), .lit (.int .u8 0), .lit (.int .u8 0), .lit (.int .u8 0), .lit (.int .u8 0), .lit (.int .u8 0), .lit (.int .u8 0), .lit (.int .u8 0), .lit (.int .u8 0), .lit (.int .u8 0), .lit (.int .u8 0), .lit (.int .u8 0), .lit (.int .u8 0), .lit (.int .u8 0), .lit (.int .u8 0), .lit (.int .u8 0), .lit (.int .u8 0), .lit (.int .u8 0), .lit (.int .u8 0), .lit (.int .u8 0), .lit (.int .u8 0), .lit (.int .u8 0), .lit (.int .u8 0), .lit (.int .u8 0), .lit (.int .u8 0), .lit (.int .u8 0), .lit (.int .u8 0), .lit (.int .u8 0), .lit (.int .u8 0), .lit (.int .u8 0), .lit (.int .u8 0), .lit (.int .u8 0), .lit (.int .u8 0), .lit (.int .u8 0), .lit (.int .u8 0), .lit (.int .u8 0), .lit (.int .u8 0), .lit (.int .u8 0), .lit (.int .u8 0), .lit (.int .u8 0), .lit (.int .u8 0), .lit (.int .u8 0), .lit (.int .u8 0), .lit (.int .u8 0), .lit (.int .u8 0), .lit (.int .u8 92), .lit (.int .u8 0), .lit (.int .u8 0), .lit (.int .u8 0), .lit (.int .u8 0), .lit (.int .u8 0), .lit (.int .u8 8), .lit (.int .u8 0), .lit (.int .u8 0), .lit (.int .u8 0), .lit (.int .u8 12), .lit (.int .u8 0), .lit (.int .u8 0), .lit (.int .u8 0), .lit (.int .u8 0), .lit (.int .u8 0), .lit (.int .u8 0), .lit (.int .u8 0), .lit (.int .u8 10), .lit (.int .u8 0), .lit (.int .u8 0), .lit (.int .u8 0), .lit (.int .u8 13), .lit (.int .u8 0), .lit (.int .u8 9)]
def laid_unicode_utf8_acceptRanges {H : Type} : DataW H := .agg [.agg [.lit (.int .u8 128), .lit (.int .u8 191)], .agg [.lit (.int .u8 160), .lit (.int .u8 191)], .agg [.lit (.int .u8 128), .lit (.int .u8 159)], .agg [.lit (.int .u8 144), .lit (.int .u8 191)], .agg [.lit (.int .u8 128), .lit (.int .u8 143)], .agg [.lit (.int .u8 0), .lit (.int .u8 0)], .agg [.lit (.int .u8 0), .lit (.int .u8 0)], .agg [.lit (.int .u8 0), .lit (.int .u8 0)], .agg [.lit (.int .u8 0), .lit (.int .u8 0)], .agg [.lit (.int .u8 0), .lit (.int .u8 0)], .agg [.lit (.int .u8 0), .lit (.int .u8 0)], .agg [.lit (.int .u8 0), .lit (.int .u8 0)], .agg [.lit (.int .u8 0), .lit (.int .u8 0)], .agg [.lit (.int .u8 0), .lit (.int .u8 0)], .agg [.lit (.int .u8 0), .lit (.int .u8 0)], .agg [.lit (.int .u8 0), .lit (.int .u8 0)]]
/-- One of Go's own tables, pinned by name: the form's constant. -/
def laid_unicode_utf8_first : DataW Unit := Go.Pinned.utf8First
def laid_pub_tetrapla_pub_jsonparser_MalformedValueError {H : Type} : DataW H := .iface "*errors.errorString" (.ptr (.agg [.lit (.string [86, 97, 108, 117, 101, 32, 108, 111, 111, 107, 115, 32, 108, 105, 107, 101, 32, 78, 117, 109, 98, 101, 114, 47, 66, 111, 111, 108, 101, 97, 110, 47, 78, 111, 110, 101, 44, 32, 98, 117, 116, 32, 99, 97, 110, 39, 116, 32, 102, 105, 110, 100, 32, 105, 116, 115, 32, 101, 110, 100, 58, 32, 39, 44, 39, 32, 111, 114, 32, 39, 125, 39, 32, 115, 121, 109, 98, 111, 108])]))
def laid_pub_tetrapla_pub_jsonparser_MalformedStringEscapeError {H : Type} : DataW H := .iface "*errors.errorString" (.ptr (.agg [.lit (.string [69, 110, 99, 111, 117, 110, 116, 101, 114, 101, 100, 32, 97, 110, 32, 105, 110, 118, 97, 108, 105, 100, 32, 101, 115, 99, 97, 112, 101, 32, 115, 101, 113, 117, 101, 110, 99, 101, 32, 105, 110, 32, 97, 32, 115, 116, 114, 105, 110, 103])]))
def laid_pub_tetrapla_pub_gjson_hexchars {H : Type} : DataW H := .agg [.lit (.int .u8 48), .lit (.int .u8 49), .lit (.int .u8 50), .lit (.int .u8 51), .lit (.int .u8 52), .lit (.int .u8 53), .lit (.int .u8 54), .lit (.int .u8 55), .lit (.int .u8 56), .lit (.int .u8 57), .lit (.int .u8 97), .lit (.int .u8 98), .lit (.int .u8 99), .lit (.int .u8 100), .lit (.int .u8 101), .lit (.int .u8 102)]
def laid_math_bits_deBruijn32tab {H : Type} : DataW H := .agg [.lit (.int .u8 0), .lit (.int .u8 1), .lit (.int .u8 28), .lit (.int .u8 2), .lit (.int .u8 29), .lit (.int .u8 14), .lit (.int .u8 24), .lit (.int .u8 3), .lit (.int .u8 30), .lit (.int .u8 22), .lit (.int .u8 20), .lit (.int .u8 15), .lit (.int .u8 25), .lit (.int .u8 17), .lit (.int .u8 4), .lit (.int .u8 8), .lit (.int .u8 31), .lit (.int .u8 27), .lit (.int .u8 13), .lit (.int .u8 23), .lit (.int .u8 21), .lit (.int .u8 19), .lit (.int .u8 16), .lit (.int .u8 7), .lit (.int .u8 26), .lit (.int .u8 12), .lit (.int .u8 18), .lit (.int .u8 6), .lit (.int .u8 11), .lit (.int .u8 5), .lit (.int .u8 10), .lit (.int .u8 9)]
def laid_math_bits_deBruijn64tab {H : Type} : DataW H := .agg [.lit (.int .u8 0), .lit (.int .u8 1), .lit (.int .u8 56), .lit (.int .u8 2), .lit (.int .u8 57), .lit (.int .u8 49), .lit (.int .u8 28), .lit (.int .u8 3), .lit (.int .u8 61), .lit (.int .u8 58), .lit (.int .u8 42), .lit (.int .u8 50), .lit (.int .u8 38), .lit (.int .u8 29), .lit (.int .u8 17), .lit (.int .u8 4), .lit (.int .u8 62), .lit (.int .u8 47), .lit (.int .u8 59), .lit (.int .u8 36), .lit (.int .u8 45), .lit (.int .u8 43), .lit (.int .u8 51), .lit (.int .u8 22), .lit (.int .u8 53), .lit (.int .u8 39), .lit (.int .u8 33), .lit (.int .u8 30), .lit (.int .u8 24), .lit (.int .u8 18), .lit (.int .u8 12), .lit (.int .u8 5), .lit (.int .u8 63), .lit (.int .u8 55), .lit (.int .u8 48), .lit (.int .u8 27), .lit (.int .u8 60), .lit (.int .u8 41), .lit (.int .u8 37), .lit (.int .u8 16), .lit (.int .u8 46), .lit (.int .u8 35), .lit (.int .u8 44), .lit (.int .u8 21), .lit (.int .u8 52), .lit (.int .u8 32), .lit (.int .u8 23), .lit (.int .u8 11), .lit (.int .u8 54), .lit (.int .u8 26), .lit (.int .u8 40), .lit (.int .u8 15), .lit (.int .u8 34), .lit (.int .u8 20), .lit (.int .u8 31), .lit (.int .u8 10), .lit (.int .u8 25), .lit (.int .u8 14), .lit (.int .u8 19), .lit (.int .u8 9), .lit (.int .u8 13), .lit (.int .u8 8), .lit (.int .u8 7), .lit (.int .u8 6)]
def laid_internal_strconv_uint64pow10 {H : Type} : DataW H := .agg [.lit (.int .u64 1), .lit (.int .u64 10), .lit (.int .u64 100), .lit (.int .u64 1000), .lit (.int .u64 10000), .lit (.int .u64 100000), .lit (.int .u64 1000000), .lit (.int .u64 10000000), .lit (.int .u64 100000000), .lit (.int .u64 1000000000), .lit (.int .u64 10000000000), .lit (.int .u64 100000000000), .lit (.int .u64 1000000000000), .lit (.int .u64 10000000000000), .lit (.int .u64 100000000000000), .lit (.int .u64 1000000000000000), .lit (.int .u64 10000000000000000), .lit (.int .u64 100000000000000000), .lit (.int .u64 1000000000000000000), .lit (.int .u64 10000000000000000000)]
def laid_strconv_ErrRange {H : Type} : DataW H := .iface "*errors.errorString" (.ptr (.agg [.lit (.string [118, 97, 108, 117, 101, 32, 111, 117, 116, 32, 111, 102, 32, 114, 97, 110, 103, 101])]))
def laid_strconv_ErrSyntax {H : Type} : DataW H := .iface "*errors.errorString" (.ptr (.agg [.lit (.string [105, 110, 118, 97, 108, 105, 100, 32, 115, 121, 110, 116, 97, 120])]))

/-- 'laws.FnJpEscapeAt': WHATEVER THE INPUT: true; the input reads as it did. -/
def fnJpEscapeAtSpec : ChangeSpec := { name := "fnJpEscapeAt", fn := fun _ => fun
  | [d] => { results := [.lit (.bool true)], args := [d] }
  | _ => none }
def fnJpEscapeAtRow : OpenClaim := { program := "ytdllbnecbbggfaadoor", sum := "b01b56e4b56ca729490617d7293c4f9a54bf03119a0cd04ad780e2218deef33a", func := "pub-tetrapla/laws.FnJpEscapeAt", spec := "fnJpEscapeAt", named := ["pub-tetrapla/pub/jsonparser.DefaultConfig", "pub-tetrapla/pub/jsonparser.backslashCharEscapeTable"], apart := false, laid := [("pub-tetrapla/pub/jsonparser.DefaultConfig", laid_pub_tetrapla_pub_jsonparser_DefaultConfig), ("pub-tetrapla/pub/jsonparser.backslashCharEscapeTable", laid_pub_tetrapla_pub_jsonparser_backslashCharEscapeTable)] }
def FnJpEscapeAtSaid : Prop := fnJpEscapeAtRow.holds Tryd.pinned (OpenSpec.ofChange fnJpEscapeAtSpec)

/-- ITS FALSE NEIGHBOUR: 'it returns false'. Refute it at one input. -/
def fnJpEscapeAtWrong : ChangeSpec := { name := "fnJpEscapeAt", fn := fun _ => fun
  | [d] => { results := [.lit (.bool false)], args := [d] }
  | _ => none }
def FnJpEscapeAtWrongFalsely : Prop := fnJpEscapeAtRow.holds Tryd.pinned (OpenSpec.ofChange fnJpEscapeAtWrong)

/-- 'laws.FnMtNoCase': WHATEVER THE INPUT: true; the input reads as it did. -/
def fnMtNoCaseSpec : ChangeSpec := { name := "fnMtNoCase", fn := fun _ => fun
  | [d1, d2] => { results := [.lit (.bool true)], args := [d1, d2] }
  | _ => none }
def fnMtNoCaseRow : OpenClaim := { program := "ytdllbnecbbggfaadoor", sum := "b01b56e4b56ca729490617d7293c4f9a54bf03119a0cd04ad780e2218deef33a", func := "pub-tetrapla/laws.FnMtNoCase", spec := "fnMtNoCase", recurses := true, named := ["unicode/utf8.first", "unicode/utf8.acceptRanges"], apart := false, laid := [("unicode/utf8.acceptRanges", laid_unicode_utf8_acceptRanges), ("unicode/utf8.first", laid_unicode_utf8_first)] }
def FnMtNoCaseSaid : Prop := fnMtNoCaseRow.holds Tryd.pinned (OpenSpec.ofChange fnMtNoCaseSpec)

/-- ITS FALSE NEIGHBOUR: 'it returns false'. Refute it at one input. -/
def fnMtNoCaseWrong : ChangeSpec := { name := "fnMtNoCase", fn := fun _ => fun
  | [d1, d2] => { results := [.lit (.bool false)], args := [d1, d2] }
  | _ => none }
def FnMtNoCaseWrongFalsely : Prop := fnMtNoCaseRow.holds Tryd.pinned (OpenSpec.ofChange fnMtNoCaseWrong)

/-- 'laws.FnMtWithin': WHATEVER THE INPUT: true; the input reads as it did. -/
def fnMtWithinSpec : ChangeSpec := { name := "fnMtWithin", fn := fun _ => fun
  | [d1, d2] => { results := [.lit (.bool true)], args := [d1, d2] }
  | _ => none }
def fnMtWithinRow : OpenClaim := { program := "ytdllbnecbbggfaadoor", sum := "b01b56e4b56ca729490617d7293c4f9a54bf03119a0cd04ad780e2218deef33a", func := "pub-tetrapla/laws.FnMtWithin", spec := "fnMtWithin", recurses := true, named := ["unicode/utf8.first", "unicode/utf8.acceptRanges"], apart := false, laid := [("unicode/utf8.acceptRanges", laid_unicode_utf8_acceptRanges), ("unicode/utf8.first", laid_unicode_utf8_first)] }
def FnMtWithinSaid : Prop := fnMtWithinRow.holds Tryd.pinned (OpenSpec.ofChange fnMtWithinSpec)

/-- ITS FALSE NEIGHBOUR: 'it returns false'. Refute it at one input. -/
def fnMtWithinWrong : ChangeSpec := { name := "fnMtWithin", fn := fun _ => fun
  | [d1, d2] => { results := [.lit (.bool false)], args := [d1, d2] }
  | _ => none }
def FnMtWithinWrongFalsely : Prop := fnMtWithinRow.holds Tryd.pinned (OpenSpec.ofChange fnMtWithinWrong)

/-- 'laws.FnJpParseStringBack': WHATEVER THE INPUT: true; the input reads as it did. -/
def fnJpParseStringBackSpec : ChangeSpec := { name := "fnJpParseStringBack", fn := fun _ => fun
  | [d] => { results := [.lit (.bool true)], args := [d] }
  | _ => none }
def fnJpParseStringBackRow : OpenClaim := { program := "ytdllbnecbbggfaadoor", sum := "b01b56e4b56ca729490617d7293c4f9a54bf03119a0cd04ad780e2218deef33a", func := "pub-tetrapla/laws.FnJpParseStringBack", spec := "fnJpParseStringBack", inPlace := ["internal/bytealg.IndexByte"], named := ["pub-tetrapla/pub/jsonparser.MalformedValueError", "pub-tetrapla/pub/jsonparser.DefaultConfig", "pub-tetrapla/pub/jsonparser.MalformedStringEscapeError", "pub-tetrapla/pub/jsonparser.backslashCharEscapeTable"], apart := false, laid := [("pub-tetrapla/pub/jsonparser.DefaultConfig", laid_pub_tetrapla_pub_jsonparser_DefaultConfig), ("pub-tetrapla/pub/jsonparser.backslashCharEscapeTable", laid_pub_tetrapla_pub_jsonparser_backslashCharEscapeTable), ("pub-tetrapla/pub/jsonparser.MalformedValueError", laid_pub_tetrapla_pub_jsonparser_MalformedValueError), ("pub-tetrapla/pub/jsonparser.MalformedStringEscapeError", laid_pub_tetrapla_pub_jsonparser_MalformedStringEscapeError)] }
def FnJpParseStringBackSaid : Prop := fnJpParseStringBackRow.holds Tryd.pinned (OpenSpec.ofChange fnJpParseStringBackSpec)

/-- ITS FALSE NEIGHBOUR: 'it returns false'. Refute it at one input. -/
def fnJpParseStringBackWrong : ChangeSpec := { name := "fnJpParseStringBack", fn := fun _ => fun
  | [d] => { results := [.lit (.bool false)], args := [d] }
  | _ => none }
def FnJpParseStringBackWrongFalsely : Prop := fnJpParseStringBackRow.holds Tryd.pinned (OpenSpec.ofChange fnJpParseStringBackWrong)

/-- 'laws.FnMtUnlimited': WHATEVER THE INPUT: true; the input reads as it did. -/
def fnMtUnlimitedSpec : ChangeSpec := { name := "fnMtUnlimited", fn := fun _ => fun
  | [d1, d2, d3] => { results := [.lit (.bool true)], args := [d1, d2, d3] }
  | _ => none }
def fnMtUnlimitedRow : OpenClaim := { program := "ytdllbnecbbggfaadoor", sum := "b01b56e4b56ca729490617d7293c4f9a54bf03119a0cd04ad780e2218deef33a", func := "pub-tetrapla/laws.FnMtUnlimited", spec := "fnMtUnlimited", recurses := true, named := ["unicode/utf8.first", "unicode/utf8.acceptRanges"], apart := false, laid := [("unicode/utf8.acceptRanges", laid_unicode_utf8_acceptRanges), ("unicode/utf8.first", laid_unicode_utf8_first)] }
def FnMtUnlimitedSaid : Prop := fnMtUnlimitedRow.holds Tryd.pinned (OpenSpec.ofChange fnMtUnlimitedSpec)

/-- ITS FALSE NEIGHBOUR: 'it returns false'. Refute it at one input. -/
def fnMtUnlimitedWrong : ChangeSpec := { name := "fnMtUnlimited", fn := fun _ => fun
  | [d1, d2, d3] => { results := [.lit (.bool false)], args := [d1, d2, d3] }
  | _ => none }
def FnMtUnlimitedWrongFalsely : Prop := fnMtUnlimitedRow.holds Tryd.pinned (OpenSpec.ofChange fnMtUnlimitedWrong)

/-- 'laws.FnGjQuoteValid': WHATEVER THE INPUT: true; the input reads as it did. -/
def fnGjQuoteValidSpec : ChangeSpec := { name := "fnGjQuoteValid", fn := fun _ => fun
  | [d] => { results := [.lit (.bool true)], args := [d] }
  | _ => none }
def fnGjQuoteValidRow : OpenClaim := { program := "ytdllbnecbbggfaadoor", sum := "b01b56e4b56ca729490617d7293c4f9a54bf03119a0cd04ad780e2218deef33a", func := "pub-tetrapla/laws.FnGjQuoteValid", spec := "fnGjQuoteValid", recurses := true, named := ["pub-tetrapla/pub/gjson.hexchars", "unicode/utf8.first", "unicode/utf8.acceptRanges"], apart := false, laid := [("unicode/utf8.acceptRanges", laid_unicode_utf8_acceptRanges), ("pub-tetrapla/pub/gjson.hexchars", laid_pub_tetrapla_pub_gjson_hexchars), ("unicode/utf8.first", laid_unicode_utf8_first)] }
def FnGjQuoteValidSaid : Prop := fnGjQuoteValidRow.holds Tryd.pinned (OpenSpec.ofChange fnGjQuoteValidSpec)

/-- ITS FALSE NEIGHBOUR: 'it returns false'. Refute it at one input. -/
def fnGjQuoteValidWrong : ChangeSpec := { name := "fnGjQuoteValid", fn := fun _ => fun
  | [d] => { results := [.lit (.bool false)], args := [d] }
  | _ => none }
def FnGjQuoteValidWrongFalsely : Prop := fnGjQuoteValidRow.holds Tryd.pinned (OpenSpec.ofChange fnGjQuoteValidWrong)

/-- 'laws.FnGjUnescape': WHATEVER THE INPUT: true; the input reads as it did. -/
def fnGjUnescapeSpec : ChangeSpec := { name := "fnGjUnescape", fn := fun _ => fun
  | [d] => { results := [.lit (.bool true)], args := [d] }
  | _ => none }
def fnGjUnescapeRow : OpenClaim := { program := "ytdllbnecbbggfaadoor", sum := "b01b56e4b56ca729490617d7293c4f9a54bf03119a0cd04ad780e2218deef33a", func := "pub-tetrapla/laws.FnGjUnescape", spec := "fnGjUnescape", named := ["strconv.ErrSyntax", "strconv.ErrRange", "internal/strconv.uint64pow10", "math/bits.deBruijn32tab", "math/bits.deBruijn64tab"], apart := false, laid := [("math/bits.deBruijn32tab", laid_math_bits_deBruijn32tab), ("math/bits.deBruijn64tab", laid_math_bits_deBruijn64tab), ("internal/strconv.uint64pow10", laid_internal_strconv_uint64pow10), ("strconv.ErrRange", laid_strconv_ErrRange), ("strconv.ErrSyntax", laid_strconv_ErrSyntax)] }
def FnGjUnescapeSaid : Prop := fnGjUnescapeRow.holds Tryd.pinned (OpenSpec.ofChange fnGjUnescapeSpec)

/-- ITS FALSE NEIGHBOUR: 'it returns false'. Refute it at one input. -/
def fnGjUnescapeWrong : ChangeSpec := { name := "fnGjUnescape", fn := fun _ => fun
  | [d] => { results := [.lit (.bool false)], args := [d] }
  | _ => none }
def FnGjUnescapeWrongFalsely : Prop := fnGjUnescapeRow.holds Tryd.pinned (OpenSpec.ofChange fnGjUnescapeWrong)

/-- 'laws.FnGjUnescapeJoin': WHATEVER THE INPUT: true; the input reads as it did. -/
def fnGjUnescapeJoinSpec : ChangeSpec := { name := "fnGjUnescapeJoin", fn := fun _ => fun
  | [d1, d2] => { results := [.lit (.bool true)], args := [d1, d2] }
  | _ => none }
def fnGjUnescapeJoinRow : OpenClaim := { program := "ytdllbnecbbggfaadoor", sum := "b01b56e4b56ca729490617d7293c4f9a54bf03119a0cd04ad780e2218deef33a", func := "pub-tetrapla/laws.FnGjUnescapeJoin", spec := "fnGjUnescapeJoin", named := ["strconv.ErrSyntax", "strconv.ErrRange", "internal/strconv.uint64pow10", "math/bits.deBruijn32tab", "math/bits.deBruijn64tab"], apart := false, laid := [("math/bits.deBruijn32tab", laid_math_bits_deBruijn32tab), ("math/bits.deBruijn64tab", laid_math_bits_deBruijn64tab), ("internal/strconv.uint64pow10", laid_internal_strconv_uint64pow10), ("strconv.ErrRange", laid_strconv_ErrRange), ("strconv.ErrSyntax", laid_strconv_ErrSyntax)] }
def FnGjUnescapeJoinSaid : Prop := fnGjUnescapeJoinRow.holds Tryd.pinned (OpenSpec.ofChange fnGjUnescapeJoinSpec)

/-- ITS FALSE NEIGHBOUR: 'it returns false'. Refute it at one input. -/
def fnGjUnescapeJoinWrong : ChangeSpec := { name := "fnGjUnescapeJoin", fn := fun _ => fun
  | [d1, d2] => { results := [.lit (.bool false)], args := [d1, d2] }
  | _ => none }
def FnGjUnescapeJoinWrongFalsely : Prop := fnGjUnescapeJoinRow.holds Tryd.pinned (OpenSpec.ofChange fnGjUnescapeJoinWrong)

/- THE SECOND FORM. 'bulk': how many values and letters a reading holds, each counted each time it is reached (what is shared counts as often as it is met; a slice's spare places count too). A statement '..UptoSaid' is the law's where the arguments, and the package variables that the reading takes, are together of bulk at most 1048576: NARROWER than '..Said'. Prove '..Said' where nothing that the law and all that it calls make is longer than what came in: it says more and counts as full. Else prove '..UptoSaid'. A law counts once. -/
mutual
def uptoBulk {H : Type} : DataW H → Nat
  | .lit (.string bytes) => bytes.length + 1
  | .lit _ => 1
  | .nil => 1
  | .ptr d => uptoBulk d + 1
  | .slice elems spare => uptoBulkAll elems + uptoBulkAll spare + 1
  | .agg parts => uptoBulkAll parts + 1
  | .iface _ d => uptoBulk d + 1
  | .map entries => uptoBulkEntries entries + 1
  | .held _ => 1
def uptoBulkAll {H : Type} : List (DataW H) → Nat
  | [] => 0
  | d :: r => uptoBulk d + uptoBulkAll r
def uptoBulkEntries {H : Type} : List (Lit × DataW H) → Nat
  | [] => 0
  | x :: r => uptoBulkEntry x + uptoBulkEntries r
def uptoBulkEntry {H : Type} : Lit × DataW H → Nat
  | (.string bytes, d) => bytes.length + uptoBulk d + 1
  | (_, d) => uptoBulk d + 1
 end
def uptoSmall : (H : Type) → List (DataW H) → Bool := fun _ ds => decide (uptoBulkAll ds ≤ 1048576)
def OpenSpec.upto (s : _root_.Go.ChangeSpec) : _root_.Go.OpenSpec := { _root_.Go.OpenSpec.ofChange s with cond := some uptoSmall }

/-- 'laws.FnJpEscapeAt', WHERE WHAT IT READS IS OF BULK AT MOST 1048576: true; the input reads as it did. -/
def fnJpEscapeAtUptoRow : OpenClaim := { program := "ytdllbnecbbggfaadoor", sum := "b01b56e4b56ca729490617d7293c4f9a54bf03119a0cd04ad780e2218deef33a", func := "pub-tetrapla/laws.FnJpEscapeAt", spec := "fnJpEscapeAt", named := ["pub-tetrapla/pub/jsonparser.DefaultConfig", "pub-tetrapla/pub/jsonparser.backslashCharEscapeTable"], apart := false, laid := [("pub-tetrapla/pub/jsonparser.DefaultConfig", laid_pub_tetrapla_pub_jsonparser_DefaultConfig), ("pub-tetrapla/pub/jsonparser.backslashCharEscapeTable", laid_pub_tetrapla_pub_jsonparser_backslashCharEscapeTable)], narrowed := true }
def FnJpEscapeAtUptoSaid : Prop := fnJpEscapeAtUptoRow.holds Tryd.pinned (OpenSpec.upto fnJpEscapeAtSpec)

/-- 'laws.FnMtNoCase', WHERE WHAT IT READS IS OF BULK AT MOST 1048576: true; the input reads as it did. -/
def fnMtNoCaseUptoRow : OpenClaim := { program := "ytdllbnecbbggfaadoor", sum := "b01b56e4b56ca729490617d7293c4f9a54bf03119a0cd04ad780e2218deef33a", func := "pub-tetrapla/laws.FnMtNoCase", spec := "fnMtNoCase", recurses := true, named := ["unicode/utf8.first", "unicode/utf8.acceptRanges"], apart := false, laid := [("unicode/utf8.acceptRanges", laid_unicode_utf8_acceptRanges), ("unicode/utf8.first", laid_unicode_utf8_first)], narrowed := true }
def FnMtNoCaseUptoSaid : Prop := fnMtNoCaseUptoRow.holds Tryd.pinned (OpenSpec.upto fnMtNoCaseSpec)

/-- 'laws.FnMtWithin', WHERE WHAT IT READS IS OF BULK AT MOST 1048576: true; the input reads as it did. -/
def fnMtWithinUptoRow : OpenClaim := { program := "ytdllbnecbbggfaadoor", sum := "b01b56e4b56ca729490617d7293c4f9a54bf03119a0cd04ad780e2218deef33a", func := "pub-tetrapla/laws.FnMtWithin", spec := "fnMtWithin", recurses := true, named := ["unicode/utf8.first", "unicode/utf8.acceptRanges"], apart := false, laid := [("unicode/utf8.acceptRanges", laid_unicode_utf8_acceptRanges), ("unicode/utf8.first", laid_unicode_utf8_first)], narrowed := true }
def FnMtWithinUptoSaid : Prop := fnMtWithinUptoRow.holds Tryd.pinned (OpenSpec.upto fnMtWithinSpec)

/-- 'laws.FnJpParseStringBack', WHERE WHAT IT READS IS OF BULK AT MOST 1048576: true; the input reads as it did. -/
def fnJpParseStringBackUptoRow : OpenClaim := { program := "ytdllbnecbbggfaadoor", sum := "b01b56e4b56ca729490617d7293c4f9a54bf03119a0cd04ad780e2218deef33a", func := "pub-tetrapla/laws.FnJpParseStringBack", spec := "fnJpParseStringBack", inPlace := ["internal/bytealg.IndexByte"], named := ["pub-tetrapla/pub/jsonparser.MalformedValueError", "pub-tetrapla/pub/jsonparser.DefaultConfig", "pub-tetrapla/pub/jsonparser.MalformedStringEscapeError", "pub-tetrapla/pub/jsonparser.backslashCharEscapeTable"], apart := false, laid := [("pub-tetrapla/pub/jsonparser.DefaultConfig", laid_pub_tetrapla_pub_jsonparser_DefaultConfig), ("pub-tetrapla/pub/jsonparser.backslashCharEscapeTable", laid_pub_tetrapla_pub_jsonparser_backslashCharEscapeTable), ("pub-tetrapla/pub/jsonparser.MalformedValueError", laid_pub_tetrapla_pub_jsonparser_MalformedValueError), ("pub-tetrapla/pub/jsonparser.MalformedStringEscapeError", laid_pub_tetrapla_pub_jsonparser_MalformedStringEscapeError)], narrowed := true }
def FnJpParseStringBackUptoSaid : Prop := fnJpParseStringBackUptoRow.holds Tryd.pinned (OpenSpec.upto fnJpParseStringBackSpec)

/-- 'laws.FnMtUnlimited', WHERE WHAT IT READS IS OF BULK AT MOST 1048576: true; the input reads as it did. -/
def fnMtUnlimitedUptoRow : OpenClaim := { program := "ytdllbnecbbggfaadoor", sum := "b01b56e4b56ca729490617d7293c4f9a54bf03119a0cd04ad780e2218deef33a", func := "pub-tetrapla/laws.FnMtUnlimited", spec := "fnMtUnlimited", recurses := true, named := ["unicode/utf8.first", "unicode/utf8.acceptRanges"], apart := false, laid := [("unicode/utf8.acceptRanges", laid_unicode_utf8_acceptRanges), ("unicode/utf8.first", laid_unicode_utf8_first)], narrowed := true }
def FnMtUnlimitedUptoSaid : Prop := fnMtUnlimitedUptoRow.holds Tryd.pinned (OpenSpec.upto fnMtUnlimitedSpec)

/-- 'laws.FnGjQuoteValid', WHERE WHAT IT READS IS OF BULK AT MOST 1048576: true; the input reads as it did. -/
def fnGjQuoteValidUptoRow : OpenClaim := { program := "ytdllbnecbbggfaadoor", sum := "b01b56e4b56ca729490617d7293c4f9a54bf03119a0cd04ad780e2218deef33a", func := "pub-tetrapla/laws.FnGjQuoteValid", spec := "fnGjQuoteValid", recurses := true, named := ["pub-tetrapla/pub/gjson.hexchars", "unicode/utf8.first", "unicode/utf8.acceptRanges"], apart := false, laid := [("unicode/utf8.acceptRanges", laid_unicode_utf8_acceptRanges), ("pub-tetrapla/pub/gjson.hexchars", laid_pub_tetrapla_pub_gjson_hexchars), ("unicode/utf8.first", laid_unicode_utf8_first)], narrowed := true }
def FnGjQuoteValidUptoSaid : Prop := fnGjQuoteValidUptoRow.holds Tryd.pinned (OpenSpec.upto fnGjQuoteValidSpec)

/-- 'laws.FnGjUnescape', WHERE WHAT IT READS IS OF BULK AT MOST 1048576: true; the input reads as it did. -/
def fnGjUnescapeUptoRow : OpenClaim := { program := "ytdllbnecbbggfaadoor", sum := "b01b56e4b56ca729490617d7293c4f9a54bf03119a0cd04ad780e2218deef33a", func := "pub-tetrapla/laws.FnGjUnescape", spec := "fnGjUnescape", named := ["strconv.ErrSyntax", "strconv.ErrRange", "internal/strconv.uint64pow10", "math/bits.deBruijn32tab", "math/bits.deBruijn64tab"], apart := false, laid := [("math/bits.deBruijn32tab", laid_math_bits_deBruijn32tab), ("math/bits.deBruijn64tab", laid_math_bits_deBruijn64tab), ("internal/strconv.uint64pow10", laid_internal_strconv_uint64pow10), ("strconv.ErrRange", laid_strconv_ErrRange), ("strconv.ErrSyntax", laid_strconv_ErrSyntax)], narrowed := true }
def FnGjUnescapeUptoSaid : Prop := fnGjUnescapeUptoRow.holds Tryd.pinned (OpenSpec.upto fnGjUnescapeSpec)

/-- 'laws.FnGjUnescapeJoin', WHERE WHAT IT READS IS OF BULK AT MOST 1048576: true; the input reads as it did. -/
def fnGjUnescapeJoinUptoRow : OpenClaim := { program := "ytdllbnecbbggfaadoor", sum := "b01b56e4b56ca729490617d7293c4f9a54bf03119a0cd04ad780e2218deef33a", func := "pub-tetrapla/laws.FnGjUnescapeJoin", spec := "fnGjUnescapeJoin", named := ["strconv.ErrSyntax", "strconv.ErrRange", "internal/strconv.uint64pow10", "math/bits.deBruijn32tab", "math/bits.deBruijn64tab"], apart := false, laid := [("math/bits.deBruijn32tab", laid_math_bits_deBruijn32tab), ("math/bits.deBruijn64tab", laid_math_bits_deBruijn64tab), ("internal/strconv.uint64pow10", laid_internal_strconv_uint64pow10), ("strconv.ErrRange", laid_strconv_ErrRange), ("strconv.ErrSyntax", laid_strconv_ErrSyntax)], narrowed := true }
def FnGjUnescapeJoinUptoSaid : Prop := fnGjUnescapeJoinUptoRow.holds Tryd.pinned (OpenSpec.upto fnGjUnescapeJoinSpec)

end Rows
end Go.Proofs.YtdllbnecbbggfaaDoor
