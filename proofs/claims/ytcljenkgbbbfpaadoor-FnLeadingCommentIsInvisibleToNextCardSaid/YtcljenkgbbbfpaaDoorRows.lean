/-
  NARROWER THAN 'FOR EVERY INPUT', by the rows' own cells (each row's printed sentence says how): FnConsumeEscapeAgreesWithTokenDecoder: laid · FnDecodeEscapesInvertsHexEscaping: laid · FnDecodedTextUndoesEscaping: laid · FnStringQuotesFixedTokenText: laid · FnConsumeURLEndsWell: laid · FnLeadingCommentIsInvisibleToNext: laid.
  DERIVED. THE GIVEN ROWS OF THIS SEAT. 6 by the template 'for every input the law returns true; each argument reads behind the call as it read before'; 0 by the template 'total and deterministic' (their statements: YtcljenkgbbbfpaaDoorTotals.lean).
  GIVEN WITH THE SEED: the statements are not yours to turn. If you find one false, say at which input.
  Laid BY PROGRAM, IN A SANDBOX (cutbox-rows.mjs): the forced cells as the released guide's own fill.sh prints them over the translation dc0cb50bfce2d3da… (all of the seat's roots in one cut). By AI agents, Wed Nov 11 2026. No macro, syntax, notation, axiom, sorry.
-/
import Derived.Test.YtcljenkgbbbfpaaDoorChecked
import GoSem.PinnedTables
import GoSem.Claim
import GoSem.ClaimJoined
import GoSem.ClaimMapViews
import Derived.JoinedTies
import Derived.KernelRfl
namespace Go.Proofs.YtcljenkgbbbfpaaDoor
/- THE CELL 'sum', in the pinned program and in every row, IS THE sha256 OF THE DUMP (.gsa) THAT YtcljenkgbbbfpaaDoorProg.lean LOADS. Nothing in Lean hashes anything: it is a label: what it is worth is what the hold of that sum in a sandbox is worth. -/
noncomputable def Tryd.pinned : Pinned := { name := "ytcljenkgbbbfpaadoor", sum := "dc0cb50bfce2d3da1f179b312266d1f04042b3716b7f6eac7ef089d4aee3199f", checked := Tryd.checked }
namespace Rows
def none {H : Type} : Left H := { results := [], args := [] }

/- WHAT THE LISTED PACKAGE-LEVEL VARIABLES READ AS WHEN THE CALL BEGINS. Each datum BY PROGRAM (the guide's laid-datum.mjs) off the statement by which the dump's own 'gosem.cut.vars' lays the variable. In a bare row this is a premise. The card (YtcljenkgbbbfpaaDoorCards.lean) ties it to the program's text. -/
def laid_unicode_utf8_acceptRanges {H : Type} : DataW H := .agg [.agg [.lit (.int .u8 128), .lit (.int .u8 191)], .agg [.lit (.int .u8 160), .lit (.int .u8 191)], .agg [.lit (.int .u8 128), .lit (.int .u8 159)], .agg [.lit (.int .u8 144), .lit (.int .u8 191)], .agg [.lit (.int .u8 128), .lit (.int .u8 143)], .agg [.lit (.int .u8 0), .lit (.int .u8 0)], .agg [.lit (.int .u8 0), .lit (.int .u8 0)], .agg [.lit (.int .u8 0), .lit (.int .u8 0)], .agg [.lit (.int .u8 0), .lit (.int .u8 0)], .agg [.lit (.int .u8 0), .lit (.int .u8 0)], .agg [.lit (.int .u8 0), .lit (.int .u8 0)], .agg [.lit (.int .u8 0), .lit (.int .u8 0)], .agg [.lit (.int .u8 0), .lit (.int .u8 0)], .agg [.lit (.int .u8 0), .lit (.int .u8 0)], .agg [.lit (.int .u8 0), .lit (.int .u8 0)], .agg [.lit (.int .u8 0), .lit (.int .u8 0)]]
/-- One of Go's own tables, pinned by name: the form's constant. -/
def laid_unicode_utf8_first : DataW Unit := Go.Pinned.utf8First
def laid_github_com_evanw_esbuild_internal_css_lexer_tokenToString {H : Type} : DataW H := .slice [.lit (.string [101, 110, 100, 32, 111, 102, 32, 102, 105, 108, 101]), .lit (.string [64, 45, 107, 101, 121, 119, 111, 114, 100]), .lit (.string [98, 97, 100, 32, 115, 116, 114, 105, 110, 103, 32, 116, 111, 107, 101, 110]), .lit (.string [98, 97, 100, 32, 85, 82, 76, 32, 116, 111, 107, 101, 110]), .lit (.string [34, 45, 45, 62, 34]), .lit (.string [34, 60, 33, 45, 45, 34]), .lit (.string [34, 125, 34]), .lit (.string [34, 93, 34]), .lit (.string [34, 41, 34]), .lit (.string [34, 58, 34]), .lit (.string [34, 44, 34]), .lit (.string [100, 101, 108, 105, 109, 105, 116, 101, 114]), .lit (.string [34, 38, 34]), .lit (.string [34, 42, 34]), .lit (.string [34, 124, 34]), .lit (.string [34, 94, 34]), .lit (.string [34, 36, 34]), .lit (.string [34, 46, 34]), .lit (.string [34, 61, 34]), .lit (.string [34, 33, 34]), .lit (.string [34, 62, 34]), .lit (.string [34, 60, 34]), .lit (.string [34, 45, 34]), .lit (.string [34, 43, 34]), .lit (.string [34, 47, 34]), .lit (.string [34, 126, 34]), .lit (.string [100, 105, 109, 101, 110, 115, 105, 111, 110]), .lit (.string [102, 117, 110, 99, 116, 105, 111, 110, 32, 116, 111, 107, 101, 110]), .lit (.string [104, 97, 115, 104, 32, 116, 111, 107, 101, 110]), .lit (.string [105, 100, 101, 110, 116, 105, 102, 105, 101, 114]), .lit (.string [110, 117, 109, 98, 101, 114]), .lit (.string [34, 123, 34]), .lit (.string [34, 91, 34]), .lit (.string [34, 40, 34]), .lit (.string [112, 101, 114, 99, 101, 110, 116, 97, 103, 101]), .lit (.string [34, 59, 34]), .lit (.string [115, 116, 114, 105, 110, 103, 32, 116, 111, 107, 101, 110]), .lit (.string [85, 82, 76, 32, 116, 111, 107, 101, 110]), .lit (.string [119, 104, 105, 116, 101, 115, 112, 97, 99, 101]), .lit (.string [105, 100, 101, 110, 116, 105, 102, 105, 101, 114])] []

/-- 'n011_170.FnConsumeEscapeAgreesWithTokenDecoder': WHATEVER THE INPUT: true; the input reads as it did. -/
def fnConsumeEscapeAgreesWithTokenDecoderSpec : ChangeSpec := { name := "fnConsumeEscapeAgreesWithTokenDecoder", fn := fun _ => fun
  | [d] => { results := [.lit (.bool true)], args := [d] }
  | _ => none }
def fnConsumeEscapeAgreesWithTokenDecoderRow : OpenClaim := { program := "ytcljenkgbbbfpaadoor", sum := "dc0cb50bfce2d3da1f179b312266d1f04042b3716b7f6eac7ef089d4aee3199f", func := "github.com/evanw/esbuild/n011_170.FnConsumeEscapeAgreesWithTokenDecoder", spec := "fnConsumeEscapeAgreesWithTokenDecoder", inPlace := ["internal/abi.NoEscape"], named := ["unicode/utf8.first", "unicode/utf8.acceptRanges"], apart := false, laid := [("unicode/utf8.acceptRanges", laid_unicode_utf8_acceptRanges), ("unicode/utf8.first", laid_unicode_utf8_first)] }
def FnConsumeEscapeAgreesWithTokenDecoderSaid : Prop := fnConsumeEscapeAgreesWithTokenDecoderRow.holds Tryd.pinned (OpenSpec.ofChange fnConsumeEscapeAgreesWithTokenDecoderSpec)

/-- ITS FALSE NEIGHBOUR: 'it returns false'. Refute it at one input. -/
def fnConsumeEscapeAgreesWithTokenDecoderWrong : ChangeSpec := { name := "fnConsumeEscapeAgreesWithTokenDecoder", fn := fun _ => fun
  | [d] => { results := [.lit (.bool false)], args := [d] }
  | _ => none }
def FnConsumeEscapeAgreesWithTokenDecoderWrongFalsely : Prop := fnConsumeEscapeAgreesWithTokenDecoderRow.holds Tryd.pinned (OpenSpec.ofChange fnConsumeEscapeAgreesWithTokenDecoderWrong)

/-- 'n011_251.FnDecodeEscapesInvertsHexEscaping': WHATEVER THE INPUT: true; the input reads as it did. -/
def fnDecodeEscapesInvertsHexEscapingSpec : ChangeSpec := { name := "fnDecodeEscapesInvertsHexEscaping", fn := fun _ => fun
  | [d1, d2] => { results := [.lit (.bool true)], args := [d1, d2] }
  | _ => none }
def fnDecodeEscapesInvertsHexEscapingRow : OpenClaim := { program := "ytcljenkgbbbfpaadoor", sum := "dc0cb50bfce2d3da1f179b312266d1f04042b3716b7f6eac7ef089d4aee3199f", func := "github.com/evanw/esbuild/n011_251.FnDecodeEscapesInvertsHexEscaping", spec := "fnDecodeEscapesInvertsHexEscaping", inPlace := ["internal/abi.NoEscape"], named := ["unicode/utf8.first", "unicode/utf8.acceptRanges"], apart := false, laid := [("unicode/utf8.acceptRanges", laid_unicode_utf8_acceptRanges), ("unicode/utf8.first", laid_unicode_utf8_first)] }
def FnDecodeEscapesInvertsHexEscapingSaid : Prop := fnDecodeEscapesInvertsHexEscapingRow.holds Tryd.pinned (OpenSpec.ofChange fnDecodeEscapesInvertsHexEscapingSpec)

/-- ITS FALSE NEIGHBOUR: 'it returns false'. Refute it at one input. -/
def fnDecodeEscapesInvertsHexEscapingWrong : ChangeSpec := { name := "fnDecodeEscapesInvertsHexEscaping", fn := fun _ => fun
  | [d1, d2] => { results := [.lit (.bool false)], args := [d1, d2] }
  | _ => none }
def FnDecodeEscapesInvertsHexEscapingWrongFalsely : Prop := fnDecodeEscapesInvertsHexEscapingRow.holds Tryd.pinned (OpenSpec.ofChange fnDecodeEscapesInvertsHexEscapingWrong)

/-- 'n011_281.FnDecodedTextUndoesEscaping': WHATEVER THE INPUT: true; the input reads as it did. -/
def fnDecodedTextUndoesEscapingSpec : ChangeSpec := { name := "fnDecodedTextUndoesEscaping", fn := fun _ => fun
  | [d1, d2, d3, d4, d5] => { results := [.lit (.bool true)], args := [d1, d2, d3, d4, d5] }
  | _ => none }
def fnDecodedTextUndoesEscapingRow : OpenClaim := { program := "ytcljenkgbbbfpaadoor", sum := "dc0cb50bfce2d3da1f179b312266d1f04042b3716b7f6eac7ef089d4aee3199f", func := "github.com/evanw/esbuild/n011_281.FnDecodedTextUndoesEscaping", spec := "fnDecodedTextUndoesEscaping", inPlace := ["internal/abi.NoEscape"], named := ["unicode/utf8.first", "unicode/utf8.acceptRanges"], apart := false, laid := [("unicode/utf8.acceptRanges", laid_unicode_utf8_acceptRanges), ("unicode/utf8.first", laid_unicode_utf8_first)] }
def FnDecodedTextUndoesEscapingSaid : Prop := fnDecodedTextUndoesEscapingRow.holds Tryd.pinned (OpenSpec.ofChange fnDecodedTextUndoesEscapingSpec)

/-- ITS FALSE NEIGHBOUR: 'it returns false'. Refute it at one input. -/
def fnDecodedTextUndoesEscapingWrong : ChangeSpec := { name := "fnDecodedTextUndoesEscaping", fn := fun _ => fun
  | [d1, d2, d3, d4, d5] => { results := [.lit (.bool false)], args := [d1, d2, d3, d4, d5] }
  | _ => none }
def FnDecodedTextUndoesEscapingWrongFalsely : Prop := fnDecodedTextUndoesEscapingRow.holds Tryd.pinned (OpenSpec.ofChange fnDecodedTextUndoesEscapingWrong)

/-- 'n011_281.FnStringQuotesFixedTokenText': WHATEVER THE INPUT: true; the input reads as it did. -/
def fnStringQuotesFixedTokenTextSpec : ChangeSpec := { name := "fnStringQuotesFixedTokenText", vars := ["github.com/evanw/esbuild/internal/css_lexer.tokenToString"], fn := fun _ => fun
  | [d, g1] => { results := [.lit (.bool true)], args := [d], vars := [g1] }
  | _ => none }
def fnStringQuotesFixedTokenTextRow : OpenClaim := { program := "ytcljenkgbbbfpaadoor", sum := "dc0cb50bfce2d3da1f179b312266d1f04042b3716b7f6eac7ef089d4aee3199f", func := "github.com/evanw/esbuild/n011_281.FnStringQuotesFixedTokenText", spec := "fnStringQuotesFixedTokenText", inPlace := ["internal/abi.NoEscape", "internal/bytealg.MakeNoZero"], unfollowed := true, recurses := true, named := ["unicode/utf8.first", "unicode/utf8.acceptRanges", "github.com/evanw/esbuild/internal/css_lexer.tokenToString"], apart := false, laid := [("unicode/utf8.acceptRanges", laid_unicode_utf8_acceptRanges), ("github.com/evanw/esbuild/internal/css_lexer.tokenToString", laid_github_com_evanw_esbuild_internal_css_lexer_tokenToString), ("unicode/utf8.first", laid_unicode_utf8_first)] }
def FnStringQuotesFixedTokenTextSaid : Prop := fnStringQuotesFixedTokenTextRow.holds Tryd.pinned (OpenSpec.ofChange fnStringQuotesFixedTokenTextSpec)

/-- ITS FALSE NEIGHBOUR: 'it returns false'. Refute it at one input. -/
def fnStringQuotesFixedTokenTextWrong : ChangeSpec := { name := "fnStringQuotesFixedTokenText", vars := ["github.com/evanw/esbuild/internal/css_lexer.tokenToString"], fn := fun _ => fun
  | [d, g1] => { results := [.lit (.bool false)], args := [d], vars := [g1] }
  | _ => none }
def FnStringQuotesFixedTokenTextWrongFalsely : Prop := fnStringQuotesFixedTokenTextRow.holds Tryd.pinned (OpenSpec.ofChange fnStringQuotesFixedTokenTextWrong)

/-- 'n011_311.FnConsumeURLEndsWell': WHATEVER THE INPUT: true; the input reads as it did. -/
def fnConsumeURLEndsWellSpec : ChangeSpec := { name := "fnConsumeURLEndsWell", fn := fun _ => fun
  | [d1, d2] => { results := [.lit (.bool true)], args := [d1, d2] }
  | _ => none }
def fnConsumeURLEndsWellRow : OpenClaim := { program := "ytcljenkgbbbfpaadoor", sum := "dc0cb50bfce2d3da1f179b312266d1f04042b3716b7f6eac7ef089d4aee3199f", func := "github.com/evanw/esbuild/n011_311.FnConsumeURLEndsWell", spec := "fnConsumeURLEndsWell", inPlace := ["(*internal/sync.Mutex).Lock", "internal/race.Disable", "sync/atomic.CompareAndSwapInt32", "internal/race.Enable", "internal/race.Acquire", "(*internal/sync.Mutex).lockSlow", "internal/sync.runtime_canSpin", "internal/sync.runtime_doSpin", "internal/sync.throw", "internal/sync.runtime_nanotime", "internal/sync.runtime_SemacquireMutex", "sync/atomic.AddInt32", "(*internal/sync.Mutex).Unlock", "internal/race.ReleaseMerge", "(*internal/sync.Mutex).unlockSlow", "internal/sync.fatal", "internal/sync.runtime_Semrelease"], unfollowed := true, recurses := true, named := ["unicode/utf8.first", "unicode/utf8.acceptRanges"], apart := false, laid := [("unicode/utf8.acceptRanges", laid_unicode_utf8_acceptRanges), ("unicode/utf8.first", laid_unicode_utf8_first)] }
def FnConsumeURLEndsWellSaid : Prop := fnConsumeURLEndsWellRow.holds Tryd.pinned (OpenSpec.ofChange fnConsumeURLEndsWellSpec)

/-- ITS FALSE NEIGHBOUR: 'it returns false'. Refute it at one input. -/
def fnConsumeURLEndsWellWrong : ChangeSpec := { name := "fnConsumeURLEndsWell", fn := fun _ => fun
  | [d1, d2] => { results := [.lit (.bool false)], args := [d1, d2] }
  | _ => none }
def FnConsumeURLEndsWellWrongFalsely : Prop := fnConsumeURLEndsWellRow.holds Tryd.pinned (OpenSpec.ofChange fnConsumeURLEndsWellWrong)

/-- 'n011_111.FnLeadingCommentIsInvisibleToNext': WHATEVER THE INPUT: true; the input reads as it did. -/
def fnLeadingCommentIsInvisibleToNextSpec : ChangeSpec := { name := "fnLeadingCommentIsInvisibleToNext", fn := fun _ => fun
  | [d1, d2] => { results := [.lit (.bool true)], args := [d1, d2] }
  | _ => none }
def fnLeadingCommentIsInvisibleToNextRow : OpenClaim := { program := "ytcljenkgbbbfpaadoor", sum := "dc0cb50bfce2d3da1f179b312266d1f04042b3716b7f6eac7ef089d4aee3199f", func := "github.com/evanw/esbuild/n011_111.FnLeadingCommentIsInvisibleToNext", spec := "fnLeadingCommentIsInvisibleToNext", inPlace := ["internal/abi.NoEscape", "internal/bytealg.MakeNoZero"], unfollowed := true, recurses := true, named := ["unicode/utf8.first", "unicode/utf8.acceptRanges"], apart := false, laid := [("unicode/utf8.acceptRanges", laid_unicode_utf8_acceptRanges), ("unicode/utf8.first", laid_unicode_utf8_first)] }
def FnLeadingCommentIsInvisibleToNextSaid : Prop := fnLeadingCommentIsInvisibleToNextRow.holds Tryd.pinned (OpenSpec.ofChange fnLeadingCommentIsInvisibleToNextSpec)

/-- ITS FALSE NEIGHBOUR: 'it returns false'. Refute it at one input. -/
def fnLeadingCommentIsInvisibleToNextWrong : ChangeSpec := { name := "fnLeadingCommentIsInvisibleToNext", fn := fun _ => fun
  | [d1, d2] => { results := [.lit (.bool false)], args := [d1, d2] }
  | _ => none }
def FnLeadingCommentIsInvisibleToNextWrongFalsely : Prop := fnLeadingCommentIsInvisibleToNextRow.holds Tryd.pinned (OpenSpec.ofChange fnLeadingCommentIsInvisibleToNextWrong)

/- THE SECOND FORM. 'bulk': how many values and letters a reading holds, each counted each time it is reached (what is shared counts as often as it is met; a slice's spare places count too). A statement '..UptoSaid' is the law's where the arguments, and the package variables that the reading takes, are together of bulk at most 1048576: NARROWER than '..Said'. Prove '..Said' where nothing that the law and all that it calls make is longer than what came in: it says more and counts as full. Else prove '..UptoSaid'. A law counts once. -/
mutual
def uptoBulk {H : Type} : DataW H → Nat
  | .lit (.string bytes) => bytes.length + 1
  | .lit _ => 1
  | .nil => 1
  | .ptr d => uptoBulk d + 1
  | .slice elems spare => uptoBulkAll elems + uptoBulkAll spare + 1
  | .agg parts => uptoBulkAll parts + 1
  | .iface _ d => uptoBulk d + 1
  | .map entries => uptoBulkEntries entries + 1
  | .held _ => 1
def uptoBulkAll {H : Type} : List (DataW H) → Nat
  | [] => 0
  | d :: r => uptoBulk d + uptoBulkAll r
def uptoBulkEntries {H : Type} : List (Lit × DataW H) → Nat
  | [] => 0
  | x :: r => uptoBulkEntry x + uptoBulkEntries r
def uptoBulkEntry {H : Type} : Lit × DataW H → Nat
  | (.string bytes, d) => bytes.length + uptoBulk d + 1
  | (_, d) => uptoBulk d + 1
 end
def uptoSmall : (H : Type) → List (DataW H) → Bool := fun _ ds => decide (uptoBulkAll ds ≤ 1048576)
def OpenSpec.upto (s : _root_.Go.ChangeSpec) : _root_.Go.OpenSpec := { _root_.Go.OpenSpec.ofChange s with cond := some uptoSmall }

/-- 'n011_170.FnConsumeEscapeAgreesWithTokenDecoder', WHERE WHAT IT READS IS OF BULK AT MOST 1048576: true; the input reads as it did. -/
def fnConsumeEscapeAgreesWithTokenDecoderUptoRow : OpenClaim := { program := "ytcljenkgbbbfpaadoor", sum := "dc0cb50bfce2d3da1f179b312266d1f04042b3716b7f6eac7ef089d4aee3199f", func := "github.com/evanw/esbuild/n011_170.FnConsumeEscapeAgreesWithTokenDecoder", spec := "fnConsumeEscapeAgreesWithTokenDecoder", inPlace := ["internal/abi.NoEscape"], named := ["unicode/utf8.first", "unicode/utf8.acceptRanges"], apart := false, laid := [("unicode/utf8.acceptRanges", laid_unicode_utf8_acceptRanges), ("unicode/utf8.first", laid_unicode_utf8_first)], narrowed := true }
def FnConsumeEscapeAgreesWithTokenDecoderUptoSaid : Prop := fnConsumeEscapeAgreesWithTokenDecoderUptoRow.holds Tryd.pinned (OpenSpec.upto fnConsumeEscapeAgreesWithTokenDecoderSpec)

/-- 'n011_251.FnDecodeEscapesInvertsHexEscaping', WHERE WHAT IT READS IS OF BULK AT MOST 1048576: true; the input reads as it did. -/
def fnDecodeEscapesInvertsHexEscapingUptoRow : OpenClaim := { program := "ytcljenkgbbbfpaadoor", sum := "dc0cb50bfce2d3da1f179b312266d1f04042b3716b7f6eac7ef089d4aee3199f", func := "github.com/evanw/esbuild/n011_251.FnDecodeEscapesInvertsHexEscaping", spec := "fnDecodeEscapesInvertsHexEscaping", inPlace := ["internal/abi.NoEscape"], named := ["unicode/utf8.first", "unicode/utf8.acceptRanges"], apart := false, laid := [("unicode/utf8.acceptRanges", laid_unicode_utf8_acceptRanges), ("unicode/utf8.first", laid_unicode_utf8_first)], narrowed := true }
def FnDecodeEscapesInvertsHexEscapingUptoSaid : Prop := fnDecodeEscapesInvertsHexEscapingUptoRow.holds Tryd.pinned (OpenSpec.upto fnDecodeEscapesInvertsHexEscapingSpec)

/-- 'n011_281.FnDecodedTextUndoesEscaping', WHERE WHAT IT READS IS OF BULK AT MOST 1048576: true; the input reads as it did. -/
def fnDecodedTextUndoesEscapingUptoRow : OpenClaim := { program := "ytcljenkgbbbfpaadoor", sum := "dc0cb50bfce2d3da1f179b312266d1f04042b3716b7f6eac7ef089d4aee3199f", func := "github.com/evanw/esbuild/n011_281.FnDecodedTextUndoesEscaping", spec := "fnDecodedTextUndoesEscaping", inPlace := ["internal/abi.NoEscape"], named := ["unicode/utf8.first", "unicode/utf8.acceptRanges"], apart := false, laid := [("unicode/utf8.acceptRanges", laid_unicode_utf8_acceptRanges), ("unicode/utf8.first", laid_unicode_utf8_first)], narrowed := true }
def FnDecodedTextUndoesEscapingUptoSaid : Prop := fnDecodedTextUndoesEscapingUptoRow.holds Tryd.pinned (OpenSpec.upto fnDecodedTextUndoesEscapingSpec)

/-- 'n011_281.FnStringQuotesFixedTokenText', WHERE WHAT IT READS IS OF BULK AT MOST 1048576: true; the input reads as it did. -/
def fnStringQuotesFixedTokenTextUptoRow : OpenClaim := { program := "ytcljenkgbbbfpaadoor", sum := "dc0cb50bfce2d3da1f179b312266d1f04042b3716b7f6eac7ef089d4aee3199f", func := "github.com/evanw/esbuild/n011_281.FnStringQuotesFixedTokenText", spec := "fnStringQuotesFixedTokenText", inPlace := ["internal/abi.NoEscape", "internal/bytealg.MakeNoZero"], unfollowed := true, recurses := true, named := ["unicode/utf8.first", "unicode/utf8.acceptRanges", "github.com/evanw/esbuild/internal/css_lexer.tokenToString"], apart := false, laid := [("unicode/utf8.acceptRanges", laid_unicode_utf8_acceptRanges), ("github.com/evanw/esbuild/internal/css_lexer.tokenToString", laid_github_com_evanw_esbuild_internal_css_lexer_tokenToString), ("unicode/utf8.first", laid_unicode_utf8_first)], narrowed := true }
def FnStringQuotesFixedTokenTextUptoSaid : Prop := fnStringQuotesFixedTokenTextUptoRow.holds Tryd.pinned (OpenSpec.upto fnStringQuotesFixedTokenTextSpec)

/-- 'n011_311.FnConsumeURLEndsWell', WHERE WHAT IT READS IS OF BULK AT MOST 1048576: true; the input reads as it did. -/
def fnConsumeURLEndsWellUptoRow : OpenClaim := { program := "ytcljenkgbbbfpaadoor", sum := "dc0cb50bfce2d3da1f179b312266d1f04042b3716b7f6eac7ef089d4aee3199f", func := "github.com/evanw/esbuild/n011_311.FnConsumeURLEndsWell", spec := "fnConsumeURLEndsWell", inPlace := ["(*internal/sync.Mutex).Lock", "internal/race.Disable", "sync/atomic.CompareAndSwapInt32", "internal/race.Enable", "internal/race.Acquire", "(*internal/sync.Mutex).lockSlow", "internal/sync.runtime_canSpin", "internal/sync.runtime_doSpin", "internal/sync.throw", "internal/sync.runtime_nanotime", "internal/sync.runtime_SemacquireMutex", "sync/atomic.AddInt32", "(*internal/sync.Mutex).Unlock", "internal/race.ReleaseMerge", "(*internal/sync.Mutex).unlockSlow", "internal/sync.fatal", "internal/sync.runtime_Semrelease"], unfollowed := true, recurses := true, named := ["unicode/utf8.first", "unicode/utf8.acceptRanges"], apart := false, laid := [("unicode/utf8.acceptRanges", laid_unicode_utf8_acceptRanges), ("unicode/utf8.first", laid_unicode_utf8_first)], narrowed := true }
def FnConsumeURLEndsWellUptoSaid : Prop := fnConsumeURLEndsWellUptoRow.holds Tryd.pinned (OpenSpec.upto fnConsumeURLEndsWellSpec)

/-- 'n011_111.FnLeadingCommentIsInvisibleToNext', WHERE WHAT IT READS IS OF BULK AT MOST 1048576: true; the input reads as it did. -/
def fnLeadingCommentIsInvisibleToNextUptoRow : OpenClaim := { program := "ytcljenkgbbbfpaadoor", sum := "dc0cb50bfce2d3da1f179b312266d1f04042b3716b7f6eac7ef089d4aee3199f", func := "github.com/evanw/esbuild/n011_111.FnLeadingCommentIsInvisibleToNext", spec := "fnLeadingCommentIsInvisibleToNext", inPlace := ["internal/abi.NoEscape", "internal/bytealg.MakeNoZero"], unfollowed := true, recurses := true, named := ["unicode/utf8.first", "unicode/utf8.acceptRanges"], apart := false, laid := [("unicode/utf8.acceptRanges", laid_unicode_utf8_acceptRanges), ("unicode/utf8.first", laid_unicode_utf8_first)], narrowed := true }
def FnLeadingCommentIsInvisibleToNextUptoSaid : Prop := fnLeadingCommentIsInvisibleToNextUptoRow.holds Tryd.pinned (OpenSpec.upto fnLeadingCommentIsInvisibleToNextSpec)

end Rows
end Go.Proofs.YtcljenkgbbbfpaaDoor
