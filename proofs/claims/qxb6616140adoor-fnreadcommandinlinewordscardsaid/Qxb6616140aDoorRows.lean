/-
  NARROWER THAN 'FOR EVERY INPUT', by the rows' own cells (each row's printed sentence says how): FnIntegerRepliesParseBackInOrder: laid · FnIntegerReplyDistinctAndSized: laid · FnReadCommandArrayExact: laid · FnReadCommandInlineWords: laid · FnReadArrayTwoInARow: laid · FnReadArrayRefusesNonBulkElement: laid · FnTruncatedArrayIsUnexpectedEOF: laid · FnEOFBetweenVersusInsideRequests: laid.
  DERIVED. THE GIVEN ROWS OF THIS SEAT. 8 by the template 'for every input the law returns true; each argument reads behind the call as it read before'; 0 by the template 'total and deterministic' (their statements: Qxb6616140aDoorTotals.lean).
  GIVEN WITH THE SEED: the statements are not yours to turn. If you find one false, say at which input.
  Laid BY PROGRAM, IN A SANDBOX (cutbox-rows.mjs): the forced cells as the released guide's own fill.sh prints them over the translation c1a50da4d3acf34c… (all of the seat's roots in one cut). By AI agents, Wed Nov 11 2026. No macro, syntax, notation, axiom, sorry.
-/
import Derived.Test.Qxb6616140aDoorChecked
import GoSem.Claim
import GoSem.ClaimJoined
import GoSem.ClaimMapViews
import Derived.JoinedTies
import Derived.KernelRfl
namespace Go.Proofs.Qxb6616140aDoor
/- THE CELL 'sum', in the pinned program and in every row, IS THE sha256 OF THE DUMP (.gsa) THAT Qxb6616140aDoorProg.lean LOADS. Nothing in Lean hashes anything: it is a label: what it is worth is what the hold of that sum in a sandbox is worth. -/
noncomputable def Tryd.pinned : Pinned := { name := "qxb6616140adoor", sum := "c1a50da4d3acf34cac7851263cbd1cbd0f25b7b3758dede6db313bf10f60aa49", checked := Tryd.checked }
namespace Rows
def none {H : Type} : Left H := { results := [], args := [] }

/- WHAT THE LISTED PACKAGE-LEVEL VARIABLES READ AS WHEN THE CALL BEGINS. Each datum BY PROGRAM (the guide's laid-datum.mjs) off the statement by which the dump's own 'gosem.cut.vars' lays the variable. In a bare row this is a premise. The card (Qxb6616140aDoorCards.lean) ties it to the program's text. -/
def laid_math_bits_deBruijn32tab {H : Type} : DataW H := .agg [.lit (.int .u8 0), .lit (.int .u8 1), .lit (.int .u8 28), .lit (.int .u8 2), .lit (.int .u8 29), .lit (.int .u8 14), .lit (.int .u8 24), .lit (.int .u8 3), .lit (.int .u8 30), .lit (.int .u8 22), .lit (.int .u8 20), .lit (.int .u8 15), .lit (.int .u8 25), .lit (.int .u8 17), .lit (.int .u8 4), .lit (.int .u8 8), .lit (.int .u8 31), .lit (.int .u8 27), .lit (.int .u8 13), .lit (.int .u8 23), .lit (.int .u8 21), .lit (.int .u8 19), .lit (.int .u8 16), .lit (.int .u8 7), .lit (.int .u8 26), .lit (.int .u8 12), .lit (.int .u8 18), .lit (.int .u8 6), .lit (.int .u8 11), .lit (.int .u8 5), .lit (.int .u8 10), .lit (.int .u8 9)]
def laid_math_bits_deBruijn64tab {H : Type} : DataW H := .agg [.lit (.int .u8 0), .lit (.int .u8 1), .lit (.int .u8 56), .lit (.int .u8 2), .lit (.int .u8 57), .lit (.int .u8 49), .lit (.int .u8 28), .lit (.int .u8 3), .lit (.int .u8 61), .lit (.int .u8 58), .lit (.int .u8 42), .lit (.int .u8 50), .lit (.int .u8 38), .lit (.int .u8 29), .lit (.int .u8 17), .lit (.int .u8 4), .lit (.int .u8 62), .lit (.int .u8 47), .lit (.int .u8 59), .lit (.int .u8 36), .lit (.int .u8 45), .lit (.int .u8 43), .lit (.int .u8 51), .lit (.int .u8 22), .lit (.int .u8 53), .lit (.int .u8 39), .lit (.int .u8 33), .lit (.int .u8 30), .lit (.int .u8 24), .lit (.int .u8 18), .lit (.int .u8 12), .lit (.int .u8 5), .lit (.int .u8 63), .lit (.int .u8 55), .lit (.int .u8 48), .lit (.int .u8 27), .lit (.int .u8 60), .lit (.int .u8 41), .lit (.int .u8 37), .lit (.int .u8 16), .lit (.int .u8 46), .lit (.int .u8 35), .lit (.int .u8 44), .lit (.int .u8 21), .lit (.int .u8 52), .lit (.int .u8 32), .lit (.int .u8 23), .lit (.int .u8 11), .lit (.int .u8 54), .lit (.int .u8 26), .lit (.int .u8 40), .lit (.int .u8 15), .lit (.int .u8 34), .lit (.int .u8 20), .lit (.int .u8 31), .lit (.int .u8 10), .lit (.int .u8 25), .lit (.int .u8 14), .lit (.int .u8 19), .lit (.int .u8 9), .lit (.int .u8 13), .lit (.int .u8 8), .lit (.int .u8 7), .lit (.int .u8 6)]
def laid_internal_strconv_uint64pow10 {H : Type} : DataW H := .agg [.lit (.int .u64 1), .lit (.int .u64 10), .lit (.int .u64 100), .lit (.int .u64 1000), .lit (.int .u64 10000), .lit (.int .u64 100000), .lit (.int .u64 1000000), .lit (.int .u64 10000000), .lit (.int .u64 100000000), .lit (.int .u64 1000000000), .lit (.int .u64 10000000000), .lit (.int .u64 100000000000), .lit (.int .u64 1000000000000), .lit (.int .u64 10000000000000), .lit (.int .u64 100000000000000), .lit (.int .u64 1000000000000000), .lit (.int .u64 10000000000000000), .lit (.int .u64 100000000000000000), .lit (.int .u64 1000000000000000000), .lit (.int .u64 10000000000000000000)]
def laid_strconv_ErrRange {H : Type} : DataW H := .iface "*errors.errorString" (.ptr (.agg [.lit (.string [118, 97, 108, 117, 101, 32, 111, 117, 116, 32, 111, 102, 32, 114, 97, 110, 103, 101])]))
def laid_strconv_ErrSyntax {H : Type} : DataW H := .iface "*errors.errorString" (.ptr (.agg [.lit (.string [105, 110, 118, 97, 108, 105, 100, 32, 115, 121, 110, 116, 97, 120])]))
def laid_io_ErrShortBuffer {H : Type} : DataW H := .iface "*errors.errorString" (.ptr (.agg [.lit (.string [115, 104, 111, 114, 116, 32, 98, 117, 102, 102, 101, 114])]))
def laid_io_EOF {H : Type} : DataW H := .iface "*errors.errorString" (.ptr (.agg [.lit (.string [69, 79, 70])]))
def laid_io_ErrUnexpectedEOF {H : Type} : DataW H := .iface "*errors.errorString" (.ptr (.agg [.lit (.string [117, 110, 101, 120, 112, 101, 99, 116, 101, 100, 32, 69, 79, 70])]))
def laid_io_ErrNoProgress {H : Type} : DataW H := .iface "*errors.errorString" (.ptr (.agg [.lit (.string [109, 117, 108, 116, 105, 112, 108, 101, 32, 82, 101, 97, 100, 32, 99, 97, 108, 108, 115, 32, 114, 101, 116, 117, 114, 110, 32, 110, 111, 32, 100, 97, 116, 97, 32, 111, 114, 32, 101, 114, 114, 111, 114])]))
def laid_bufio_ErrBufferFull {H : Type} : DataW H := .iface "*errors.errorString" (.ptr (.agg [.lit (.string [98, 117, 102, 105, 111, 58, 32, 98, 117, 102, 102, 101, 114, 32, 102, 117, 108, 108])]))
def laid_bufio_ErrNegativeCount {H : Type} : DataW H := .iface "*errors.errorString" (.ptr (.agg [.lit (.string [98, 117, 102, 105, 111, 58, 32, 110, 101, 103, 97, 116, 105, 118, 101, 32, 99, 111, 117, 110, 116])]))
def laid_bufio_errNegativeRead {H : Type} : DataW H := .iface "*errors.errorString" (.ptr (.agg [.lit (.string [98, 117, 102, 105, 111, 58, 32, 114, 101, 97, 100, 101, 114, 32, 114, 101, 116, 117, 114, 110, 101, 100, 32, 110, 101, 103, 97, 116, 105, 118, 101, 32, 99, 111, 117, 110, 116, 32, 102, 114, 111, 109, 32, 82, 101, 97, 100])]))
def laid_encoding_hex_ErrLength {H : Type} : DataW H := .iface "*errors.errorString" (.ptr (.agg [.lit (.string [101, 110, 99, 111, 100, 105, 110, 103, 47, 104, 101, 120, 58, 32, 111, 100, 100, 32, 108, 101, 110, 103, 116, 104, 32, 104, 101, 120, 32, 115, 116, 114, 105, 110, 103])]))

/-- 'zzlaws_internal_resp_b1.FnIntegerRepliesParseBackInOrder': WHATEVER THE INPUT: true; the input reads as it did. -/
def fnIntegerRepliesParseBackInOrderSpec : ChangeSpec := { name := "fnIntegerRepliesParseBackInOrder", fn := fun _ => fun
  | [d] => { results := [.lit (.bool true)], args := [d] }
  | _ => none }
def fnIntegerRepliesParseBackInOrderRow : OpenClaim := { program := "qxb6616140adoor", sum := "c1a50da4d3acf34cac7851263cbd1cbd0f25b7b3758dede6db313bf10f60aa49", func := "example.com/rungset/rungset/zzlaws_internal_resp_b1.FnIntegerRepliesParseBackInOrder", spec := "fnIntegerRepliesParseBackInOrder", named := ["internal/strconv.uint64pow10", "math/bits.deBruijn32tab", "math/bits.deBruijn64tab", "strconv.ErrSyntax", "strconv.ErrRange"], apart := false, laid := [("math/bits.deBruijn32tab", laid_math_bits_deBruijn32tab), ("math/bits.deBruijn64tab", laid_math_bits_deBruijn64tab), ("internal/strconv.uint64pow10", laid_internal_strconv_uint64pow10), ("strconv.ErrRange", laid_strconv_ErrRange), ("strconv.ErrSyntax", laid_strconv_ErrSyntax)] }
def FnIntegerRepliesParseBackInOrderSaid : Prop := fnIntegerRepliesParseBackInOrderRow.holds Tryd.pinned (OpenSpec.ofChange fnIntegerRepliesParseBackInOrderSpec)

/-- ITS FALSE NEIGHBOUR: 'it returns false'. Refute it at one input. -/
def fnIntegerRepliesParseBackInOrderWrong : ChangeSpec := { name := "fnIntegerRepliesParseBackInOrder", fn := fun _ => fun
  | [d] => { results := [.lit (.bool false)], args := [d] }
  | _ => none }
def FnIntegerRepliesParseBackInOrderWrongFalsely : Prop := fnIntegerRepliesParseBackInOrderRow.holds Tryd.pinned (OpenSpec.ofChange fnIntegerRepliesParseBackInOrderWrong)

/-- 'zzlaws_internal_resp_b1.FnIntegerReplyDistinctAndSized': WHATEVER THE INPUT: true; the input reads as it did. -/
def fnIntegerReplyDistinctAndSizedSpec : ChangeSpec := { name := "fnIntegerReplyDistinctAndSized", fn := fun _ => fun
  | [d1, d2] => { results := [.lit (.bool true)], args := [d1, d2] }
  | _ => none }
def fnIntegerReplyDistinctAndSizedRow : OpenClaim := { program := "qxb6616140adoor", sum := "c1a50da4d3acf34cac7851263cbd1cbd0f25b7b3758dede6db313bf10f60aa49", func := "example.com/rungset/rungset/zzlaws_internal_resp_b1.FnIntegerReplyDistinctAndSized", spec := "fnIntegerReplyDistinctAndSized", named := ["internal/strconv.uint64pow10", "math/bits.deBruijn32tab", "math/bits.deBruijn64tab"], apart := false, laid := [("math/bits.deBruijn32tab", laid_math_bits_deBruijn32tab), ("math/bits.deBruijn64tab", laid_math_bits_deBruijn64tab), ("internal/strconv.uint64pow10", laid_internal_strconv_uint64pow10)] }
def FnIntegerReplyDistinctAndSizedSaid : Prop := fnIntegerReplyDistinctAndSizedRow.holds Tryd.pinned (OpenSpec.ofChange fnIntegerReplyDistinctAndSizedSpec)

/-- ITS FALSE NEIGHBOUR: 'it returns false'. Refute it at one input. -/
def fnIntegerReplyDistinctAndSizedWrong : ChangeSpec := { name := "fnIntegerReplyDistinctAndSized", fn := fun _ => fun
  | [d1, d2] => { results := [.lit (.bool false)], args := [d1, d2] }
  | _ => none }
def FnIntegerReplyDistinctAndSizedWrongFalsely : Prop := fnIntegerReplyDistinctAndSizedRow.holds Tryd.pinned (OpenSpec.ofChange fnIntegerReplyDistinctAndSizedWrong)

/-- 'zzlaws_internal_resp_b1.FnReadCommandArrayExact': WHATEVER THE INPUT: true; the input reads as it did. -/
def fnReadCommandArrayExactSpec : ChangeSpec := { name := "fnReadCommandArrayExact", fn := fun _ => fun
  | [d] => { results := [.lit (.bool true)], args := [d] }
  | _ => none }
def fnReadCommandArrayExactRow : OpenClaim := { program := "qxb6616140adoor", sum := "c1a50da4d3acf34cac7851263cbd1cbd0f25b7b3758dede6db313bf10f60aa49", func := "example.com/rungset/rungset/zzlaws_internal_resp_b1.FnReadCommandArrayExact", spec := "fnReadCommandArrayExact", inPlace := ["internal/bytealg.IndexByte", "internal/reflectlite.TypeOf"], unfollowed := true, recurses := true, named := ["bufio.ErrNegativeCount", "bufio.ErrBufferFull", "bufio.errNegativeRead", "io.ErrNoProgress", "io.EOF", "io.ErrUnexpectedEOF", "strconv.ErrSyntax", "strconv.ErrRange", "internal/strconv.uint64pow10", "math/bits.deBruijn32tab", "math/bits.deBruijn64tab", "io.ErrShortBuffer", "encoding/hex.ErrLength"], apart := false, laid := [("math/bits.deBruijn32tab", laid_math_bits_deBruijn32tab), ("math/bits.deBruijn64tab", laid_math_bits_deBruijn64tab), ("internal/strconv.uint64pow10", laid_internal_strconv_uint64pow10), ("strconv.ErrRange", laid_strconv_ErrRange), ("strconv.ErrSyntax", laid_strconv_ErrSyntax), ("io.ErrShortBuffer", laid_io_ErrShortBuffer), ("io.EOF", laid_io_EOF), ("io.ErrUnexpectedEOF", laid_io_ErrUnexpectedEOF), ("io.ErrNoProgress", laid_io_ErrNoProgress), ("bufio.ErrBufferFull", laid_bufio_ErrBufferFull), ("bufio.ErrNegativeCount", laid_bufio_ErrNegativeCount), ("bufio.errNegativeRead", laid_bufio_errNegativeRead), ("encoding/hex.ErrLength", laid_encoding_hex_ErrLength)] }
def FnReadCommandArrayExactSaid : Prop := fnReadCommandArrayExactRow.holds Tryd.pinned (OpenSpec.ofChange fnReadCommandArrayExactSpec)

/-- ITS FALSE NEIGHBOUR: 'it returns false'. Refute it at one input. -/
def fnReadCommandArrayExactWrong : ChangeSpec := { name := "fnReadCommandArrayExact", fn := fun _ => fun
  | [d] => { results := [.lit (.bool false)], args := [d] }
  | _ => none }
def FnReadCommandArrayExactWrongFalsely : Prop := fnReadCommandArrayExactRow.holds Tryd.pinned (OpenSpec.ofChange fnReadCommandArrayExactWrong)

/-- 'zzlaws_internal_resp_b1.FnReadCommandInlineWords': WHATEVER THE INPUT: true; the input reads as it did. -/
def fnReadCommandInlineWordsSpec : ChangeSpec := { name := "fnReadCommandInlineWords", fn := fun _ => fun
  | [d] => { results := [.lit (.bool true)], args := [d] }
  | _ => none }
def fnReadCommandInlineWordsRow : OpenClaim := { program := "qxb6616140adoor", sum := "c1a50da4d3acf34cac7851263cbd1cbd0f25b7b3758dede6db313bf10f60aa49", func := "example.com/rungset/rungset/zzlaws_internal_resp_b1.FnReadCommandInlineWords", spec := "fnReadCommandInlineWords", inPlace := ["internal/bytealg.IndexByte", "internal/reflectlite.TypeOf"], unfollowed := true, recurses := true, named := ["bufio.ErrNegativeCount", "bufio.ErrBufferFull", "bufio.errNegativeRead", "io.ErrNoProgress", "io.EOF", "io.ErrUnexpectedEOF", "strconv.ErrSyntax", "strconv.ErrRange", "internal/strconv.uint64pow10", "math/bits.deBruijn32tab", "math/bits.deBruijn64tab", "io.ErrShortBuffer", "encoding/hex.ErrLength"], apart := false, laid := [("math/bits.deBruijn32tab", laid_math_bits_deBruijn32tab), ("math/bits.deBruijn64tab", laid_math_bits_deBruijn64tab), ("internal/strconv.uint64pow10", laid_internal_strconv_uint64pow10), ("strconv.ErrRange", laid_strconv_ErrRange), ("strconv.ErrSyntax", laid_strconv_ErrSyntax), ("io.ErrShortBuffer", laid_io_ErrShortBuffer), ("io.EOF", laid_io_EOF), ("io.ErrUnexpectedEOF", laid_io_ErrUnexpectedEOF), ("io.ErrNoProgress", laid_io_ErrNoProgress), ("bufio.ErrBufferFull", laid_bufio_ErrBufferFull), ("bufio.ErrNegativeCount", laid_bufio_ErrNegativeCount), ("bufio.errNegativeRead", laid_bufio_errNegativeRead), ("encoding/hex.ErrLength", laid_encoding_hex_ErrLength)] }
def FnReadCommandInlineWordsSaid : Prop := fnReadCommandInlineWordsRow.holds Tryd.pinned (OpenSpec.ofChange fnReadCommandInlineWordsSpec)

/-- ITS FALSE NEIGHBOUR: 'it returns false'. Refute it at one input. -/
def fnReadCommandInlineWordsWrong : ChangeSpec := { name := "fnReadCommandInlineWords", fn := fun _ => fun
  | [d] => { results := [.lit (.bool false)], args := [d] }
  | _ => none }
def FnReadCommandInlineWordsWrongFalsely : Prop := fnReadCommandInlineWordsRow.holds Tryd.pinned (OpenSpec.ofChange fnReadCommandInlineWordsWrong)

/-- 'zzlaws_internal_resp_b1.FnReadArrayTwoInARow': WHATEVER THE INPUT: true; the input reads as it did. -/
def fnReadArrayTwoInARowSpec : ChangeSpec := { name := "fnReadArrayTwoInARow", fn := fun _ => fun
  | [d1, d2] => { results := [.lit (.bool true)], args := [d1, d2] }
  | _ => none }
def fnReadArrayTwoInARowRow : OpenClaim := { program := "qxb6616140adoor", sum := "c1a50da4d3acf34cac7851263cbd1cbd0f25b7b3758dede6db313bf10f60aa49", func := "example.com/rungset/rungset/zzlaws_internal_resp_b1.FnReadArrayTwoInARow", spec := "fnReadArrayTwoInARow", inPlace := ["internal/bytealg.IndexByte", "internal/reflectlite.TypeOf"], unfollowed := true, recurses := true, named := ["bufio.ErrBufferFull", "bufio.errNegativeRead", "io.ErrNoProgress", "io.EOF", "io.ErrUnexpectedEOF", "strconv.ErrSyntax", "strconv.ErrRange", "internal/strconv.uint64pow10", "math/bits.deBruijn32tab", "math/bits.deBruijn64tab", "io.ErrShortBuffer"], apart := false, laid := [("math/bits.deBruijn32tab", laid_math_bits_deBruijn32tab), ("math/bits.deBruijn64tab", laid_math_bits_deBruijn64tab), ("internal/strconv.uint64pow10", laid_internal_strconv_uint64pow10), ("strconv.ErrRange", laid_strconv_ErrRange), ("strconv.ErrSyntax", laid_strconv_ErrSyntax), ("io.ErrShortBuffer", laid_io_ErrShortBuffer), ("io.EOF", laid_io_EOF), ("io.ErrUnexpectedEOF", laid_io_ErrUnexpectedEOF), ("io.ErrNoProgress", laid_io_ErrNoProgress), ("bufio.ErrBufferFull", laid_bufio_ErrBufferFull), ("bufio.errNegativeRead", laid_bufio_errNegativeRead)] }
def FnReadArrayTwoInARowSaid : Prop := fnReadArrayTwoInARowRow.holds Tryd.pinned (OpenSpec.ofChange fnReadArrayTwoInARowSpec)

/-- ITS FALSE NEIGHBOUR: 'it returns false'. Refute it at one input. -/
def fnReadArrayTwoInARowWrong : ChangeSpec := { name := "fnReadArrayTwoInARow", fn := fun _ => fun
  | [d1, d2] => { results := [.lit (.bool false)], args := [d1, d2] }
  | _ => none }
def FnReadArrayTwoInARowWrongFalsely : Prop := fnReadArrayTwoInARowRow.holds Tryd.pinned (OpenSpec.ofChange fnReadArrayTwoInARowWrong)

/-- 'zzlaws_internal_resp_b1.FnReadArrayRefusesNonBulkElement': WHATEVER THE INPUT: true; the input reads as it did. -/
def fnReadArrayRefusesNonBulkElementSpec : ChangeSpec := { name := "fnReadArrayRefusesNonBulkElement", fn := fun _ => fun
  | [d1, d2, d3] => { results := [.lit (.bool true)], args := [d1, d2, d3] }
  | _ => none }
def fnReadArrayRefusesNonBulkElementRow : OpenClaim := { program := "qxb6616140adoor", sum := "c1a50da4d3acf34cac7851263cbd1cbd0f25b7b3758dede6db313bf10f60aa49", func := "example.com/rungset/rungset/zzlaws_internal_resp_b1.FnReadArrayRefusesNonBulkElement", spec := "fnReadArrayRefusesNonBulkElement", inPlace := ["internal/bytealg.IndexByte", "internal/reflectlite.TypeOf"], unfollowed := true, recurses := true, named := ["bufio.ErrBufferFull", "bufio.errNegativeRead", "io.ErrNoProgress", "io.EOF", "io.ErrUnexpectedEOF", "strconv.ErrSyntax", "strconv.ErrRange", "internal/strconv.uint64pow10", "math/bits.deBruijn32tab", "math/bits.deBruijn64tab", "io.ErrShortBuffer"], apart := false, laid := [("math/bits.deBruijn32tab", laid_math_bits_deBruijn32tab), ("math/bits.deBruijn64tab", laid_math_bits_deBruijn64tab), ("internal/strconv.uint64pow10", laid_internal_strconv_uint64pow10), ("strconv.ErrRange", laid_strconv_ErrRange), ("strconv.ErrSyntax", laid_strconv_ErrSyntax), ("io.ErrShortBuffer", laid_io_ErrShortBuffer), ("io.EOF", laid_io_EOF), ("io.ErrUnexpectedEOF", laid_io_ErrUnexpectedEOF), ("io.ErrNoProgress", laid_io_ErrNoProgress), ("bufio.ErrBufferFull", laid_bufio_ErrBufferFull), ("bufio.errNegativeRead", laid_bufio_errNegativeRead)] }
def FnReadArrayRefusesNonBulkElementSaid : Prop := fnReadArrayRefusesNonBulkElementRow.holds Tryd.pinned (OpenSpec.ofChange fnReadArrayRefusesNonBulkElementSpec)

/-- ITS FALSE NEIGHBOUR: 'it returns false'. Refute it at one input. -/
def fnReadArrayRefusesNonBulkElementWrong : ChangeSpec := { name := "fnReadArrayRefusesNonBulkElement", fn := fun _ => fun
  | [d1, d2, d3] => { results := [.lit (.bool false)], args := [d1, d2, d3] }
  | _ => none }
def FnReadArrayRefusesNonBulkElementWrongFalsely : Prop := fnReadArrayRefusesNonBulkElementRow.holds Tryd.pinned (OpenSpec.ofChange fnReadArrayRefusesNonBulkElementWrong)

/-- 'zzlaws_internal_resp_b1.FnTruncatedArrayIsUnexpectedEOF': WHATEVER THE INPUT: true; the input reads as it did. -/
def fnTruncatedArrayIsUnexpectedEOFSpec : ChangeSpec := { name := "fnTruncatedArrayIsUnexpectedEOF", fn := fun _ => fun
  | [d1, d2] => { results := [.lit (.bool true)], args := [d1, d2] }
  | _ => none }
def fnTruncatedArrayIsUnexpectedEOFRow : OpenClaim := { program := "qxb6616140adoor", sum := "c1a50da4d3acf34cac7851263cbd1cbd0f25b7b3758dede6db313bf10f60aa49", func := "example.com/rungset/rungset/zzlaws_internal_resp_b1.FnTruncatedArrayIsUnexpectedEOF", spec := "fnTruncatedArrayIsUnexpectedEOF", inPlace := ["internal/bytealg.IndexByte", "internal/reflectlite.TypeOf"], unfollowed := true, recurses := true, named := ["bufio.ErrBufferFull", "bufio.errNegativeRead", "io.ErrNoProgress", "io.EOF", "io.ErrUnexpectedEOF", "strconv.ErrSyntax", "strconv.ErrRange", "internal/strconv.uint64pow10", "math/bits.deBruijn32tab", "math/bits.deBruijn64tab", "io.ErrShortBuffer"], apart := false, laid := [("math/bits.deBruijn32tab", laid_math_bits_deBruijn32tab), ("math/bits.deBruijn64tab", laid_math_bits_deBruijn64tab), ("internal/strconv.uint64pow10", laid_internal_strconv_uint64pow10), ("strconv.ErrRange", laid_strconv_ErrRange), ("strconv.ErrSyntax", laid_strconv_ErrSyntax), ("io.ErrShortBuffer", laid_io_ErrShortBuffer), ("io.EOF", laid_io_EOF), ("io.ErrUnexpectedEOF", laid_io_ErrUnexpectedEOF), ("io.ErrNoProgress", laid_io_ErrNoProgress), ("bufio.ErrBufferFull", laid_bufio_ErrBufferFull), ("bufio.errNegativeRead", laid_bufio_errNegativeRead)] }
def FnTruncatedArrayIsUnexpectedEOFSaid : Prop := fnTruncatedArrayIsUnexpectedEOFRow.holds Tryd.pinned (OpenSpec.ofChange fnTruncatedArrayIsUnexpectedEOFSpec)

/-- ITS FALSE NEIGHBOUR: 'it returns false'. Refute it at one input. -/
def fnTruncatedArrayIsUnexpectedEOFWrong : ChangeSpec := { name := "fnTruncatedArrayIsUnexpectedEOF", fn := fun _ => fun
  | [d1, d2] => { results := [.lit (.bool false)], args := [d1, d2] }
  | _ => none }
def FnTruncatedArrayIsUnexpectedEOFWrongFalsely : Prop := fnTruncatedArrayIsUnexpectedEOFRow.holds Tryd.pinned (OpenSpec.ofChange fnTruncatedArrayIsUnexpectedEOFWrong)

/-- 'zzlaws_internal_resp_b1.FnEOFBetweenVersusInsideRequests': WHATEVER THE INPUT: true; the input reads as it did. -/
def fnEOFBetweenVersusInsideRequestsSpec : ChangeSpec := { name := "fnEOFBetweenVersusInsideRequests", fn := fun _ => fun
  | [d1, d2, d3] => { results := [.lit (.bool true)], args := [d1, d2, d3] }
  | _ => none }
def fnEOFBetweenVersusInsideRequestsRow : OpenClaim := { program := "qxb6616140adoor", sum := "c1a50da4d3acf34cac7851263cbd1cbd0f25b7b3758dede6db313bf10f60aa49", func := "example.com/rungset/rungset/zzlaws_internal_resp_b1.FnEOFBetweenVersusInsideRequests", spec := "fnEOFBetweenVersusInsideRequests", inPlace := ["internal/bytealg.IndexByte", "internal/reflectlite.TypeOf"], unfollowed := true, recurses := true, named := ["bufio.ErrNegativeCount", "bufio.ErrBufferFull", "bufio.errNegativeRead", "io.ErrNoProgress", "io.EOF", "io.ErrUnexpectedEOF", "strconv.ErrSyntax", "strconv.ErrRange", "internal/strconv.uint64pow10", "math/bits.deBruijn32tab", "math/bits.deBruijn64tab", "io.ErrShortBuffer", "encoding/hex.ErrLength"], apart := false, laid := [("math/bits.deBruijn32tab", laid_math_bits_deBruijn32tab), ("math/bits.deBruijn64tab", laid_math_bits_deBruijn64tab), ("internal/strconv.uint64pow10", laid_internal_strconv_uint64pow10), ("strconv.ErrRange", laid_strconv_ErrRange), ("strconv.ErrSyntax", laid_strconv_ErrSyntax), ("io.ErrShortBuffer", laid_io_ErrShortBuffer), ("io.EOF", laid_io_EOF), ("io.ErrUnexpectedEOF", laid_io_ErrUnexpectedEOF), ("io.ErrNoProgress", laid_io_ErrNoProgress), ("bufio.ErrBufferFull", laid_bufio_ErrBufferFull), ("bufio.ErrNegativeCount", laid_bufio_ErrNegativeCount), ("bufio.errNegativeRead", laid_bufio_errNegativeRead), ("encoding/hex.ErrLength", laid_encoding_hex_ErrLength)] }
def FnEOFBetweenVersusInsideRequestsSaid : Prop := fnEOFBetweenVersusInsideRequestsRow.holds Tryd.pinned (OpenSpec.ofChange fnEOFBetweenVersusInsideRequestsSpec)

/-- ITS FALSE NEIGHBOUR: 'it returns false'. Refute it at one input. -/
def fnEOFBetweenVersusInsideRequestsWrong : ChangeSpec := { name := "fnEOFBetweenVersusInsideRequests", fn := fun _ => fun
  | [d1, d2, d3] => { results := [.lit (.bool false)], args := [d1, d2, d3] }
  | _ => none }
def FnEOFBetweenVersusInsideRequestsWrongFalsely : Prop := fnEOFBetweenVersusInsideRequestsRow.holds Tryd.pinned (OpenSpec.ofChange fnEOFBetweenVersusInsideRequestsWrong)

end Rows
end Go.Proofs.Qxb6616140aDoor
