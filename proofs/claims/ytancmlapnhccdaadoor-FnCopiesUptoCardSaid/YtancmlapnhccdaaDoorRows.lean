/-
  NARROWER THAN 'FOR EVERY INPUT', by the rows' own cells (each row's printed sentence says how): FnSizes: laid · FnUnreadByte: laid · FnUnreadRune: laid · FnWriteTo: laid · FnReadFrom: laid · FnCopies: laid · FnApart: laid · FnFlushed: laid · FnLines: laid · FnNegative: laid · FnOtherKinds: laid · FnPeekFull: laid · FnPeeks: laid · FnPieces: laid · FnRun: laid · FnRunes: laid · FnRunesWritten: laid · FnSink: laid.
  DERIVED. THE GIVEN ROWS OF THIS SEAT. 18 by the template 'for every input the law returns true; each argument reads behind the call as it read before'; 0 by the template 'total and deterministic' (their statements: YtancmlapnhccdaaDoorTotals.lean).
  GIVEN WITH THE SEED: the statements are not yours to turn. If you find one false, say at which input.
  Laid BY PROGRAM, IN A SANDBOX (cutbox-rows.mjs): the forced cells as the released guide's own fill.sh prints them over the translation c3b6397407d5b46d… (all of the seat's roots in one cut). By AI agents, Wed Nov 11 2026. No macro, syntax, notation, axiom, sorry.
-/
import Derived.Test.YtancmlapnhccdaaDoorChecked
import GoSem.PinnedTables
import GoSem.Claim
import GoSem.ClaimJoined
import GoSem.ClaimMapViews
import Derived.JoinedTies
import Derived.KernelRfl
namespace Go.Proofs.YtancmlapnhccdaaDoor
/- THE CELL 'sum', in the pinned program and in every row, IS THE sha256 OF THE DUMP (.gsa) THAT YtancmlapnhccdaaDoorProg.lean LOADS. Nothing in Lean hashes anything: it is a label: what it is worth is what the hold of that sum in a sandbox is worth. -/
noncomputable def Tryd.pinned : Pinned := { name := "ytancmlapnhccdaadoor", sum := "c3b6397407d5b46d03fae6465d1a4adf9e4088796afe61a932dcf281fd0b9005", checked := Tryd.checked }
namespace Rows
def none {H : Type} : Left H := { results := [], args := [] }

/- WHAT THE LISTED PACKAGE-LEVEL VARIABLES READ AS WHEN THE CALL BEGINS. Each datum BY PROGRAM (the guide's laid-datum.mjs) off the statement by which the dump's own 'gosem.cut.vars' lays the variable. In a bare row this is a premise. The card (YtancmlapnhccdaaDoorCards.lean) ties it to the program's text. -/
def laid_unicode_utf8_acceptRanges {H : Type} : DataW H := .agg [.agg [.lit (.int .u8 128), .lit (.int .u8 191)], .agg [.lit (.int .u8 160), .lit (.int .u8 191)], .agg [.lit (.int .u8 128), .lit (.int .u8 159)], .agg [.lit (.int .u8 144), .lit (.int .u8 191)], .agg [.lit (.int .u8 128), .lit (.int .u8 143)], .agg [.lit (.int .u8 0), .lit (.int .u8 0)], .agg [.lit (.int .u8 0), .lit (.int .u8 0)], .agg [.lit (.int .u8 0), .lit (.int .u8 0)], .agg [.lit (.int .u8 0), .lit (.int .u8 0)], .agg [.lit (.int .u8 0), .lit (.int .u8 0)], .agg [.lit (.int .u8 0), .lit (.int .u8 0)], .agg [.lit (.int .u8 0), .lit (.int .u8 0)], .agg [.lit (.int .u8 0), .lit (.int .u8 0)], .agg [.lit (.int .u8 0), .lit (.int .u8 0)], .agg [.lit (.int .u8 0), .lit (.int .u8 0)], .agg [.lit (.int .u8 0), .lit (.int .u8 0)]]
def laid_io_ErrShortWrite {H : Type} : DataW H := .iface "*errors.errorString" (.ptr (.agg [.lit (.string [115, 104, 111, 114, 116, 32, 119, 114, 105, 116, 101])]))
def laid_io_EOF {H : Type} : DataW H := .iface "*errors.errorString" (.ptr (.agg [.lit (.string [69, 79, 70])]))
def laid_io_ErrNoProgress {H : Type} : DataW H := .iface "*errors.errorString" (.ptr (.agg [.lit (.string [109, 117, 108, 116, 105, 112, 108, 101, 32, 82, 101, 97, 100, 32, 99, 97, 108, 108, 115, 32, 114, 101, 116, 117, 114, 110, 32, 110, 111, 32, 100, 97, 116, 97, 32, 111, 114, 32, 101, 114, 114, 111, 114])]))
def laid_bufio_ErrInvalidUnreadByte {H : Type} : DataW H := .iface "*errors.errorString" (.ptr (.agg [.lit (.string [98, 117, 102, 105, 111, 58, 32, 105, 110, 118, 97, 108, 105, 100, 32, 117, 115, 101, 32, 111, 102, 32, 85, 110, 114, 101, 97, 100, 66, 121, 116, 101])]))
def laid_bufio_ErrInvalidUnreadRune {H : Type} : DataW H := .iface "*errors.errorString" (.ptr (.agg [.lit (.string [98, 117, 102, 105, 111, 58, 32, 105, 110, 118, 97, 108, 105, 100, 32, 117, 115, 101, 32, 111, 102, 32, 85, 110, 114, 101, 97, 100, 82, 117, 110, 101])]))
def laid_bufio_ErrBufferFull {H : Type} : DataW H := .iface "*errors.errorString" (.ptr (.agg [.lit (.string [98, 117, 102, 105, 111, 58, 32, 98, 117, 102, 102, 101, 114, 32, 102, 117, 108, 108])]))
def laid_bufio_ErrNegativeCount {H : Type} : DataW H := .iface "*errors.errorString" (.ptr (.agg [.lit (.string [98, 117, 102, 105, 111, 58, 32, 110, 101, 103, 97, 116, 105, 118, 101, 32, 99, 111, 117, 110, 116])]))
def laid_bufio_errNegativeRead {H : Type} : DataW H := .iface "*errors.errorString" (.ptr (.agg [.lit (.string [98, 117, 102, 105, 111, 58, 32, 114, 101, 97, 100, 101, 114, 32, 114, 101, 116, 117, 114, 110, 101, 100, 32, 110, 101, 103, 97, 116, 105, 118, 101, 32, 99, 111, 117, 110, 116, 32, 102, 114, 111, 109, 32, 82, 101, 97, 100])]))
/-- One of Go's own tables, pinned by name: the form's constant. -/
def laid_unicode_utf8_first : DataW Unit := Go.Pinned.utf8First
def laid_bufio_errNegativeWrite {H : Type} : DataW H := .iface "*errors.errorString" (.ptr (.agg [.lit (.string [98, 117, 102, 105, 111, 58, 32, 119, 114, 105, 116, 101, 114, 32, 114, 101, 116, 117, 114, 110, 101, 100, 32, 110, 101, 103, 97, 116, 105, 118, 101, 32, 99, 111, 117, 110, 116, 32, 102, 114, 111, 109, 32, 87, 114, 105, 116, 101])]))

/-- 'laws.FnSizes': WHATEVER THE INPUT: true; the input reads as it did. -/
def fnSizesSpec : ChangeSpec := { name := "fnSizes", fn := fun _ => fun
  | [d1, d2, d3, d4] => { results := [.lit (.bool true)], args := [d1, d2, d3, d4] }
  | _ => none }
def fnSizesRow : OpenClaim := { program := "ytancmlapnhccdaadoor", sum := "c3b6397407d5b46d03fae6465d1a4adf9e4088796afe61a932dcf281fd0b9005", func := "loop.example/lib-g03117/laws.FnSizes", spec := "fnSizes", inPlace := ["internal/bytealg.IndexByte", "internal/abi.NoEscape", "internal/bytealg.MakeNoZero"], unfollowed := true, recurses := true, named := ["bufio.errNegativeRead", "io.ErrNoProgress", "io.EOF", "bufio.ErrInvalidUnreadByte", "bufio.ErrInvalidUnreadRune", "bufio.ErrNegativeCount", "bufio.ErrBufferFull", "unicode/utf8.first", "unicode/utf8.acceptRanges", "io.ErrShortWrite"], apart := false, laid := [("unicode/utf8.acceptRanges", laid_unicode_utf8_acceptRanges), ("io.ErrShortWrite", laid_io_ErrShortWrite), ("io.EOF", laid_io_EOF), ("io.ErrNoProgress", laid_io_ErrNoProgress), ("bufio.ErrInvalidUnreadByte", laid_bufio_ErrInvalidUnreadByte), ("bufio.ErrInvalidUnreadRune", laid_bufio_ErrInvalidUnreadRune), ("bufio.ErrBufferFull", laid_bufio_ErrBufferFull), ("bufio.ErrNegativeCount", laid_bufio_ErrNegativeCount), ("bufio.errNegativeRead", laid_bufio_errNegativeRead), ("unicode/utf8.first", laid_unicode_utf8_first)] }
def FnSizesSaid : Prop := fnSizesRow.holds Tryd.pinned (OpenSpec.ofChange fnSizesSpec)

/-- ITS FALSE NEIGHBOUR: 'it returns false'. Refute it at one input. -/
def fnSizesWrong : ChangeSpec := { name := "fnSizes", fn := fun _ => fun
  | [d1, d2, d3, d4] => { results := [.lit (.bool false)], args := [d1, d2, d3, d4] }
  | _ => none }
def FnSizesWrongFalsely : Prop := fnSizesRow.holds Tryd.pinned (OpenSpec.ofChange fnSizesWrong)

/-- 'laws.FnUnreadByte': WHATEVER THE INPUT: true; the input reads as it did. -/
def fnUnreadByteSpec : ChangeSpec := { name := "fnUnreadByte", fn := fun _ => fun
  | [d1, d2] => { results := [.lit (.bool true)], args := [d1, d2] }
  | _ => none }
def fnUnreadByteRow : OpenClaim := { program := "ytancmlapnhccdaadoor", sum := "c3b6397407d5b46d03fae6465d1a4adf9e4088796afe61a932dcf281fd0b9005", func := "loop.example/lib-g03117/laws.FnUnreadByte", spec := "fnUnreadByte", inPlace := ["internal/bytealg.IndexByte", "internal/abi.NoEscape", "internal/bytealg.MakeNoZero"], unfollowed := true, recurses := true, named := ["bufio.errNegativeRead", "io.ErrNoProgress", "io.EOF", "bufio.ErrInvalidUnreadByte", "bufio.ErrInvalidUnreadRune", "bufio.ErrNegativeCount", "bufio.ErrBufferFull", "unicode/utf8.first", "unicode/utf8.acceptRanges", "io.ErrShortWrite"], apart := false, laid := [("unicode/utf8.acceptRanges", laid_unicode_utf8_acceptRanges), ("io.ErrShortWrite", laid_io_ErrShortWrite), ("io.EOF", laid_io_EOF), ("io.ErrNoProgress", laid_io_ErrNoProgress), ("bufio.ErrInvalidUnreadByte", laid_bufio_ErrInvalidUnreadByte), ("bufio.ErrInvalidUnreadRune", laid_bufio_ErrInvalidUnreadRune), ("bufio.ErrBufferFull", laid_bufio_ErrBufferFull), ("bufio.ErrNegativeCount", laid_bufio_ErrNegativeCount), ("bufio.errNegativeRead", laid_bufio_errNegativeRead), ("unicode/utf8.first", laid_unicode_utf8_first)] }
def FnUnreadByteSaid : Prop := fnUnreadByteRow.holds Tryd.pinned (OpenSpec.ofChange fnUnreadByteSpec)

/-- ITS FALSE NEIGHBOUR: 'it returns false'. Refute it at one input. -/
def fnUnreadByteWrong : ChangeSpec := { name := "fnUnreadByte", fn := fun _ => fun
  | [d1, d2] => { results := [.lit (.bool false)], args := [d1, d2] }
  | _ => none }
def FnUnreadByteWrongFalsely : Prop := fnUnreadByteRow.holds Tryd.pinned (OpenSpec.ofChange fnUnreadByteWrong)

/-- 'laws.FnUnreadRune': WHATEVER THE INPUT: true; the input reads as it did. -/
def fnUnreadRuneSpec : ChangeSpec := { name := "fnUnreadRune", fn := fun _ => fun
  | [d1, d2] => { results := [.lit (.bool true)], args := [d1, d2] }
  | _ => none }
def fnUnreadRuneRow : OpenClaim := { program := "ytancmlapnhccdaadoor", sum := "c3b6397407d5b46d03fae6465d1a4adf9e4088796afe61a932dcf281fd0b9005", func := "loop.example/lib-g03117/laws.FnUnreadRune", spec := "fnUnreadRune", inPlace := ["internal/bytealg.IndexByte", "internal/abi.NoEscape", "internal/bytealg.MakeNoZero"], unfollowed := true, recurses := true, named := ["bufio.errNegativeRead", "io.ErrNoProgress", "io.EOF", "bufio.ErrInvalidUnreadByte", "bufio.ErrInvalidUnreadRune", "bufio.ErrNegativeCount", "bufio.ErrBufferFull", "unicode/utf8.first", "unicode/utf8.acceptRanges", "io.ErrShortWrite"], apart := false, laid := [("unicode/utf8.acceptRanges", laid_unicode_utf8_acceptRanges), ("io.ErrShortWrite", laid_io_ErrShortWrite), ("io.EOF", laid_io_EOF), ("io.ErrNoProgress", laid_io_ErrNoProgress), ("bufio.ErrInvalidUnreadByte", laid_bufio_ErrInvalidUnreadByte), ("bufio.ErrInvalidUnreadRune", laid_bufio_ErrInvalidUnreadRune), ("bufio.ErrBufferFull", laid_bufio_ErrBufferFull), ("bufio.ErrNegativeCount", laid_bufio_ErrNegativeCount), ("bufio.errNegativeRead", laid_bufio_errNegativeRead), ("unicode/utf8.first", laid_unicode_utf8_first)] }
def FnUnreadRuneSaid : Prop := fnUnreadRuneRow.holds Tryd.pinned (OpenSpec.ofChange fnUnreadRuneSpec)

/-- ITS FALSE NEIGHBOUR: 'it returns false'. Refute it at one input. -/
def fnUnreadRuneWrong : ChangeSpec := { name := "fnUnreadRune", fn := fun _ => fun
  | [d1, d2] => { results := [.lit (.bool false)], args := [d1, d2] }
  | _ => none }
def FnUnreadRuneWrongFalsely : Prop := fnUnreadRuneRow.holds Tryd.pinned (OpenSpec.ofChange fnUnreadRuneWrong)

/-- 'laws.FnWriteTo': WHATEVER THE INPUT: true; the input reads as it did. -/
def fnWriteToSpec : ChangeSpec := { name := "fnWriteTo", fn := fun _ => fun
  | [d1, d2] => { results := [.lit (.bool true)], args := [d1, d2] }
  | _ => none }
def fnWriteToRow : OpenClaim := { program := "ytancmlapnhccdaadoor", sum := "c3b6397407d5b46d03fae6465d1a4adf9e4088796afe61a932dcf281fd0b9005", func := "loop.example/lib-g03117/laws.FnWriteTo", spec := "fnWriteTo", unfollowed := true, recurses := true, named := ["io.EOF", "bufio.errNegativeWrite", "bufio.errNegativeRead", "io.ErrNoProgress", "bufio.ErrInvalidUnreadByte", "bufio.ErrInvalidUnreadRune", "bufio.ErrNegativeCount", "bufio.ErrBufferFull"], apart := false, laid := [("io.EOF", laid_io_EOF), ("io.ErrNoProgress", laid_io_ErrNoProgress), ("bufio.ErrInvalidUnreadByte", laid_bufio_ErrInvalidUnreadByte), ("bufio.ErrInvalidUnreadRune", laid_bufio_ErrInvalidUnreadRune), ("bufio.ErrBufferFull", laid_bufio_ErrBufferFull), ("bufio.ErrNegativeCount", laid_bufio_ErrNegativeCount), ("bufio.errNegativeRead", laid_bufio_errNegativeRead), ("bufio.errNegativeWrite", laid_bufio_errNegativeWrite)] }
def FnWriteToSaid : Prop := fnWriteToRow.holds Tryd.pinned (OpenSpec.ofChange fnWriteToSpec)

/-- ITS FALSE NEIGHBOUR: 'it returns false'. Refute it at one input. -/
def fnWriteToWrong : ChangeSpec := { name := "fnWriteTo", fn := fun _ => fun
  | [d1, d2] => { results := [.lit (.bool false)], args := [d1, d2] }
  | _ => none }
def FnWriteToWrongFalsely : Prop := fnWriteToRow.holds Tryd.pinned (OpenSpec.ofChange fnWriteToWrong)

/-- 'laws.FnReadFrom': WHATEVER THE INPUT: true; the input reads as it did. -/
def fnReadFromSpec : ChangeSpec := { name := "fnReadFrom", fn := fun _ => fun
  | [d1, d2, d3] => { results := [.lit (.bool true)], args := [d1, d2, d3] }
  | _ => none }
def fnReadFromRow : OpenClaim := { program := "ytancmlapnhccdaadoor", sum := "c3b6397407d5b46d03fae6465d1a4adf9e4088796afe61a932dcf281fd0b9005", func := "loop.example/lib-g03117/laws.FnReadFrom", spec := "fnReadFrom", unfollowed := true, recurses := true, named := ["io.ErrShortWrite", "io.ErrNoProgress", "io.EOF", "bufio.ErrInvalidUnreadByte", "bufio.ErrInvalidUnreadRune", "bufio.ErrNegativeCount", "bufio.ErrBufferFull"], apart := false, laid := [("io.ErrShortWrite", laid_io_ErrShortWrite), ("io.EOF", laid_io_EOF), ("io.ErrNoProgress", laid_io_ErrNoProgress), ("bufio.ErrInvalidUnreadByte", laid_bufio_ErrInvalidUnreadByte), ("bufio.ErrInvalidUnreadRune", laid_bufio_ErrInvalidUnreadRune), ("bufio.ErrBufferFull", laid_bufio_ErrBufferFull), ("bufio.ErrNegativeCount", laid_bufio_ErrNegativeCount)] }
def FnReadFromSaid : Prop := fnReadFromRow.holds Tryd.pinned (OpenSpec.ofChange fnReadFromSpec)

/-- ITS FALSE NEIGHBOUR: 'it returns false'. Refute it at one input. -/
def fnReadFromWrong : ChangeSpec := { name := "fnReadFrom", fn := fun _ => fun
  | [d1, d2, d3] => { results := [.lit (.bool false)], args := [d1, d2, d3] }
  | _ => none }
def FnReadFromWrongFalsely : Prop := fnReadFromRow.holds Tryd.pinned (OpenSpec.ofChange fnReadFromWrong)

/-- 'laws.FnCopies': WHATEVER THE INPUT: true; the input reads as it did. -/
def fnCopiesSpec : ChangeSpec := { name := "fnCopies", fn := fun _ => fun
  | [d1, d2] => { results := [.lit (.bool true)], args := [d1, d2] }
  | _ => none }
def fnCopiesRow : OpenClaim := { program := "ytancmlapnhccdaadoor", sum := "c3b6397407d5b46d03fae6465d1a4adf9e4088796afe61a932dcf281fd0b9005", func := "loop.example/lib-g03117/laws.FnCopies", spec := "fnCopies", unfollowed := true, recurses := true, named := ["io.EOF", "bufio.errNegativeWrite", "bufio.errNegativeRead", "io.ErrNoProgress", "bufio.ErrInvalidUnreadByte", "bufio.ErrInvalidUnreadRune", "bufio.ErrNegativeCount", "bufio.ErrBufferFull", "io.ErrShortWrite"], apart := false, laid := [("io.ErrShortWrite", laid_io_ErrShortWrite), ("io.EOF", laid_io_EOF), ("io.ErrNoProgress", laid_io_ErrNoProgress), ("bufio.ErrInvalidUnreadByte", laid_bufio_ErrInvalidUnreadByte), ("bufio.ErrInvalidUnreadRune", laid_bufio_ErrInvalidUnreadRune), ("bufio.ErrBufferFull", laid_bufio_ErrBufferFull), ("bufio.ErrNegativeCount", laid_bufio_ErrNegativeCount), ("bufio.errNegativeRead", laid_bufio_errNegativeRead), ("bufio.errNegativeWrite", laid_bufio_errNegativeWrite)] }
def FnCopiesSaid : Prop := fnCopiesRow.holds Tryd.pinned (OpenSpec.ofChange fnCopiesSpec)

/-- ITS FALSE NEIGHBOUR: 'it returns false'. Refute it at one input. -/
def fnCopiesWrong : ChangeSpec := { name := "fnCopies", fn := fun _ => fun
  | [d1, d2] => { results := [.lit (.bool false)], args := [d1, d2] }
  | _ => none }
def FnCopiesWrongFalsely : Prop := fnCopiesRow.holds Tryd.pinned (OpenSpec.ofChange fnCopiesWrong)

/-- 'laws.FnApart': WHATEVER THE INPUT: true; the input reads as it did. -/
def fnApartSpec : ChangeSpec := { name := "fnApart", fn := fun _ => fun
  | [d1, d2, d3] => { results := [.lit (.bool true)], args := [d1, d2, d3] }
  | _ => none }
def fnApartRow : OpenClaim := { program := "ytancmlapnhccdaadoor", sum := "c3b6397407d5b46d03fae6465d1a4adf9e4088796afe61a932dcf281fd0b9005", func := "loop.example/lib-g03117/laws.FnApart", spec := "fnApart", inPlace := ["internal/bytealg.IndexByte", "internal/abi.NoEscape", "internal/bytealg.MakeNoZero"], unfollowed := true, recurses := true, named := ["bufio.errNegativeRead", "io.ErrNoProgress", "io.EOF", "bufio.ErrInvalidUnreadByte", "bufio.ErrInvalidUnreadRune", "bufio.ErrNegativeCount", "bufio.ErrBufferFull", "unicode/utf8.first", "unicode/utf8.acceptRanges", "io.ErrShortWrite"], apart := false, laid := [("unicode/utf8.acceptRanges", laid_unicode_utf8_acceptRanges), ("io.ErrShortWrite", laid_io_ErrShortWrite), ("io.EOF", laid_io_EOF), ("io.ErrNoProgress", laid_io_ErrNoProgress), ("bufio.ErrInvalidUnreadByte", laid_bufio_ErrInvalidUnreadByte), ("bufio.ErrInvalidUnreadRune", laid_bufio_ErrInvalidUnreadRune), ("bufio.ErrBufferFull", laid_bufio_ErrBufferFull), ("bufio.ErrNegativeCount", laid_bufio_ErrNegativeCount), ("bufio.errNegativeRead", laid_bufio_errNegativeRead), ("unicode/utf8.first", laid_unicode_utf8_first)] }
def FnApartSaid : Prop := fnApartRow.holds Tryd.pinned (OpenSpec.ofChange fnApartSpec)

/-- ITS FALSE NEIGHBOUR: 'it returns false'. Refute it at one input. -/
def fnApartWrong : ChangeSpec := { name := "fnApart", fn := fun _ => fun
  | [d1, d2, d3] => { results := [.lit (.bool false)], args := [d1, d2, d3] }
  | _ => none }
def FnApartWrongFalsely : Prop := fnApartRow.holds Tryd.pinned (OpenSpec.ofChange fnApartWrong)

/-- 'laws.FnFlushed': WHATEVER THE INPUT: true; the input reads as it did. -/
def fnFlushedSpec : ChangeSpec := { name := "fnFlushed", fn := fun _ => fun
  | [d1, d2] => { results := [.lit (.bool true)], args := [d1, d2] }
  | _ => none }
def fnFlushedRow : OpenClaim := { program := "ytancmlapnhccdaadoor", sum := "c3b6397407d5b46d03fae6465d1a4adf9e4088796afe61a932dcf281fd0b9005", func := "loop.example/lib-g03117/laws.FnFlushed", spec := "fnFlushed", inPlace := ["internal/bytealg.IndexByte", "internal/abi.NoEscape", "internal/bytealg.MakeNoZero"], unfollowed := true, recurses := true, named := ["bufio.errNegativeRead", "io.ErrNoProgress", "io.EOF", "bufio.ErrInvalidUnreadByte", "bufio.ErrInvalidUnreadRune", "bufio.ErrNegativeCount", "bufio.ErrBufferFull", "unicode/utf8.first", "unicode/utf8.acceptRanges", "io.ErrShortWrite"], apart := false, laid := [("unicode/utf8.acceptRanges", laid_unicode_utf8_acceptRanges), ("io.ErrShortWrite", laid_io_ErrShortWrite), ("io.EOF", laid_io_EOF), ("io.ErrNoProgress", laid_io_ErrNoProgress), ("bufio.ErrInvalidUnreadByte", laid_bufio_ErrInvalidUnreadByte), ("bufio.ErrInvalidUnreadRune", laid_bufio_ErrInvalidUnreadRune), ("bufio.ErrBufferFull", laid_bufio_ErrBufferFull), ("bufio.ErrNegativeCount", laid_bufio_ErrNegativeCount), ("bufio.errNegativeRead", laid_bufio_errNegativeRead), ("unicode/utf8.first", laid_unicode_utf8_first)] }
def FnFlushedSaid : Prop := fnFlushedRow.holds Tryd.pinned (OpenSpec.ofChange fnFlushedSpec)

/-- ITS FALSE NEIGHBOUR: 'it returns false'. Refute it at one input. -/
def fnFlushedWrong : ChangeSpec := { name := "fnFlushed", fn := fun _ => fun
  | [d1, d2] => { results := [.lit (.bool false)], args := [d1, d2] }
  | _ => none }
def FnFlushedWrongFalsely : Prop := fnFlushedRow.holds Tryd.pinned (OpenSpec.ofChange fnFlushedWrong)

/-- 'laws.FnLines': WHATEVER THE INPUT: true; the input reads as it did. -/
def fnLinesSpec : ChangeSpec := { name := "fnLines", fn := fun _ => fun
  | [d1, d2, d3] => { results := [.lit (.bool true)], args := [d1, d2, d3] }
  | _ => none }
def fnLinesRow : OpenClaim := { program := "ytancmlapnhccdaadoor", sum := "c3b6397407d5b46d03fae6465d1a4adf9e4088796afe61a932dcf281fd0b9005", func := "loop.example/lib-g03117/laws.FnLines", spec := "fnLines", inPlace := ["internal/bytealg.IndexByte", "internal/abi.NoEscape", "internal/bytealg.MakeNoZero"], unfollowed := true, recurses := true, named := ["bufio.errNegativeRead", "io.ErrNoProgress", "io.EOF", "bufio.ErrInvalidUnreadByte", "bufio.ErrInvalidUnreadRune", "bufio.ErrNegativeCount", "bufio.ErrBufferFull", "unicode/utf8.first", "unicode/utf8.acceptRanges", "io.ErrShortWrite"], apart := false, laid := [("unicode/utf8.acceptRanges", laid_unicode_utf8_acceptRanges), ("io.ErrShortWrite", laid_io_ErrShortWrite), ("io.EOF", laid_io_EOF), ("io.ErrNoProgress", laid_io_ErrNoProgress), ("bufio.ErrInvalidUnreadByte", laid_bufio_ErrInvalidUnreadByte), ("bufio.ErrInvalidUnreadRune", laid_bufio_ErrInvalidUnreadRune), ("bufio.ErrBufferFull", laid_bufio_ErrBufferFull), ("bufio.ErrNegativeCount", laid_bufio_ErrNegativeCount), ("bufio.errNegativeRead", laid_bufio_errNegativeRead), ("unicode/utf8.first", laid_unicode_utf8_first)] }
def FnLinesSaid : Prop := fnLinesRow.holds Tryd.pinned (OpenSpec.ofChange fnLinesSpec)

/-- ITS FALSE NEIGHBOUR: 'it returns false'. Refute it at one input. -/
def fnLinesWrong : ChangeSpec := { name := "fnLines", fn := fun _ => fun
  | [d1, d2, d3] => { results := [.lit (.bool false)], args := [d1, d2, d3] }
  | _ => none }
def FnLinesWrongFalsely : Prop := fnLinesRow.holds Tryd.pinned (OpenSpec.ofChange fnLinesWrong)

/-- 'laws.FnNegative': WHATEVER THE INPUT: true; the input reads as it did. -/
def fnNegativeSpec : ChangeSpec := { name := "fnNegative", fn := fun _ => fun
  | [d1, d2, d3] => { results := [.lit (.bool true)], args := [d1, d2, d3] }
  | _ => none }
def fnNegativeRow : OpenClaim := { program := "ytancmlapnhccdaadoor", sum := "c3b6397407d5b46d03fae6465d1a4adf9e4088796afe61a932dcf281fd0b9005", func := "loop.example/lib-g03117/laws.FnNegative", spec := "fnNegative", inPlace := ["internal/bytealg.IndexByte", "internal/abi.NoEscape", "internal/bytealg.MakeNoZero"], unfollowed := true, recurses := true, named := ["bufio.errNegativeRead", "io.ErrNoProgress", "io.EOF", "bufio.ErrInvalidUnreadByte", "bufio.ErrInvalidUnreadRune", "bufio.ErrNegativeCount", "bufio.ErrBufferFull", "unicode/utf8.first", "unicode/utf8.acceptRanges", "io.ErrShortWrite"], apart := false, laid := [("unicode/utf8.acceptRanges", laid_unicode_utf8_acceptRanges), ("io.ErrShortWrite", laid_io_ErrShortWrite), ("io.EOF", laid_io_EOF), ("io.ErrNoProgress", laid_io_ErrNoProgress), ("bufio.ErrInvalidUnreadByte", laid_bufio_ErrInvalidUnreadByte), ("bufio.ErrInvalidUnreadRune", laid_bufio_ErrInvalidUnreadRune), ("bufio.ErrBufferFull", laid_bufio_ErrBufferFull), ("bufio.ErrNegativeCount", laid_bufio_ErrNegativeCount), ("bufio.errNegativeRead", laid_bufio_errNegativeRead), ("unicode/utf8.first", laid_unicode_utf8_first)] }
def FnNegativeSaid : Prop := fnNegativeRow.holds Tryd.pinned (OpenSpec.ofChange fnNegativeSpec)

/-- ITS FALSE NEIGHBOUR: 'it returns false'. Refute it at one input. -/
def fnNegativeWrong : ChangeSpec := { name := "fnNegative", fn := fun _ => fun
  | [d1, d2, d3] => { results := [.lit (.bool false)], args := [d1, d2, d3] }
  | _ => none }
def FnNegativeWrongFalsely : Prop := fnNegativeRow.holds Tryd.pinned (OpenSpec.ofChange fnNegativeWrong)

/-- 'laws.FnOtherKinds': WHATEVER THE INPUT: true; the input reads as it did. -/
def fnOtherKindsSpec : ChangeSpec := { name := "fnOtherKinds", fn := fun _ => fun
  | [d1, d2, d3] => { results := [.lit (.bool true)], args := [d1, d2, d3] }
  | _ => none }
def fnOtherKindsRow : OpenClaim := { program := "ytancmlapnhccdaadoor", sum := "c3b6397407d5b46d03fae6465d1a4adf9e4088796afe61a932dcf281fd0b9005", func := "loop.example/lib-g03117/laws.FnOtherKinds", spec := "fnOtherKinds", inPlace := ["internal/bytealg.IndexByte", "internal/abi.NoEscape", "internal/bytealg.MakeNoZero"], unfollowed := true, recurses := true, named := ["bufio.errNegativeRead", "io.ErrNoProgress", "io.EOF", "bufio.ErrInvalidUnreadByte", "bufio.ErrInvalidUnreadRune", "bufio.ErrNegativeCount", "bufio.ErrBufferFull", "unicode/utf8.first", "unicode/utf8.acceptRanges", "io.ErrShortWrite"], apart := false, laid := [("unicode/utf8.acceptRanges", laid_unicode_utf8_acceptRanges), ("io.ErrShortWrite", laid_io_ErrShortWrite), ("io.EOF", laid_io_EOF), ("io.ErrNoProgress", laid_io_ErrNoProgress), ("bufio.ErrInvalidUnreadByte", laid_bufio_ErrInvalidUnreadByte), ("bufio.ErrInvalidUnreadRune", laid_bufio_ErrInvalidUnreadRune), ("bufio.ErrBufferFull", laid_bufio_ErrBufferFull), ("bufio.ErrNegativeCount", laid_bufio_ErrNegativeCount), ("bufio.errNegativeRead", laid_bufio_errNegativeRead), ("unicode/utf8.first", laid_unicode_utf8_first)] }
def FnOtherKindsSaid : Prop := fnOtherKindsRow.holds Tryd.pinned (OpenSpec.ofChange fnOtherKindsSpec)

/-- ITS FALSE NEIGHBOUR: 'it returns false'. Refute it at one input. -/
def fnOtherKindsWrong : ChangeSpec := { name := "fnOtherKinds", fn := fun _ => fun
  | [d1, d2, d3] => { results := [.lit (.bool false)], args := [d1, d2, d3] }
  | _ => none }
def FnOtherKindsWrongFalsely : Prop := fnOtherKindsRow.holds Tryd.pinned (OpenSpec.ofChange fnOtherKindsWrong)

/-- 'laws.FnPeekFull': WHATEVER THE INPUT: true; the input reads as it did. -/
def fnPeekFullSpec : ChangeSpec := { name := "fnPeekFull", fn := fun _ => fun
  | [d1, d2, d3] => { results := [.lit (.bool true)], args := [d1, d2, d3] }
  | _ => none }
def fnPeekFullRow : OpenClaim := { program := "ytancmlapnhccdaadoor", sum := "c3b6397407d5b46d03fae6465d1a4adf9e4088796afe61a932dcf281fd0b9005", func := "loop.example/lib-g03117/laws.FnPeekFull", spec := "fnPeekFull", inPlace := ["internal/bytealg.IndexByte", "internal/abi.NoEscape", "internal/bytealg.MakeNoZero"], unfollowed := true, recurses := true, named := ["bufio.errNegativeRead", "io.ErrNoProgress", "io.EOF", "bufio.ErrInvalidUnreadByte", "bufio.ErrInvalidUnreadRune", "bufio.ErrNegativeCount", "bufio.ErrBufferFull", "unicode/utf8.first", "unicode/utf8.acceptRanges", "io.ErrShortWrite"], apart := false, laid := [("unicode/utf8.acceptRanges", laid_unicode_utf8_acceptRanges), ("io.ErrShortWrite", laid_io_ErrShortWrite), ("io.EOF", laid_io_EOF), ("io.ErrNoProgress", laid_io_ErrNoProgress), ("bufio.ErrInvalidUnreadByte", laid_bufio_ErrInvalidUnreadByte), ("bufio.ErrInvalidUnreadRune", laid_bufio_ErrInvalidUnreadRune), ("bufio.ErrBufferFull", laid_bufio_ErrBufferFull), ("bufio.ErrNegativeCount", laid_bufio_ErrNegativeCount), ("bufio.errNegativeRead", laid_bufio_errNegativeRead), ("unicode/utf8.first", laid_unicode_utf8_first)] }
def FnPeekFullSaid : Prop := fnPeekFullRow.holds Tryd.pinned (OpenSpec.ofChange fnPeekFullSpec)

/-- ITS FALSE NEIGHBOUR: 'it returns false'. Refute it at one input. -/
def fnPeekFullWrong : ChangeSpec := { name := "fnPeekFull", fn := fun _ => fun
  | [d1, d2, d3] => { results := [.lit (.bool false)], args := [d1, d2, d3] }
  | _ => none }
def FnPeekFullWrongFalsely : Prop := fnPeekFullRow.holds Tryd.pinned (OpenSpec.ofChange fnPeekFullWrong)

/-- 'laws.FnPeeks': WHATEVER THE INPUT: true; the input reads as it did. -/
def fnPeeksSpec : ChangeSpec := { name := "fnPeeks", fn := fun _ => fun
  | [d1, d2, d3] => { results := [.lit (.bool true)], args := [d1, d2, d3] }
  | _ => none }
def fnPeeksRow : OpenClaim := { program := "ytancmlapnhccdaadoor", sum := "c3b6397407d5b46d03fae6465d1a4adf9e4088796afe61a932dcf281fd0b9005", func := "loop.example/lib-g03117/laws.FnPeeks", spec := "fnPeeks", inPlace := ["internal/bytealg.IndexByte", "internal/abi.NoEscape", "internal/bytealg.MakeNoZero"], unfollowed := true, recurses := true, named := ["bufio.errNegativeRead", "io.ErrNoProgress", "io.EOF", "bufio.ErrInvalidUnreadByte", "bufio.ErrInvalidUnreadRune", "bufio.ErrNegativeCount", "bufio.ErrBufferFull", "unicode/utf8.first", "unicode/utf8.acceptRanges", "io.ErrShortWrite"], apart := false, laid := [("unicode/utf8.acceptRanges", laid_unicode_utf8_acceptRanges), ("io.ErrShortWrite", laid_io_ErrShortWrite), ("io.EOF", laid_io_EOF), ("io.ErrNoProgress", laid_io_ErrNoProgress), ("bufio.ErrInvalidUnreadByte", laid_bufio_ErrInvalidUnreadByte), ("bufio.ErrInvalidUnreadRune", laid_bufio_ErrInvalidUnreadRune), ("bufio.ErrBufferFull", laid_bufio_ErrBufferFull), ("bufio.ErrNegativeCount", laid_bufio_ErrNegativeCount), ("bufio.errNegativeRead", laid_bufio_errNegativeRead), ("unicode/utf8.first", laid_unicode_utf8_first)] }
def FnPeeksSaid : Prop := fnPeeksRow.holds Tryd.pinned (OpenSpec.ofChange fnPeeksSpec)

/-- ITS FALSE NEIGHBOUR: 'it returns false'. Refute it at one input. -/
def fnPeeksWrong : ChangeSpec := { name := "fnPeeks", fn := fun _ => fun
  | [d1, d2, d3] => { results := [.lit (.bool false)], args := [d1, d2, d3] }
  | _ => none }
def FnPeeksWrongFalsely : Prop := fnPeeksRow.holds Tryd.pinned (OpenSpec.ofChange fnPeeksWrong)

/-- 'laws.FnPieces': WHATEVER THE INPUT: true; the input reads as it did. -/
def fnPiecesSpec : ChangeSpec := { name := "fnPieces", fn := fun _ => fun
  | [d1, d2, d3] => { results := [.lit (.bool true)], args := [d1, d2, d3] }
  | _ => none }
def fnPiecesRow : OpenClaim := { program := "ytancmlapnhccdaadoor", sum := "c3b6397407d5b46d03fae6465d1a4adf9e4088796afe61a932dcf281fd0b9005", func := "loop.example/lib-g03117/laws.FnPieces", spec := "fnPieces", inPlace := ["internal/bytealg.IndexByte", "internal/abi.NoEscape", "internal/bytealg.MakeNoZero"], unfollowed := true, recurses := true, named := ["bufio.errNegativeRead", "io.ErrNoProgress", "io.EOF", "bufio.ErrInvalidUnreadByte", "bufio.ErrInvalidUnreadRune", "bufio.ErrNegativeCount", "bufio.ErrBufferFull", "unicode/utf8.first", "unicode/utf8.acceptRanges", "io.ErrShortWrite"], apart := false, laid := [("unicode/utf8.acceptRanges", laid_unicode_utf8_acceptRanges), ("io.ErrShortWrite", laid_io_ErrShortWrite), ("io.EOF", laid_io_EOF), ("io.ErrNoProgress", laid_io_ErrNoProgress), ("bufio.ErrInvalidUnreadByte", laid_bufio_ErrInvalidUnreadByte), ("bufio.ErrInvalidUnreadRune", laid_bufio_ErrInvalidUnreadRune), ("bufio.ErrBufferFull", laid_bufio_ErrBufferFull), ("bufio.ErrNegativeCount", laid_bufio_ErrNegativeCount), ("bufio.errNegativeRead", laid_bufio_errNegativeRead), ("unicode/utf8.first", laid_unicode_utf8_first)] }
def FnPiecesSaid : Prop := fnPiecesRow.holds Tryd.pinned (OpenSpec.ofChange fnPiecesSpec)

/-- ITS FALSE NEIGHBOUR: 'it returns false'. Refute it at one input. -/
def fnPiecesWrong : ChangeSpec := { name := "fnPieces", fn := fun _ => fun
  | [d1, d2, d3] => { results := [.lit (.bool false)], args := [d1, d2, d3] }
  | _ => none }
def FnPiecesWrongFalsely : Prop := fnPiecesRow.holds Tryd.pinned (OpenSpec.ofChange fnPiecesWrong)

/-- 'laws.FnRun': WHATEVER THE INPUT: true; the input reads as it did. -/
def fnRunSpec : ChangeSpec := { name := "fnRun", fn := fun _ => fun
  | [d1, d2, d3] => { results := [.lit (.bool true)], args := [d1, d2, d3] }
  | _ => none }
def fnRunRow : OpenClaim := { program := "ytancmlapnhccdaadoor", sum := "c3b6397407d5b46d03fae6465d1a4adf9e4088796afe61a932dcf281fd0b9005", func := "loop.example/lib-g03117/laws.FnRun", spec := "fnRun", inPlace := ["internal/bytealg.IndexByte", "internal/abi.NoEscape", "internal/bytealg.MakeNoZero"], unfollowed := true, recurses := true, named := ["bufio.errNegativeRead", "io.ErrNoProgress", "io.EOF", "bufio.ErrInvalidUnreadByte", "bufio.ErrInvalidUnreadRune", "bufio.ErrNegativeCount", "bufio.ErrBufferFull", "unicode/utf8.first", "unicode/utf8.acceptRanges", "io.ErrShortWrite"], apart := false, laid := [("unicode/utf8.acceptRanges", laid_unicode_utf8_acceptRanges), ("io.ErrShortWrite", laid_io_ErrShortWrite), ("io.EOF", laid_io_EOF), ("io.ErrNoProgress", laid_io_ErrNoProgress), ("bufio.ErrInvalidUnreadByte", laid_bufio_ErrInvalidUnreadByte), ("bufio.ErrInvalidUnreadRune", laid_bufio_ErrInvalidUnreadRune), ("bufio.ErrBufferFull", laid_bufio_ErrBufferFull), ("bufio.ErrNegativeCount", laid_bufio_ErrNegativeCount), ("bufio.errNegativeRead", laid_bufio_errNegativeRead), ("unicode/utf8.first", laid_unicode_utf8_first)] }
def FnRunSaid : Prop := fnRunRow.holds Tryd.pinned (OpenSpec.ofChange fnRunSpec)

/-- ITS FALSE NEIGHBOUR: 'it returns false'. Refute it at one input. -/
def fnRunWrong : ChangeSpec := { name := "fnRun", fn := fun _ => fun
  | [d1, d2, d3] => { results := [.lit (.bool false)], args := [d1, d2, d3] }
  | _ => none }
def FnRunWrongFalsely : Prop := fnRunRow.holds Tryd.pinned (OpenSpec.ofChange fnRunWrong)

/-- 'laws.FnRunes': WHATEVER THE INPUT: true; the input reads as it did. -/
def fnRunesSpec : ChangeSpec := { name := "fnRunes", fn := fun _ => fun
  | [d1, d2] => { results := [.lit (.bool true)], args := [d1, d2] }
  | _ => none }
def fnRunesRow : OpenClaim := { program := "ytancmlapnhccdaadoor", sum := "c3b6397407d5b46d03fae6465d1a4adf9e4088796afe61a932dcf281fd0b9005", func := "loop.example/lib-g03117/laws.FnRunes", spec := "fnRunes", inPlace := ["internal/bytealg.IndexByte", "internal/abi.NoEscape", "internal/bytealg.MakeNoZero"], unfollowed := true, recurses := true, named := ["bufio.errNegativeRead", "io.ErrNoProgress", "io.EOF", "bufio.ErrInvalidUnreadByte", "bufio.ErrInvalidUnreadRune", "bufio.ErrNegativeCount", "bufio.ErrBufferFull", "unicode/utf8.first", "unicode/utf8.acceptRanges", "io.ErrShortWrite"], apart := false, laid := [("unicode/utf8.acceptRanges", laid_unicode_utf8_acceptRanges), ("io.ErrShortWrite", laid_io_ErrShortWrite), ("io.EOF", laid_io_EOF), ("io.ErrNoProgress", laid_io_ErrNoProgress), ("bufio.ErrInvalidUnreadByte", laid_bufio_ErrInvalidUnreadByte), ("bufio.ErrInvalidUnreadRune", laid_bufio_ErrInvalidUnreadRune), ("bufio.ErrBufferFull", laid_bufio_ErrBufferFull), ("bufio.ErrNegativeCount", laid_bufio_ErrNegativeCount), ("bufio.errNegativeRead", laid_bufio_errNegativeRead), ("unicode/utf8.first", laid_unicode_utf8_first)] }
def FnRunesSaid : Prop := fnRunesRow.holds Tryd.pinned (OpenSpec.ofChange fnRunesSpec)

/-- ITS FALSE NEIGHBOUR: 'it returns false'. Refute it at one input. -/
def fnRunesWrong : ChangeSpec := { name := "fnRunes", fn := fun _ => fun
  | [d1, d2] => { results := [.lit (.bool false)], args := [d1, d2] }
  | _ => none }
def FnRunesWrongFalsely : Prop := fnRunesRow.holds Tryd.pinned (OpenSpec.ofChange fnRunesWrong)

/-- 'laws.FnRunesWritten': WHATEVER THE INPUT: true; the input reads as it did. -/
def fnRunesWrittenSpec : ChangeSpec := { name := "fnRunesWritten", fn := fun _ => fun
  | [d1, d2] => { results := [.lit (.bool true)], args := [d1, d2] }
  | _ => none }
def fnRunesWrittenRow : OpenClaim := { program := "ytancmlapnhccdaadoor", sum := "c3b6397407d5b46d03fae6465d1a4adf9e4088796afe61a932dcf281fd0b9005", func := "loop.example/lib-g03117/laws.FnRunesWritten", spec := "fnRunesWritten", inPlace := ["internal/bytealg.IndexByte", "internal/abi.NoEscape", "internal/bytealg.MakeNoZero"], unfollowed := true, recurses := true, named := ["bufio.errNegativeRead", "io.ErrNoProgress", "io.EOF", "bufio.ErrInvalidUnreadByte", "bufio.ErrInvalidUnreadRune", "bufio.ErrNegativeCount", "bufio.ErrBufferFull", "unicode/utf8.first", "unicode/utf8.acceptRanges", "io.ErrShortWrite"], apart := false, laid := [("unicode/utf8.acceptRanges", laid_unicode_utf8_acceptRanges), ("io.ErrShortWrite", laid_io_ErrShortWrite), ("io.EOF", laid_io_EOF), ("io.ErrNoProgress", laid_io_ErrNoProgress), ("bufio.ErrInvalidUnreadByte", laid_bufio_ErrInvalidUnreadByte), ("bufio.ErrInvalidUnreadRune", laid_bufio_ErrInvalidUnreadRune), ("bufio.ErrBufferFull", laid_bufio_ErrBufferFull), ("bufio.ErrNegativeCount", laid_bufio_ErrNegativeCount), ("bufio.errNegativeRead", laid_bufio_errNegativeRead), ("unicode/utf8.first", laid_unicode_utf8_first)] }
def FnRunesWrittenSaid : Prop := fnRunesWrittenRow.holds Tryd.pinned (OpenSpec.ofChange fnRunesWrittenSpec)

/-- ITS FALSE NEIGHBOUR: 'it returns false'. Refute it at one input. -/
def fnRunesWrittenWrong : ChangeSpec := { name := "fnRunesWritten", fn := fun _ => fun
  | [d1, d2] => { results := [.lit (.bool false)], args := [d1, d2] }
  | _ => none }
def FnRunesWrittenWrongFalsely : Prop := fnRunesWrittenRow.holds Tryd.pinned (OpenSpec.ofChange fnRunesWrittenWrong)

/-- 'laws.FnSink': WHATEVER THE INPUT: true; the input reads as it did. -/
def fnSinkSpec : ChangeSpec := { name := "fnSink", fn := fun _ => fun
  | [d1, d2, d3] => { results := [.lit (.bool true)], args := [d1, d2, d3] }
  | _ => none }
def fnSinkRow : OpenClaim := { program := "ytancmlapnhccdaadoor", sum := "c3b6397407d5b46d03fae6465d1a4adf9e4088796afe61a932dcf281fd0b9005", func := "loop.example/lib-g03117/laws.FnSink", spec := "fnSink", inPlace := ["internal/bytealg.IndexByte", "internal/abi.NoEscape", "internal/bytealg.MakeNoZero"], unfollowed := true, recurses := true, named := ["bufio.errNegativeRead", "io.ErrNoProgress", "io.EOF", "bufio.ErrInvalidUnreadByte", "bufio.ErrInvalidUnreadRune", "bufio.ErrNegativeCount", "bufio.ErrBufferFull", "unicode/utf8.first", "unicode/utf8.acceptRanges", "io.ErrShortWrite"], apart := false, laid := [("unicode/utf8.acceptRanges", laid_unicode_utf8_acceptRanges), ("io.ErrShortWrite", laid_io_ErrShortWrite), ("io.EOF", laid_io_EOF), ("io.ErrNoProgress", laid_io_ErrNoProgress), ("bufio.ErrInvalidUnreadByte", laid_bufio_ErrInvalidUnreadByte), ("bufio.ErrInvalidUnreadRune", laid_bufio_ErrInvalidUnreadRune), ("bufio.ErrBufferFull", laid_bufio_ErrBufferFull), ("bufio.ErrNegativeCount", laid_bufio_ErrNegativeCount), ("bufio.errNegativeRead", laid_bufio_errNegativeRead), ("unicode/utf8.first", laid_unicode_utf8_first)] }
def FnSinkSaid : Prop := fnSinkRow.holds Tryd.pinned (OpenSpec.ofChange fnSinkSpec)

/-- ITS FALSE NEIGHBOUR: 'it returns false'. Refute it at one input. -/
def fnSinkWrong : ChangeSpec := { name := "fnSink", fn := fun _ => fun
  | [d1, d2, d3] => { results := [.lit (.bool false)], args := [d1, d2, d3] }
  | _ => none }
def FnSinkWrongFalsely : Prop := fnSinkRow.holds Tryd.pinned (OpenSpec.ofChange fnSinkWrong)

/- THE SECOND FORM. 'bulk': how many values and letters a reading holds, each counted each time it is reached (what is shared counts as often as it is met; a slice's spare places count too). A statement '..UptoSaid' is the law's where the arguments, and the package variables that the reading takes, are together of bulk at most 1048576: NARROWER than '..Said'. Prove '..Said' where nothing that the law and all that it calls make is longer than what came in: it says more and counts as full. Else prove '..UptoSaid'. A law counts once. -/
mutual
def uptoBulk {H : Type} : DataW H → Nat
  | .lit (.string bytes) => bytes.length + 1
  | .lit _ => 1
  | .nil => 1
  | .ptr d => uptoBulk d + 1
  | .slice elems spare => uptoBulkAll elems + uptoBulkAll spare + 1
  | .agg parts => uptoBulkAll parts + 1
  | .iface _ d => uptoBulk d + 1
  | .map entries => uptoBulkEntries entries + 1
  | .held _ => 1
def uptoBulkAll {H : Type} : List (DataW H) → Nat
  | [] => 0
  | d :: r => uptoBulk d + uptoBulkAll r
def uptoBulkEntries {H : Type} : List (Lit × DataW H) → Nat
  | [] => 0
  | x :: r => uptoBulkEntry x + uptoBulkEntries r
def uptoBulkEntry {H : Type} : Lit × DataW H → Nat
  | (.string bytes, d) => bytes.length + uptoBulk d + 1
  | (_, d) => uptoBulk d + 1
 end
def uptoSmall : (H : Type) → List (DataW H) → Bool := fun _ ds => decide (uptoBulkAll ds ≤ 1048576)
def OpenSpec.upto (s : _root_.Go.ChangeSpec) : _root_.Go.OpenSpec := { _root_.Go.OpenSpec.ofChange s with cond := some uptoSmall }

/-- 'laws.FnSizes', WHERE WHAT IT READS IS OF BULK AT MOST 1048576: true; the input reads as it did. -/
def fnSizesUptoRow : OpenClaim := { program := "ytancmlapnhccdaadoor", sum := "c3b6397407d5b46d03fae6465d1a4adf9e4088796afe61a932dcf281fd0b9005", func := "loop.example/lib-g03117/laws.FnSizes", spec := "fnSizes", inPlace := ["internal/bytealg.IndexByte", "internal/abi.NoEscape", "internal/bytealg.MakeNoZero"], unfollowed := true, recurses := true, named := ["bufio.errNegativeRead", "io.ErrNoProgress", "io.EOF", "bufio.ErrInvalidUnreadByte", "bufio.ErrInvalidUnreadRune", "bufio.ErrNegativeCount", "bufio.ErrBufferFull", "unicode/utf8.first", "unicode/utf8.acceptRanges", "io.ErrShortWrite"], apart := false, laid := [("unicode/utf8.acceptRanges", laid_unicode_utf8_acceptRanges), ("io.ErrShortWrite", laid_io_ErrShortWrite), ("io.EOF", laid_io_EOF), ("io.ErrNoProgress", laid_io_ErrNoProgress), ("bufio.ErrInvalidUnreadByte", laid_bufio_ErrInvalidUnreadByte), ("bufio.ErrInvalidUnreadRune", laid_bufio_ErrInvalidUnreadRune), ("bufio.ErrBufferFull", laid_bufio_ErrBufferFull), ("bufio.ErrNegativeCount", laid_bufio_ErrNegativeCount), ("bufio.errNegativeRead", laid_bufio_errNegativeRead), ("unicode/utf8.first", laid_unicode_utf8_first)], narrowed := true }
def FnSizesUptoSaid : Prop := fnSizesUptoRow.holds Tryd.pinned (OpenSpec.upto fnSizesSpec)

/-- 'laws.FnUnreadByte', WHERE WHAT IT READS IS OF BULK AT MOST 1048576: true; the input reads as it did. -/
def fnUnreadByteUptoRow : OpenClaim := { program := "ytancmlapnhccdaadoor", sum := "c3b6397407d5b46d03fae6465d1a4adf9e4088796afe61a932dcf281fd0b9005", func := "loop.example/lib-g03117/laws.FnUnreadByte", spec := "fnUnreadByte", inPlace := ["internal/bytealg.IndexByte", "internal/abi.NoEscape", "internal/bytealg.MakeNoZero"], unfollowed := true, recurses := true, named := ["bufio.errNegativeRead", "io.ErrNoProgress", "io.EOF", "bufio.ErrInvalidUnreadByte", "bufio.ErrInvalidUnreadRune", "bufio.ErrNegativeCount", "bufio.ErrBufferFull", "unicode/utf8.first", "unicode/utf8.acceptRanges", "io.ErrShortWrite"], apart := false, laid := [("unicode/utf8.acceptRanges", laid_unicode_utf8_acceptRanges), ("io.ErrShortWrite", laid_io_ErrShortWrite), ("io.EOF", laid_io_EOF), ("io.ErrNoProgress", laid_io_ErrNoProgress), ("bufio.ErrInvalidUnreadByte", laid_bufio_ErrInvalidUnreadByte), ("bufio.ErrInvalidUnreadRune", laid_bufio_ErrInvalidUnreadRune), ("bufio.ErrBufferFull", laid_bufio_ErrBufferFull), ("bufio.ErrNegativeCount", laid_bufio_ErrNegativeCount), ("bufio.errNegativeRead", laid_bufio_errNegativeRead), ("unicode/utf8.first", laid_unicode_utf8_first)], narrowed := true }
def FnUnreadByteUptoSaid : Prop := fnUnreadByteUptoRow.holds Tryd.pinned (OpenSpec.upto fnUnreadByteSpec)

/-- 'laws.FnUnreadRune', WHERE WHAT IT READS IS OF BULK AT MOST 1048576: true; the input reads as it did. -/
def fnUnreadRuneUptoRow : OpenClaim := { program := "ytancmlapnhccdaadoor", sum := "c3b6397407d5b46d03fae6465d1a4adf9e4088796afe61a932dcf281fd0b9005", func := "loop.example/lib-g03117/laws.FnUnreadRune", spec := "fnUnreadRune", inPlace := ["internal/bytealg.IndexByte", "internal/abi.NoEscape", "internal/bytealg.MakeNoZero"], unfollowed := true, recurses := true, named := ["bufio.errNegativeRead", "io.ErrNoProgress", "io.EOF", "bufio.ErrInvalidUnreadByte", "bufio.ErrInvalidUnreadRune", "bufio.ErrNegativeCount", "bufio.ErrBufferFull", "unicode/utf8.first", "unicode/utf8.acceptRanges", "io.ErrShortWrite"], apart := false, laid := [("unicode/utf8.acceptRanges", laid_unicode_utf8_acceptRanges), ("io.ErrShortWrite", laid_io_ErrShortWrite), ("io.EOF", laid_io_EOF), ("io.ErrNoProgress", laid_io_ErrNoProgress), ("bufio.ErrInvalidUnreadByte", laid_bufio_ErrInvalidUnreadByte), ("bufio.ErrInvalidUnreadRune", laid_bufio_ErrInvalidUnreadRune), ("bufio.ErrBufferFull", laid_bufio_ErrBufferFull), ("bufio.ErrNegativeCount", laid_bufio_ErrNegativeCount), ("bufio.errNegativeRead", laid_bufio_errNegativeRead), ("unicode/utf8.first", laid_unicode_utf8_first)], narrowed := true }
def FnUnreadRuneUptoSaid : Prop := fnUnreadRuneUptoRow.holds Tryd.pinned (OpenSpec.upto fnUnreadRuneSpec)

/-- 'laws.FnWriteTo', WHERE WHAT IT READS IS OF BULK AT MOST 1048576: true; the input reads as it did. -/
def fnWriteToUptoRow : OpenClaim := { program := "ytancmlapnhccdaadoor", sum := "c3b6397407d5b46d03fae6465d1a4adf9e4088796afe61a932dcf281fd0b9005", func := "loop.example/lib-g03117/laws.FnWriteTo", spec := "fnWriteTo", unfollowed := true, recurses := true, named := ["io.EOF", "bufio.errNegativeWrite", "bufio.errNegativeRead", "io.ErrNoProgress", "bufio.ErrInvalidUnreadByte", "bufio.ErrInvalidUnreadRune", "bufio.ErrNegativeCount", "bufio.ErrBufferFull"], apart := false, laid := [("io.EOF", laid_io_EOF), ("io.ErrNoProgress", laid_io_ErrNoProgress), ("bufio.ErrInvalidUnreadByte", laid_bufio_ErrInvalidUnreadByte), ("bufio.ErrInvalidUnreadRune", laid_bufio_ErrInvalidUnreadRune), ("bufio.ErrBufferFull", laid_bufio_ErrBufferFull), ("bufio.ErrNegativeCount", laid_bufio_ErrNegativeCount), ("bufio.errNegativeRead", laid_bufio_errNegativeRead), ("bufio.errNegativeWrite", laid_bufio_errNegativeWrite)], narrowed := true }
def FnWriteToUptoSaid : Prop := fnWriteToUptoRow.holds Tryd.pinned (OpenSpec.upto fnWriteToSpec)

/-- 'laws.FnReadFrom', WHERE WHAT IT READS IS OF BULK AT MOST 1048576: true; the input reads as it did. -/
def fnReadFromUptoRow : OpenClaim := { program := "ytancmlapnhccdaadoor", sum := "c3b6397407d5b46d03fae6465d1a4adf9e4088796afe61a932dcf281fd0b9005", func := "loop.example/lib-g03117/laws.FnReadFrom", spec := "fnReadFrom", unfollowed := true, recurses := true, named := ["io.ErrShortWrite", "io.ErrNoProgress", "io.EOF", "bufio.ErrInvalidUnreadByte", "bufio.ErrInvalidUnreadRune", "bufio.ErrNegativeCount", "bufio.ErrBufferFull"], apart := false, laid := [("io.ErrShortWrite", laid_io_ErrShortWrite), ("io.EOF", laid_io_EOF), ("io.ErrNoProgress", laid_io_ErrNoProgress), ("bufio.ErrInvalidUnreadByte", laid_bufio_ErrInvalidUnreadByte), ("bufio.ErrInvalidUnreadRune", laid_bufio_ErrInvalidUnreadRune), ("bufio.ErrBufferFull", laid_bufio_ErrBufferFull), ("bufio.ErrNegativeCount", laid_bufio_ErrNegativeCount)], narrowed := true }
def FnReadFromUptoSaid : Prop := fnReadFromUptoRow.holds Tryd.pinned (OpenSpec.upto fnReadFromSpec)

/-- 'laws.FnCopies', WHERE WHAT IT READS IS OF BULK AT MOST 1048576: true; the input reads as it did. -/
def fnCopiesUptoRow : OpenClaim := { program := "ytancmlapnhccdaadoor", sum := "c3b6397407d5b46d03fae6465d1a4adf9e4088796afe61a932dcf281fd0b9005", func := "loop.example/lib-g03117/laws.FnCopies", spec := "fnCopies", unfollowed := true, recurses := true, named := ["io.EOF", "bufio.errNegativeWrite", "bufio.errNegativeRead", "io.ErrNoProgress", "bufio.ErrInvalidUnreadByte", "bufio.ErrInvalidUnreadRune", "bufio.ErrNegativeCount", "bufio.ErrBufferFull", "io.ErrShortWrite"], apart := false, laid := [("io.ErrShortWrite", laid_io_ErrShortWrite), ("io.EOF", laid_io_EOF), ("io.ErrNoProgress", laid_io_ErrNoProgress), ("bufio.ErrInvalidUnreadByte", laid_bufio_ErrInvalidUnreadByte), ("bufio.ErrInvalidUnreadRune", laid_bufio_ErrInvalidUnreadRune), ("bufio.ErrBufferFull", laid_bufio_ErrBufferFull), ("bufio.ErrNegativeCount", laid_bufio_ErrNegativeCount), ("bufio.errNegativeRead", laid_bufio_errNegativeRead), ("bufio.errNegativeWrite", laid_bufio_errNegativeWrite)], narrowed := true }
def FnCopiesUptoSaid : Prop := fnCopiesUptoRow.holds Tryd.pinned (OpenSpec.upto fnCopiesSpec)

/-- 'laws.FnApart', WHERE WHAT IT READS IS OF BULK AT MOST 1048576: true; the input reads as it did. -/
def fnApartUptoRow : OpenClaim := { program := "ytancmlapnhccdaadoor", sum := "c3b6397407d5b46d03fae6465d1a4adf9e4088796afe61a932dcf281fd0b9005", func := "loop.example/lib-g03117/laws.FnApart", spec := "fnApart", inPlace := ["internal/bytealg.IndexByte", "internal/abi.NoEscape", "internal/bytealg.MakeNoZero"], unfollowed := true, recurses := true, named := ["bufio.errNegativeRead", "io.ErrNoProgress", "io.EOF", "bufio.ErrInvalidUnreadByte", "bufio.ErrInvalidUnreadRune", "bufio.ErrNegativeCount", "bufio.ErrBufferFull", "unicode/utf8.first", "unicode/utf8.acceptRanges", "io.ErrShortWrite"], apart := false, laid := [("unicode/utf8.acceptRanges", laid_unicode_utf8_acceptRanges), ("io.ErrShortWrite", laid_io_ErrShortWrite), ("io.EOF", laid_io_EOF), ("io.ErrNoProgress", laid_io_ErrNoProgress), ("bufio.ErrInvalidUnreadByte", laid_bufio_ErrInvalidUnreadByte), ("bufio.ErrInvalidUnreadRune", laid_bufio_ErrInvalidUnreadRune), ("bufio.ErrBufferFull", laid_bufio_ErrBufferFull), ("bufio.ErrNegativeCount", laid_bufio_ErrNegativeCount), ("bufio.errNegativeRead", laid_bufio_errNegativeRead), ("unicode/utf8.first", laid_unicode_utf8_first)], narrowed := true }
def FnApartUptoSaid : Prop := fnApartUptoRow.holds Tryd.pinned (OpenSpec.upto fnApartSpec)

/-- 'laws.FnFlushed', WHERE WHAT IT READS IS OF BULK AT MOST 1048576: true; the input reads as it did. -/
def fnFlushedUptoRow : OpenClaim := { program := "ytancmlapnhccdaadoor", sum := "c3b6397407d5b46d03fae6465d1a4adf9e4088796afe61a932dcf281fd0b9005", func := "loop.example/lib-g03117/laws.FnFlushed", spec := "fnFlushed", inPlace := ["internal/bytealg.IndexByte", "internal/abi.NoEscape", "internal/bytealg.MakeNoZero"], unfollowed := true, recurses := true, named := ["bufio.errNegativeRead", "io.ErrNoProgress", "io.EOF", "bufio.ErrInvalidUnreadByte", "bufio.ErrInvalidUnreadRune", "bufio.ErrNegativeCount", "bufio.ErrBufferFull", "unicode/utf8.first", "unicode/utf8.acceptRanges", "io.ErrShortWrite"], apart := false, laid := [("unicode/utf8.acceptRanges", laid_unicode_utf8_acceptRanges), ("io.ErrShortWrite", laid_io_ErrShortWrite), ("io.EOF", laid_io_EOF), ("io.ErrNoProgress", laid_io_ErrNoProgress), ("bufio.ErrInvalidUnreadByte", laid_bufio_ErrInvalidUnreadByte), ("bufio.ErrInvalidUnreadRune", laid_bufio_ErrInvalidUnreadRune), ("bufio.ErrBufferFull", laid_bufio_ErrBufferFull), ("bufio.ErrNegativeCount", laid_bufio_ErrNegativeCount), ("bufio.errNegativeRead", laid_bufio_errNegativeRead), ("unicode/utf8.first", laid_unicode_utf8_first)], narrowed := true }
def FnFlushedUptoSaid : Prop := fnFlushedUptoRow.holds Tryd.pinned (OpenSpec.upto fnFlushedSpec)

/-- 'laws.FnLines', WHERE WHAT IT READS IS OF BULK AT MOST 1048576: true; the input reads as it did. -/
def fnLinesUptoRow : OpenClaim := { program := "ytancmlapnhccdaadoor", sum := "c3b6397407d5b46d03fae6465d1a4adf9e4088796afe61a932dcf281fd0b9005", func := "loop.example/lib-g03117/laws.FnLines", spec := "fnLines", inPlace := ["internal/bytealg.IndexByte", "internal/abi.NoEscape", "internal/bytealg.MakeNoZero"], unfollowed := true, recurses := true, named := ["bufio.errNegativeRead", "io.ErrNoProgress", "io.EOF", "bufio.ErrInvalidUnreadByte", "bufio.ErrInvalidUnreadRune", "bufio.ErrNegativeCount", "bufio.ErrBufferFull", "unicode/utf8.first", "unicode/utf8.acceptRanges", "io.ErrShortWrite"], apart := false, laid := [("unicode/utf8.acceptRanges", laid_unicode_utf8_acceptRanges), ("io.ErrShortWrite", laid_io_ErrShortWrite), ("io.EOF", laid_io_EOF), ("io.ErrNoProgress", laid_io_ErrNoProgress), ("bufio.ErrInvalidUnreadByte", laid_bufio_ErrInvalidUnreadByte), ("bufio.ErrInvalidUnreadRune", laid_bufio_ErrInvalidUnreadRune), ("bufio.ErrBufferFull", laid_bufio_ErrBufferFull), ("bufio.ErrNegativeCount", laid_bufio_ErrNegativeCount), ("bufio.errNegativeRead", laid_bufio_errNegativeRead), ("unicode/utf8.first", laid_unicode_utf8_first)], narrowed := true }
def FnLinesUptoSaid : Prop := fnLinesUptoRow.holds Tryd.pinned (OpenSpec.upto fnLinesSpec)

/-- 'laws.FnNegative', WHERE WHAT IT READS IS OF BULK AT MOST 1048576: true; the input reads as it did. -/
def fnNegativeUptoRow : OpenClaim := { program := "ytancmlapnhccdaadoor", sum := "c3b6397407d5b46d03fae6465d1a4adf9e4088796afe61a932dcf281fd0b9005", func := "loop.example/lib-g03117/laws.FnNegative", spec := "fnNegative", inPlace := ["internal/bytealg.IndexByte", "internal/abi.NoEscape", "internal/bytealg.MakeNoZero"], unfollowed := true, recurses := true, named := ["bufio.errNegativeRead", "io.ErrNoProgress", "io.EOF", "bufio.ErrInvalidUnreadByte", "bufio.ErrInvalidUnreadRune", "bufio.ErrNegativeCount", "bufio.ErrBufferFull", "unicode/utf8.first", "unicode/utf8.acceptRanges", "io.ErrShortWrite"], apart := false, laid := [("unicode/utf8.acceptRanges", laid_unicode_utf8_acceptRanges), ("io.ErrShortWrite", laid_io_ErrShortWrite), ("io.EOF", laid_io_EOF), ("io.ErrNoProgress", laid_io_ErrNoProgress), ("bufio.ErrInvalidUnreadByte", laid_bufio_ErrInvalidUnreadByte), ("bufio.ErrInvalidUnreadRune", laid_bufio_ErrInvalidUnreadRune), ("bufio.ErrBufferFull", laid_bufio_ErrBufferFull), ("bufio.ErrNegativeCount", laid_bufio_ErrNegativeCount), ("bufio.errNegativeRead", laid_bufio_errNegativeRead), ("unicode/utf8.first", laid_unicode_utf8_first)], narrowed := true }
def FnNegativeUptoSaid : Prop := fnNegativeUptoRow.holds Tryd.pinned (OpenSpec.upto fnNegativeSpec)

/-- 'laws.FnOtherKinds', WHERE WHAT IT READS IS OF BULK AT MOST 1048576: true; the input reads as it did. -/
def fnOtherKindsUptoRow : OpenClaim := { program := "ytancmlapnhccdaadoor", sum := "c3b6397407d5b46d03fae6465d1a4adf9e4088796afe61a932dcf281fd0b9005", func := "loop.example/lib-g03117/laws.FnOtherKinds", spec := "fnOtherKinds", inPlace := ["internal/bytealg.IndexByte", "internal/abi.NoEscape", "internal/bytealg.MakeNoZero"], unfollowed := true, recurses := true, named := ["bufio.errNegativeRead", "io.ErrNoProgress", "io.EOF", "bufio.ErrInvalidUnreadByte", "bufio.ErrInvalidUnreadRune", "bufio.ErrNegativeCount", "bufio.ErrBufferFull", "unicode/utf8.first", "unicode/utf8.acceptRanges", "io.ErrShortWrite"], apart := false, laid := [("unicode/utf8.acceptRanges", laid_unicode_utf8_acceptRanges), ("io.ErrShortWrite", laid_io_ErrShortWrite), ("io.EOF", laid_io_EOF), ("io.ErrNoProgress", laid_io_ErrNoProgress), ("bufio.ErrInvalidUnreadByte", laid_bufio_ErrInvalidUnreadByte), ("bufio.ErrInvalidUnreadRune", laid_bufio_ErrInvalidUnreadRune), ("bufio.ErrBufferFull", laid_bufio_ErrBufferFull), ("bufio.ErrNegativeCount", laid_bufio_ErrNegativeCount), ("bufio.errNegativeRead", laid_bufio_errNegativeRead), ("unicode/utf8.first", laid_unicode_utf8_first)], narrowed := true }
def FnOtherKindsUptoSaid : Prop := fnOtherKindsUptoRow.holds Tryd.pinned (OpenSpec.upto fnOtherKindsSpec)

/-- 'laws.FnPeekFull', WHERE WHAT IT READS IS OF BULK AT MOST 1048576: true; the input reads as it did. -/
def fnPeekFullUptoRow : OpenClaim := { program := "ytancmlapnhccdaadoor", sum := "c3b6397407d5b46d03fae6465d1a4adf9e4088796afe61a932dcf281fd0b9005", func := "loop.example/lib-g03117/laws.FnPeekFull", spec := "fnPeekFull", inPlace := ["internal/bytealg.IndexByte", "internal/abi.NoEscape", "internal/bytealg.MakeNoZero"], unfollowed := true, recurses := true, named := ["bufio.errNegativeRead", "io.ErrNoProgress", "io.EOF", "bufio.ErrInvalidUnreadByte", "bufio.ErrInvalidUnreadRune", "bufio.ErrNegativeCount", "bufio.ErrBufferFull", "unicode/utf8.first", "unicode/utf8.acceptRanges", "io.ErrShortWrite"], apart := false, laid := [("unicode/utf8.acceptRanges", laid_unicode_utf8_acceptRanges), ("io.ErrShortWrite", laid_io_ErrShortWrite), ("io.EOF", laid_io_EOF), ("io.ErrNoProgress", laid_io_ErrNoProgress), ("bufio.ErrInvalidUnreadByte", laid_bufio_ErrInvalidUnreadByte), ("bufio.ErrInvalidUnreadRune", laid_bufio_ErrInvalidUnreadRune), ("bufio.ErrBufferFull", laid_bufio_ErrBufferFull), ("bufio.ErrNegativeCount", laid_bufio_ErrNegativeCount), ("bufio.errNegativeRead", laid_bufio_errNegativeRead), ("unicode/utf8.first", laid_unicode_utf8_first)], narrowed := true }
def FnPeekFullUptoSaid : Prop := fnPeekFullUptoRow.holds Tryd.pinned (OpenSpec.upto fnPeekFullSpec)

/-- 'laws.FnPeeks', WHERE WHAT IT READS IS OF BULK AT MOST 1048576: true; the input reads as it did. -/
def fnPeeksUptoRow : OpenClaim := { program := "ytancmlapnhccdaadoor", sum := "c3b6397407d5b46d03fae6465d1a4adf9e4088796afe61a932dcf281fd0b9005", func := "loop.example/lib-g03117/laws.FnPeeks", spec := "fnPeeks", inPlace := ["internal/bytealg.IndexByte", "internal/abi.NoEscape", "internal/bytealg.MakeNoZero"], unfollowed := true, recurses := true, named := ["bufio.errNegativeRead", "io.ErrNoProgress", "io.EOF", "bufio.ErrInvalidUnreadByte", "bufio.ErrInvalidUnreadRune", "bufio.ErrNegativeCount", "bufio.ErrBufferFull", "unicode/utf8.first", "unicode/utf8.acceptRanges", "io.ErrShortWrite"], apart := false, laid := [("unicode/utf8.acceptRanges", laid_unicode_utf8_acceptRanges), ("io.ErrShortWrite", laid_io_ErrShortWrite), ("io.EOF", laid_io_EOF), ("io.ErrNoProgress", laid_io_ErrNoProgress), ("bufio.ErrInvalidUnreadByte", laid_bufio_ErrInvalidUnreadByte), ("bufio.ErrInvalidUnreadRune", laid_bufio_ErrInvalidUnreadRune), ("bufio.ErrBufferFull", laid_bufio_ErrBufferFull), ("bufio.ErrNegativeCount", laid_bufio_ErrNegativeCount), ("bufio.errNegativeRead", laid_bufio_errNegativeRead), ("unicode/utf8.first", laid_unicode_utf8_first)], narrowed := true }
def FnPeeksUptoSaid : Prop := fnPeeksUptoRow.holds Tryd.pinned (OpenSpec.upto fnPeeksSpec)

/-- 'laws.FnPieces', WHERE WHAT IT READS IS OF BULK AT MOST 1048576: true; the input reads as it did. -/
def fnPiecesUptoRow : OpenClaim := { program := "ytancmlapnhccdaadoor", sum := "c3b6397407d5b46d03fae6465d1a4adf9e4088796afe61a932dcf281fd0b9005", func := "loop.example/lib-g03117/laws.FnPieces", spec := "fnPieces", inPlace := ["internal/bytealg.IndexByte", "internal/abi.NoEscape", "internal/bytealg.MakeNoZero"], unfollowed := true, recurses := true, named := ["bufio.errNegativeRead", "io.ErrNoProgress", "io.EOF", "bufio.ErrInvalidUnreadByte", "bufio.ErrInvalidUnreadRune", "bufio.ErrNegativeCount", "bufio.ErrBufferFull", "unicode/utf8.first", "unicode/utf8.acceptRanges", "io.ErrShortWrite"], apart := false, laid := [("unicode/utf8.acceptRanges", laid_unicode_utf8_acceptRanges), ("io.ErrShortWrite", laid_io_ErrShortWrite), ("io.EOF", laid_io_EOF), ("io.ErrNoProgress", laid_io_ErrNoProgress), ("bufio.ErrInvalidUnreadByte", laid_bufio_ErrInvalidUnreadByte), ("bufio.ErrInvalidUnreadRune", laid_bufio_ErrInvalidUnreadRune), ("bufio.ErrBufferFull", laid_bufio_ErrBufferFull), ("bufio.ErrNegativeCount", laid_bufio_ErrNegativeCount), ("bufio.errNegativeRead", laid_bufio_errNegativeRead), ("unicode/utf8.first", laid_unicode_utf8_first)], narrowed := true }
def FnPiecesUptoSaid : Prop := fnPiecesUptoRow.holds Tryd.pinned (OpenSpec.upto fnPiecesSpec)

/-- 'laws.FnRun', WHERE WHAT IT READS IS OF BULK AT MOST 1048576: true; the input reads as it did. -/
def fnRunUptoRow : OpenClaim := { program := "ytancmlapnhccdaadoor", sum := "c3b6397407d5b46d03fae6465d1a4adf9e4088796afe61a932dcf281fd0b9005", func := "loop.example/lib-g03117/laws.FnRun", spec := "fnRun", inPlace := ["internal/bytealg.IndexByte", "internal/abi.NoEscape", "internal/bytealg.MakeNoZero"], unfollowed := true, recurses := true, named := ["bufio.errNegativeRead", "io.ErrNoProgress", "io.EOF", "bufio.ErrInvalidUnreadByte", "bufio.ErrInvalidUnreadRune", "bufio.ErrNegativeCount", "bufio.ErrBufferFull", "unicode/utf8.first", "unicode/utf8.acceptRanges", "io.ErrShortWrite"], apart := false, laid := [("unicode/utf8.acceptRanges", laid_unicode_utf8_acceptRanges), ("io.ErrShortWrite", laid_io_ErrShortWrite), ("io.EOF", laid_io_EOF), ("io.ErrNoProgress", laid_io_ErrNoProgress), ("bufio.ErrInvalidUnreadByte", laid_bufio_ErrInvalidUnreadByte), ("bufio.ErrInvalidUnreadRune", laid_bufio_ErrInvalidUnreadRune), ("bufio.ErrBufferFull", laid_bufio_ErrBufferFull), ("bufio.ErrNegativeCount", laid_bufio_ErrNegativeCount), ("bufio.errNegativeRead", laid_bufio_errNegativeRead), ("unicode/utf8.first", laid_unicode_utf8_first)], narrowed := true }
def FnRunUptoSaid : Prop := fnRunUptoRow.holds Tryd.pinned (OpenSpec.upto fnRunSpec)

/-- 'laws.FnRunes', WHERE WHAT IT READS IS OF BULK AT MOST 1048576: true; the input reads as it did. -/
def fnRunesUptoRow : OpenClaim := { program := "ytancmlapnhccdaadoor", sum := "c3b6397407d5b46d03fae6465d1a4adf9e4088796afe61a932dcf281fd0b9005", func := "loop.example/lib-g03117/laws.FnRunes", spec := "fnRunes", inPlace := ["internal/bytealg.IndexByte", "internal/abi.NoEscape", "internal/bytealg.MakeNoZero"], unfollowed := true, recurses := true, named := ["bufio.errNegativeRead", "io.ErrNoProgress", "io.EOF", "bufio.ErrInvalidUnreadByte", "bufio.ErrInvalidUnreadRune", "bufio.ErrNegativeCount", "bufio.ErrBufferFull", "unicode/utf8.first", "unicode/utf8.acceptRanges", "io.ErrShortWrite"], apart := false, laid := [("unicode/utf8.acceptRanges", laid_unicode_utf8_acceptRanges), ("io.ErrShortWrite", laid_io_ErrShortWrite), ("io.EOF", laid_io_EOF), ("io.ErrNoProgress", laid_io_ErrNoProgress), ("bufio.ErrInvalidUnreadByte", laid_bufio_ErrInvalidUnreadByte), ("bufio.ErrInvalidUnreadRune", laid_bufio_ErrInvalidUnreadRune), ("bufio.ErrBufferFull", laid_bufio_ErrBufferFull), ("bufio.ErrNegativeCount", laid_bufio_ErrNegativeCount), ("bufio.errNegativeRead", laid_bufio_errNegativeRead), ("unicode/utf8.first", laid_unicode_utf8_first)], narrowed := true }
def FnRunesUptoSaid : Prop := fnRunesUptoRow.holds Tryd.pinned (OpenSpec.upto fnRunesSpec)

/-- 'laws.FnRunesWritten', WHERE WHAT IT READS IS OF BULK AT MOST 1048576: true; the input reads as it did. -/
def fnRunesWrittenUptoRow : OpenClaim := { program := "ytancmlapnhccdaadoor", sum := "c3b6397407d5b46d03fae6465d1a4adf9e4088796afe61a932dcf281fd0b9005", func := "loop.example/lib-g03117/laws.FnRunesWritten", spec := "fnRunesWritten", inPlace := ["internal/bytealg.IndexByte", "internal/abi.NoEscape", "internal/bytealg.MakeNoZero"], unfollowed := true, recurses := true, named := ["bufio.errNegativeRead", "io.ErrNoProgress", "io.EOF", "bufio.ErrInvalidUnreadByte", "bufio.ErrInvalidUnreadRune", "bufio.ErrNegativeCount", "bufio.ErrBufferFull", "unicode/utf8.first", "unicode/utf8.acceptRanges", "io.ErrShortWrite"], apart := false, laid := [("unicode/utf8.acceptRanges", laid_unicode_utf8_acceptRanges), ("io.ErrShortWrite", laid_io_ErrShortWrite), ("io.EOF", laid_io_EOF), ("io.ErrNoProgress", laid_io_ErrNoProgress), ("bufio.ErrInvalidUnreadByte", laid_bufio_ErrInvalidUnreadByte), ("bufio.ErrInvalidUnreadRune", laid_bufio_ErrInvalidUnreadRune), ("bufio.ErrBufferFull", laid_bufio_ErrBufferFull), ("bufio.ErrNegativeCount", laid_bufio_ErrNegativeCount), ("bufio.errNegativeRead", laid_bufio_errNegativeRead), ("unicode/utf8.first", laid_unicode_utf8_first)], narrowed := true }
def FnRunesWrittenUptoSaid : Prop := fnRunesWrittenUptoRow.holds Tryd.pinned (OpenSpec.upto fnRunesWrittenSpec)

/-- 'laws.FnSink', WHERE WHAT IT READS IS OF BULK AT MOST 1048576: true; the input reads as it did. -/
def fnSinkUptoRow : OpenClaim := { program := "ytancmlapnhccdaadoor", sum := "c3b6397407d5b46d03fae6465d1a4adf9e4088796afe61a932dcf281fd0b9005", func := "loop.example/lib-g03117/laws.FnSink", spec := "fnSink", inPlace := ["internal/bytealg.IndexByte", "internal/abi.NoEscape", "internal/bytealg.MakeNoZero"], unfollowed := true, recurses := true, named := ["bufio.errNegativeRead", "io.ErrNoProgress", "io.EOF", "bufio.ErrInvalidUnreadByte", "bufio.ErrInvalidUnreadRune", "bufio.ErrNegativeCount", "bufio.ErrBufferFull", "unicode/utf8.first", "unicode/utf8.acceptRanges", "io.ErrShortWrite"], apart := false, laid := [("unicode/utf8.acceptRanges", laid_unicode_utf8_acceptRanges), ("io.ErrShortWrite", laid_io_ErrShortWrite), ("io.EOF", laid_io_EOF), ("io.ErrNoProgress", laid_io_ErrNoProgress), ("bufio.ErrInvalidUnreadByte", laid_bufio_ErrInvalidUnreadByte), ("bufio.ErrInvalidUnreadRune", laid_bufio_ErrInvalidUnreadRune), ("bufio.ErrBufferFull", laid_bufio_ErrBufferFull), ("bufio.ErrNegativeCount", laid_bufio_ErrNegativeCount), ("bufio.errNegativeRead", laid_bufio_errNegativeRead), ("unicode/utf8.first", laid_unicode_utf8_first)], narrowed := true }
def FnSinkUptoSaid : Prop := fnSinkUptoRow.holds Tryd.pinned (OpenSpec.upto fnSinkSpec)

end Rows
end Go.Proofs.YtancmlapnhccdaaDoor
