/-
  NARROWER THAN 'FOR EVERY INPUT', by the rows' own cells (each row's printed sentence says how): FnZTimeBack: laid · FnZEquals: loops, laid · FnZTold: laid · FnZIO: laid · FnZIOParts: laid · FnZHooked: loops, laid · FnZIncreases: loops, laid · FnZTees: loops, laid · FnZWithTwice: loops, laid · FnZObserves: loops, laid.
  DERIVED. THE GIVEN ROWS OF THIS SEAT. 10 by the template 'for every input the law returns true; each argument reads behind the call as it read before'; 0 by the template 'total and deterministic' (their statements: YtieidjlmgalihaaGreatDoorTotals.lean).
  GIVEN WITH THE SEED: the statements are not yours to turn. If you find one false, say at which input.
  Laid BY PROGRAM, IN A SANDBOX (cutbox-rows.mjs): the forced cells as the released guide's own fill.sh prints them over the translation 7fc85820f6c3ed1d… (all of the seat's roots in one cut). By AI agents, Wed Nov 11 2026. No macro, syntax, notation, axiom, sorry.
-/
import Derived.Test.YtieidjlmgalihaaGreatDoorChecked
import GoSem.PinnedTables
import GoSem.Claim
import GoSem.ClaimJoined
import GoSem.ClaimMapViews
import Derived.JoinedTies
import Derived.KernelRfl
namespace Go.Proofs.YtieidjlmgalihaaGreatDoor
/- THE CELL 'sum', in the pinned program and in every row, IS THE sha256 OF THE DUMP (.gsa) THAT YtieidjlmgalihaaGreatDoorProg.lean LOADS. Nothing in Lean hashes anything: it is a label: what it is worth is what the hold of that sum in a sandbox is worth. -/
noncomputable def Tryz.pinned : Pinned := { name := "ytieidjlmgalihaagreatdoor", sum := "7fc85820f6c3ed1dfa603ff0357bfff817935313bd57e48af9bbf6e437e7f18d", checked := Tryz.checked }
namespace Rows
def none {H : Type} : Left H := { results := [], args := [] }

/- WHAT THE LISTED PACKAGE-LEVEL VARIABLES READ AS WHEN THE CALL BEGINS. Each datum BY PROGRAM (the guide's laid-datum.mjs) off the statement by which the dump's own 'gosem.cut.vars' lays the variable. In a bare row this is a premise. The card (YtieidjlmgalihaaGreatDoorCards.lean) ties it to the program's text. -/
def laid_math_bits_deBruijn32tab {H : Type} : DataW H := .agg [.lit (.int .u8 0), .lit (.int .u8 1), .lit (.int .u8 28), .lit (.int .u8 2), .lit (.int .u8 29), .lit (.int .u8 14), .lit (.int .u8 24), .lit (.int .u8 3), .lit (.int .u8 30), .lit (.int .u8 22), .lit (.int .u8 20), .lit (.int .u8 15), .lit (.int .u8 25), .lit (.int .u8 17), .lit (.int .u8 4), .lit (.int .u8 8), .lit (.int .u8 31), .lit (.int .u8 27), .lit (.int .u8 13), .lit (.int .u8 23), .lit (.int .u8 21), .lit (.int .u8 19), .lit (.int .u8 16), .lit (.int .u8 7), .lit (.int .u8 26), .lit (.int .u8 12), .lit (.int .u8 18), .lit (.int .u8 6), .lit (.int .u8 11), .lit (.int .u8 5), .lit (.int .u8 10), .lit (.int .u8 9)]
def laid_math_bits_deBruijn64tab {H : Type} : DataW H := .agg [.lit (.int .u8 0), .lit (.int .u8 1), .lit (.int .u8 56), .lit (.int .u8 2), .lit (.int .u8 57), .lit (.int .u8 49), .lit (.int .u8 28), .lit (.int .u8 3), .lit (.int .u8 61), .lit (.int .u8 58), .lit (.int .u8 42), .lit (.int .u8 50), .lit (.int .u8 38), .lit (.int .u8 29), .lit (.int .u8 17), .lit (.int .u8 4), .lit (.int .u8 62), .lit (.int .u8 47), .lit (.int .u8 59), .lit (.int .u8 36), .lit (.int .u8 45), .lit (.int .u8 43), .lit (.int .u8 51), .lit (.int .u8 22), .lit (.int .u8 53), .lit (.int .u8 39), .lit (.int .u8 33), .lit (.int .u8 30), .lit (.int .u8 24), .lit (.int .u8 18), .lit (.int .u8 12), .lit (.int .u8 5), .lit (.int .u8 63), .lit (.int .u8 55), .lit (.int .u8 48), .lit (.int .u8 27), .lit (.int .u8 60), .lit (.int .u8 41), .lit (.int .u8 37), .lit (.int .u8 16), .lit (.int .u8 46), .lit (.int .u8 35), .lit (.int .u8 44), .lit (.int .u8 21), .lit (.int .u8 52), .lit (.int .u8 32), .lit (.int .u8 23), .lit (.int .u8 11), .lit (.int .u8 54), .lit (.int .u8 26), .lit (.int .u8 40), .lit (.int .u8 15), .lit (.int .u8 34), .lit (.int .u8 20), .lit (.int .u8 31), .lit (.int .u8 10), .lit (.int .u8 25), .lit (.int .u8 14), .lit (.int .u8 19), .lit (.int .u8 9), .lit (.int .u8 13), .lit (.int .u8 8), .lit (.int .u8 7), .lit (.int .u8 6)]
def laid_given_example_pub_quill_pub_ztime_std0x {H : Type} : DataW H := .agg [.lit (.int .i64 260), .lit (.int .i64 265), .lit (.int .i64 1038), .lit (.int .i64 1040), .lit (.int .i64 1042), .lit (.int .i64 276)]
def laid_given_example_pub_quill_pub_ztime_longDayNames {H : Type} : DataW H := .slice [.lit (.string [83, 117, 110, 100, 97, 121]), .lit (.string [77, 111, 110, 100, 97, 121]), .lit (.string [84, 117, 101, 115, 100, 97, 121]), .lit (.string [87, 101, 100, 110, 101, 115, 100, 97, 121]), .lit (.string [84, 104, 117, 114, 115, 100, 97, 121]), .lit (.string [70, 114, 105, 100, 97, 121]), .lit (.string [83, 97, 116, 117, 114, 100, 97, 121])] []
def laid_given_example_pub_quill_pub_ztime_longMonthNames {H : Type} : DataW H := .slice [.lit (.string [74, 97, 110, 117, 97, 114, 121]), .lit (.string [70, 101, 98, 114, 117, 97, 114, 121]), .lit (.string [77, 97, 114, 99, 104]), .lit (.string [65, 112, 114, 105, 108]), .lit (.string [77, 97, 121]), .lit (.string [74, 117, 110, 101]), .lit (.string [74, 117, 108, 121]), .lit (.string [65, 117, 103, 117, 115, 116]), .lit (.string [83, 101, 112, 116, 101, 109, 98, 101, 114]), .lit (.string [79, 99, 116, 111, 98, 101, 114]), .lit (.string [78, 111, 118, 101, 109, 98, 101, 114]), .lit (.string [68, 101, 99, 101, 109, 98, 101, 114])] []
def laid_internal_strconv_uint64pow10 {H : Type} : DataW H := .agg [.lit (.int .u64 1), .lit (.int .u64 10), .lit (.int .u64 100), .lit (.int .u64 1000), .lit (.int .u64 10000), .lit (.int .u64 100000), .lit (.int .u64 1000000), .lit (.int .u64 10000000), .lit (.int .u64 100000000), .lit (.int .u64 1000000000), .lit (.int .u64 10000000000), .lit (.int .u64 100000000000), .lit (.int .u64 1000000000000), .lit (.int .u64 10000000000000), .lit (.int .u64 100000000000000), .lit (.int .u64 1000000000000000), .lit (.int .u64 10000000000000000), .lit (.int .u64 100000000000000000), .lit (.int .u64 1000000000000000000), .lit (.int .u64 10000000000000000000)]
def laid_unicode_utf8_acceptRanges {H : Type} : DataW H := .agg [.agg [.lit (.int .u8 128), .lit (.int .u8 191)], .agg [.lit (.int .u8 160), .lit (.int .u8 191)], .agg [.lit (.int .u8 128), .lit (.int .u8 159)], .agg [.lit (.int .u8 144), .lit (.int .u8 191)], .agg [.lit (.int .u8 128), .lit (.int .u8 143)], .agg [.lit (.int .u8 0), .lit (.int .u8 0)], .agg [.lit (.int .u8 0), .lit (.int .u8 0)], .agg [.lit (.int .u8 0), .lit (.int .u8 0)], .agg [.lit (.int .u8 0), .lit (.int .u8 0)], .agg [.lit (.int .u8 0), .lit (.int .u8 0)], .agg [.lit (.int .u8 0), .lit (.int .u8 0)], .agg [.lit (.int .u8 0), .lit (.int .u8 0)], .agg [.lit (.int .u8 0), .lit (.int .u8 0)], .agg [.lit (.int .u8 0), .lit (.int .u8 0)], .agg [.lit (.int .u8 0), .lit (.int .u8 0)], .agg [.lit (.int .u8 0), .lit (.int .u8 0)]]
/-- One of Go's own tables, pinned by name: the form's constant. -/
def laid_unicode_utf8_first : DataW Unit := Go.Pinned.utf8First
def laid_bytes_ErrTooLarge {H : Type} : DataW H := .iface "*errors.errorString" (.ptr (.agg [.lit (.string [98, 121, 116, 101, 115, 46, 66, 117, 102, 102, 101, 114, 58, 32, 116, 111, 111, 32, 108, 97, 114, 103, 101])]))

/-- 'laws.FnZTimeBack': WHATEVER THE INPUT: true; the input reads as it did. -/
def fnZTimeBackSpec : ChangeSpec := { name := "fnZTimeBack", vars := ["given.example/pub-quill/pub/ztime.std0x", "given.example/pub-quill/pub/ztime.longMonthNames", "given.example/pub-quill/pub/ztime.longDayNames"], fn := fun _ => fun
  | [d, g1, g2, g3] => { results := [.lit (.bool true)], args := [d], vars := [g1, g2, g3] }
  | _ => none }
def fnZTimeBackRow : OpenClaim := { program := "ytieidjlmgalihaagreatdoor", sum := "7fc85820f6c3ed1dfa603ff0357bfff817935313bd57e48af9bbf6e437e7f18d", func := "given.example/pub-quill/laws.FnZTimeBack", spec := "fnZTimeBack", unfollowed := true, recurses := true, named := ["internal/strconv.uint64pow10", "math/bits.deBruijn32tab", "math/bits.deBruijn64tab", "given.example/pub-quill/pub/ztime.std0x", "given.example/pub-quill/pub/ztime.longMonthNames", "given.example/pub-quill/pub/ztime.longDayNames", "unicode/utf8.first", "unicode/utf8.acceptRanges"], apart := false, laid := [("math/bits.deBruijn32tab", laid_math_bits_deBruijn32tab), ("math/bits.deBruijn64tab", laid_math_bits_deBruijn64tab), ("given.example/pub-quill/pub/ztime.std0x", laid_given_example_pub_quill_pub_ztime_std0x), ("given.example/pub-quill/pub/ztime.longDayNames", laid_given_example_pub_quill_pub_ztime_longDayNames), ("given.example/pub-quill/pub/ztime.longMonthNames", laid_given_example_pub_quill_pub_ztime_longMonthNames), ("internal/strconv.uint64pow10", laid_internal_strconv_uint64pow10), ("unicode/utf8.acceptRanges", laid_unicode_utf8_acceptRanges), ("unicode/utf8.first", laid_unicode_utf8_first)] }
def FnZTimeBackSaid : Prop := fnZTimeBackRow.holds Tryz.pinned (OpenSpec.ofChange fnZTimeBackSpec)

/-- ITS FALSE NEIGHBOUR: 'it returns false'. Refute it at one input. -/
def fnZTimeBackWrong : ChangeSpec := { name := "fnZTimeBack", vars := ["given.example/pub-quill/pub/ztime.std0x", "given.example/pub-quill/pub/ztime.longMonthNames", "given.example/pub-quill/pub/ztime.longDayNames"], fn := fun _ => fun
  | [d, g1, g2, g3] => { results := [.lit (.bool false)], args := [d], vars := [g1, g2, g3] }
  | _ => none }
def FnZTimeBackWrongFalsely : Prop := fnZTimeBackRow.holds Tryz.pinned (OpenSpec.ofChange fnZTimeBackWrong)

/-- 'laws.FnZEquals': WHATEVER THE INPUT: true; the input reads as it did. -/
def fnZEqualsSpec : ChangeSpec := { name := "fnZEquals", vars := ["given.example/pub-quill/pub/ztime.std0x", "given.example/pub-quill/pub/ztime.longMonthNames", "given.example/pub-quill/pub/ztime.longDayNames"], fn := fun _ => fun
  | [d1, d2, g1, g2, g3] => { results := [.lit (.bool true)], args := [d1, d2], vars := [g1, g2, g3] }
  | _ => none }
def fnZEqualsRow : OpenClaim := { program := "ytieidjlmgalihaagreatdoor", sum := "7fc85820f6c3ed1dfa603ff0357bfff817935313bd57e48af9bbf6e437e7f18d", func := "given.example/pub-quill/laws.FnZEquals", spec := "fnZEquals", inPlace := ["math.Float32frombits", "math.Float64frombits"], unfollowed := true, recurses := true, named := ["internal/strconv.uint64pow10", "math/bits.deBruijn32tab", "math/bits.deBruijn64tab", "given.example/pub-quill/pub/ztime.std0x", "given.example/pub-quill/pub/ztime.longMonthNames", "given.example/pub-quill/pub/ztime.longDayNames"], loops := true, apart := false, laid := [("math/bits.deBruijn32tab", laid_math_bits_deBruijn32tab), ("math/bits.deBruijn64tab", laid_math_bits_deBruijn64tab), ("given.example/pub-quill/pub/ztime.std0x", laid_given_example_pub_quill_pub_ztime_std0x), ("given.example/pub-quill/pub/ztime.longDayNames", laid_given_example_pub_quill_pub_ztime_longDayNames), ("given.example/pub-quill/pub/ztime.longMonthNames", laid_given_example_pub_quill_pub_ztime_longMonthNames), ("internal/strconv.uint64pow10", laid_internal_strconv_uint64pow10)] }
def FnZEqualsSaid : Prop := fnZEqualsRow.holds Tryz.pinned (OpenSpec.ofChange fnZEqualsSpec)

/-- ITS FALSE NEIGHBOUR: 'it returns false'. Refute it at one input. -/
def fnZEqualsWrong : ChangeSpec := { name := "fnZEquals", vars := ["given.example/pub-quill/pub/ztime.std0x", "given.example/pub-quill/pub/ztime.longMonthNames", "given.example/pub-quill/pub/ztime.longDayNames"], fn := fun _ => fun
  | [d1, d2, g1, g2, g3] => { results := [.lit (.bool false)], args := [d1, d2], vars := [g1, g2, g3] }
  | _ => none }
def FnZEqualsWrongFalsely : Prop := fnZEqualsRow.holds Tryz.pinned (OpenSpec.ofChange fnZEqualsWrong)

/-- 'laws.FnZTold': WHATEVER THE INPUT: true; the input reads as it did. -/
def fnZToldSpec : ChangeSpec := { name := "fnZTold", vars := ["given.example/pub-quill/pub/ztime.std0x", "given.example/pub-quill/pub/ztime.longMonthNames", "given.example/pub-quill/pub/ztime.longDayNames"], fn := fun _ => fun
  | [d1, d2, g1, g2, g3] => { results := [.lit (.bool true)], args := [d1, d2], vars := [g1, g2, g3] }
  | _ => none }
def fnZToldRow : OpenClaim := { program := "ytieidjlmgalihaagreatdoor", sum := "7fc85820f6c3ed1dfa603ff0357bfff817935313bd57e48af9bbf6e437e7f18d", func := "given.example/pub-quill/laws.FnZTold", spec := "fnZTold", unfollowed := true, recurses := true, named := ["internal/strconv.uint64pow10", "math/bits.deBruijn32tab", "math/bits.deBruijn64tab", "given.example/pub-quill/pub/ztime.std0x", "given.example/pub-quill/pub/ztime.longMonthNames", "given.example/pub-quill/pub/ztime.longDayNames"], apart := false, laid := [("math/bits.deBruijn32tab", laid_math_bits_deBruijn32tab), ("math/bits.deBruijn64tab", laid_math_bits_deBruijn64tab), ("given.example/pub-quill/pub/ztime.std0x", laid_given_example_pub_quill_pub_ztime_std0x), ("given.example/pub-quill/pub/ztime.longDayNames", laid_given_example_pub_quill_pub_ztime_longDayNames), ("given.example/pub-quill/pub/ztime.longMonthNames", laid_given_example_pub_quill_pub_ztime_longMonthNames), ("internal/strconv.uint64pow10", laid_internal_strconv_uint64pow10)] }
def FnZToldSaid : Prop := fnZToldRow.holds Tryz.pinned (OpenSpec.ofChange fnZToldSpec)

/-- ITS FALSE NEIGHBOUR: 'it returns false'. Refute it at one input. -/
def fnZToldWrong : ChangeSpec := { name := "fnZTold", vars := ["given.example/pub-quill/pub/ztime.std0x", "given.example/pub-quill/pub/ztime.longMonthNames", "given.example/pub-quill/pub/ztime.longDayNames"], fn := fun _ => fun
  | [d1, d2, g1, g2, g3] => { results := [.lit (.bool false)], args := [d1, d2], vars := [g1, g2, g3] }
  | _ => none }
def FnZToldWrongFalsely : Prop := fnZToldRow.holds Tryz.pinned (OpenSpec.ofChange fnZToldWrong)

/-- 'laws.FnZIO': WHATEVER THE INPUT: true; the input reads as it did. -/
def fnZIOSpec : ChangeSpec := { name := "fnZIO", vars := ["given.example/pub-quill/pub/ztime.std0x", "given.example/pub-quill/pub/ztime.longMonthNames", "given.example/pub-quill/pub/ztime.longDayNames"], fn := fun _ => fun
  | [d, g1, g2, g3] => { results := [.lit (.bool true)], args := [d], vars := [g1, g2, g3] }
  | _ => none }
def fnZIORow : OpenClaim := { program := "ytieidjlmgalihaagreatdoor", sum := "7fc85820f6c3ed1dfa603ff0357bfff817935313bd57e48af9bbf6e437e7f18d", func := "given.example/pub-quill/laws.FnZIO", spec := "fnZIO", inPlace := ["internal/bytealg.IndexByte"], unfollowed := true, recurses := true, named := ["internal/strconv.uint64pow10", "math/bits.deBruijn32tab", "math/bits.deBruijn64tab", "given.example/pub-quill/pub/ztime.std0x", "given.example/pub-quill/pub/ztime.longMonthNames", "given.example/pub-quill/pub/ztime.longDayNames", "bytes.ErrTooLarge"], apart := false, laid := [("math/bits.deBruijn32tab", laid_math_bits_deBruijn32tab), ("math/bits.deBruijn64tab", laid_math_bits_deBruijn64tab), ("given.example/pub-quill/pub/ztime.std0x", laid_given_example_pub_quill_pub_ztime_std0x), ("given.example/pub-quill/pub/ztime.longDayNames", laid_given_example_pub_quill_pub_ztime_longDayNames), ("given.example/pub-quill/pub/ztime.longMonthNames", laid_given_example_pub_quill_pub_ztime_longMonthNames), ("internal/strconv.uint64pow10", laid_internal_strconv_uint64pow10), ("bytes.ErrTooLarge", laid_bytes_ErrTooLarge)] }
def FnZIOSaid : Prop := fnZIORow.holds Tryz.pinned (OpenSpec.ofChange fnZIOSpec)

/-- ITS FALSE NEIGHBOUR: 'it returns false'. Refute it at one input. -/
def fnZIOWrong : ChangeSpec := { name := "fnZIO", vars := ["given.example/pub-quill/pub/ztime.std0x", "given.example/pub-quill/pub/ztime.longMonthNames", "given.example/pub-quill/pub/ztime.longDayNames"], fn := fun _ => fun
  | [d, g1, g2, g3] => { results := [.lit (.bool false)], args := [d], vars := [g1, g2, g3] }
  | _ => none }
def FnZIOWrongFalsely : Prop := fnZIORow.holds Tryz.pinned (OpenSpec.ofChange fnZIOWrong)

/-- 'laws.FnZIOParts': WHATEVER THE INPUT: true; the input reads as it did. -/
def fnZIOPartsSpec : ChangeSpec := { name := "fnZIOParts", vars := ["given.example/pub-quill/pub/ztime.std0x", "given.example/pub-quill/pub/ztime.longMonthNames", "given.example/pub-quill/pub/ztime.longDayNames"], fn := fun _ => fun
  | [d1, d2, g1, g2, g3] => { results := [.lit (.bool true)], args := [d1, d2], vars := [g1, g2, g3] }
  | _ => none }
def fnZIOPartsRow : OpenClaim := { program := "ytieidjlmgalihaagreatdoor", sum := "7fc85820f6c3ed1dfa603ff0357bfff817935313bd57e48af9bbf6e437e7f18d", func := "given.example/pub-quill/laws.FnZIOParts", spec := "fnZIOParts", inPlace := ["internal/bytealg.IndexByte"], unfollowed := true, recurses := true, named := ["internal/strconv.uint64pow10", "math/bits.deBruijn32tab", "math/bits.deBruijn64tab", "given.example/pub-quill/pub/ztime.std0x", "given.example/pub-quill/pub/ztime.longMonthNames", "given.example/pub-quill/pub/ztime.longDayNames", "bytes.ErrTooLarge"], apart := false, laid := [("math/bits.deBruijn32tab", laid_math_bits_deBruijn32tab), ("math/bits.deBruijn64tab", laid_math_bits_deBruijn64tab), ("given.example/pub-quill/pub/ztime.std0x", laid_given_example_pub_quill_pub_ztime_std0x), ("given.example/pub-quill/pub/ztime.longDayNames", laid_given_example_pub_quill_pub_ztime_longDayNames), ("given.example/pub-quill/pub/ztime.longMonthNames", laid_given_example_pub_quill_pub_ztime_longMonthNames), ("internal/strconv.uint64pow10", laid_internal_strconv_uint64pow10), ("bytes.ErrTooLarge", laid_bytes_ErrTooLarge)] }
def FnZIOPartsSaid : Prop := fnZIOPartsRow.holds Tryz.pinned (OpenSpec.ofChange fnZIOPartsSpec)

/-- ITS FALSE NEIGHBOUR: 'it returns false'. Refute it at one input. -/
def fnZIOPartsWrong : ChangeSpec := { name := "fnZIOParts", vars := ["given.example/pub-quill/pub/ztime.std0x", "given.example/pub-quill/pub/ztime.longMonthNames", "given.example/pub-quill/pub/ztime.longDayNames"], fn := fun _ => fun
  | [d1, d2, g1, g2, g3] => { results := [.lit (.bool false)], args := [d1, d2], vars := [g1, g2, g3] }
  | _ => none }
def FnZIOPartsWrongFalsely : Prop := fnZIOPartsRow.holds Tryz.pinned (OpenSpec.ofChange fnZIOPartsWrong)

/-- 'laws.FnZHooked': WHATEVER THE INPUT: true; the input reads as it did. -/
def fnZHookedSpec : ChangeSpec := { name := "fnZHooked", vars := ["given.example/pub-quill/pub/ztime.std0x", "given.example/pub-quill/pub/ztime.longMonthNames", "given.example/pub-quill/pub/ztime.longDayNames"], fn := fun _ => fun
  | [d1, d2, d3, g1, g2, g3] => { results := [.lit (.bool true)], args := [d1, d2, d3], vars := [g1, g2, g3] }
  | _ => none }
def fnZHookedRow : OpenClaim := { program := "ytieidjlmgalihaagreatdoor", sum := "7fc85820f6c3ed1dfa603ff0357bfff817935313bd57e48af9bbf6e437e7f18d", func := "given.example/pub-quill/laws.FnZHooked", spec := "fnZHooked", unfollowed := true, recurses := true, named := ["internal/strconv.uint64pow10", "math/bits.deBruijn32tab", "math/bits.deBruijn64tab", "given.example/pub-quill/pub/ztime.std0x", "given.example/pub-quill/pub/ztime.longMonthNames", "given.example/pub-quill/pub/ztime.longDayNames"], loops := true, apart := false, laid := [("math/bits.deBruijn32tab", laid_math_bits_deBruijn32tab), ("math/bits.deBruijn64tab", laid_math_bits_deBruijn64tab), ("given.example/pub-quill/pub/ztime.std0x", laid_given_example_pub_quill_pub_ztime_std0x), ("given.example/pub-quill/pub/ztime.longDayNames", laid_given_example_pub_quill_pub_ztime_longDayNames), ("given.example/pub-quill/pub/ztime.longMonthNames", laid_given_example_pub_quill_pub_ztime_longMonthNames), ("internal/strconv.uint64pow10", laid_internal_strconv_uint64pow10)] }
def FnZHookedSaid : Prop := fnZHookedRow.holds Tryz.pinned (OpenSpec.ofChange fnZHookedSpec)

/-- ITS FALSE NEIGHBOUR: 'it returns false'. Refute it at one input. -/
def fnZHookedWrong : ChangeSpec := { name := "fnZHooked", vars := ["given.example/pub-quill/pub/ztime.std0x", "given.example/pub-quill/pub/ztime.longMonthNames", "given.example/pub-quill/pub/ztime.longDayNames"], fn := fun _ => fun
  | [d1, d2, d3, g1, g2, g3] => { results := [.lit (.bool false)], args := [d1, d2, d3], vars := [g1, g2, g3] }
  | _ => none }
def FnZHookedWrongFalsely : Prop := fnZHookedRow.holds Tryz.pinned (OpenSpec.ofChange fnZHookedWrong)

/-- 'laws.FnZIncreases': WHATEVER THE INPUT: true; the input reads as it did. -/
def fnZIncreasesSpec : ChangeSpec := { name := "fnZIncreases", vars := ["given.example/pub-quill/pub/ztime.std0x", "given.example/pub-quill/pub/ztime.longMonthNames", "given.example/pub-quill/pub/ztime.longDayNames"], fn := fun _ => fun
  | [d1, d2, d3, d4, d5, g1, g2, g3] => { results := [.lit (.bool true)], args := [d1, d2, d3, d4, d5], vars := [g1, g2, g3] }
  | _ => none }
def fnZIncreasesRow : OpenClaim := { program := "ytieidjlmgalihaagreatdoor", sum := "7fc85820f6c3ed1dfa603ff0357bfff817935313bd57e48af9bbf6e437e7f18d", func := "given.example/pub-quill/laws.FnZIncreases", spec := "fnZIncreases", unfollowed := true, recurses := true, named := ["internal/strconv.uint64pow10", "math/bits.deBruijn32tab", "math/bits.deBruijn64tab", "given.example/pub-quill/pub/ztime.std0x", "given.example/pub-quill/pub/ztime.longMonthNames", "given.example/pub-quill/pub/ztime.longDayNames"], loops := true, apart := false, laid := [("math/bits.deBruijn32tab", laid_math_bits_deBruijn32tab), ("math/bits.deBruijn64tab", laid_math_bits_deBruijn64tab), ("given.example/pub-quill/pub/ztime.std0x", laid_given_example_pub_quill_pub_ztime_std0x), ("given.example/pub-quill/pub/ztime.longDayNames", laid_given_example_pub_quill_pub_ztime_longDayNames), ("given.example/pub-quill/pub/ztime.longMonthNames", laid_given_example_pub_quill_pub_ztime_longMonthNames), ("internal/strconv.uint64pow10", laid_internal_strconv_uint64pow10)] }
def FnZIncreasesSaid : Prop := fnZIncreasesRow.holds Tryz.pinned (OpenSpec.ofChange fnZIncreasesSpec)

/-- ITS FALSE NEIGHBOUR: 'it returns false'. Refute it at one input. -/
def fnZIncreasesWrong : ChangeSpec := { name := "fnZIncreases", vars := ["given.example/pub-quill/pub/ztime.std0x", "given.example/pub-quill/pub/ztime.longMonthNames", "given.example/pub-quill/pub/ztime.longDayNames"], fn := fun _ => fun
  | [d1, d2, d3, d4, d5, g1, g2, g3] => { results := [.lit (.bool false)], args := [d1, d2, d3, d4, d5], vars := [g1, g2, g3] }
  | _ => none }
def FnZIncreasesWrongFalsely : Prop := fnZIncreasesRow.holds Tryz.pinned (OpenSpec.ofChange fnZIncreasesWrong)

/-- 'laws.FnZTees': WHATEVER THE INPUT: true; the input reads as it did. -/
def fnZTeesSpec : ChangeSpec := { name := "fnZTees", vars := ["given.example/pub-quill/pub/ztime.std0x", "given.example/pub-quill/pub/ztime.longMonthNames", "given.example/pub-quill/pub/ztime.longDayNames"], fn := fun _ => fun
  | [d1, d2, d3, d4, d5, g1, g2, g3] => { results := [.lit (.bool true)], args := [d1, d2, d3, d4, d5], vars := [g1, g2, g3] }
  | _ => none }
def fnZTeesRow : OpenClaim := { program := "ytieidjlmgalihaagreatdoor", sum := "7fc85820f6c3ed1dfa603ff0357bfff817935313bd57e48af9bbf6e437e7f18d", func := "given.example/pub-quill/laws.FnZTees", spec := "fnZTees", unfollowed := true, recurses := true, named := ["internal/strconv.uint64pow10", "math/bits.deBruijn32tab", "math/bits.deBruijn64tab", "given.example/pub-quill/pub/ztime.std0x", "given.example/pub-quill/pub/ztime.longMonthNames", "given.example/pub-quill/pub/ztime.longDayNames"], loops := true, apart := false, laid := [("math/bits.deBruijn32tab", laid_math_bits_deBruijn32tab), ("math/bits.deBruijn64tab", laid_math_bits_deBruijn64tab), ("given.example/pub-quill/pub/ztime.std0x", laid_given_example_pub_quill_pub_ztime_std0x), ("given.example/pub-quill/pub/ztime.longDayNames", laid_given_example_pub_quill_pub_ztime_longDayNames), ("given.example/pub-quill/pub/ztime.longMonthNames", laid_given_example_pub_quill_pub_ztime_longMonthNames), ("internal/strconv.uint64pow10", laid_internal_strconv_uint64pow10)] }
def FnZTeesSaid : Prop := fnZTeesRow.holds Tryz.pinned (OpenSpec.ofChange fnZTeesSpec)

/-- ITS FALSE NEIGHBOUR: 'it returns false'. Refute it at one input. -/
def fnZTeesWrong : ChangeSpec := { name := "fnZTees", vars := ["given.example/pub-quill/pub/ztime.std0x", "given.example/pub-quill/pub/ztime.longMonthNames", "given.example/pub-quill/pub/ztime.longDayNames"], fn := fun _ => fun
  | [d1, d2, d3, d4, d5, g1, g2, g3] => { results := [.lit (.bool false)], args := [d1, d2, d3, d4, d5], vars := [g1, g2, g3] }
  | _ => none }
def FnZTeesWrongFalsely : Prop := fnZTeesRow.holds Tryz.pinned (OpenSpec.ofChange fnZTeesWrong)

/-- 'laws.FnZWithTwice': WHATEVER THE INPUT: true; the input reads as it did. -/
def fnZWithTwiceSpec : ChangeSpec := { name := "fnZWithTwice", vars := ["given.example/pub-quill/pub/ztime.std0x", "given.example/pub-quill/pub/ztime.longMonthNames", "given.example/pub-quill/pub/ztime.longDayNames"], fn := fun _ => fun
  | [d1, d2, d3, d4, d5, g1, g2, g3] => { results := [.lit (.bool true)], args := [d1, d2, d3, d4, d5], vars := [g1, g2, g3] }
  | _ => none }
def fnZWithTwiceRow : OpenClaim := { program := "ytieidjlmgalihaagreatdoor", sum := "7fc85820f6c3ed1dfa603ff0357bfff817935313bd57e48af9bbf6e437e7f18d", func := "given.example/pub-quill/laws.FnZWithTwice", spec := "fnZWithTwice", unfollowed := true, recurses := true, named := ["internal/strconv.uint64pow10", "math/bits.deBruijn32tab", "math/bits.deBruijn64tab", "given.example/pub-quill/pub/ztime.std0x", "given.example/pub-quill/pub/ztime.longMonthNames", "given.example/pub-quill/pub/ztime.longDayNames"], loops := true, apart := false, laid := [("math/bits.deBruijn32tab", laid_math_bits_deBruijn32tab), ("math/bits.deBruijn64tab", laid_math_bits_deBruijn64tab), ("given.example/pub-quill/pub/ztime.std0x", laid_given_example_pub_quill_pub_ztime_std0x), ("given.example/pub-quill/pub/ztime.longDayNames", laid_given_example_pub_quill_pub_ztime_longDayNames), ("given.example/pub-quill/pub/ztime.longMonthNames", laid_given_example_pub_quill_pub_ztime_longMonthNames), ("internal/strconv.uint64pow10", laid_internal_strconv_uint64pow10)] }
def FnZWithTwiceSaid : Prop := fnZWithTwiceRow.holds Tryz.pinned (OpenSpec.ofChange fnZWithTwiceSpec)

/-- ITS FALSE NEIGHBOUR: 'it returns false'. Refute it at one input. -/
def fnZWithTwiceWrong : ChangeSpec := { name := "fnZWithTwice", vars := ["given.example/pub-quill/pub/ztime.std0x", "given.example/pub-quill/pub/ztime.longMonthNames", "given.example/pub-quill/pub/ztime.longDayNames"], fn := fun _ => fun
  | [d1, d2, d3, d4, d5, g1, g2, g3] => { results := [.lit (.bool false)], args := [d1, d2, d3, d4, d5], vars := [g1, g2, g3] }
  | _ => none }
def FnZWithTwiceWrongFalsely : Prop := fnZWithTwiceRow.holds Tryz.pinned (OpenSpec.ofChange fnZWithTwiceWrong)

/-- 'laws.FnZObserves': WHATEVER THE INPUT: true; the input reads as it did. -/
def fnZObservesSpec : ChangeSpec := { name := "fnZObserves", vars := ["given.example/pub-quill/pub/ztime.std0x", "given.example/pub-quill/pub/ztime.longMonthNames", "given.example/pub-quill/pub/ztime.longDayNames"], fn := fun _ => fun
  | [d1, d2, d3, d4, g1, g2, g3] => { results := [.lit (.bool true)], args := [d1, d2, d3, d4], vars := [g1, g2, g3] }
  | _ => none }
def fnZObservesRow : OpenClaim := { program := "ytieidjlmgalihaagreatdoor", sum := "7fc85820f6c3ed1dfa603ff0357bfff817935313bd57e48af9bbf6e437e7f18d", func := "given.example/pub-quill/laws.FnZObserves", spec := "fnZObserves", inPlace := ["math.Float32frombits", "math.Float64frombits"], unfollowed := true, recurses := true, named := ["internal/strconv.uint64pow10", "math/bits.deBruijn32tab", "math/bits.deBruijn64tab", "given.example/pub-quill/pub/ztime.std0x", "given.example/pub-quill/pub/ztime.longMonthNames", "given.example/pub-quill/pub/ztime.longDayNames"], loops := true, apart := false, laid := [("math/bits.deBruijn32tab", laid_math_bits_deBruijn32tab), ("math/bits.deBruijn64tab", laid_math_bits_deBruijn64tab), ("given.example/pub-quill/pub/ztime.std0x", laid_given_example_pub_quill_pub_ztime_std0x), ("given.example/pub-quill/pub/ztime.longDayNames", laid_given_example_pub_quill_pub_ztime_longDayNames), ("given.example/pub-quill/pub/ztime.longMonthNames", laid_given_example_pub_quill_pub_ztime_longMonthNames), ("internal/strconv.uint64pow10", laid_internal_strconv_uint64pow10)] }
def FnZObservesSaid : Prop := fnZObservesRow.holds Tryz.pinned (OpenSpec.ofChange fnZObservesSpec)

/-- ITS FALSE NEIGHBOUR: 'it returns false'. Refute it at one input. -/
def fnZObservesWrong : ChangeSpec := { name := "fnZObserves", vars := ["given.example/pub-quill/pub/ztime.std0x", "given.example/pub-quill/pub/ztime.longMonthNames", "given.example/pub-quill/pub/ztime.longDayNames"], fn := fun _ => fun
  | [d1, d2, d3, d4, g1, g2, g3] => { results := [.lit (.bool false)], args := [d1, d2, d3, d4], vars := [g1, g2, g3] }
  | _ => none }
def FnZObservesWrongFalsely : Prop := fnZObservesRow.holds Tryz.pinned (OpenSpec.ofChange fnZObservesWrong)

/- THE SECOND FORM. 'bulk': how many values and letters a reading holds, each counted each time it is reached (what is shared counts as often as it is met; a slice's spare places count too). A statement '..UptoSaid' is the law's where the arguments, and the package variables that the reading takes, are together of bulk at most 1048576: NARROWER than '..Said'. Prove '..Said' where nothing that the law and all that it calls make is longer than what came in: it says more and counts as full. Else prove '..UptoSaid'. A law counts once. -/
mutual
def uptoBulk {H : Type} : DataW H → Nat
  | .lit (.string bytes) => bytes.length + 1
  | .lit _ => 1
  | .nil => 1
  | .ptr d => uptoBulk d + 1
  | .slice elems spare => uptoBulkAll elems + uptoBulkAll spare + 1
  | .agg parts => uptoBulkAll parts + 1
  | .iface _ d => uptoBulk d + 1
  | .map entries => uptoBulkEntries entries + 1
  | .held _ => 1
def uptoBulkAll {H : Type} : List (DataW H) → Nat
  | [] => 0
  | d :: r => uptoBulk d + uptoBulkAll r
def uptoBulkEntries {H : Type} : List (Lit × DataW H) → Nat
  | [] => 0
  | x :: r => uptoBulkEntry x + uptoBulkEntries r
def uptoBulkEntry {H : Type} : Lit × DataW H → Nat
  | (.string bytes, d) => bytes.length + uptoBulk d + 1
  | (_, d) => uptoBulk d + 1
 end
def uptoSmall : (H : Type) → List (DataW H) → Bool := fun _ ds => decide (uptoBulkAll ds ≤ 1048576)
def OpenSpec.upto (s : _root_.Go.ChangeSpec) : _root_.Go.OpenSpec := { _root_.Go.OpenSpec.ofChange s with cond := some uptoSmall }

/-- 'laws.FnZTimeBack', WHERE WHAT IT READS IS OF BULK AT MOST 1048576: true; the input reads as it did. -/
def fnZTimeBackUptoRow : OpenClaim := { program := "ytieidjlmgalihaagreatdoor", sum := "7fc85820f6c3ed1dfa603ff0357bfff817935313bd57e48af9bbf6e437e7f18d", func := "given.example/pub-quill/laws.FnZTimeBack", spec := "fnZTimeBack", unfollowed := true, recurses := true, named := ["internal/strconv.uint64pow10", "math/bits.deBruijn32tab", "math/bits.deBruijn64tab", "given.example/pub-quill/pub/ztime.std0x", "given.example/pub-quill/pub/ztime.longMonthNames", "given.example/pub-quill/pub/ztime.longDayNames", "unicode/utf8.first", "unicode/utf8.acceptRanges"], apart := false, laid := [("math/bits.deBruijn32tab", laid_math_bits_deBruijn32tab), ("math/bits.deBruijn64tab", laid_math_bits_deBruijn64tab), ("given.example/pub-quill/pub/ztime.std0x", laid_given_example_pub_quill_pub_ztime_std0x), ("given.example/pub-quill/pub/ztime.longDayNames", laid_given_example_pub_quill_pub_ztime_longDayNames), ("given.example/pub-quill/pub/ztime.longMonthNames", laid_given_example_pub_quill_pub_ztime_longMonthNames), ("internal/strconv.uint64pow10", laid_internal_strconv_uint64pow10), ("unicode/utf8.acceptRanges", laid_unicode_utf8_acceptRanges), ("unicode/utf8.first", laid_unicode_utf8_first)], narrowed := true }
def FnZTimeBackUptoSaid : Prop := fnZTimeBackUptoRow.holds Tryz.pinned (OpenSpec.upto fnZTimeBackSpec)

/-- 'laws.FnZEquals', WHERE WHAT IT READS IS OF BULK AT MOST 1048576: true; the input reads as it did. -/
def fnZEqualsUptoRow : OpenClaim := { program := "ytieidjlmgalihaagreatdoor", sum := "7fc85820f6c3ed1dfa603ff0357bfff817935313bd57e48af9bbf6e437e7f18d", func := "given.example/pub-quill/laws.FnZEquals", spec := "fnZEquals", inPlace := ["math.Float32frombits", "math.Float64frombits"], unfollowed := true, recurses := true, named := ["internal/strconv.uint64pow10", "math/bits.deBruijn32tab", "math/bits.deBruijn64tab", "given.example/pub-quill/pub/ztime.std0x", "given.example/pub-quill/pub/ztime.longMonthNames", "given.example/pub-quill/pub/ztime.longDayNames"], loops := true, apart := false, laid := [("math/bits.deBruijn32tab", laid_math_bits_deBruijn32tab), ("math/bits.deBruijn64tab", laid_math_bits_deBruijn64tab), ("given.example/pub-quill/pub/ztime.std0x", laid_given_example_pub_quill_pub_ztime_std0x), ("given.example/pub-quill/pub/ztime.longDayNames", laid_given_example_pub_quill_pub_ztime_longDayNames), ("given.example/pub-quill/pub/ztime.longMonthNames", laid_given_example_pub_quill_pub_ztime_longMonthNames), ("internal/strconv.uint64pow10", laid_internal_strconv_uint64pow10)], narrowed := true }
def FnZEqualsUptoSaid : Prop := fnZEqualsUptoRow.holds Tryz.pinned (OpenSpec.upto fnZEqualsSpec)

/-- 'laws.FnZTold', WHERE WHAT IT READS IS OF BULK AT MOST 1048576: true; the input reads as it did. -/
def fnZToldUptoRow : OpenClaim := { program := "ytieidjlmgalihaagreatdoor", sum := "7fc85820f6c3ed1dfa603ff0357bfff817935313bd57e48af9bbf6e437e7f18d", func := "given.example/pub-quill/laws.FnZTold", spec := "fnZTold", unfollowed := true, recurses := true, named := ["internal/strconv.uint64pow10", "math/bits.deBruijn32tab", "math/bits.deBruijn64tab", "given.example/pub-quill/pub/ztime.std0x", "given.example/pub-quill/pub/ztime.longMonthNames", "given.example/pub-quill/pub/ztime.longDayNames"], apart := false, laid := [("math/bits.deBruijn32tab", laid_math_bits_deBruijn32tab), ("math/bits.deBruijn64tab", laid_math_bits_deBruijn64tab), ("given.example/pub-quill/pub/ztime.std0x", laid_given_example_pub_quill_pub_ztime_std0x), ("given.example/pub-quill/pub/ztime.longDayNames", laid_given_example_pub_quill_pub_ztime_longDayNames), ("given.example/pub-quill/pub/ztime.longMonthNames", laid_given_example_pub_quill_pub_ztime_longMonthNames), ("internal/strconv.uint64pow10", laid_internal_strconv_uint64pow10)], narrowed := true }
def FnZToldUptoSaid : Prop := fnZToldUptoRow.holds Tryz.pinned (OpenSpec.upto fnZToldSpec)

/-- 'laws.FnZIO', WHERE WHAT IT READS IS OF BULK AT MOST 1048576: true; the input reads as it did. -/
def fnZIOUptoRow : OpenClaim := { program := "ytieidjlmgalihaagreatdoor", sum := "7fc85820f6c3ed1dfa603ff0357bfff817935313bd57e48af9bbf6e437e7f18d", func := "given.example/pub-quill/laws.FnZIO", spec := "fnZIO", inPlace := ["internal/bytealg.IndexByte"], unfollowed := true, recurses := true, named := ["internal/strconv.uint64pow10", "math/bits.deBruijn32tab", "math/bits.deBruijn64tab", "given.example/pub-quill/pub/ztime.std0x", "given.example/pub-quill/pub/ztime.longMonthNames", "given.example/pub-quill/pub/ztime.longDayNames", "bytes.ErrTooLarge"], apart := false, laid := [("math/bits.deBruijn32tab", laid_math_bits_deBruijn32tab), ("math/bits.deBruijn64tab", laid_math_bits_deBruijn64tab), ("given.example/pub-quill/pub/ztime.std0x", laid_given_example_pub_quill_pub_ztime_std0x), ("given.example/pub-quill/pub/ztime.longDayNames", laid_given_example_pub_quill_pub_ztime_longDayNames), ("given.example/pub-quill/pub/ztime.longMonthNames", laid_given_example_pub_quill_pub_ztime_longMonthNames), ("internal/strconv.uint64pow10", laid_internal_strconv_uint64pow10), ("bytes.ErrTooLarge", laid_bytes_ErrTooLarge)], narrowed := true }
def FnZIOUptoSaid : Prop := fnZIOUptoRow.holds Tryz.pinned (OpenSpec.upto fnZIOSpec)

/-- 'laws.FnZIOParts', WHERE WHAT IT READS IS OF BULK AT MOST 1048576: true; the input reads as it did. -/
def fnZIOPartsUptoRow : OpenClaim := { program := "ytieidjlmgalihaagreatdoor", sum := "7fc85820f6c3ed1dfa603ff0357bfff817935313bd57e48af9bbf6e437e7f18d", func := "given.example/pub-quill/laws.FnZIOParts", spec := "fnZIOParts", inPlace := ["internal/bytealg.IndexByte"], unfollowed := true, recurses := true, named := ["internal/strconv.uint64pow10", "math/bits.deBruijn32tab", "math/bits.deBruijn64tab", "given.example/pub-quill/pub/ztime.std0x", "given.example/pub-quill/pub/ztime.longMonthNames", "given.example/pub-quill/pub/ztime.longDayNames", "bytes.ErrTooLarge"], apart := false, laid := [("math/bits.deBruijn32tab", laid_math_bits_deBruijn32tab), ("math/bits.deBruijn64tab", laid_math_bits_deBruijn64tab), ("given.example/pub-quill/pub/ztime.std0x", laid_given_example_pub_quill_pub_ztime_std0x), ("given.example/pub-quill/pub/ztime.longDayNames", laid_given_example_pub_quill_pub_ztime_longDayNames), ("given.example/pub-quill/pub/ztime.longMonthNames", laid_given_example_pub_quill_pub_ztime_longMonthNames), ("internal/strconv.uint64pow10", laid_internal_strconv_uint64pow10), ("bytes.ErrTooLarge", laid_bytes_ErrTooLarge)], narrowed := true }
def FnZIOPartsUptoSaid : Prop := fnZIOPartsUptoRow.holds Tryz.pinned (OpenSpec.upto fnZIOPartsSpec)

/-- 'laws.FnZHooked', WHERE WHAT IT READS IS OF BULK AT MOST 1048576: true; the input reads as it did. -/
def fnZHookedUptoRow : OpenClaim := { program := "ytieidjlmgalihaagreatdoor", sum := "7fc85820f6c3ed1dfa603ff0357bfff817935313bd57e48af9bbf6e437e7f18d", func := "given.example/pub-quill/laws.FnZHooked", spec := "fnZHooked", unfollowed := true, recurses := true, named := ["internal/strconv.uint64pow10", "math/bits.deBruijn32tab", "math/bits.deBruijn64tab", "given.example/pub-quill/pub/ztime.std0x", "given.example/pub-quill/pub/ztime.longMonthNames", "given.example/pub-quill/pub/ztime.longDayNames"], loops := true, apart := false, laid := [("math/bits.deBruijn32tab", laid_math_bits_deBruijn32tab), ("math/bits.deBruijn64tab", laid_math_bits_deBruijn64tab), ("given.example/pub-quill/pub/ztime.std0x", laid_given_example_pub_quill_pub_ztime_std0x), ("given.example/pub-quill/pub/ztime.longDayNames", laid_given_example_pub_quill_pub_ztime_longDayNames), ("given.example/pub-quill/pub/ztime.longMonthNames", laid_given_example_pub_quill_pub_ztime_longMonthNames), ("internal/strconv.uint64pow10", laid_internal_strconv_uint64pow10)], narrowed := true }
def FnZHookedUptoSaid : Prop := fnZHookedUptoRow.holds Tryz.pinned (OpenSpec.upto fnZHookedSpec)

/-- 'laws.FnZIncreases', WHERE WHAT IT READS IS OF BULK AT MOST 1048576: true; the input reads as it did. -/
def fnZIncreasesUptoRow : OpenClaim := { program := "ytieidjlmgalihaagreatdoor", sum := "7fc85820f6c3ed1dfa603ff0357bfff817935313bd57e48af9bbf6e437e7f18d", func := "given.example/pub-quill/laws.FnZIncreases", spec := "fnZIncreases", unfollowed := true, recurses := true, named := ["internal/strconv.uint64pow10", "math/bits.deBruijn32tab", "math/bits.deBruijn64tab", "given.example/pub-quill/pub/ztime.std0x", "given.example/pub-quill/pub/ztime.longMonthNames", "given.example/pub-quill/pub/ztime.longDayNames"], loops := true, apart := false, laid := [("math/bits.deBruijn32tab", laid_math_bits_deBruijn32tab), ("math/bits.deBruijn64tab", laid_math_bits_deBruijn64tab), ("given.example/pub-quill/pub/ztime.std0x", laid_given_example_pub_quill_pub_ztime_std0x), ("given.example/pub-quill/pub/ztime.longDayNames", laid_given_example_pub_quill_pub_ztime_longDayNames), ("given.example/pub-quill/pub/ztime.longMonthNames", laid_given_example_pub_quill_pub_ztime_longMonthNames), ("internal/strconv.uint64pow10", laid_internal_strconv_uint64pow10)], narrowed := true }
def FnZIncreasesUptoSaid : Prop := fnZIncreasesUptoRow.holds Tryz.pinned (OpenSpec.upto fnZIncreasesSpec)

/-- 'laws.FnZTees', WHERE WHAT IT READS IS OF BULK AT MOST 1048576: true; the input reads as it did. -/
def fnZTeesUptoRow : OpenClaim := { program := "ytieidjlmgalihaagreatdoor", sum := "7fc85820f6c3ed1dfa603ff0357bfff817935313bd57e48af9bbf6e437e7f18d", func := "given.example/pub-quill/laws.FnZTees", spec := "fnZTees", unfollowed := true, recurses := true, named := ["internal/strconv.uint64pow10", "math/bits.deBruijn32tab", "math/bits.deBruijn64tab", "given.example/pub-quill/pub/ztime.std0x", "given.example/pub-quill/pub/ztime.longMonthNames", "given.example/pub-quill/pub/ztime.longDayNames"], loops := true, apart := false, laid := [("math/bits.deBruijn32tab", laid_math_bits_deBruijn32tab), ("math/bits.deBruijn64tab", laid_math_bits_deBruijn64tab), ("given.example/pub-quill/pub/ztime.std0x", laid_given_example_pub_quill_pub_ztime_std0x), ("given.example/pub-quill/pub/ztime.longDayNames", laid_given_example_pub_quill_pub_ztime_longDayNames), ("given.example/pub-quill/pub/ztime.longMonthNames", laid_given_example_pub_quill_pub_ztime_longMonthNames), ("internal/strconv.uint64pow10", laid_internal_strconv_uint64pow10)], narrowed := true }
def FnZTeesUptoSaid : Prop := fnZTeesUptoRow.holds Tryz.pinned (OpenSpec.upto fnZTeesSpec)

/-- 'laws.FnZWithTwice', WHERE WHAT IT READS IS OF BULK AT MOST 1048576: true; the input reads as it did. -/
def fnZWithTwiceUptoRow : OpenClaim := { program := "ytieidjlmgalihaagreatdoor", sum := "7fc85820f6c3ed1dfa603ff0357bfff817935313bd57e48af9bbf6e437e7f18d", func := "given.example/pub-quill/laws.FnZWithTwice", spec := "fnZWithTwice", unfollowed := true, recurses := true, named := ["internal/strconv.uint64pow10", "math/bits.deBruijn32tab", "math/bits.deBruijn64tab", "given.example/pub-quill/pub/ztime.std0x", "given.example/pub-quill/pub/ztime.longMonthNames", "given.example/pub-quill/pub/ztime.longDayNames"], loops := true, apart := false, laid := [("math/bits.deBruijn32tab", laid_math_bits_deBruijn32tab), ("math/bits.deBruijn64tab", laid_math_bits_deBruijn64tab), ("given.example/pub-quill/pub/ztime.std0x", laid_given_example_pub_quill_pub_ztime_std0x), ("given.example/pub-quill/pub/ztime.longDayNames", laid_given_example_pub_quill_pub_ztime_longDayNames), ("given.example/pub-quill/pub/ztime.longMonthNames", laid_given_example_pub_quill_pub_ztime_longMonthNames), ("internal/strconv.uint64pow10", laid_internal_strconv_uint64pow10)], narrowed := true }
def FnZWithTwiceUptoSaid : Prop := fnZWithTwiceUptoRow.holds Tryz.pinned (OpenSpec.upto fnZWithTwiceSpec)

/-- 'laws.FnZObserves', WHERE WHAT IT READS IS OF BULK AT MOST 1048576: true; the input reads as it did. -/
def fnZObservesUptoRow : OpenClaim := { program := "ytieidjlmgalihaagreatdoor", sum := "7fc85820f6c3ed1dfa603ff0357bfff817935313bd57e48af9bbf6e437e7f18d", func := "given.example/pub-quill/laws.FnZObserves", spec := "fnZObserves", inPlace := ["math.Float32frombits", "math.Float64frombits"], unfollowed := true, recurses := true, named := ["internal/strconv.uint64pow10", "math/bits.deBruijn32tab", "math/bits.deBruijn64tab", "given.example/pub-quill/pub/ztime.std0x", "given.example/pub-quill/pub/ztime.longMonthNames", "given.example/pub-quill/pub/ztime.longDayNames"], loops := true, apart := false, laid := [("math/bits.deBruijn32tab", laid_math_bits_deBruijn32tab), ("math/bits.deBruijn64tab", laid_math_bits_deBruijn64tab), ("given.example/pub-quill/pub/ztime.std0x", laid_given_example_pub_quill_pub_ztime_std0x), ("given.example/pub-quill/pub/ztime.longDayNames", laid_given_example_pub_quill_pub_ztime_longDayNames), ("given.example/pub-quill/pub/ztime.longMonthNames", laid_given_example_pub_quill_pub_ztime_longMonthNames), ("internal/strconv.uint64pow10", laid_internal_strconv_uint64pow10)], narrowed := true }
def FnZObservesUptoSaid : Prop := fnZObservesUptoRow.holds Tryz.pinned (OpenSpec.upto fnZObservesSpec)

end Rows
end Go.Proofs.YtieidjlmgalihaaGreatDoor
