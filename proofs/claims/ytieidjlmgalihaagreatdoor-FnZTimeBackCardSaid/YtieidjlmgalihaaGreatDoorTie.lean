/-
  DERIVED. GIVEN WITH THE SEED: THE PROGRAM's TIES (one call each: nine closed facts by the kernel) AND EACH ROW's TIE, after the 31st guide's Derived/Test/Toyas{Tie, Card}.lean. No idea stands in it: it is a product of the set-up. Laid BY PROGRAM, IN A SANDBOX (cutbox-door.mjs). By AI agents, Wed Nov 11 2026. No macro, syntax, notation, axiom, sorry.
-/
import Derived.Test.YtieidjlmgalihaaGreatDoorRows
import Derived.LaidByTextLater
import Derived.SevenTiedAt
import Derived.LaidSub
import Derived.LaidOnce
namespace Go.Proofs.YtieidjlmgalihaaGreatDoor
open Go
set_option maxRecDepth 100000
theorem seatTie1 : Tryz.prog.laidByTextLater [("math/bits.deBruijn32tab", Rows.laid_math_bits_deBruijn32tab), ("math/bits.deBruijn64tab", Rows.laid_math_bits_deBruijn64tab), ("given.example/pub-quill/pub/ztime.std0x", Rows.laid_given_example_pub_quill_pub_ztime_std0x), ("given.example/pub-quill/pub/ztime.longDayNames", Rows.laid_given_example_pub_quill_pub_ztime_longDayNames), ("given.example/pub-quill/pub/ztime.longMonthNames", Rows.laid_given_example_pub_quill_pub_ztime_longMonthNames), ("internal/strconv.uint64pow10", Rows.laid_internal_strconv_uint64pow10), ("unicode/utf8.acceptRanges", Rows.laid_unicode_utf8_acceptRanges), ("bytes.ErrTooLarge", Rows.laid_bytes_ErrTooLarge)] [.data, .data, .data, .data, .data, .data, .data, .sentinel] true :=
  Program.laidByTextLater_by_one 72 8 65 (by kernel_rfl) (by kernel_rfl) (by kernel_rfl) (by kernel_rfl) (by kernel_rfl) (by kernel_rfl) (fun _ _ => by kernel_rfl)
theorem pin_laid_unicode_utf8_first : Tryz.pinned.checked.prog.pinnedFits "unicode/utf8.first" = true := by kernel_rfl
theorem noOwnUnsafe : Tryz.pinned.checked.prog.headLifts.contains "ownunsafe" = false := by kernel_rfl
theorem fits1 : Tryz.pinned.checked.prog.listedFits [("math/bits.deBruijn32tab", Rows.laid_math_bits_deBruijn32tab), ("math/bits.deBruijn64tab", Rows.laid_math_bits_deBruijn64tab), ("given.example/pub-quill/pub/ztime.std0x", Rows.laid_given_example_pub_quill_pub_ztime_std0x), ("given.example/pub-quill/pub/ztime.longDayNames", Rows.laid_given_example_pub_quill_pub_ztime_longDayNames), ("given.example/pub-quill/pub/ztime.longMonthNames", Rows.laid_given_example_pub_quill_pub_ztime_longMonthNames), ("internal/strconv.uint64pow10", Rows.laid_internal_strconv_uint64pow10), ("unicode/utf8.acceptRanges", Rows.laid_unicode_utf8_acceptRanges), ("unicode/utf8.first", Rows.laid_unicode_utf8_first)] = true := by
  unfold Program.listedFits
  rw [noOwnUnsafe]
  kernel_rfl
theorem tie : Tryz.prog.laidByTextLater [("math/bits.deBruijn32tab", Rows.laid_math_bits_deBruijn32tab), ("math/bits.deBruijn64tab", Rows.laid_math_bits_deBruijn64tab), ("given.example/pub-quill/pub/ztime.std0x", Rows.laid_given_example_pub_quill_pub_ztime_std0x), ("given.example/pub-quill/pub/ztime.longDayNames", Rows.laid_given_example_pub_quill_pub_ztime_longDayNames), ("given.example/pub-quill/pub/ztime.longMonthNames", Rows.laid_given_example_pub_quill_pub_ztime_longMonthNames), ("internal/strconv.uint64pow10", Rows.laid_internal_strconv_uint64pow10), ("unicode/utf8.acceptRanges", Rows.laid_unicode_utf8_acceptRanges)] [.data, .data, .data, .data, .data, .data, .data] true :=
  Program.laidByTextLater.sub seatTie1 ["math/bits.deBruijn32tab", "math/bits.deBruijn64tab", "given.example/pub-quill/pub/ztime.std0x", "given.example/pub-quill/pub/ztime.longDayNames", "given.example/pub-quill/pub/ztime.longMonthNames", "internal/strconv.uint64pow10", "unicode/utf8.acceptRanges"] (by kernel_rfl) (by kernel_rfl)
theorem fnZTimeBack_row_tie : Rows.fnZTimeBackRow.laidByTextAt .later Tryz.pinned [.data, .data, .data, .data, .data, .data, .data, .pinned] true :=
  OpenClaim.laidByTextAt_pinned rfl rfl tie rfl rfl rfl rfl (fun y hy _e => by
    simp only [Rows.fnZTimeBackRow, List.zip_cons_cons, List.zip_nil_right, List.mem_cons, List.mem_nil_iff, or_false] at hy
    rcases hy with rfl | rfl | rfl | rfl | rfl | rfl | rfl | rfl
    · cases _e
    · cases _e
    · cases _e
    · cases _e
    · cases _e
    · cases _e
    · cases _e
    · exact ⟨pin_laid_unicode_utf8_first, by kernel_rfl⟩) fits1
theorem tie2 : Tryz.prog.laidByTextLater [("math/bits.deBruijn32tab", Rows.laid_math_bits_deBruijn32tab), ("math/bits.deBruijn64tab", Rows.laid_math_bits_deBruijn64tab), ("given.example/pub-quill/pub/ztime.std0x", Rows.laid_given_example_pub_quill_pub_ztime_std0x), ("given.example/pub-quill/pub/ztime.longDayNames", Rows.laid_given_example_pub_quill_pub_ztime_longDayNames), ("given.example/pub-quill/pub/ztime.longMonthNames", Rows.laid_given_example_pub_quill_pub_ztime_longMonthNames), ("internal/strconv.uint64pow10", Rows.laid_internal_strconv_uint64pow10)] [.data, .data, .data, .data, .data, .data] true :=
  Program.laidByTextLater.sub seatTie1 ["math/bits.deBruijn32tab", "math/bits.deBruijn64tab", "given.example/pub-quill/pub/ztime.std0x", "given.example/pub-quill/pub/ztime.longDayNames", "given.example/pub-quill/pub/ztime.longMonthNames", "internal/strconv.uint64pow10"] (by kernel_rfl) (by kernel_rfl)
theorem fnZEquals_row_tie : Rows.fnZEqualsRow.laidByTextAt .later Tryz.pinned [.data, .data, .data, .data, .data, .data] true :=
  OpenClaim.laidByTextAt_later rfl rfl tie2 noOwnUnsafe
theorem fnZTold_row_tie : Rows.fnZToldRow.laidByTextAt .later Tryz.pinned [.data, .data, .data, .data, .data, .data] true :=
  OpenClaim.laidByTextAt_later rfl rfl tie2 noOwnUnsafe
theorem fnZHooked_row_tie : Rows.fnZHookedRow.laidByTextAt .later Tryz.pinned [.data, .data, .data, .data, .data, .data] true :=
  OpenClaim.laidByTextAt_later rfl rfl tie2 noOwnUnsafe
theorem fnZIncreases_row_tie : Rows.fnZIncreasesRow.laidByTextAt .later Tryz.pinned [.data, .data, .data, .data, .data, .data] true :=
  OpenClaim.laidByTextAt_later rfl rfl tie2 noOwnUnsafe
theorem fnZTees_row_tie : Rows.fnZTeesRow.laidByTextAt .later Tryz.pinned [.data, .data, .data, .data, .data, .data] true :=
  OpenClaim.laidByTextAt_later rfl rfl tie2 noOwnUnsafe
theorem fnZWithTwice_row_tie : Rows.fnZWithTwiceRow.laidByTextAt .later Tryz.pinned [.data, .data, .data, .data, .data, .data] true :=
  OpenClaim.laidByTextAt_later rfl rfl tie2 noOwnUnsafe
theorem fnZObserves_row_tie : Rows.fnZObservesRow.laidByTextAt .later Tryz.pinned [.data, .data, .data, .data, .data, .data] true :=
  OpenClaim.laidByTextAt_later rfl rfl tie2 noOwnUnsafe
theorem tie3 : Tryz.prog.laidByTextLater [("math/bits.deBruijn32tab", Rows.laid_math_bits_deBruijn32tab), ("math/bits.deBruijn64tab", Rows.laid_math_bits_deBruijn64tab), ("given.example/pub-quill/pub/ztime.std0x", Rows.laid_given_example_pub_quill_pub_ztime_std0x), ("given.example/pub-quill/pub/ztime.longDayNames", Rows.laid_given_example_pub_quill_pub_ztime_longDayNames), ("given.example/pub-quill/pub/ztime.longMonthNames", Rows.laid_given_example_pub_quill_pub_ztime_longMonthNames), ("internal/strconv.uint64pow10", Rows.laid_internal_strconv_uint64pow10), ("bytes.ErrTooLarge", Rows.laid_bytes_ErrTooLarge)] [.data, .data, .data, .data, .data, .data, .sentinel] true :=
  Program.laidByTextLater.sub seatTie1 ["math/bits.deBruijn32tab", "math/bits.deBruijn64tab", "given.example/pub-quill/pub/ztime.std0x", "given.example/pub-quill/pub/ztime.longDayNames", "given.example/pub-quill/pub/ztime.longMonthNames", "internal/strconv.uint64pow10", "bytes.ErrTooLarge"] (by kernel_rfl) (by kernel_rfl)
theorem fnZIO_row_tie : Rows.fnZIORow.laidByTextAt .later Tryz.pinned [.data, .data, .data, .data, .data, .data, .sentinel] true :=
  OpenClaim.laidByTextAt_later rfl rfl tie3 noOwnUnsafe
theorem fnZIOParts_row_tie : Rows.fnZIOPartsRow.laidByTextAt .later Tryz.pinned [.data, .data, .data, .data, .data, .data, .sentinel] true :=
  OpenClaim.laidByTextAt_later rfl rfl tie3 noOwnUnsafe
theorem fnZTimeBackUpto_row_tie : Rows.fnZTimeBackUptoRow.laidByTextAt .later Tryz.pinned [.data, .data, .data, .data, .data, .data, .data, .pinned] true :=
  OpenClaim.laidByTextAt_pinned rfl rfl tie rfl rfl rfl rfl (fun y hy _e => by
    simp only [Rows.fnZTimeBackUptoRow, List.zip_cons_cons, List.zip_nil_right, List.mem_cons, List.mem_nil_iff, or_false] at hy
    rcases hy with rfl | rfl | rfl | rfl | rfl | rfl | rfl | rfl
    · cases _e
    · cases _e
    · cases _e
    · cases _e
    · cases _e
    · cases _e
    · cases _e
    · exact ⟨pin_laid_unicode_utf8_first, by kernel_rfl⟩) fits1
theorem fnZEqualsUpto_row_tie : Rows.fnZEqualsUptoRow.laidByTextAt .later Tryz.pinned [.data, .data, .data, .data, .data, .data] true :=
  OpenClaim.laidByTextAt_later rfl rfl tie2 noOwnUnsafe
theorem fnZToldUpto_row_tie : Rows.fnZToldUptoRow.laidByTextAt .later Tryz.pinned [.data, .data, .data, .data, .data, .data] true :=
  OpenClaim.laidByTextAt_later rfl rfl tie2 noOwnUnsafe
theorem fnZIOUpto_row_tie : Rows.fnZIOUptoRow.laidByTextAt .later Tryz.pinned [.data, .data, .data, .data, .data, .data, .sentinel] true :=
  OpenClaim.laidByTextAt_later rfl rfl tie3 noOwnUnsafe
theorem fnZIOPartsUpto_row_tie : Rows.fnZIOPartsUptoRow.laidByTextAt .later Tryz.pinned [.data, .data, .data, .data, .data, .data, .sentinel] true :=
  OpenClaim.laidByTextAt_later rfl rfl tie3 noOwnUnsafe
theorem fnZHookedUpto_row_tie : Rows.fnZHookedUptoRow.laidByTextAt .later Tryz.pinned [.data, .data, .data, .data, .data, .data] true :=
  OpenClaim.laidByTextAt_later rfl rfl tie2 noOwnUnsafe
theorem fnZIncreasesUpto_row_tie : Rows.fnZIncreasesUptoRow.laidByTextAt .later Tryz.pinned [.data, .data, .data, .data, .data, .data] true :=
  OpenClaim.laidByTextAt_later rfl rfl tie2 noOwnUnsafe
theorem fnZTeesUpto_row_tie : Rows.fnZTeesUptoRow.laidByTextAt .later Tryz.pinned [.data, .data, .data, .data, .data, .data] true :=
  OpenClaim.laidByTextAt_later rfl rfl tie2 noOwnUnsafe
theorem fnZWithTwiceUpto_row_tie : Rows.fnZWithTwiceUptoRow.laidByTextAt .later Tryz.pinned [.data, .data, .data, .data, .data, .data] true :=
  OpenClaim.laidByTextAt_later rfl rfl tie2 noOwnUnsafe
theorem fnZObservesUpto_row_tie : Rows.fnZObservesUptoRow.laidByTextAt .later Tryz.pinned [.data, .data, .data, .data, .data, .data] true :=
  OpenClaim.laidByTextAt_later rfl rfl tie2 noOwnUnsafe
end Go.Proofs.YtieidjlmgalihaaGreatDoor
