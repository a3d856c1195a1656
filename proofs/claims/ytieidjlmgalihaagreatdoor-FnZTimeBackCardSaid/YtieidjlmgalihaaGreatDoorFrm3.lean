/- The frame of FnZTimeBack's row: eight variables. -/
import Derived.Test.YtieidjlmgalihaaGreatDoorFrm2
set_option linter.all false
namespace Go.Proofs.YtieidjlmgalihaaGreatDoor
open Go.ChangeShapes Go.WideShapes Go.ChangeAt Go.RowKit
set_option maxRecDepth 100000
/-- What the row lists. -/
abbrev eight : List (String × DataW Unit) := [("math/bits.deBruijn32tab", Rows.laid_math_bits_deBruijn32tab), ("math/bits.deBruijn64tab", Rows.laid_math_bits_deBruijn64tab), ("given.example/pub-quill/pub/ztime.std0x", Rows.laid_given_example_pub_quill_pub_ztime_std0x), ("given.example/pub-quill/pub/ztime.longDayNames", Rows.laid_given_example_pub_quill_pub_ztime_longDayNames), ("given.example/pub-quill/pub/ztime.longMonthNames", Rows.laid_given_example_pub_quill_pub_ztime_longMonthNames), ("internal/strconv.uint64pow10", Rows.laid_internal_strconv_uint64pow10), ("unicode/utf8.acceptRanges", Rows.laid_unicode_utf8_acceptRanges), ("unicode/utf8.first", Rows.laid_unicode_utf8_first)]
/-- A start that meets the condition. -/
theorem door_met8 (os : Os) (args : Array Value) : laidMetH Tryz.prog eight ((World.laidAll Tryz.prog os eight).forCall (fun _ _ => 0) ⟨#[], args, []⟩).memory := by
  rw [MakeChecks.laidMetH_plain _ _ _ (by kernel_rfl)]
  exact laidMet_laidAll _ (by kernel_rfl) (by kernel_rfl)
theorem laid_zip8 (os : Os) (args : Array Value) : World.variablesZipB Tryz.prog ((World.laidAll Tryz.prog os eight).forCall (fun _ _ => 0) ⟨#[], args, []⟩) = true := by kernel_rfl
theorem laid_rest8 (os : Os) (args : Array Value) : (((World.laidAll Tryz.prog os eight).forCall (fun _ _ => 0) ⟨#[], args, []⟩).heap.toList.drop Tryz.prog.globals.size).take ((begin Tryz.prog (fun _ _ => 0) default).world.heap.size - Tryz.prog.globals.size) = (begin Tryz.prog (fun _ _ => 0) default).world.heap.toList.drop Tryz.prog.globals.size := by kernel_rfl
theorem laid_shaped8 (os : Os) (args : Array Value) : ((World.laidAll Tryz.prog os eight).forCall (fun _ _ => 0) ⟨#[], args, []⟩).Shaped Tryz.prog := World.shaped_of_ZipB (laid_zip8 os args) (laid_rest8 os args)
theorem tab_of_laid8 {W : World} (h : laidMetH Tryz.prog eight W) : Tab10 W.heap.size W := by
  rw [MakeChecks.laidMetH_plain _ _ _ (by kernel_rfl)] at h
  have h6 : laidMet Tryz.prog [("internal/strconv.uint64pow10", Lib.tabData .u64 Lib.pow10Tab), ("unicode/utf8.acceptRanges", Rows.laid_unicode_utf8_acceptRanges), ("unicode/utf8.first", Rows.laid_unicode_utf8_first)] W := laidMet.tail (laidMet.tail (laidMet.tail (laidMet.tail (laidMet.tail h))))
  exact Lib.tabBelow_of_tabIs (Lib.tabIs_of_head (g := 5) (t := 378) (e := 35) (n := 20) (by kernel_rfl) (by kernel_rfl) (by kernel_rfl) (by kernel_rfl) (by kernel_rfl) (by kernel_rfl) h6)
end Go.Proofs.YtieidjlmgalihaaGreatDoor
