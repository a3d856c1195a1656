/- The rows' frame: the program's closed facts, the start that fits, the table. -/
import Derived.Test.YtieidjlmgalihaaGreatDoorRows
import Derived.Test.YtieidjlmgalihaaGreatDoorKit3
import Derived.ProofKit
import Derived.LaidMore
import Derived.OpenShut
import Derived.OpenVars
import Derived.Stop.Joined
import Derived.Lib.LaidTab
import Derived.Lay
import Derived.Lib.AppendIntMem
import Derived.Stop.LaidErr
set_option linter.all false
namespace Go.Proofs.YtieidjlmgalihaaGreatDoor
open Go.ChangeShapes Go.WideShapes Go.ChangeAt Go.RowKit
set_option maxRecDepth 100000
theorem Tryz.own : ownKnob Tryz.prog.godebug = none := by kernel_rfl
theorem Tryz.laidOut : laidOutB Tryz.prog = true := by kernel_rfl
theorem Tryz.rowed : varsRowed Tryz.prog ["given.example/pub-quill/pub/ztime.std0x", "given.example/pub-quill/pub/ztime.longMonthNames", "given.example/pub-quill/pub/ztime.longDayNames"] = true := by kernel_rfl
/-- What the rows list. -/
abbrev six : List (String × DataW Unit) := [("math/bits.deBruijn32tab", Rows.laid_math_bits_deBruijn32tab), ("math/bits.deBruijn64tab", Rows.laid_math_bits_deBruijn64tab), ("given.example/pub-quill/pub/ztime.std0x", Rows.laid_given_example_pub_quill_pub_ztime_std0x), ("given.example/pub-quill/pub/ztime.longDayNames", Rows.laid_given_example_pub_quill_pub_ztime_longDayNames), ("given.example/pub-quill/pub/ztime.longMonthNames", Rows.laid_given_example_pub_quill_pub_ztime_longMonthNames), ("internal/strconv.uint64pow10", Rows.laid_internal_strconv_uint64pow10)]
/-- The door's own heap meets the condition. -/
theorem door_met (os : Os) (args : Array Value) : laidMetH Tryz.prog six ((World.doorLaid Tryz.prog 72 os).forCall (fun _ _ => 0) ⟨#[], args, []⟩).memory :=
  laidMetH_of_parts3 (fuel := 8) (laidMet_of_run' 8 (by kernel_rfl) (by kernel_rfl)) (by kernel_rfl) (by kernel_rfl)
theorem door_zip (os : Os) (args : Array Value) : World.variablesZipB Tryz.prog ((World.doorLaid Tryz.prog 72 os).forCall (fun _ _ => 0) ⟨#[], args, []⟩) = true := by kernel_rfl
theorem door_rest (os : Os) (args : Array Value) : (((World.doorLaid Tryz.prog 72 os).forCall (fun _ _ => 0) ⟨#[], args, []⟩).heap.toList.drop Tryz.prog.globals.size).take ((begin Tryz.prog (fun _ _ => 0) default).world.heap.size - Tryz.prog.globals.size) = (begin Tryz.prog (fun _ _ => 0) default).world.heap.toList.drop Tryz.prog.globals.size := by kernel_rfl
theorem door_shaped (os : Os) (args : Array Value) : ((World.doorLaid Tryz.prog 72 os).forCall (fun _ _ => 0) ⟨#[], args, []⟩).Shaped Tryz.prog := World.shaped_of_ZipB (door_zip os args) (door_rest os args)
end Go.Proofs.YtieidjlmgalihaaGreatDoor
namespace Go.Proofs.YtieidjlmgalihaaGreatDoor
open Go.ChangeShapes Go.WideShapes Go.ChangeAt Go.RowKit
set_option maxRecDepth 100000
theorem tab_of_laid {W : World} (h : laidMetH Tryz.prog six W) : Tab10 W.heap.size W := by
  rw [MakeChecks.laidMetH_plain _ _ _ (by kernel_rfl)] at h
  have h6 : laidMet Tryz.prog [("internal/strconv.uint64pow10", Lib.tabData .u64 Lib.pow10Tab)] W := laidMet.tail (laidMet.tail (laidMet.tail (laidMet.tail (laidMet.tail h))))
  exact Lib.tabBelow_of_tabIs (Lib.tabIs_of_head (g := 5) (t := 378) (e := 35) (n := 20) (by kernel_rfl) (by kernel_rfl) (by kernel_rfl) (by kernel_rfl) (by kernel_rfl) (by kernel_rfl) h6)
end Go.Proofs.YtieidjlmgalihaaGreatDoor
