/- The rows' frame: the program's closed facts, the start that fits, the table. -/
import Derived.Test.YtieidjlmgalihaaGreatDoorRows
import Derived.Test.YtieidjlmgalihaaGreatDoorKit
import Derived.ProofKit
import Derived.LaidMore
import Derived.OpenShut
import Derived.OpenVars
import Derived.Stop.Joined
import Derived.Test.YtieidjlmgalihaaGreatDoorFrm
import Derived.Lib.LaidTab
import Derived.Stop.LaidErr
import Derived.Lib.AppendIntMem
namespace Go.Proofs.YtieidjlmgalihaaGreatDoor
open Go.ChangeShapes Go.WideShapes Go.ChangeAt Go.RowKit
set_option maxRecDepth 100000
theorem tab_of_laid {W : World} (h : laidMetH Tryz.prog six W) : Tab10 W.heap.size W := by
  rw [MakeChecks.laidMetH_plain _ _ _ (by kernel_rfl)] at h
  have h6 : laidMet Tryz.prog [("internal/strconv.uint64pow10", Lib.tabData .u64 Lib.pow10Tab)] W := laidMet.tail (laidMet.tail (laidMet.tail (laidMet.tail (laidMet.tail h))))
  exact Lib.tabBelow_of_tabIs (Lib.tabIs_of_head (g := 5) (t := 378) (e := 35) (n := 20) (by kernel_rfl) (by kernel_rfl) (by kernel_rfl) (by kernel_rfl) (by kernel_rfl) (by kernel_rfl) h6)
end Go.Proofs.YtieidjlmgalihaaGreatDoor
