/- zAwake answers true. -/
import Derived.Test.YtieidjlmgalihaaGreatDoorWk1
import Derived.Test.YtieidjlmgalihaaGreatDoorWk2
set_option linter.all false
namespace Go.Proofs.YtieidjlmgalihaaGreatDoor
open Go.RowKit
set_option maxRecDepth 100000
theorem awake_any (w : World) (htab : Tab10 w.heap.size w) : Calls Tryz.prog 15 #[] w fun e w' => e = .returned (.bool true) ∧ Below w.heap.size w w' := by
  go_enter Tryz.func15, Tryz.ntmps15
  go_wp2_with (first
    | (go_at_call 45; refine (levelText_any _).mono ?_; rintro e w1 ⟨rfl, hb1⟩)
    | (go_at_call 46; refine (durText_any _ (tabUp htab hb1 hb1.size)).mono ?_; rintro e w2 ⟨rfl, hb2⟩))
  go_ret
  exact ⟨rfl, hb1.trans (hb2.mono hb1.size)⟩
end Go.Proofs.YtieidjlmgalihaaGreatDoor
