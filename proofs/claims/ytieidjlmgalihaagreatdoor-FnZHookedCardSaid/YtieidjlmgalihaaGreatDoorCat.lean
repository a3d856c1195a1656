/- The catcher: Check. -/
import Derived.Test.YtieidjlmgalihaaGreatDoorWk9
namespace Go.Proofs.YtieidjlmgalihaaGreatDoor
open Go.RowKit
set_option maxRecDepth 100000
/-- A catcher's cells. -/
abbrev catArr (Ob Lb : Nat) : Array Value := #[.iface 184 (.agg #[]), .func (.func 73) #[] #[.pointer (some ⟨Ob, 0, none⟩), .pointer (some ⟨Lb, 0, none⟩)]]
set_option maxHeartbeats 1000000 in
theorem catCheck (w : World) (Ob Lb : Nat) (x : Ent) :
    Calls Tryz.prog 74 #[.agg (catArr Ob Lb), .agg x.pub, .pointer none] w (NewCE x (.iface 187 (.agg (catArr Ob Lb))) w) := by
  go_enter Tryz.func74, Tryz.ntmps74
  go_wp2_with (first
    | (go_at_call 116; go_must (refine (addCore_nil _ x 187 (.agg (catArr Ob Lb))).mono ?_; rintro e w1 hpost; have hp := hpost.up (w := w) (by go_grown); obtain ⟨ce, g, cap, rfl, h1, h2, h3, h4⟩ := hp; clear hpost))
    | go_in)
  go_ret
  exact ⟨ce, g, cap, rfl, h1, h2, h3, h4⟩
end Go.Proofs.YtieidjlmgalihaaGreatDoor
