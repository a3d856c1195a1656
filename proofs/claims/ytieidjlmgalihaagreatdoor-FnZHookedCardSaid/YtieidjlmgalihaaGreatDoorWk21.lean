/- The observer's core: Check, Write; the ring. -/
import Derived.Test.YtieidjlmgalihaaGreatDoorWk20
namespace Go.Proofs.YtieidjlmgalihaaGreatDoor
open Go.RowKit
set_option maxRecDepth 100000
/-- An observer's cells: its level, its logs, no context. -/
abbrev obsArr (a : Int) (OL : Nat) : Array Value := #[.iface 142 (.int .i8 a), .pointer (some ⟨OL, 0, none⟩), .slice none 0 0]
set_option maxHeartbeats 1000000 in
theorem obsCheck_yes (w : World) (O OL : Nat) (a : Int) (x : Ent) (hO : Blk w O 259 (obsArr a OL)) (hlv : a ≤ IntKind.i8.wrap x.level) :
    Calls Tryz.prog 361 #[.pointer (some ⟨O, 0, none⟩), .agg x.pub, .pointer none] w (NewCE x (.iface 257 (.pointer (some ⟨O, 0, none⟩))) w) := by
  obtain ⟨c1, f1, l1⟩ := hO.use
  have d1 := c1 0
  simp only [List.getElem?_toArray, List.getElem?_cons_zero] at d1
  go_enter Tryz.func361, Tryz.ntmps361
  go_wp2
  go_region_held3 (fun w' => w'.cell? ⟨O, 0, none⟩ = some (.iface 142 (.int .i8 a)) ∧ w'.cell? ⟨w.heap.size, 0, none⟩ = some (.int .i8 (IntKind.i8.wrap x.level))) (go_keep) (first
    | go_in)
  go_wp2_with (go_at_call 116; go_must (refine (addCore_nil _ x 257 (.pointer (some ⟨O, 0, none⟩))).mono ?_; rintro e w1 hpost; have hp := hpost.up (w := w) (by go_grown); obtain ⟨ce, g, cap, rfl, h1, h2, h3, h4⟩ := hp; clear hpost))
  go_ret
  exact ⟨ce, g, cap, rfl, h1, h2, h3, h4⟩
end Go.Proofs.YtieidjlmgalihaaGreatDoor
