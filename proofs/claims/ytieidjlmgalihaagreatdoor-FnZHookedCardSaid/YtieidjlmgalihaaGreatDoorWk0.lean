/- The closed calls behind zAwake. -/
import Derived.Test.YtieidjlmgalihaaGreatDoorKit
namespace Go.Proofs.YtieidjlmgalihaaGreatDoor
open Go.RowKit
set_option maxRecDepth 100000
theorem lvl_info (w : World) : Calls Tryz.prog 164 #[.int .i8 0] w fun e w' => e = .returned (.string ⟨#[105, 110, 102, 111]⟩) ∧ w = w' := by
  go_enter Tryz.func164, Tryz.ntmps164
  go_wp2
  go_ret
  exact ⟨rfl, rfl⟩
set_option maxHeartbeats 2000000 in
theorem levelText_any (w : World) : Calls Tryz.prog 45 #[.int .i64 0, .int .i64 1] w fun e w' => e = .returned (.string ⟨#[105, 110, 102, 111]⟩) ∧ Below w.heap.size w w' := by
  have hna : ∀ (a : Addr) (W : World), (nilAhead 615 275 (.pointer (some a)) "AppendString").run Tryz.prog W = .ok (some false) W := fun _ _ => by kernel_rfl
  have hta : ∀ (v : Value) (W : World), (Instr.typeAssert (.iface 9 v) 20 9 true).run Tryz.prog W = .ok (.tuple #[v, .bool true]) W := fun _ _ => by kernel_rfl
  have qf : ∀ (W : World) (f : Fn) (a b : Array Value), (binOp .eql 99 (.func f a b) .nilFunc).run Tryz.prog W = .ok (.bool false) W := fun _ _ _ _ => by kernel_rfl
  have hmk : ∀ (W : World), (Instr.makeSlice 277 (.int .i64 0) (.int .i64 2)).run Tryz.prog W = .ok (.slice (some ⟨W.heap.size, 0, none⟩) 0 2) (W.alloc (.cells #[.nilIface, .nilIface] 20)) := fun _ => by kernel_rfl
  go_enter Tryz.func45, Tryz.ntmps45
  go_wp2
  go_region_with (first | (go_at_call 164; refine (lvl_info _).mono ?_; rintro e w' ⟨rfl, rfl⟩) | go_in)
  all_goals go_wp2
  all_goals go_ret
  all_goals refine ⟨rfl, ?_⟩
  all_goals go_grown
end Go.Proofs.YtieidjlmgalihaaGreatDoor
