/- The closed calls behind zAwake. -/
import Derived.Test.YtieidjlmgalihaaGreatDoorKit3
set_option linter.all false
namespace Go.Proofs.YtieidjlmgalihaaGreatDoor
open Go.RowKit
set_option maxRecDepth 100000
theorem lvl_info (w : World) : Calls Tryz.prog 164 #[.int .i8 0] w fun e w' => e = .returned (.string ⟨#[105, 110, 102, 111]⟩) ∧ w = w' := by
  go_enter Tryz.func164, Tryz.ntmps164
  go_wp2
  go_ret
  exact ⟨rfl, rfl⟩
set_option maxHeartbeats 2000000 in
theorem levelText_any (w : World) : Calls Tryz.prog 45 #[.int .i64 0, .int .i64 1] w fun e w' => e = .returned (.string ⟨#[105, 110, 102, 111]⟩) ∧ Below w.heap.size w w' := by
  have hna : ∀ (a : Addr) (W : World), (nilAhead 615 275 (.pointer (some a)) "AppendString").run Tryz.prog W = .ok (some false) W := fun _ _ => by kernel_rfl
  have hta : ∀ (v : Value) (W : World), (Instr.typeAssert (.iface 9 v) 20 9 true).run Tryz.prog W = .ok (.tuple #[v, .bool true]) W := fun _ _ => by kernel_rfl
  have qf : ∀ (W : World) (f : Fn) (a b : Array Value), (binOp .eql 99 (.func f a b) .nilFunc).run Tryz.prog W = .ok (.bool false) W := fun _ _ _ _ => by kernel_rfl
  have hmk : ∀ (W : World), (Instr.makeSlice 277 (.int .i64 0) (.int .i64 2)).run Tryz.prog W = .ok (.slice (some ⟨W.heap.size, 0, none⟩) 0 2) (W.alloc (.cells #[.nilIface, .nilIface] 20)) := fun _ => by kernel_rfl
  go_enter Tryz.func45, Tryz.ntmps45
  go_wp2
  go_region_with (first | (go_at_call 164; refine (lvl_info _).mono ?_; rintro e w' ⟨rfl, rfl⟩) | go_in)
  all_goals go_wp2
  all_goals go_ret
  all_goals refine ⟨rfl, ?_⟩
  all_goals go_grown
end Go.Proofs.YtieidjlmgalihaaGreatDoor
namespace Go.Proofs.YtieidjlmgalihaaGreatDoor
open Go.RowKit
set_option maxRecDepth 100000
theorem lvlEnc0 (w : World) : Calls Tryz.prog 88 #[.int .i64 0] w fun e w' => e = .returned .nilFunc ∧ w = w' := by
  go_enter Tryz.func88, Tryz.ntmps88
  go_wp2
  go_ret
  exact ⟨rfl, rfl⟩
theorem timeEnc0 (w : World) (s : ByteArray) : Calls Tryz.prog 98 #[.int .i64 0, .string s] w fun e w' => e = .returned .nilFunc ∧ w = w' := by
  go_enter Tryz.func98, Tryz.ntmps98
  go_wp2
  go_ret
  exact ⟨rfl, rfl⟩
theorem durEnc2 (w : World) : Calls Tryz.prog 99 #[.int .i64 2] w fun e w' => e = .returned (.func (.func 149) #[] #[]) ∧ w = w' := by
  go_enter Tryz.func99, Tryz.ntmps99
  go_wp2
  go_ret
  exact ⟨rfl, rfl⟩
theorem callEnc0 (w : World) : Calls Tryz.prog 100 #[.int .i64 0] w fun e w' => e = .returned .nilFunc ∧ w = w' := by
  go_enter Tryz.func100, Tryz.ntmps100
  go_wp2
  go_ret
  exact ⟨rfl, rfl⟩
set_option maxHeartbeats 4000000 in
theorem config2 (w : World) : Calls Tryz.prog 50 #[.agg #[.string ⟨#[]⟩, .string ⟨#[]⟩, .string ⟨#[]⟩, .string ⟨#[]⟩, .string ⟨#[]⟩, .string ⟨#[]⟩, .string ⟨#[]⟩, .bool false, .string ⟨#[]⟩, .int .i64 0, .int .i64 0, .int .i64 2, .int .i64 0, .int .i64 0, .string ⟨#[]⟩, .string ⟨#[]⟩]] w fun e w' => e = .returned (.agg #[.string ⟨#[]⟩, .string ⟨#[]⟩, .string ⟨#[]⟩, .string ⟨#[]⟩, .string ⟨#[]⟩, .string ⟨#[]⟩, .string ⟨#[]⟩, .bool false, .string ⟨#[]⟩, .nilFunc, .nilFunc, .func (.func 149) #[] #[], .nilFunc, .nilFunc, .string ⟨#[]⟩]) ∧ Below w.heap.size w w' := by
  go_enter Tryz.func50, Tryz.ntmps50
  go_wp2
  go_region_held3 (fun w' => w'.cell? ⟨w.heap.size, 0, none⟩ = some (.string ⟨#[]⟩) ∧ w'.cell? ⟨w.heap.size, 1, none⟩ = some (.string ⟨#[]⟩) ∧ w'.cell? ⟨w.heap.size, 2, none⟩ = some (.string ⟨#[]⟩) ∧ w'.cell? ⟨w.heap.size, 3, none⟩ = some (.string ⟨#[]⟩) ∧ w'.cell? ⟨w.heap.size, 4, none⟩ = some (.string ⟨#[]⟩) ∧ w'.cell? ⟨w.heap.size, 5, none⟩ = some (.string ⟨#[]⟩) ∧ w'.cell? ⟨w.heap.size, 6, none⟩ = some (.string ⟨#[]⟩) ∧ w'.cell? ⟨w.heap.size, 7, none⟩ = some (.bool false) ∧ w'.cell? ⟨w.heap.size, 8, none⟩ = some (.string ⟨#[]⟩) ∧ w'.cell? ⟨w.heap.size, 9, none⟩ = some (.int .i64 0) ∧ w'.cell? ⟨w.heap.size, 10, none⟩ = some (.int .i64 0) ∧ w'.cell? ⟨w.heap.size, 11, none⟩ = some (.int .i64 2) ∧ w'.cell? ⟨w.heap.size, 12, none⟩ = some (.int .i64 0) ∧ w'.cell? ⟨w.heap.size, 14, none⟩ = some (.string ⟨#[]⟩) ∧ w'.cell? ⟨w.heap.size, 15, none⟩ = some (.string ⟨#[]⟩)) (go_keep) (first
    | (go_at_call 88; refine (lvlEnc0 _).mono ?_; rintro e w' ⟨rfl, rfl⟩)
    | (go_at_call 98; refine (timeEnc0 _ _).mono ?_; rintro e w' ⟨rfl, rfl⟩)
    | (go_at_call 99; refine (durEnc2 _).mono ?_; rintro e w' ⟨rfl, rfl⟩)
    | (go_at_call 100; refine (callEnc0 _).mono ?_; rintro e w' ⟨rfl, rfl⟩))
  all_goals go_wp2
  all_goals refine bodyPost_ret (v := .agg #[.string ⟨#[]⟩, .string ⟨#[]⟩, .string ⟨#[]⟩, .string ⟨#[]⟩, .string ⟨#[]⟩, .string ⟨#[]⟩, .string ⟨#[]⟩, .bool false, .string ⟨#[]⟩, .nilFunc, .nilFunc, .func (.func 149) #[] #[], .nilFunc, .nilFunc, .string ⟨#[]⟩]) (by simp [results, Tryz.results50, go_sem]) rfl ⟨rfl, ?_⟩
  all_goals go_grown
end Go.Proofs.YtieidjlmgalihaaGreatDoor
