/- The configuration with times by RFC 3339. -/
import Derived.Test.YtieidjlmgalihaaGreatDoorKit3
set_option linter.all false
namespace Go.Proofs.YtieidjlmgalihaaGreatDoor
open Go.RowKit
set_option maxRecDepth 100000
theorem lvlEnc0b (w : World) : Calls Tryz.prog 88 #[.int .i64 0] w fun e w' => e = .returned .nilFunc ∧ w = w' := by
  go_enter Tryz.func88, Tryz.ntmps88
  go_wp2
  go_ret
  exact ⟨rfl, rfl⟩
theorem timeEnc6 (w : World) (s : ByteArray) : Calls Tryz.prog 98 #[.int .i64 6, .string s] w fun e w' => e = .returned (.func (.func 146) #[] #[]) ∧ w = w' := by
  go_enter Tryz.func98, Tryz.ntmps98
  go_wp2
  go_ret
  exact ⟨rfl, rfl⟩
theorem durEnc0 (w : World) : Calls Tryz.prog 99 #[.int .i64 0] w fun e w' => e = .returned .nilFunc ∧ w = w' := by
  go_enter Tryz.func99, Tryz.ntmps99
  go_wp2
  go_ret
  exact ⟨rfl, rfl⟩
theorem callEnc0b (w : World) : Calls Tryz.prog 100 #[.int .i64 0] w fun e w' => e = .returned .nilFunc ∧ w = w' := by
  go_enter Tryz.func100, Tryz.ntmps100
  go_wp2
  go_ret
  exact ⟨rfl, rfl⟩
set_option maxHeartbeats 4000000 in
theorem config6 (w : World) : Calls Tryz.prog 50 #[.agg #[.string ⟨#[]⟩, .string ⟨#[]⟩, .string ⟨#[]⟩, .string ⟨#[]⟩, .string ⟨#[]⟩, .string ⟨#[]⟩, .string ⟨#[]⟩, .bool false, .string ⟨#[]⟩, .int .i64 0, .int .i64 6, .int .i64 0, .int .i64 0, .int .i64 0, .string ⟨#[]⟩, .string ⟨#[]⟩]] w fun e w' => e = .returned (.agg #[.string ⟨#[]⟩, .string ⟨#[]⟩, .string ⟨#[]⟩, .string ⟨#[]⟩, .string ⟨#[]⟩, .string ⟨#[]⟩, .string ⟨#[]⟩, .bool false, .string ⟨#[]⟩, .nilFunc, .func (.func 146) #[] #[], .nilFunc, .nilFunc, .nilFunc, .string ⟨#[]⟩]) ∧ Below w.heap.size w w' := by
  go_enter Tryz.func50, Tryz.ntmps50
  go_wp2
  go_region_held3 (fun w' => w'.cell? ⟨w.heap.size, 0, none⟩ = some (.string ⟨#[]⟩) ∧ w'.cell? ⟨w.heap.size, 1, none⟩ = some (.string ⟨#[]⟩) ∧ w'.cell? ⟨w.heap.size, 2, none⟩ = some (.string ⟨#[]⟩) ∧ w'.cell? ⟨w.heap.size, 3, none⟩ = some (.string ⟨#[]⟩) ∧ w'.cell? ⟨w.heap.size, 4, none⟩ = some (.string ⟨#[]⟩) ∧ w'.cell? ⟨w.heap.size, 5, none⟩ = some (.string ⟨#[]⟩) ∧ w'.cell? ⟨w.heap.size, 6, none⟩ = some (.string ⟨#[]⟩) ∧ w'.cell? ⟨w.heap.size, 7, none⟩ = some (.bool false) ∧ w'.cell? ⟨w.heap.size, 8, none⟩ = some (.string ⟨#[]⟩) ∧ w'.cell? ⟨w.heap.size, 9, none⟩ = some (.int .i64 0) ∧ w'.cell? ⟨w.heap.size, 10, none⟩ = some (.int .i64 6) ∧ w'.cell? ⟨w.heap.size, 11, none⟩ = some (.int .i64 0) ∧ w'.cell? ⟨w.heap.size, 12, none⟩ = some (.int .i64 0) ∧ w'.cell? ⟨w.heap.size, 14, none⟩ = some (.string ⟨#[]⟩) ∧ w'.cell? ⟨w.heap.size, 15, none⟩ = some (.string ⟨#[]⟩)) (go_keep) (first
    | (go_at_call 88; refine (lvlEnc0b _).mono ?_; rintro e w' ⟨rfl, rfl⟩)
    | (go_at_call 98; refine (timeEnc6 _ _).mono ?_; rintro e w' ⟨rfl, rfl⟩)
    | (go_at_call 99; refine (durEnc0 _).mono ?_; rintro e w' ⟨rfl, rfl⟩)
    | (go_at_call 100; refine (callEnc0b _).mono ?_; rintro e w' ⟨rfl, rfl⟩))
  all_goals go_wp2
  all_goals refine bodyPost_ret (v := .agg #[.string ⟨#[]⟩, .string ⟨#[]⟩, .string ⟨#[]⟩, .string ⟨#[]⟩, .string ⟨#[]⟩, .string ⟨#[]⟩, .string ⟨#[]⟩, .bool false, .string ⟨#[]⟩, .nilFunc, .func (.func 146) #[] #[], .nilFunc, .nilFunc, .nilFunc, .string ⟨#[]⟩]) (by simp [results, Tryz.results50, go_sem]) rfl ⟨rfl, ?_⟩
  all_goals go_grown
end Go.Proofs.YtieidjlmgalihaaGreatDoor
