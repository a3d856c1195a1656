/- alone: marshalers that are pointers of their own. -/
import Derived.Test.YtieidjlmgalihaaGreatDoorEqB
import Derived.Stop.Asserts
set_option linter.all false
namespace Go.Proofs.YtieidjlmgalihaaGreatDoor
open Go.RowKit
set_option maxRecDepth 100000
set_option maxHeartbeats 2000000 in
theorem alone_nil (w : World) (k s : ByteArray) (n : Int) (T : Int) : Calls Tryz.prog 59 #[.agg (pubArr k T n s (.nilIface))] w (FieldIs w k T n s (.nilIface)) := by
  have h1 : ∀ (W : World), (Instr.typeAssert .nilIface 20 221 true).run Tryz.prog W = .ok (.tuple #[.agg #[.slice none 0 0, .string ⟨#[]⟩], .bool false]) W := fun _ => by kernel_rfl
  have h2 : ∀ (W : World), (Instr.typeAssert .nilIface 20 225 true).run Tryz.prog W = .ok (.tuple #[.nilIface, .bool false]) W := fun _ => by kernel_rfl
  go_enter Tryz.func59, Tryz.ntmps59
  go_wp2_with fail
  all_goals exact bodyPost_ret (v := .agg (pubArr k T n s (.nilIface))) (by simp [results, Tryz.results59, go_sem, pubArr]) rfl ⟨rfl, by go_grown⟩
set_option maxHeartbeats 2000000 in
theorem alone_c128 (w : World) (k s : ByteArray) (n : Int) (T : Int) (a b : Nat) : Calls Tryz.prog 59 #[.agg (pubArr k T n s (.iface 231 (.complex .f64 a b)))] w (FieldIs w k T n s (.iface 231 (.complex .f64 a b))) := by
  have h1 : ∀ (v : Value) (W : World), (Instr.typeAssert (.iface 231 v) 20 221 true).run Tryz.prog W = .ok (.tuple #[.agg #[.slice none 0 0, .string ⟨#[]⟩], .bool false]) W := fun _ _ => by kernel_rfl
  have h2 : ∀ (v : Value) (W : World), (Instr.typeAssert (.iface 231 v) 20 225 true).run Tryz.prog W = .ok (.tuple #[.nilIface, .bool false]) W := fun v W => run_typeAssert_lacksB Tryz.underlying225 (by kernel_rfl) (by kernel_rfl) v 20 W
  go_enter Tryz.func59, Tryz.ntmps59
  go_wp2_with fail
  all_goals exact bodyPost_ret (v := .agg (pubArr k T n s (.iface 231 (.complex .f64 a b)))) (by simp [results, Tryz.results59, go_sem, pubArr]) rfl ⟨rfl, by go_grown⟩
set_option maxHeartbeats 2000000 in
theorem alone_c64 (w : World) (k s : ByteArray) (n : Int) (T : Int) (a b : Nat) : Calls Tryz.prog 59 #[.agg (pubArr k T n s (.iface 233 (.complex .f32 a b)))] w (FieldIs w k T n s (.iface 233 (.complex .f32 a b))) := by
  have h1 : ∀ (v : Value) (W : World), (Instr.typeAssert (.iface 233 v) 20 221 true).run Tryz.prog W = .ok (.tuple #[.agg #[.slice none 0 0, .string ⟨#[]⟩], .bool false]) W := fun _ _ => by kernel_rfl
  have h2 : ∀ (v : Value) (W : World), (Instr.typeAssert (.iface 233 v) 20 225 true).run Tryz.prog W = .ok (.tuple #[.nilIface, .bool false]) W := fun v W => run_typeAssert_lacksB Tryz.underlying225 (by kernel_rfl) (by kernel_rfl) v 20 W
  go_enter Tryz.func59, Tryz.ntmps59
  go_wp2_with fail
  all_goals exact bodyPost_ret (v := .agg (pubArr k T n s (.iface 233 (.complex .f32 a b)))) (by simp [results, Tryz.results59, go_sem, pubArr]) rfl ⟨rfl, by go_grown⟩
set_option maxHeartbeats 2000000 in
theorem alone_bytes (w : World) (k s : ByteArray) (n : Int) (T : Int) (A : Option Addr) (m c : Nat) : Calls Tryz.prog 59 #[.agg (pubArr k T n s (.iface 36 (.slice A m c)))] w (FieldIs w k T n s (.iface 36 (.slice A m c))) := by
  have h1 : ∀ (v : Value) (W : World), (Instr.typeAssert (.iface 36 v) 20 221 true).run Tryz.prog W = .ok (.tuple #[.agg #[.slice none 0 0, .string ⟨#[]⟩], .bool false]) W := fun _ _ => by kernel_rfl
  have h2 : ∀ (v : Value) (W : World), (Instr.typeAssert (.iface 36 v) 20 225 true).run Tryz.prog W = .ok (.tuple #[.nilIface, .bool false]) W := fun v W => run_typeAssert_lacksB Tryz.underlying225 (by kernel_rfl) (by kernel_rfl) v 20 W
  go_enter Tryz.func59, Tryz.ntmps59
  go_wp2_with fail
  all_goals exact bodyPost_ret (v := .agg (pubArr k T n s (.iface 36 (.slice A m c)))) (by simp [results, Tryz.results59, go_sem, pubArr]) rfl ⟨rfl, by go_grown⟩
set_option maxHeartbeats 2000000 in
theorem alone_time (w : World) (k s : ByteArray) (n : Int) (T : Int) (a b o : Int) (z : ByteArray) : Calls Tryz.prog 59 #[.agg (pubArr k T n s (.iface 117 (.agg #[.int .i64 a, .int .i32 b, .string z, .int .i64 o])))] w (FieldIs w k T n s (.iface 117 (.agg #[.int .i64 a, .int .i32 b, .string z, .int .i64 o]))) := by
  have h1 : ∀ (v : Value) (W : World), (Instr.typeAssert (.iface 117 v) 20 221 true).run Tryz.prog W = .ok (.tuple #[.agg #[.slice none 0 0, .string ⟨#[]⟩], .bool false]) W := fun _ _ => by kernel_rfl
  have h2 : ∀ (v : Value) (W : World), (Instr.typeAssert (.iface 117 v) 20 225 true).run Tryz.prog W = .ok (.tuple #[.nilIface, .bool false]) W := fun v W => run_typeAssert_lacksB Tryz.underlying225 (by kernel_rfl) (by kernel_rfl) v 20 W
  go_enter Tryz.func59, Tryz.ntmps59
  go_wp2_with fail
  all_goals exact bodyPost_ret (v := .agg (pubArr k T n s (.iface 117 (.agg #[.int .i64 a, .int .i32 b, .string z, .int .i64 o])))) (by simp [results, Tryz.results59, go_sem, pubArr]) rfl ⟨rfl, by go_grown⟩
set_option maxHeartbeats 2000000 in
theorem alone_told (w : World) (k s : ByteArray) (n : Int) (T : Int) (z : ByteArray) : Calls Tryz.prog 59 #[.agg (pubArr k T n s (.iface 293 (.string z)))] w (FieldIs w k T n s (.iface 293 (.string z))) := by
  have h1 : ∀ (v : Value) (W : World), (Instr.typeAssert (.iface 293 v) 20 221 true).run Tryz.prog W = .ok (.tuple #[.agg #[.slice none 0 0, .string ⟨#[]⟩], .bool false]) W := fun _ _ => by kernel_rfl
  have h2 : ∀ (v : Value) (W : World), (Instr.typeAssert (.iface 293 v) 20 225 true).run Tryz.prog W = .ok (.tuple #[.nilIface, .bool false]) W := fun v W => run_typeAssert_lacksB Tryz.underlying225 (by kernel_rfl) (by kernel_rfl) v 20 W
  go_enter Tryz.func59, Tryz.ntmps59
  go_wp2_with fail
  all_goals exact bodyPost_ret (v := .agg (pubArr k T n s (.iface 293 (.string z)))) (by simp [results, Tryz.results59, go_sem, pubArr]) rfl ⟨rfl, by go_grown⟩
set_option maxHeartbeats 2000000 in
theorem alone_arr (w : World) (k s : ByteArray) (n : Int) (A : Option Addr) (m c : Nat) (z : ByteArray) : Calls Tryz.prog 59 #[.agg (pubArr k 1 n s (.iface 221 (.agg #[.slice A m c, .string z])))] w (FieldIs w k 1 n s (.iface 221 (.agg #[.slice A m c, .string z]))) := by
  have h1 : ∀ (v : Value) (W : World), (Instr.typeAssert (.iface 221 v) 20 221 true).run Tryz.prog W = .ok (.tuple #[v, .bool true]) W := fun _ _ => by kernel_rfl
  have h2 : ∀ (v : Value) (W : World), (Instr.typeAssert (.iface 221 v) 20 225 true).run Tryz.prog W = .ok (.tuple #[.iface 221 v, .bool true]) W := fun v W => run_typeAssert_hasB Tryz.underlying225 (by kernel_rfl) v 20 W
  have h3 : ∀ (v : Value) (W : World), (Instr.typeAssert (.iface 221 v) 225 221 true).run Tryz.prog W = .ok (.tuple #[v, .bool true]) W := fun _ _ => by kernel_rfl
  go_enter Tryz.func59, Tryz.ntmps59
  go_wp2_with fail
  all_goals exact bodyPost_ret (v := .agg (pubArr k 1 n s (.iface 221 (.agg #[.slice A m c, .string z])))) (by simp [results, Tryz.results59, go_sem, pubArr]) rfl ⟨rfl, by go_grown⟩
set_option maxHeartbeats 2000000 in
theorem alone_obj (w : World) (k s : ByteArray) (n : Int) (A : Option Addr) (m c : Nat) (z : ByteArray) : Calls Tryz.prog 59 #[.agg (pubArr k 2 n s (.iface 221 (.agg #[.slice A m c, .string z])))] w (FieldIs w k 2 n s (.iface 221 (.agg #[.slice A m c, .string z]))) := by
  have h1 : ∀ (v : Value) (W : World), (Instr.typeAssert (.iface 221 v) 20 221 true).run Tryz.prog W = .ok (.tuple #[v, .bool true]) W := fun _ _ => by kernel_rfl
  have h2 : ∀ (v : Value) (W : World), (Instr.typeAssert (.iface 221 v) 20 225 true).run Tryz.prog W = .ok (.tuple #[.iface 221 v, .bool true]) W := fun v W => run_typeAssert_hasB Tryz.underlying225 (by kernel_rfl) v 20 W
  have h3 : ∀ (v : Value) (W : World), (Instr.typeAssert (.iface 221 v) 225 221 true).run Tryz.prog W = .ok (.tuple #[v, .bool true]) W := fun _ _ => by kernel_rfl
  go_enter Tryz.func59, Tryz.ntmps59
  go_wp2_with fail
  all_goals exact bodyPost_ret (v := .agg (pubArr k 2 n s (.iface 221 (.agg #[.slice A m c, .string z])))) (by simp [results, Tryz.results59, go_sem, pubArr]) rfl ⟨rfl, by go_grown⟩
/-- A pointer of its own, of a type. -/
def PtrIs (w : World) (k : ByteArray) (T n : Int) (s : ByteArray) (ty : TypeId) (e : Ending) (w' : World) : Prop := ∃ p : Nat, e = .returned (.agg (pubArr k T n s (.iface ty (.pointer (some ⟨p, 0, none⟩))))) ∧ w.heap.size ≤ p ∧ p < w'.heap.size ∧ Below w.heap.size w w' ∧ ∃ ca ta, Blk w' p ta ca
set_option maxHeartbeats 2000000 in
theorem alone_inl (w : World) (k s : ByteArray) (n : Int) (A : Option Addr) (m c : Nat) (z : ByteArray) : Calls Tryz.prog 59 #[.agg (pubArr k 28 n s (.iface 221 (.agg #[.slice A m c, .string z])))] w (PtrIs w k 28 n s 223) := by
  have h1 : ∀ (v : Value) (W : World), (Instr.typeAssert (.iface 221 v) 20 221 true).run Tryz.prog W = .ok (.tuple #[v, .bool true]) W := fun _ _ => by kernel_rfl
  have h2 : ∀ (v : Value) (W : World), (Instr.typeAssert (.iface 221 v) 20 225 true).run Tryz.prog W = .ok (.tuple #[.iface 221 v, .bool true]) W := fun v W => run_typeAssert_hasB Tryz.underlying225 (by kernel_rfl) v 20 W
  have h3 : ∀ (v : Value) (W : World), (Instr.typeAssert (.iface 221 v) 225 221 true).run Tryz.prog W = .ok (.tuple #[v, .bool true]) W := fun _ _ => by kernel_rfl
  have h4 : ∀ (v : Value) (W : World), (Instr.typeAssert (.iface 223 v) 20 225 true).run Tryz.prog W = .ok (.tuple #[.iface 223 v, .bool true]) W := fun v W => run_typeAssert_hasB Tryz.underlying225 (by kernel_rfl) v 20 W
  go_enter Tryz.func59, Tryz.ntmps59
  go_wp2_with fail
  all_goals exact bodyPost_ret (v := .agg (pubArr k 28 n s (.iface 223 (.pointer (some ⟨w.heap.size + 1 + 1, 0, none⟩))))) (by simp [results, Tryz.results59, go_sem, pubArr]) rfl ⟨_, rfl, by omega, by simp, by go_grown, by repeat (first | exact ⟨_, _, Blk.new_at _ _ _ _ (by simp)⟩ | exact ⟨_, _, (Blk.new_at _ _ _ _ (by simp)).alloc _⟩ | exact ⟨_, _, ((Blk.new_at _ _ _ _ (by simp)).alloc _).alloc _⟩)⟩
set_option maxHeartbeats 2000000 in
theorem alone_errs (w : World) (k s : ByteArray) (n : Int) (A : Option Addr) (m c : Nat) : Calls Tryz.prog 59 #[.agg (pubArr k 1 n s (.iface 323 (.slice A m c)))] w (PtrIs w k 1 n s 227) := by
  have h1 : ∀ (v : Value) (W : World), (Instr.typeAssert (.iface 323 v) 20 221 true).run Tryz.prog W = .ok (.tuple #[.agg #[.slice none 0 0, .string ⟨#[]⟩], .bool false]) W := fun _ _ => by kernel_rfl
  have h2 : ∀ (v : Value) (W : World), (Instr.typeAssert (.iface 323 v) 20 225 true).run Tryz.prog W = .ok (.tuple #[.iface 323 v, .bool true]) W := fun v W => run_typeAssert_hasB Tryz.underlying225 (by kernel_rfl) v 20 W
  have h3 : ∀ (v : Value) (W : World), (Instr.typeAssert (.iface 323 v) 225 221 true).run Tryz.prog W = .ok (.tuple #[.agg #[.slice none 0 0, .string ⟨#[]⟩], .bool false]) W := fun _ _ => by kernel_rfl
  go_enter Tryz.func59, Tryz.ntmps59
  go_wp2_with fail
  all_goals exact bodyPost_ret (v := .agg (pubArr k 1 n s (.iface 227 (.pointer (some ⟨w.heap.size + 1 + 1 + 1 + 1, 0, none⟩))))) (by simp [results, Tryz.results59, go_sem, pubArr]) rfl ⟨_, rfl, by omega, by simp, by go_grown, by repeat (first | exact ⟨_, _, Blk.new_at _ _ _ _ (by simp)⟩ | exact ⟨_, _, (Blk.new_at _ _ _ _ (by simp)).alloc _⟩ | exact ⟨_, _, ((Blk.new_at _ _ _ _ (by simp)).alloc _).alloc _⟩)⟩
end Go.Proofs.YtieidjlmgalihaaGreatDoor
