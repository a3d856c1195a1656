/- Field.Equals. -/
import Derived.Test.YtieidjlmgalihaaGreatDoorEqI
import Derived.Test.YtieidjlmgalihaaGreatDoorEqB
import Derived.Stop.Asserts
set_option linter.all false
namespace Go.Proofs.YtieidjlmgalihaaGreatDoor
open Go.RowKit
set_option maxRecDepth 100000
theorem eql131_nil (W : World) (k k' s s' : ByteArray) (T n n' : Int) (b : Bool) (hk : (k.toList == k'.toList) = true) (h : (Op.equalIn 9999 20 (.nilIface) (.nilIface)).run Tryz.prog W = .ok b W) : (binOp .eql 131 (.agg (pubArr k T n s (.nilIface))) (.agg (pubArr k' T n' s' (.nilIface)))).run Tryz.prog W = .ok (.bool (n == n' && s.toList == s'.toList && b)) W := by
  have hk1 : k.toList = k'.toList := by simpa using hk
  by_cases h2 : n = n'
  · subst h2
    by_cases h4 : s.toList = s'.toList
    · cases b <;> simp [go_sem, pubArr, hk1, h4, h]
    · simp [go_sem, pubArr, hk1, h4]
  · simp [go_sem, pubArr, hk1, h2]
theorem eql131_if (W : World) (k k' s s' : ByteArray) (T n n' : Int) (t t' : TypeId) (v v' : Value) (b : Bool) (hk : (k.toList == k'.toList) = true) (h : (Op.equalIn 9999 20 (.iface t v) (.iface t' v')).run Tryz.prog W = .ok b W) : (binOp .eql 131 (.agg (pubArr k T n s (.iface t v))) (.agg (pubArr k' T n' s' (.iface t' v')))).run Tryz.prog W = .ok (.bool (n == n' && s.toList == s'.toList && b)) W := by
  have hk1 : k.toList = k'.toList := by simpa using hk
  by_cases h2 : n = n'
  · subst h2
    by_cases h4 : s.toList = s'.toList
    · cases b <;> simp [go_sem, pubArr, hk1, h4, h]
    · simp [go_sem, pubArr, hk1, h4]
  · simp [go_sem, pubArr, hk1, h2]
theorem iface_eq (W : World) (d : Nat) (t : TypeId) (v v' : Value) (hc : (Tryz.prog.info? t).map (·.comparable) = some true) : (Op.equalIn (d + 1) 20 (.iface t v) (.iface t v')).run Tryz.prog W = (Op.equalIn d t v v').run Tryz.prog W := by
  obtain ⟨i, hi, hl⟩ := Option.map_eq_some_iff.1 hc
  simp [Op.equalIn, run_underlying Tryz.underlying20, typeInfo, hi, hl]
theorem ifEq_nil (W : World) : (Op.equalIn 9999 20 .nilIface .nilIface).run Tryz.prog W = .ok true W := by
  have h : ∀ d : Nat, (Op.equalIn (d + 1) 20 .nilIface .nilIface).run Tryz.prog W = .ok true W := fun d => by simp [Op.equalIn, run_underlying Tryz.underlying20]
  exact h 9998
theorem ifEq_told (W : World) (z z' : ByteArray) : (Op.equalIn 9999 20 (.iface 293 (.string z)) (.iface 293 (.string z'))).run Tryz.prog W = .ok (z.toList == z'.toList) W := by
  have h : ∀ d : Nat, (Op.equalIn (d + 1) 293 (.string z) (.string z')).run Tryz.prog W = .ok (z.toList == z'.toList) W := fun d => run_equalIn_string W d 293 z z' Tryz.underlying293
  exact (iface_eq W 9998 293 _ _ (by kernel_rfl)).trans (h 9997)
theorem ifEq_time (W : World) (a b o a' b' o' : Int) (z z' : ByteArray) : (Op.equalIn 9999 20 (.iface 117 (.agg #[.int .i64 a, .int .i32 b, .string z, .int .i64 o])) (.iface 117 (.agg #[.int .i64 a', .int .i32 b', .string z', .int .i64 o']))).run Tryz.prog W = .ok (a == a' && b == b' && z.toList == z'.toList && o == o') W := by
  have h : ∀ d : Nat, (Op.equalIn (d + 2) 117 (.agg #[.int .i64 a, .int .i32 b, .string z, .int .i64 o]) (.agg #[.int .i64 a', .int .i32 b', .string z', .int .i64 o'])).run Tryz.prog W = .ok (a == a' && b == b' && z.toList == z'.toList && o == o') W := fun d => by
    rw [show d + 2 = (d + 1) + 1 from rfl, Op.equalIn]
    by_cases h2 : a = a'
    · by_cases h3 : b = b'
      · by_cases h4 : z.toList = z'.toList
        · by_cases h5 : o = o'
          · subst h2 h3 h5; simp [go_sem, h4]
          · subst h2 h3; simp [go_sem, h4, h5]
        · subst h2 h3; simp [go_sem, h4]
      · subst h2; simp [go_sem, h3]
    · simp [go_sem, h2]
  exact (iface_eq W 9998 117 _ _ (by kernel_rfl)).trans (h 9996)
theorem ifEq_c128 (W : World) (a b a' b' : Nat) : (Op.equalIn 9999 20 (.iface 231 (.complex .f64 a b)) (.iface 231 (.complex .f64 a' b'))).run Tryz.prog W = .ok (Op.floatEq .f64 a a' && Op.floatEq .f64 b b') W := by
  have h : ∀ d : Nat, (Op.equalIn (d + 1) 231 (.complex .f64 a b) (.complex .f64 a' b')).run Tryz.prog W = .ok (Op.floatEq .f64 a a' && Op.floatEq .f64 b b') W := fun d => by simp [Op.equalIn, run_underlying Tryz.underlying231]
  exact (iface_eq W 9998 231 _ _ (by kernel_rfl)).trans (h 9997)
theorem ifEq_c64 (W : World) (a b a' b' : Nat) : (Op.equalIn 9999 20 (.iface 233 (.complex .f32 a b)) (.iface 233 (.complex .f32 a' b'))).run Tryz.prog W = .ok (Op.floatEq .f32 a a' && Op.floatEq .f32 b b') W := by
  have h : ∀ d : Nat, (Op.equalIn (d + 1) 233 (.complex .f32 a b) (.complex .f32 a' b')).run Tryz.prog W = .ok (Op.floatEq .f32 a a' && Op.floatEq .f32 b b') W := fun d => by simp [Op.equalIn, run_underlying Tryz.underlying233]
  exact (iface_eq W 9998 233 _ _ (by kernel_rfl)).trans (h 9997)
/-- Fields of different types are not equal. -/
theorem equals_type (w : World) (k k' s s' : ByteArray) (T T' n n' : Int) (V V' : Value) (h : (T != T') = true) : Calls Tryz.prog 61 #[.agg (pubArr k T n s V), .agg (pubArr k' T' n' s' V')] w (BoolIs false w) := by
  go_enter Tryz.func61, Tryz.ntmps61
  go_wp2_with fail
  go_ret
  exact ⟨rfl, by go_grown⟩
/-- Fields of different keys are not equal. -/
theorem equals_key (w : World) (k k' s s' : ByteArray) (T n n' : Int) (V V' : Value) (h : (k.toList == k'.toList) = false) : Calls Tryz.prog 61 #[.agg (pubArr k T n s V), .agg (pubArr k' T n' s' V')] w (BoolIs false w) := by
  go_enter Tryz.func61, Tryz.ntmps61
  go_wp2_with fail
  go_ret
  exact ⟨rfl, by go_grown⟩
/-- The types whose fields are compared by '=='. -/
theorem equals_plain_nil (w : World) (k k' s s' : ByteArray) (T n n' : Int) (hk : (k.toList == k'.toList) = true) (h3 : (T == 3) = false) (h5 : (T == 5) = false) (h1 : (T == 1) = false) (h2 : (T == 2) = false) (h26 : (T == 26) = false) (h23 : (T == 23) = false) :
    Calls Tryz.prog 61 #[.agg (pubArr k T n s .nilIface), .agg (pubArr k' T n' s' .nilIface)] w (BoolIs (n == n' && s.toList == s'.toList) w) := by
  have HE := fun W => eql131_nil W k k' s s' T n n' true hk (ifEq_nil W)
  simp only [pubArr, Bool.and_true] at HE
  go_enter Tryz.func61, Tryz.ntmps61
  go_wp2_with fail
  go_ret
  exact ⟨rfl, by go_grown⟩
theorem equals_plain_if (w : World) (k k' s : ByteArray) (T n : Int) (t t' : TypeId) (v v' : Value) (b : Bool) (hk : (k.toList == k'.toList) = true) (h3 : (T == 3) = false) (h5 : (T == 5) = false) (h1 : (T == 1) = false) (h2 : (T == 2) = false) (h26 : (T == 26) = false) (h23 : (T == 23) = false)
    (h : ∀ W, Below w.heap.size w W → (Op.equalIn 9999 20 (.iface t v) (.iface t' v')).run Tryz.prog W = .ok b W) :
    Calls Tryz.prog 61 #[.agg (pubArr k T n s (.iface t v)), .agg (pubArr k' T n s (.iface t' v'))] w (BoolIs b w) := by
  have HE := h ((w.alloc (.cells (pubArr k T n s (.iface t v)) 131)).alloc (.cells (pubArr k' T n s (.iface t' v')) 131)) (by go_grown)
  clear h
  cases b
  all_goals
    go_enter Tryz.func61, Tryz.ntmps61
    go_wp2_with fail
    go_ret
    exact ⟨rfl, by go_grown⟩
end Go.Proofs.YtieidjlmgalihaaGreatDoor
