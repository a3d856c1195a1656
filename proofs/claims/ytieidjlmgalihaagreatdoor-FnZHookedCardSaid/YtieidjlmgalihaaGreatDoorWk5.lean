/- Moments and entries, as the package has them. -/
import Derived.Test.YtieidjlmgalihaaGreatDoorWk4
namespace Go.Proofs.YtieidjlmgalihaaGreatDoor
open Go.RowKit
set_option maxRecDepth 100000
abbrev utcS : ByteArray := ⟨#[85, 84, 67]⟩
theorem tdiv_neg (n : Int) (h : n < 0) (h0 : -9223372036854775808 ≤ n) : ∃ q, n.tdiv 1000000000 = q ∧ -9223372037 ≤ q ∧ q ≤ 0 ∧ -1000000000 < n - q * 1000000000 ∧ n - q * 1000000000 ≤ 0 := by
  refine ⟨n.tdiv 1000000000, rfl, ?_⟩
  have h1 : n.tdiv 1000000000 = -((-n) / 1000000000) := by
    rw [show n = -(-n) by omega, Int.neg_tdiv, Int.tdiv_eq_ediv_of_nonneg (by omega)]
    simp
  rw [h1]
  omega
theorem arr4 {a a' b b' : Int} (s : ByteArray) (h : a = a') (h' : b = b') : Ending.returned (.agg #[.int .i64 a, .int .i32 b, .string s, .int .i64 0]) = .returned (.agg #[.int .i64 a', .int .i32 b', .string s, .int .i64 0]) := by subst h; subst h'; rfl
theorem unix_any (w : World) (n : Int) (h0 : -9223372036854775808 ≤ n) (h1 : n ≤ 9223372036854775807) :
    Calls Tryz.prog 102 #[.int .i64 0, .int .i64 n] w fun e w' => e = .returned (.agg #[.int .i64 (n / 1000000000 + 62135596800), .int .i32 (n % 1000000000), .string utcS, .int .i64 0]) ∧ Below w.heap.size w w' := by
  by_cases ha : n < 0
  · obtain ⟨q, hq, q0, q1, q2, q3⟩ := tdiv_neg n ha h0
    by_cases hr : n - q * 1000000000 < 0
    all_goals
      go_enter Tryz.func102, Tryz.ntmps102
      go_wp2
      go_returns
      refine ⟨arr4 _ ?_ ?_, by go_grown⟩
      · omega
      · omega
  · by_cases hb : n < 1000000000
    all_goals
      go_enter Tryz.func102, Tryz.ntmps102
      go_wp2
      go_returns
      refine ⟨arr4 _ ?_ ?_, by go_grown⟩
      · omega
      · omega
theorem in_any (w : World) (a b o o' : Int) (s s' : ByteArray) :
    Calls Tryz.prog 103 #[.agg #[.int .i64 a, .int .i32 b, .string s, .int .i64 o], .string s', .int .i64 o'] w fun e w' => e = .returned (.agg #[.int .i64 a, .int .i32 b, .string s', .int .i64 o']) ∧ Below w.heap.size w w' := by
  go_enter Tryz.func103, Tryz.ntmps103
  go_wp2
  go_returns
  exact ⟨rfl, by go_grown⟩
/-- A moment's cells, as the package has it. -/
def momArr (z : Bool) (n o : Int) (s : ByteArray) : Array Value :=
  if z then #[.int .i64 0, .int .i32 0, .string ⟨#[]⟩, .int .i64 0] else #[.int .i64 (n / 1000000000 + 62135596800), .int .i32 (n % 1000000000), .string s, .int .i64 o]
theorem moment_zero (w : World) (n o : Int) (s : ByteArray) :
    Calls Tryz.prog 52 #[.agg #[.bool true, .int .i64 n, .int .i64 o, .string s]] w fun e w' => e = .returned (.agg (momArr true n o s)) ∧ Below w.heap.size w w' := by
  go_enter Tryz.func52, Tryz.ntmps52
  go_wp2
  go_returns
  exact ⟨rfl, by go_grown⟩
set_option maxHeartbeats 2000000 in
theorem moment_not (w : World) (n o : Int) (s : ByteArray) (h0 : -9223372036854775808 ≤ n) (h1 : n ≤ 9223372036854775807) :
    Calls Tryz.prog 52 #[.agg #[.bool false, .int .i64 n, .int .i64 o, .string s]] w fun e w' => e = .returned (.agg (momArr false n o s)) ∧ Below w.heap.size w w' := by
  go_enter Tryz.func52, Tryz.ntmps52
  go_wp2
  go_region_held3 (fun w' => (∀ i, w'.cell? ⟨w.heap.size, i, none⟩ = (#[.bool false, .int .i64 n, .int .i64 o, .string s] : Array Value)[i]?)) (first | assumption | (intro i; simp [go_sem, *]; done)) (first
    | (go_at_call 102; go_must (refine (unix_any _ n h0 h1).mono ?_; rintro e w' ⟨rfl, hb⟩; have hk := keep2 (b1 := w.heap.size) (b2 := w.heap.size + 1) (c1 := #[.bool false, .int .i64 n, .int .i64 o, .string s]) (c2 := #[.int .i64 0, .int .i32 0, .string ⟨#[]⟩, .int .i64 0]) (W0 := w) (by first | exact ⟨k1, k2, k3, k4⟩ | (refine ⟨?_, ?_, ?_, ?_⟩ <;> first | (go_grown; done) | (intro i; simp [go_sem]; done))) hb (by simp) (by simp); obtain ⟨k1, k2, k3, k4⟩ := hk))
    | (go_at_call 103; go_must (refine (in_any _ _ _ _ _ _ _).mono ?_; rintro e w' ⟨rfl, hb⟩; have hk := keep2 (b1 := w.heap.size) (b2 := w.heap.size + 1) (c1 := #[.bool false, .int .i64 n, .int .i64 o, .string s]) (c2 := #[.int .i64 0, .int .i32 0, .string ⟨#[]⟩, .int .i64 0]) (W0 := w) (by first | exact ⟨k1, k2, k3, k4⟩ | (refine ⟨?_, ?_, ?_, ?_⟩ <;> first | (go_grown; done) | (intro i; simp [go_sem]; done))) hb (by simp) (by simp); obtain ⟨k1, k2, k3, k4⟩ := hk)))
  have hc : ∀ i, _ = (#[.int .i64 (n / 1000000000 + 62135596800), .int .i32 (n % 1000000000), .string s, .int .i64 o] : Array Value)[i]? := setC (setC (setC (setC k2 0 (.int .i64 (n / 1000000000 + 62135596800))) 1 (.int .i32 (n % 1000000000))) 2 (.string s)) 3 (.int .i64 o)
  have hB : Below w.heap.size w _ := (((k4.setCell (p := ⟨w.heap.size + 1, 0, none⟩) (by simp) (.int .i64 (n / 1000000000 + 62135596800))).setCell (p := ⟨w.heap.size + 1, 1, none⟩) (by simp) (.int .i32 (n % 1000000000))).setCell (p := ⟨w.heap.size + 1, 2, none⟩) (by simp) (.string s)).setCell (p := ⟨w.heap.size + 1, 3, none⟩) (by simp) (.int .i64 o)
  clear k1 k2 k3
  generalize (((w'.setCell ⟨w.heap.size + 1, 0, none⟩ (.int .i64 (n / 1000000000 + 62135596800))).setCell ⟨w.heap.size + 1, 1, none⟩ (.int .i32 (n % 1000000000))).setCell ⟨w.heap.size + 1, 2, none⟩ (.string s)).setCell ⟨w.heap.size + 1, 3, none⟩ (.int .i64 o) = W at *
  go_wp2
  refine bodyPost_ret (v := .agg (momArr false n o s)) (by simp [results, Tryz.results52, go_sem, hc, momArr]) rfl ⟨rfl, hB⟩
theorem moment_any (w : World) (z : Bool) (n o : Int) (s : ByteArray) (h0 : -9223372036854775808 ≤ n) (h1 : n ≤ 9223372036854775807) :
    Calls Tryz.prog 52 #[.agg #[.bool z, .int .i64 n, .int .i64 o, .string s]] w fun e w' => e = .returned (.agg (momArr z n o s)) ∧ Below w.heap.size w w' := by
  cases z
  · exact moment_not w n o s h0 h1
  · exact moment_zero w n o s
/-- The four cells, each by itself. -/
def momExt (z : Bool) (n : Int) : Int := if z then 0 else n / 1000000000 + 62135596800
def momNs (z : Bool) (n : Int) : Int := if z then 0 else n % 1000000000
def momZone (z : Bool) (s : ByteArray) : ByteArray := if z then ⟨#[]⟩ else s
def momOff (z : Bool) (o : Int) : Int := if z then 0 else o
theorem moment_four (w : World) (z : Bool) (n o : Int) (s : ByteArray) (h0 : -9223372036854775808 ≤ n) (h1 : n ≤ 9223372036854775807) :
    Calls Tryz.prog 52 #[.agg #[.bool z, .int .i64 n, .int .i64 o, .string s]] w fun e w' => e = .returned (.agg #[.int .i64 (momExt z n), .int .i32 (momNs z n), .string (momZone z s), .int .i64 (momOff z o)]) ∧ Below w.heap.size w w' := by
  cases z
  · exact moment_not w n o s h0 h1
  · exact moment_zero w n o s
end Go.Proofs.YtieidjlmgalihaaGreatDoor
