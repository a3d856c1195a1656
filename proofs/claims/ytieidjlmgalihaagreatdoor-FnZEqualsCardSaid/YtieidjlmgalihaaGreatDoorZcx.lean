/- ZSameField of complex numbers. -/
import Derived.Test.YtieidjlmgalihaaGreatDoorEqV
import Derived.Test.YtieidjlmgalihaaGreatDoorEqO
set_option linter.all false
namespace Go.Proofs.YtieidjlmgalihaaGreatDoor
open Go.RowKit
set_option maxRecDepth 100000
theorem below_dr {w : World} {x y : Array Value} {T U : TypeId} {n : Nat} : Below w.heap.size w (((w.alloc (.cells x T)).alloc (.cells y U)).drewN n) := by
  apply below_drewN
  go_grown
theorem fcmp (x y : Nat) (b : Bool) (h : Op.floatEq .f64 x y = b) : (FloatKind.f64.format.order x y == some Ordering.eq) = b := h
set_option maxHeartbeats 4000000 in
theorem zcx_w (w : World) (key key' : ByteArray) (int uint int' uint' : Int) (a b c d : Nat) (text text' : ByteArray) (bA bA' : Option Addr) (bn bc bn' bc' : Nat) (zero zero' : Bool) (nanos offset nanos' offset' : Int) (zone zone' : ByteArray) (iA iA' : Option Addr) (ilen ic ilen' ic' : Nat) (fail fail' : ByteArray) (hk : (key.toList == key'.toList) = true) (wa wb : Int) (hw : (wa == wb) = false) : Calls Tryz.prog 23 #[.agg (Fld.arr ⟨6, key, wa, int, uint, (a : Int), (c : Int), text, bA, bn, bc, zero, nanos, offset, zone, iA, ilen, ic, fail⟩), .agg (Fld.arr ⟨6, key', wb, int', uint', (b : Int), (d : Int), text', bA', bn', bc', zero', nanos', offset', zone', iA', ilen', ic', fail'⟩)] w (BoolIs false w) := by
  go_enter Tryz.func23, Tryz.ntmps23
  go_wp2_with fail
  refine wp_region_noPanic ?_
  refine wp_region_held_drew (S := fun W => (W.cell? ⟨w.heap.size, 2, none⟩ = some (.int .i64 wa) ∧ W.cell? ⟨w.heap.size, 5, none⟩ = some (.int .u64 (a : Int)) ∧ W.cell? ⟨w.heap.size, 6, none⟩ = some (.int .u64 (c : Int))) ∧ (W.cell? ⟨w.heap.size + 1, 2, none⟩ = some (.int .i64 wb) ∧ W.cell? ⟨w.heap.size + 1, 5, none⟩ = some (.int .u64 (b : Int)) ∧ W.cell? ⟨w.heap.size + 1, 6, none⟩ = some (.int .u64 (d : Int)))) (by kernel_rfl) ⟨by refine ⟨?_, ?_, ?_⟩ <;> simp [go_sem], by refine ⟨?_, ?_, ?_⟩ <;> simp [go_sem]⟩ (fun hHeld => ?_)
  refine wpAnyH_take (i := 0) (oi := ⟨some 137, .fieldAddr 39 (.tmp 2) 2, _, _, _, _⟩) (v := ?va1) rfl (by kernel_rfl) (by kernel_rfl) (by kernel_rfl) (fun _ _ _ h => h) (Or.inl ⟨by rfl, ?ya1⟩) (by assumption) ?ra1
  case ya1 => (intro W hSw; obtain ⟨⟨g2, g5, g6⟩, q2, q5, q6⟩ := hSw; go_simp; first | done | with_reducible rfl)
  try simp only [Act.put, List.setIfInBounds_toArray, List.set_cons_zero, List.set_cons_succ]
  refine wpAnyH_take (i := 1) (oi := ⟨some 138, .load 3 (.tmp 137), _, _, _, _⟩) (v := ?va2) rfl (by kernel_rfl) (by kernel_rfl) (by kernel_rfl) (fun _ _ _ h => h) (Or.inl ⟨by rfl, ?ya2⟩) (by assumption) ?ra2
  case ya2 => (intro W hSw; obtain ⟨⟨g2, g5, g6⟩, q2, q5, q6⟩ := hSw; go_simp; first | done | with_reducible rfl)
  try simp only [Act.put, List.setIfInBounds_toArray, List.set_cons_zero, List.set_cons_succ]
  refine wpAnyH_take (i := 2) (oi := ⟨some 139, .fieldAddr 39 (.tmp 3) 2, _, _, _, _⟩) (v := ?va3) rfl (by kernel_rfl) (by kernel_rfl) (by kernel_rfl) (fun _ _ _ h => h) (Or.inl ⟨by rfl, ?ya3⟩) (by assumption) ?ra3
  case ya3 => (intro W hSw; obtain ⟨⟨g2, g5, g6⟩, q2, q5, q6⟩ := hSw; go_simp; first | done | with_reducible rfl)
  try simp only [Act.put, List.setIfInBounds_toArray, List.set_cons_zero, List.set_cons_succ]
  refine wpAnyH_take (i := 3) (oi := ⟨some 140, .load 3 (.tmp 139), _, _, _, _⟩) (v := ?va4) rfl (by kernel_rfl) (by kernel_rfl) (by kernel_rfl) (fun _ _ _ h => h) (Or.inl ⟨by rfl, ?ya4⟩) (by assumption) ?ra4
  case ya4 => (intro W hSw; obtain ⟨⟨g2, g5, g6⟩, q2, q5, q6⟩ := hSw; go_simp; first | done | with_reducible rfl)
  try simp only [Act.put, List.setIfInBounds_toArray, List.set_cons_zero, List.set_cons_succ]
  refine wpAnyH_take (i := 4) (oi := ⟨some 141, .binOp .eql 3 (.tmp 138) (.tmp 140) 3, _, _, _, _⟩) (v := ?va5) rfl (by kernel_rfl) (by kernel_rfl) (by kernel_rfl) (fun _ _ _ h => h) (Or.inl ⟨by rfl, ?ya5⟩) (by assumption) ?ra5
  case ya5 => (intro W hSw; obtain ⟨⟨g2, g5, g6⟩, q2, q5, q6⟩ := hSw; go_simp; first | done | with_reducible rfl)
  try simp only [Act.put, List.setIfInBounds_toArray, List.set_cons_zero, List.set_cons_succ]
  refine wpAnyH_take (i := 5) (oi := ⟨some 142, .move (.tmp 141), _, _, _, _⟩) (v := ?va6) rfl (by kernel_rfl) (by kernel_rfl) (by kernel_rfl) (fun _ _ _ h => h) (Or.inl ⟨by rfl, ?ya6⟩) (by assumption) ?ra6
  case ya6 => (intro W hSw; obtain ⟨⟨g2, g5, g6⟩, q2, q5, q6⟩ := hSw; go_simp; first | done | with_reducible rfl)
  try simp only [Act.put, List.setIfInBounds_toArray, List.set_cons_zero, List.set_cons_succ]
  refine wpAnyH_take (i := 6) (oi := ⟨some 143, .fieldAddr 39 (.tmp 2) 5, _, _, _, _⟩) (v := undef) rfl (by kernel_rfl) (by kernel_rfl) (by kernel_rfl) (fun _ _ _ h => h) (Or.inr ⟨by rfl, rfl⟩) (by assumption) ?ra7
  try simp only [Act.put, List.setIfInBounds_toArray, List.set_cons_zero, List.set_cons_succ]
  refine wpAnyH_take (i := 7) (oi := ⟨some 144, .load 35 (.tmp 143), _, _, _, _⟩) (v := undef) rfl (by kernel_rfl) (by kernel_rfl) (by kernel_rfl) (fun _ _ _ h => h) (Or.inr ⟨by rfl, rfl⟩) (by assumption) ?ra8
  try simp only [Act.put, List.setIfInBounds_toArray, List.set_cons_zero, List.set_cons_succ]
  refine wpAnyH_take (i := 8) (oi := ⟨some 145, .fieldAddr 39 (.tmp 2) 2, _, _, _, _⟩) (v := undef) rfl (by kernel_rfl) (by kernel_rfl) (by kernel_rfl) (fun _ _ _ h => h) (Or.inr ⟨by rfl, rfl⟩) (by assumption) ?ra9
  try simp only [Act.put, List.setIfInBounds_toArray, List.set_cons_zero, List.set_cons_succ]
  refine wpAnyH_take (i := 9) (oi := ⟨some 146, .load 3 (.tmp 145), _, _, _, _⟩) (v := undef) rfl (by kernel_rfl) (by kernel_rfl) (by kernel_rfl) (fun _ _ _ h => h) (Or.inr ⟨by rfl, rfl⟩) (by assumption) ?ra10
  try simp only [Act.put, List.setIfInBounds_toArray, List.set_cons_zero, List.set_cons_succ]
  refine wpAnyH_take (i := 10) (oi := ⟨some 147, .call { callee := .value (.func 62), args := #[.tmp 144, .tmp 146], argTypes := #[35, 3] }, _, _, _, _⟩) (v := undef) rfl (by kernel_rfl) (by kernel_rfl) (by kernel_rfl) (fun _ _ _ h => h) (Or.inr ⟨by rfl, rfl⟩) (by assumption) ?ra11
  try simp only [Act.put, List.setIfInBounds_toArray, List.set_cons_zero, List.set_cons_succ]
  refine wpAnyH_take (i := 11) (oi := ⟨some 148, .fieldAddr 39 (.tmp 3) 5, _, _, _, _⟩) (v := undef) rfl (by kernel_rfl) (by kernel_rfl) (by kernel_rfl) (fun _ _ _ h => h) (Or.inr ⟨by rfl, rfl⟩) (by assumption) ?ra12
  try simp only [Act.put, List.setIfInBounds_toArray, List.set_cons_zero, List.set_cons_succ]
  refine wpAnyH_take (i := 12) (oi := ⟨some 149, .load 35 (.tmp 148), _, _, _, _⟩) (v := undef) rfl (by kernel_rfl) (by kernel_rfl) (by kernel_rfl) (fun _ _ _ h => h) (Or.inr ⟨by rfl, rfl⟩) (by assumption) ?ra13
  try simp only [Act.put, List.setIfInBounds_toArray, List.set_cons_zero, List.set_cons_succ]
  refine wpAnyH_take (i := 13) (oi := ⟨some 150, .fieldAddr 39 (.tmp 3) 2, _, _, _, _⟩) (v := undef) rfl (by kernel_rfl) (by kernel_rfl) (by kernel_rfl) (fun _ _ _ h => h) (Or.inr ⟨by rfl, rfl⟩) (by assumption) ?ra14
  try simp only [Act.put, List.setIfInBounds_toArray, List.set_cons_zero, List.set_cons_succ]
  refine wpAnyH_take (i := 14) (oi := ⟨some 151, .load 3 (.tmp 150), _, _, _, _⟩) (v := undef) rfl (by kernel_rfl) (by kernel_rfl) (by kernel_rfl) (fun _ _ _ h => h) (Or.inr ⟨by rfl, rfl⟩) (by assumption) ?ra15
  try simp only [Act.put, List.setIfInBounds_toArray, List.set_cons_zero, List.set_cons_succ]
  refine wpAnyH_take (i := 15) (oi := ⟨some 152, .call { callee := .value (.func 62), args := #[.tmp 149, .tmp 151], argTypes := #[35, 3] }, _, _, _, _⟩) (v := undef) rfl (by kernel_rfl) (by kernel_rfl) (by kernel_rfl) (fun _ _ _ h => h) (Or.inr ⟨by rfl, rfl⟩) (by assumption) ?ra16
  try simp only [Act.put, List.setIfInBounds_toArray, List.set_cons_zero, List.set_cons_succ]
  refine wpAnyH_take (i := 16) (oi := ⟨some 153, .binOp .eql 136 (.tmp 147) (.tmp 152) 136, _, _, _, _⟩) (v := undef) rfl (by kernel_rfl) (by kernel_rfl) (by kernel_rfl) (fun _ _ _ h => h) (Or.inr ⟨by rfl, rfl⟩) (by assumption) ?ra17
  try simp only [Act.put, List.setIfInBounds_toArray, List.set_cons_zero, List.set_cons_succ]
  refine wpAnyH_take (i := 17) (oi := ⟨some 154, .pick (.tmp 142) (.tmp 153) (.const (.bool false)), _, _, _, _⟩) (v := ?va18) rfl (by kernel_rfl) (by kernel_rfl) (by kernel_rfl) (fun _ _ _ h => h) (Or.inl ⟨by rfl, ?ya18⟩) (by assumption) ?ra18
  case ya18 => (intro W hSw; obtain ⟨⟨g2, g5, g6⟩, q2, q5, q6⟩ := hSw; go_simp; first | done | with_reducible rfl)
  try simp only [Act.put, List.setIfInBounds_toArray, List.set_cons_zero, List.set_cons_succ]
  refine wpAnyH_take (i := 18) (oi := ⟨some 155, .move (.tmp 154), _, _, _, _⟩) (v := ?va19) rfl (by kernel_rfl) (by kernel_rfl) (by kernel_rfl) (fun _ _ _ h => h) (Or.inl ⟨by rfl, ?ya19⟩) (by assumption) ?ra19
  case ya19 => (intro W hSw; obtain ⟨⟨g2, g5, g6⟩, q2, q5, q6⟩ := hSw; go_simp; first | done | with_reducible rfl)
  try simp only [Act.put, List.setIfInBounds_toArray, List.set_cons_zero, List.set_cons_succ]
  refine wpAnyH_take (i := 19) (oi := ⟨some 156, .fieldAddr 39 (.tmp 2) 6, _, _, _, _⟩) (v := undef) rfl (by kernel_rfl) (by kernel_rfl) (by kernel_rfl) (fun _ _ _ h => h) (Or.inr ⟨by rfl, rfl⟩) (by assumption) ?ra20
  try simp only [Act.put, List.setIfInBounds_toArray, List.set_cons_zero, List.set_cons_succ]
  refine wpAnyH_take (i := 20) (oi := ⟨some 157, .load 35 (.tmp 156), _, _, _, _⟩) (v := undef) rfl (by kernel_rfl) (by kernel_rfl) (by kernel_rfl) (fun _ _ _ h => h) (Or.inr ⟨by rfl, rfl⟩) (by assumption) ?ra21
  try simp only [Act.put, List.setIfInBounds_toArray, List.set_cons_zero, List.set_cons_succ]
  refine wpAnyH_take (i := 21) (oi := ⟨some 158, .fieldAddr 39 (.tmp 2) 2, _, _, _, _⟩) (v := undef) rfl (by kernel_rfl) (by kernel_rfl) (by kernel_rfl) (fun _ _ _ h => h) (Or.inr ⟨by rfl, rfl⟩) (by assumption) ?ra22
  try simp only [Act.put, List.setIfInBounds_toArray, List.set_cons_zero, List.set_cons_succ]
  refine wpAnyH_take (i := 22) (oi := ⟨some 159, .load 3 (.tmp 158), _, _, _, _⟩) (v := undef) rfl (by kernel_rfl) (by kernel_rfl) (by kernel_rfl) (fun _ _ _ h => h) (Or.inr ⟨by rfl, rfl⟩) (by assumption) ?ra23
  try simp only [Act.put, List.setIfInBounds_toArray, List.set_cons_zero, List.set_cons_succ]
  refine wpAnyH_take (i := 23) (oi := ⟨some 160, .call { callee := .value (.func 62), args := #[.tmp 157, .tmp 159], argTypes := #[35, 3] }, _, _, _, _⟩) (v := undef) rfl (by kernel_rfl) (by kernel_rfl) (by kernel_rfl) (fun _ _ _ h => h) (Or.inr ⟨by rfl, rfl⟩) (by assumption) ?ra24
  try simp only [Act.put, List.setIfInBounds_toArray, List.set_cons_zero, List.set_cons_succ]
  refine wpAnyH_take (i := 24) (oi := ⟨some 161, .fieldAddr 39 (.tmp 3) 6, _, _, _, _⟩) (v := undef) rfl (by kernel_rfl) (by kernel_rfl) (by kernel_rfl) (fun _ _ _ h => h) (Or.inr ⟨by rfl, rfl⟩) (by assumption) ?ra25
  try simp only [Act.put, List.setIfInBounds_toArray, List.set_cons_zero, List.set_cons_succ]
  refine wpAnyH_take (i := 25) (oi := ⟨some 162, .load 35 (.tmp 161), _, _, _, _⟩) (v := undef) rfl (by kernel_rfl) (by kernel_rfl) (by kernel_rfl) (fun _ _ _ h => h) (Or.inr ⟨by rfl, rfl⟩) (by assumption) ?ra26
  try simp only [Act.put, List.setIfInBounds_toArray, List.set_cons_zero, List.set_cons_succ]
  refine wpAnyH_take (i := 26) (oi := ⟨some 163, .fieldAddr 39 (.tmp 3) 2, _, _, _, _⟩) (v := undef) rfl (by kernel_rfl) (by kernel_rfl) (by kernel_rfl) (fun _ _ _ h => h) (Or.inr ⟨by rfl, rfl⟩) (by assumption) ?ra27
  try simp only [Act.put, List.setIfInBounds_toArray, List.set_cons_zero, List.set_cons_succ]
  refine wpAnyH_take (i := 27) (oi := ⟨some 164, .load 3 (.tmp 163), _, _, _, _⟩) (v := undef) rfl (by kernel_rfl) (by kernel_rfl) (by kernel_rfl) (fun _ _ _ h => h) (Or.inr ⟨by rfl, rfl⟩) (by assumption) ?ra28
  try simp only [Act.put, List.setIfInBounds_toArray, List.set_cons_zero, List.set_cons_succ]
  refine wpAnyH_take (i := 28) (oi := ⟨some 165, .call { callee := .value (.func 62), args := #[.tmp 162, .tmp 164], argTypes := #[35, 3] }, _, _, _, _⟩) (v := undef) rfl (by kernel_rfl) (by kernel_rfl) (by kernel_rfl) (fun _ _ _ h => h) (Or.inr ⟨by rfl, rfl⟩) (by assumption) ?ra29
  try simp only [Act.put, List.setIfInBounds_toArray, List.set_cons_zero, List.set_cons_succ]
  refine wpAnyH_take (i := 29) (oi := ⟨some 166, .binOp .eql 136 (.tmp 160) (.tmp 165) 136, _, _, _, _⟩) (v := undef) rfl (by kernel_rfl) (by kernel_rfl) (by kernel_rfl) (fun _ _ _ h => h) (Or.inr ⟨by rfl, rfl⟩) (by assumption) ?ra30
  try simp only [Act.put, List.setIfInBounds_toArray, List.set_cons_zero, List.set_cons_succ]
  refine wpAnyH_take (i := 30) (oi := ⟨some 167, .pick (.tmp 155) (.tmp 166) (.const (.bool false)), _, _, _, _⟩) (v := ?va31) rfl (by kernel_rfl) (by kernel_rfl) (by kernel_rfl) (fun _ _ _ h => h) (Or.inl ⟨by rfl, ?ya31⟩) (by assumption) ?ra31
  case ya31 => (intro W hSw; obtain ⟨⟨g2, g5, g6⟩, q2, q5, q6⟩ := hSw; go_simp; first | done | with_reducible rfl)
  try simp only [Act.put, List.setIfInBounds_toArray, List.set_cons_zero, List.set_cons_succ]
  refine wpAnyH_take (i := 31) (oi := ⟨some 4, .assign (.tmp 167), _, _, _, _⟩) (v := ?va32) rfl (by kernel_rfl) (by kernel_rfl) (by kernel_rfl) (fun _ _ _ h => h) (Or.inl ⟨by rfl, ?ya32⟩) (by assumption) ?ra32
  case ya32 => (intro W hSw; obtain ⟨⟨g2, g5, g6⟩, q2, q5, q6⟩ := hSw; go_simp; first | done | with_reducible rfl)
  try simp only [Act.put, List.setIfInBounds_toArray, List.set_cons_zero, List.set_cons_succ]
  refine wpAnyH_done (by kernel_rfl) ?_ _
  refine NoPanic.normal ?_
  (go_wp2_with fail; go_ret; exact ⟨by rfl, by repeat (first | exact below_dr | apply below_drewN)⟩)
set_option maxHeartbeats 4000000 in
theorem zcx64_f (w : World) (key key' : ByteArray) (int uint int' uint' : Int) (a b c d : Nat) (text text' : ByteArray) (bA bA' : Option Addr) (bn bc bn' bc' : Nat) (zero zero' : Bool) (nanos offset nanos' offset' : Int) (zone zone' : ByteArray) (iA iA' : Option Addr) (ilen ic ilen' ic' : Nat) (fail fail' : ByteArray) (hk : (key.toList == key'.toList) = true) (he : Op.floatEq .f64 a b = false) : Calls Tryz.prog 23 #[.agg (Fld.arr ⟨6, key, 64, int, uint, (a : Int), (c : Int), text, bA, bn, bc, zero, nanos, offset, zone, iA, ilen, ic, fail⟩), .agg (Fld.arr ⟨6, key', 64, int', uint', (b : Int), (d : Int), text', bA', bn', bc', zero', nanos', offset', zone', iA', ilen', ic', fail'⟩)] w (BoolIs false w) := by
  have hc1 := fcmp a b false he
  go_enter Tryz.func23, Tryz.ntmps23
  go_wp2_with fail
  refine wp_region_noPanic ?_
  refine wp_region_held_drew (S := fun W => (W.cell? ⟨w.heap.size, 2, none⟩ = some (.int .i64 64) ∧ W.cell? ⟨w.heap.size, 5, none⟩ = some (.int .u64 (a : Int)) ∧ W.cell? ⟨w.heap.size, 6, none⟩ = some (.int .u64 (c : Int))) ∧ (W.cell? ⟨w.heap.size + 1, 2, none⟩ = some (.int .i64 64) ∧ W.cell? ⟨w.heap.size + 1, 5, none⟩ = some (.int .u64 (b : Int)) ∧ W.cell? ⟨w.heap.size + 1, 6, none⟩ = some (.int .u64 (d : Int)))) (by kernel_rfl) ⟨by refine ⟨?_, ?_, ?_⟩ <;> simp [go_sem], by refine ⟨?_, ?_, ?_⟩ <;> simp [go_sem]⟩ (fun hHeld => ?_)
  refine wpAnyH_take (i := 0) (oi := ⟨some 137, .fieldAddr 39 (.tmp 2) 2, _, _, _, _⟩) (v := ?vb1) rfl (by kernel_rfl) (by kernel_rfl) (by kernel_rfl) (fun _ _ _ h => h) (Or.inl ⟨by rfl, ?yb1⟩) (by assumption) ?rb1
  case yb1 => (intro W hSw; obtain ⟨⟨g2, g5, g6⟩, q2, q5, q6⟩ := hSw; go_simp; first | done | with_reducible rfl)
  try simp only [Act.put, List.setIfInBounds_toArray, List.set_cons_zero, List.set_cons_succ]
  refine wpAnyH_take (i := 1) (oi := ⟨some 138, .load 3 (.tmp 137), _, _, _, _⟩) (v := ?vb2) rfl (by kernel_rfl) (by kernel_rfl) (by kernel_rfl) (fun _ _ _ h => h) (Or.inl ⟨by rfl, ?yb2⟩) (by assumption) ?rb2
  case yb2 => (intro W hSw; obtain ⟨⟨g2, g5, g6⟩, q2, q5, q6⟩ := hSw; go_simp; first | done | with_reducible rfl)
  try simp only [Act.put, List.setIfInBounds_toArray, List.set_cons_zero, List.set_cons_succ]
  refine wpAnyH_take (i := 2) (oi := ⟨some 139, .fieldAddr 39 (.tmp 3) 2, _, _, _, _⟩) (v := ?vb3) rfl (by kernel_rfl) (by kernel_rfl) (by kernel_rfl) (fun _ _ _ h => h) (Or.inl ⟨by rfl, ?yb3⟩) (by assumption) ?rb3
  case yb3 => (intro W hSw; obtain ⟨⟨g2, g5, g6⟩, q2, q5, q6⟩ := hSw; go_simp; first | done | with_reducible rfl)
  try simp only [Act.put, List.setIfInBounds_toArray, List.set_cons_zero, List.set_cons_succ]
  refine wpAnyH_take (i := 3) (oi := ⟨some 140, .load 3 (.tmp 139), _, _, _, _⟩) (v := ?vb4) rfl (by kernel_rfl) (by kernel_rfl) (by kernel_rfl) (fun _ _ _ h => h) (Or.inl ⟨by rfl, ?yb4⟩) (by assumption) ?rb4
  case yb4 => (intro W hSw; obtain ⟨⟨g2, g5, g6⟩, q2, q5, q6⟩ := hSw; go_simp; first | done | with_reducible rfl)
  try simp only [Act.put, List.setIfInBounds_toArray, List.set_cons_zero, List.set_cons_succ]
  refine wpAnyH_take (i := 4) (oi := ⟨some 141, .binOp .eql 3 (.tmp 138) (.tmp 140) 3, _, _, _, _⟩) (v := ?vb5) rfl (by kernel_rfl) (by kernel_rfl) (by kernel_rfl) (fun _ _ _ h => h) (Or.inl ⟨by rfl, ?yb5⟩) (by assumption) ?rb5
  case yb5 => (intro W hSw; obtain ⟨⟨g2, g5, g6⟩, q2, q5, q6⟩ := hSw; go_simp; first | done | with_reducible rfl)
  try simp only [Act.put, List.setIfInBounds_toArray, List.set_cons_zero, List.set_cons_succ]
  refine wpAnyH_take (i := 5) (oi := ⟨some 142, .move (.tmp 141), _, _, _, _⟩) (v := ?vb6) rfl (by kernel_rfl) (by kernel_rfl) (by kernel_rfl) (fun _ _ _ h => h) (Or.inl ⟨by rfl, ?yb6⟩) (by assumption) ?rb6
  case yb6 => (intro W hSw; obtain ⟨⟨g2, g5, g6⟩, q2, q5, q6⟩ := hSw; go_simp; first | done | with_reducible rfl)
  try simp only [Act.put, List.setIfInBounds_toArray, List.set_cons_zero, List.set_cons_succ]
  refine wpAnyH_take (i := 6) (oi := ⟨some 143, .fieldAddr 39 (.tmp 2) 5, _, _, _, _⟩) (v := ?vb7) rfl (by kernel_rfl) (by kernel_rfl) (by kernel_rfl) (fun _ _ _ h => h) (Or.inl ⟨by rfl, ?yb7⟩) (by assumption) ?rb7
  case yb7 => (intro W hSw; obtain ⟨⟨g2, g5, g6⟩, q2, q5, q6⟩ := hSw; go_simp; first | done | with_reducible rfl)
  try simp only [Act.put, List.setIfInBounds_toArray, List.set_cons_zero, List.set_cons_succ]
  refine wpAnyH_take (i := 7) (oi := ⟨some 144, .load 35 (.tmp 143), _, _, _, _⟩) (v := ?vb8) rfl (by kernel_rfl) (by kernel_rfl) (by kernel_rfl) (fun _ _ _ h => h) (Or.inl ⟨by rfl, ?yb8⟩) (by assumption) ?rb8
  case yb8 => (intro W hSw; obtain ⟨⟨g2, g5, g6⟩, q2, q5, q6⟩ := hSw; go_simp; first | done | with_reducible rfl)
  try simp only [Act.put, List.setIfInBounds_toArray, List.set_cons_zero, List.set_cons_succ]
  refine wpAnyH_take (i := 8) (oi := ⟨some 145, .fieldAddr 39 (.tmp 2) 2, _, _, _, _⟩) (v := ?vb9) rfl (by kernel_rfl) (by kernel_rfl) (by kernel_rfl) (fun _ _ _ h => h) (Or.inl ⟨by rfl, ?yb9⟩) (by assumption) ?rb9
  case yb9 => (intro W hSw; obtain ⟨⟨g2, g5, g6⟩, q2, q5, q6⟩ := hSw; go_simp; first | done | with_reducible rfl)
  try simp only [Act.put, List.setIfInBounds_toArray, List.set_cons_zero, List.set_cons_succ]
  refine wpAnyH_take (i := 9) (oi := ⟨some 146, .load 3 (.tmp 145), _, _, _, _⟩) (v := ?vb10) rfl (by kernel_rfl) (by kernel_rfl) (by kernel_rfl) (fun _ _ _ h => h) (Or.inl ⟨by rfl, ?yb10⟩) (by assumption) ?rb10
  case yb10 => (intro W hSw; obtain ⟨⟨g2, g5, g6⟩, q2, q5, q6⟩ := hSw; go_simp; first | done | with_reducible rfl)
  try simp only [Act.put, List.setIfInBounds_toArray, List.set_cons_zero, List.set_cons_succ]
  refine wpAnyH_take (i := 11) (oi := ⟨some 148, .fieldAddr 39 (.tmp 3) 5, _, _, _, _⟩) (v := ?vb11) rfl (by kernel_rfl) (by kernel_rfl) (by kernel_rfl) (fun _ _ _ h => h) (Or.inl ⟨by rfl, ?yb11⟩) (by assumption) ?rb11
  case yb11 => (intro W hSw; obtain ⟨⟨g2, g5, g6⟩, q2, q5, q6⟩ := hSw; go_simp; first | done | with_reducible rfl)
  try simp only [Act.put, List.setIfInBounds_toArray, List.set_cons_zero, List.set_cons_succ]
  refine wpAnyH_take (i := 12) (oi := ⟨some 149, .load 35 (.tmp 148), _, _, _, _⟩) (v := ?vb12) rfl (by kernel_rfl) (by kernel_rfl) (by kernel_rfl) (fun _ _ _ h => h) (Or.inl ⟨by rfl, ?yb12⟩) (by assumption) ?rb12
  case yb12 => (intro W hSw; obtain ⟨⟨g2, g5, g6⟩, q2, q5, q6⟩ := hSw; go_simp; first | done | with_reducible rfl)
  try simp only [Act.put, List.setIfInBounds_toArray, List.set_cons_zero, List.set_cons_succ]
  refine wpAnyH_take (i := 13) (oi := ⟨some 150, .fieldAddr 39 (.tmp 3) 2, _, _, _, _⟩) (v := ?vb13) rfl (by kernel_rfl) (by kernel_rfl) (by kernel_rfl) (fun _ _ _ h => h) (Or.inl ⟨by rfl, ?yb13⟩) (by assumption) ?rb13
  case yb13 => (intro W hSw; obtain ⟨⟨g2, g5, g6⟩, q2, q5, q6⟩ := hSw; go_simp; first | done | with_reducible rfl)
  try simp only [Act.put, List.setIfInBounds_toArray, List.set_cons_zero, List.set_cons_succ]
  refine wpAnyH_take (i := 14) (oi := ⟨some 151, .load 3 (.tmp 150), _, _, _, _⟩) (v := ?vb14) rfl (by kernel_rfl) (by kernel_rfl) (by kernel_rfl) (fun _ _ _ h => h) (Or.inl ⟨by rfl, ?yb14⟩) (by assumption) ?rb14
  case yb14 => (intro W hSw; obtain ⟨⟨g2, g5, g6⟩, q2, q5, q6⟩ := hSw; go_simp; first | done | with_reducible rfl)
  try simp only [Act.put, List.setIfInBounds_toArray, List.set_cons_zero, List.set_cons_succ]
  refine wpAnyH_ready (rs := [10]) (by kernel_rfl) (by simp) ?_
  refine AllReadyH.cons (o := ⟨some 147, .call { callee := .value (.func 62), args := #[.tmp 144, .tmp 146], argTypes := #[35, 3] }, _, _, _, _⟩) rfl (fun Kx hKx => ?_) AllReadyH.nil
  (go_simp; go_at_call 62; refine (zfloat64 _ a 64 rfl).mono ?_; rintro e w1 ⟨rfl, rfl⟩)
  refine hKx.out _ _ (by (try dsimp only); (exact hHeld)) (fun hNew => ?_)
  clear hKx Kx hHeld
  have hHeld := hNew
  clear hNew
  try simp only [Act.put, List.setIfInBounds_toArray, List.set_cons_zero, List.set_cons_succ]
  refine wpAnyH_ready (rs := [15]) (by kernel_rfl) (by simp) ?_
  refine AllReadyH.cons (o := ⟨some 152, .call { callee := .value (.func 62), args := #[.tmp 149, .tmp 151], argTypes := #[35, 3] }, _, _, _, _⟩) rfl (fun Kx hKx => ?_) AllReadyH.nil
  (go_simp; go_at_call 62; refine (zfloat64 _ b 64 rfl).mono ?_; rintro e w1 ⟨rfl, rfl⟩)
  refine hKx.out _ _ (by (try dsimp only); (exact hHeld)) (fun hNew => ?_)
  clear hKx Kx hHeld
  have hHeld := hNew
  clear hNew
  try simp only [Act.put, List.setIfInBounds_toArray, List.set_cons_zero, List.set_cons_succ]
  refine wpAnyH_take (i := 16) (oi := ⟨some 153, .binOp .eql 136 (.tmp 147) (.tmp 152) 136, _, _, _, _⟩) (v := ?vb15) rfl (by kernel_rfl) (by kernel_rfl) (by kernel_rfl) (fun _ _ _ h => h) (Or.inl ⟨by rfl, ?yb15⟩) (by assumption) ?rb15
  case yb15 => (intro W hSw; obtain ⟨⟨g2, g5, g6⟩, q2, q5, q6⟩ := hSw; go_simp; first | done | with_reducible rfl)
  try simp only [Act.put, List.setIfInBounds_toArray, List.set_cons_zero, List.set_cons_succ]
  refine wpAnyH_take (i := 17) (oi := ⟨some 154, .pick (.tmp 142) (.tmp 153) (.const (.bool false)), _, _, _, _⟩) (v := ?vb16) rfl (by kernel_rfl) (by kernel_rfl) (by kernel_rfl) (fun _ _ _ h => h) (Or.inl ⟨by rfl, ?yb16⟩) (by assumption) ?rb16
  case yb16 => (intro W hSw; obtain ⟨⟨g2, g5, g6⟩, q2, q5, q6⟩ := hSw; go_simp; first | done | with_reducible rfl)
  try simp only [Act.put, List.setIfInBounds_toArray, List.set_cons_zero, List.set_cons_succ]
  refine wpAnyH_take (i := 18) (oi := ⟨some 155, .move (.tmp 154), _, _, _, _⟩) (v := ?vb17) rfl (by kernel_rfl) (by kernel_rfl) (by kernel_rfl) (fun _ _ _ h => h) (Or.inl ⟨by rfl, ?yb17⟩) (by assumption) ?rb17
  case yb17 => (intro W hSw; obtain ⟨⟨g2, g5, g6⟩, q2, q5, q6⟩ := hSw; go_simp; first | done | with_reducible rfl)
  try simp only [Act.put, List.setIfInBounds_toArray, List.set_cons_zero, List.set_cons_succ]
  refine wpAnyH_take (i := 19) (oi := ⟨some 156, .fieldAddr 39 (.tmp 2) 6, _, _, _, _⟩) (v := undef) rfl (by kernel_rfl) (by kernel_rfl) (by kernel_rfl) (fun _ _ _ h => h) (Or.inr ⟨by rfl, rfl⟩) (by assumption) ?rb18
  try simp only [Act.put, List.setIfInBounds_toArray, List.set_cons_zero, List.set_cons_succ]
  refine wpAnyH_take (i := 20) (oi := ⟨some 157, .load 35 (.tmp 156), _, _, _, _⟩) (v := undef) rfl (by kernel_rfl) (by kernel_rfl) (by kernel_rfl) (fun _ _ _ h => h) (Or.inr ⟨by rfl, rfl⟩) (by assumption) ?rb19
  try simp only [Act.put, List.setIfInBounds_toArray, List.set_cons_zero, List.set_cons_succ]
  refine wpAnyH_take (i := 21) (oi := ⟨some 158, .fieldAddr 39 (.tmp 2) 2, _, _, _, _⟩) (v := undef) rfl (by kernel_rfl) (by kernel_rfl) (by kernel_rfl) (fun _ _ _ h => h) (Or.inr ⟨by rfl, rfl⟩) (by assumption) ?rb20
  try simp only [Act.put, List.setIfInBounds_toArray, List.set_cons_zero, List.set_cons_succ]
  refine wpAnyH_take (i := 22) (oi := ⟨some 159, .load 3 (.tmp 158), _, _, _, _⟩) (v := undef) rfl (by kernel_rfl) (by kernel_rfl) (by kernel_rfl) (fun _ _ _ h => h) (Or.inr ⟨by rfl, rfl⟩) (by assumption) ?rb21
  try simp only [Act.put, List.setIfInBounds_toArray, List.set_cons_zero, List.set_cons_succ]
  refine wpAnyH_take (i := 23) (oi := ⟨some 160, .call { callee := .value (.func 62), args := #[.tmp 157, .tmp 159], argTypes := #[35, 3] }, _, _, _, _⟩) (v := undef) rfl (by kernel_rfl) (by kernel_rfl) (by kernel_rfl) (fun _ _ _ h => h) (Or.inr ⟨by rfl, rfl⟩) (by assumption) ?rb22
  try simp only [Act.put, List.setIfInBounds_toArray, List.set_cons_zero, List.set_cons_succ]
  refine wpAnyH_take (i := 24) (oi := ⟨some 161, .fieldAddr 39 (.tmp 3) 6, _, _, _, _⟩) (v := undef) rfl (by kernel_rfl) (by kernel_rfl) (by kernel_rfl) (fun _ _ _ h => h) (Or.inr ⟨by rfl, rfl⟩) (by assumption) ?rb23
  try simp only [Act.put, List.setIfInBounds_toArray, List.set_cons_zero, List.set_cons_succ]
  refine wpAnyH_take (i := 25) (oi := ⟨some 162, .load 35 (.tmp 161), _, _, _, _⟩) (v := undef) rfl (by kernel_rfl) (by kernel_rfl) (by kernel_rfl) (fun _ _ _ h => h) (Or.inr ⟨by rfl, rfl⟩) (by assumption) ?rb24
  try simp only [Act.put, List.setIfInBounds_toArray, List.set_cons_zero, List.set_cons_succ]
  refine wpAnyH_take (i := 26) (oi := ⟨some 163, .fieldAddr 39 (.tmp 3) 2, _, _, _, _⟩) (v := undef) rfl (by kernel_rfl) (by kernel_rfl) (by kernel_rfl) (fun _ _ _ h => h) (Or.inr ⟨by rfl, rfl⟩) (by assumption) ?rb25
  try simp only [Act.put, List.setIfInBounds_toArray, List.set_cons_zero, List.set_cons_succ]
  refine wpAnyH_take (i := 27) (oi := ⟨some 164, .load 3 (.tmp 163), _, _, _, _⟩) (v := undef) rfl (by kernel_rfl) (by kernel_rfl) (by kernel_rfl) (fun _ _ _ h => h) (Or.inr ⟨by rfl, rfl⟩) (by assumption) ?rb26
  try simp only [Act.put, List.setIfInBounds_toArray, List.set_cons_zero, List.set_cons_succ]
  refine wpAnyH_take (i := 28) (oi := ⟨some 165, .call { callee := .value (.func 62), args := #[.tmp 162, .tmp 164], argTypes := #[35, 3] }, _, _, _, _⟩) (v := undef) rfl (by kernel_rfl) (by kernel_rfl) (by kernel_rfl) (fun _ _ _ h => h) (Or.inr ⟨by rfl, rfl⟩) (by assumption) ?rb27
  try simp only [Act.put, List.setIfInBounds_toArray, List.set_cons_zero, List.set_cons_succ]
  refine wpAnyH_take (i := 29) (oi := ⟨some 166, .binOp .eql 136 (.tmp 160) (.tmp 165) 136, _, _, _, _⟩) (v := undef) rfl (by kernel_rfl) (by kernel_rfl) (by kernel_rfl) (fun _ _ _ h => h) (Or.inr ⟨by rfl, rfl⟩) (by assumption) ?rb28
  try simp only [Act.put, List.setIfInBounds_toArray, List.set_cons_zero, List.set_cons_succ]
  refine wpAnyH_take (i := 30) (oi := ⟨some 167, .pick (.tmp 155) (.tmp 166) (.const (.bool false)), _, _, _, _⟩) (v := ?vb29) rfl (by kernel_rfl) (by kernel_rfl) (by kernel_rfl) (fun _ _ _ h => h) (Or.inl ⟨by rfl, ?yb29⟩) (by assumption) ?rb29
  case yb29 => (intro W hSw; obtain ⟨⟨g2, g5, g6⟩, q2, q5, q6⟩ := hSw; go_simp; first | done | with_reducible rfl)
  try simp only [Act.put, List.setIfInBounds_toArray, List.set_cons_zero, List.set_cons_succ]
  refine wpAnyH_take (i := 31) (oi := ⟨some 4, .assign (.tmp 167), _, _, _, _⟩) (v := ?vb30) rfl (by kernel_rfl) (by kernel_rfl) (by kernel_rfl) (fun _ _ _ h => h) (Or.inl ⟨by rfl, ?yb30⟩) (by assumption) ?rb30
  case yb30 => (intro W hSw; obtain ⟨⟨g2, g5, g6⟩, q2, q5, q6⟩ := hSw; go_simp; first | done | with_reducible rfl)
  try simp only [Act.put, List.setIfInBounds_toArray, List.set_cons_zero, List.set_cons_succ]
  refine wpAnyH_done (by kernel_rfl) ?_ _
  refine NoPanic.normal ?_
  (go_wp2_with fail; go_ret; exact ⟨by rfl, by repeat (first | exact below_dr | apply below_drewN)⟩)
set_option maxHeartbeats 4000000 in
theorem zcx64_t (w : World) (key key' : ByteArray) (int uint int' uint' : Int) (a b c d : Nat) (text text' : ByteArray) (bA bA' : Option Addr) (bn bc bn' bc' : Nat) (zero zero' : Bool) (nanos offset nanos' offset' : Int) (zone zone' : ByteArray) (iA iA' : Option Addr) (ilen ic ilen' ic' : Nat) (fail fail' : ByteArray) (hk : (key.toList == key'.toList) = true) (he : Op.floatEq .f64 a b = true) : Calls Tryz.prog 23 #[.agg (Fld.arr ⟨6, key, 64, int, uint, (a : Int), (c : Int), text, bA, bn, bc, zero, nanos, offset, zone, iA, ilen, ic, fail⟩), .agg (Fld.arr ⟨6, key', 64, int', uint', (b : Int), (d : Int), text', bA', bn', bc', zero', nanos', offset', zone', iA', ilen', ic', fail'⟩)] w (BoolIs (Op.floatEq .f64 c d) w) := by
  have hc1 := fcmp a b true he
  have hc2 := fcmp c d _ rfl
  go_enter Tryz.func23, Tryz.ntmps23
  go_wp2_with fail
  refine wp_region_noPanic ?_
  refine wp_region_held_drew (S := fun W => (W.cell? ⟨w.heap.size, 2, none⟩ = some (.int .i64 64) ∧ W.cell? ⟨w.heap.size, 5, none⟩ = some (.int .u64 (a : Int)) ∧ W.cell? ⟨w.heap.size, 6, none⟩ = some (.int .u64 (c : Int))) ∧ (W.cell? ⟨w.heap.size + 1, 2, none⟩ = some (.int .i64 64) ∧ W.cell? ⟨w.heap.size + 1, 5, none⟩ = some (.int .u64 (b : Int)) ∧ W.cell? ⟨w.heap.size + 1, 6, none⟩ = some (.int .u64 (d : Int)))) (by kernel_rfl) ⟨by refine ⟨?_, ?_, ?_⟩ <;> simp [go_sem], by refine ⟨?_, ?_, ?_⟩ <;> simp [go_sem]⟩ (fun hHeld => ?_)
  refine wpAnyH_take (i := 0) (oi := ⟨some 137, .fieldAddr 39 (.tmp 2) 2, _, _, _, _⟩) (v := ?vd1) rfl (by kernel_rfl) (by kernel_rfl) (by kernel_rfl) (fun _ _ _ h => h) (Or.inl ⟨by rfl, ?yd1⟩) (by assumption) ?rd1
  case yd1 => (intro W hSw; obtain ⟨⟨g2, g5, g6⟩, q2, q5, q6⟩ := hSw; go_simp; first | done | with_reducible rfl)
  try simp only [Act.put, List.setIfInBounds_toArray, List.set_cons_zero, List.set_cons_succ]
  refine wpAnyH_take (i := 1) (oi := ⟨some 138, .load 3 (.tmp 137), _, _, _, _⟩) (v := ?vd2) rfl (by kernel_rfl) (by kernel_rfl) (by kernel_rfl) (fun _ _ _ h => h) (Or.inl ⟨by rfl, ?yd2⟩) (by assumption) ?rd2
  case yd2 => (intro W hSw; obtain ⟨⟨g2, g5, g6⟩, q2, q5, q6⟩ := hSw; go_simp; first | done | with_reducible rfl)
  try simp only [Act.put, List.setIfInBounds_toArray, List.set_cons_zero, List.set_cons_succ]
  refine wpAnyH_take (i := 2) (oi := ⟨some 139, .fieldAddr 39 (.tmp 3) 2, _, _, _, _⟩) (v := ?vd3) rfl (by kernel_rfl) (by kernel_rfl) (by kernel_rfl) (fun _ _ _ h => h) (Or.inl ⟨by rfl, ?yd3⟩) (by assumption) ?rd3
  case yd3 => (intro W hSw; obtain ⟨⟨g2, g5, g6⟩, q2, q5, q6⟩ := hSw; go_simp; first | done | with_reducible rfl)
  try simp only [Act.put, List.setIfInBounds_toArray, List.set_cons_zero, List.set_cons_succ]
  refine wpAnyH_take (i := 3) (oi := ⟨some 140, .load 3 (.tmp 139), _, _, _, _⟩) (v := ?vd4) rfl (by kernel_rfl) (by kernel_rfl) (by kernel_rfl) (fun _ _ _ h => h) (Or.inl ⟨by rfl, ?yd4⟩) (by assumption) ?rd4
  case yd4 => (intro W hSw; obtain ⟨⟨g2, g5, g6⟩, q2, q5, q6⟩ := hSw; go_simp; first | done | with_reducible rfl)
  try simp only [Act.put, List.setIfInBounds_toArray, List.set_cons_zero, List.set_cons_succ]
  refine wpAnyH_take (i := 4) (oi := ⟨some 141, .binOp .eql 3 (.tmp 138) (.tmp 140) 3, _, _, _, _⟩) (v := ?vd5) rfl (by kernel_rfl) (by kernel_rfl) (by kernel_rfl) (fun _ _ _ h => h) (Or.inl ⟨by rfl, ?yd5⟩) (by assumption) ?rd5
  case yd5 => (intro W hSw; obtain ⟨⟨g2, g5, g6⟩, q2, q5, q6⟩ := hSw; go_simp; first | done | with_reducible rfl)
  try simp only [Act.put, List.setIfInBounds_toArray, List.set_cons_zero, List.set_cons_succ]
  refine wpAnyH_take (i := 5) (oi := ⟨some 142, .move (.tmp 141), _, _, _, _⟩) (v := ?vd6) rfl (by kernel_rfl) (by kernel_rfl) (by kernel_rfl) (fun _ _ _ h => h) (Or.inl ⟨by rfl, ?yd6⟩) (by assumption) ?rd6
  case yd6 => (intro W hSw; obtain ⟨⟨g2, g5, g6⟩, q2, q5, q6⟩ := hSw; go_simp; first | done | with_reducible rfl)
  try simp only [Act.put, List.setIfInBounds_toArray, List.set_cons_zero, List.set_cons_succ]
  refine wpAnyH_take (i := 6) (oi := ⟨some 143, .fieldAddr 39 (.tmp 2) 5, _, _, _, _⟩) (v := ?vd7) rfl (by kernel_rfl) (by kernel_rfl) (by kernel_rfl) (fun _ _ _ h => h) (Or.inl ⟨by rfl, ?yd7⟩) (by assumption) ?rd7
  case yd7 => (intro W hSw; obtain ⟨⟨g2, g5, g6⟩, q2, q5, q6⟩ := hSw; go_simp; first | done | with_reducible rfl)
  try simp only [Act.put, List.setIfInBounds_toArray, List.set_cons_zero, List.set_cons_succ]
  refine wpAnyH_take (i := 7) (oi := ⟨some 144, .load 35 (.tmp 143), _, _, _, _⟩) (v := ?vd8) rfl (by kernel_rfl) (by kernel_rfl) (by kernel_rfl) (fun _ _ _ h => h) (Or.inl ⟨by rfl, ?yd8⟩) (by assumption) ?rd8
  case yd8 => (intro W hSw; obtain ⟨⟨g2, g5, g6⟩, q2, q5, q6⟩ := hSw; go_simp; first | done | with_reducible rfl)
  try simp only [Act.put, List.setIfInBounds_toArray, List.set_cons_zero, List.set_cons_succ]
  refine wpAnyH_take (i := 8) (oi := ⟨some 145, .fieldAddr 39 (.tmp 2) 2, _, _, _, _⟩) (v := ?vd9) rfl (by kernel_rfl) (by kernel_rfl) (by kernel_rfl) (fun _ _ _ h => h) (Or.inl ⟨by rfl, ?yd9⟩) (by assumption) ?rd9
  case yd9 => (intro W hSw; obtain ⟨⟨g2, g5, g6⟩, q2, q5, q6⟩ := hSw; go_simp; first | done | with_reducible rfl)
  try simp only [Act.put, List.setIfInBounds_toArray, List.set_cons_zero, List.set_cons_succ]
  refine wpAnyH_take (i := 9) (oi := ⟨some 146, .load 3 (.tmp 145), _, _, _, _⟩) (v := ?vd10) rfl (by kernel_rfl) (by kernel_rfl) (by kernel_rfl) (fun _ _ _ h => h) (Or.inl ⟨by rfl, ?yd10⟩) (by assumption) ?rd10
  case yd10 => (intro W hSw; obtain ⟨⟨g2, g5, g6⟩, q2, q5, q6⟩ := hSw; go_simp; first | done | with_reducible rfl)
  try simp only [Act.put, List.setIfInBounds_toArray, List.set_cons_zero, List.set_cons_succ]
  refine wpAnyH_take (i := 11) (oi := ⟨some 148, .fieldAddr 39 (.tmp 3) 5, _, _, _, _⟩) (v := ?vd11) rfl (by kernel_rfl) (by kernel_rfl) (by kernel_rfl) (fun _ _ _ h => h) (Or.inl ⟨by rfl, ?yd11⟩) (by assumption) ?rd11
  case yd11 => (intro W hSw; obtain ⟨⟨g2, g5, g6⟩, q2, q5, q6⟩ := hSw; go_simp; first | done | with_reducible rfl)
  try simp only [Act.put, List.setIfInBounds_toArray, List.set_cons_zero, List.set_cons_succ]
  refine wpAnyH_take (i := 12) (oi := ⟨some 149, .load 35 (.tmp 148), _, _, _, _⟩) (v := ?vd12) rfl (by kernel_rfl) (by kernel_rfl) (by kernel_rfl) (fun _ _ _ h => h) (Or.inl ⟨by rfl, ?yd12⟩) (by assumption) ?rd12
  case yd12 => (intro W hSw; obtain ⟨⟨g2, g5, g6⟩, q2, q5, q6⟩ := hSw; go_simp; first | done | with_reducible rfl)
  try simp only [Act.put, List.setIfInBounds_toArray, List.set_cons_zero, List.set_cons_succ]
  refine wpAnyH_take (i := 13) (oi := ⟨some 150, .fieldAddr 39 (.tmp 3) 2, _, _, _, _⟩) (v := ?vd13) rfl (by kernel_rfl) (by kernel_rfl) (by kernel_rfl) (fun _ _ _ h => h) (Or.inl ⟨by rfl, ?yd13⟩) (by assumption) ?rd13
  case yd13 => (intro W hSw; obtain ⟨⟨g2, g5, g6⟩, q2, q5, q6⟩ := hSw; go_simp; first | done | with_reducible rfl)
  try simp only [Act.put, List.setIfInBounds_toArray, List.set_cons_zero, List.set_cons_succ]
  refine wpAnyH_take (i := 14) (oi := ⟨some 151, .load 3 (.tmp 150), _, _, _, _⟩) (v := ?vd14) rfl (by kernel_rfl) (by kernel_rfl) (by kernel_rfl) (fun _ _ _ h => h) (Or.inl ⟨by rfl, ?yd14⟩) (by assumption) ?rd14
  case yd14 => (intro W hSw; obtain ⟨⟨g2, g5, g6⟩, q2, q5, q6⟩ := hSw; go_simp; first | done | with_reducible rfl)
  try simp only [Act.put, List.setIfInBounds_toArray, List.set_cons_zero, List.set_cons_succ]
  refine wpAnyH_ready (rs := [10]) (by kernel_rfl) (by simp) ?_
  refine AllReadyH.cons (o := ⟨some 147, .call { callee := .value (.func 62), args := #[.tmp 144, .tmp 146], argTypes := #[35, 3] }, _, _, _, _⟩) rfl (fun Kx hKx => ?_) AllReadyH.nil
  (go_simp; go_at_call 62; refine (zfloat64 _ a 64 rfl).mono ?_; rintro e w1 ⟨rfl, rfl⟩)
  refine hKx.out _ _ (by (try dsimp only); (exact hHeld)) (fun hNew => ?_)
  clear hKx Kx hHeld
  have hHeld := hNew
  clear hNew
  try simp only [Act.put, List.setIfInBounds_toArray, List.set_cons_zero, List.set_cons_succ]
  refine wpAnyH_ready (rs := [15]) (by kernel_rfl) (by simp) ?_
  refine AllReadyH.cons (o := ⟨some 152, .call { callee := .value (.func 62), args := #[.tmp 149, .tmp 151], argTypes := #[35, 3] }, _, _, _, _⟩) rfl (fun Kx hKx => ?_) AllReadyH.nil
  (go_simp; go_at_call 62; refine (zfloat64 _ b 64 rfl).mono ?_; rintro e w1 ⟨rfl, rfl⟩)
  refine hKx.out _ _ (by (try dsimp only); (exact hHeld)) (fun hNew => ?_)
  clear hKx Kx hHeld
  have hHeld := hNew
  clear hNew
  try simp only [Act.put, List.setIfInBounds_toArray, List.set_cons_zero, List.set_cons_succ]
  refine wpAnyH_take (i := 16) (oi := ⟨some 153, .binOp .eql 136 (.tmp 147) (.tmp 152) 136, _, _, _, _⟩) (v := ?vd15) rfl (by kernel_rfl) (by kernel_rfl) (by kernel_rfl) (fun _ _ _ h => h) (Or.inl ⟨by rfl, ?yd15⟩) (by assumption) ?rd15
  case yd15 => (intro W hSw; obtain ⟨⟨g2, g5, g6⟩, q2, q5, q6⟩ := hSw; go_simp; first | done | with_reducible rfl)
  try simp only [Act.put, List.setIfInBounds_toArray, List.set_cons_zero, List.set_cons_succ]
  refine wpAnyH_take (i := 17) (oi := ⟨some 154, .pick (.tmp 142) (.tmp 153) (.const (.bool false)), _, _, _, _⟩) (v := ?vd16) rfl (by kernel_rfl) (by kernel_rfl) (by kernel_rfl) (fun _ _ _ h => h) (Or.inl ⟨by rfl, ?yd16⟩) (by assumption) ?rd16
  case yd16 => (intro W hSw; obtain ⟨⟨g2, g5, g6⟩, q2, q5, q6⟩ := hSw; go_simp; first | done | with_reducible rfl)
  try simp only [Act.put, List.setIfInBounds_toArray, List.set_cons_zero, List.set_cons_succ]
  refine wpAnyH_take (i := 18) (oi := ⟨some 155, .move (.tmp 154), _, _, _, _⟩) (v := ?vd17) rfl (by kernel_rfl) (by kernel_rfl) (by kernel_rfl) (fun _ _ _ h => h) (Or.inl ⟨by rfl, ?yd17⟩) (by assumption) ?rd17
  case yd17 => (intro W hSw; obtain ⟨⟨g2, g5, g6⟩, q2, q5, q6⟩ := hSw; go_simp; first | done | with_reducible rfl)
  try simp only [Act.put, List.setIfInBounds_toArray, List.set_cons_zero, List.set_cons_succ]
  refine wpAnyH_take (i := 19) (oi := ⟨some 156, .fieldAddr 39 (.tmp 2) 6, _, _, _, _⟩) (v := ?vd18) rfl (by kernel_rfl) (by kernel_rfl) (by kernel_rfl) (fun _ _ _ h => h) (Or.inl ⟨by rfl, ?yd18⟩) (by assumption) ?rd18
  case yd18 => (intro W hSw; obtain ⟨⟨g2, g5, g6⟩, q2, q5, q6⟩ := hSw; go_simp; first | done | with_reducible rfl)
  try simp only [Act.put, List.setIfInBounds_toArray, List.set_cons_zero, List.set_cons_succ]
  refine wpAnyH_take (i := 20) (oi := ⟨some 157, .load 35 (.tmp 156), _, _, _, _⟩) (v := ?vd19) rfl (by kernel_rfl) (by kernel_rfl) (by kernel_rfl) (fun _ _ _ h => h) (Or.inl ⟨by rfl, ?yd19⟩) (by assumption) ?rd19
  case yd19 => (intro W hSw; obtain ⟨⟨g2, g5, g6⟩, q2, q5, q6⟩ := hSw; go_simp; first | done | with_reducible rfl)
  try simp only [Act.put, List.setIfInBounds_toArray, List.set_cons_zero, List.set_cons_succ]
  refine wpAnyH_take (i := 21) (oi := ⟨some 158, .fieldAddr 39 (.tmp 2) 2, _, _, _, _⟩) (v := ?vd20) rfl (by kernel_rfl) (by kernel_rfl) (by kernel_rfl) (fun _ _ _ h => h) (Or.inl ⟨by rfl, ?yd20⟩) (by assumption) ?rd20
  case yd20 => (intro W hSw; obtain ⟨⟨g2, g5, g6⟩, q2, q5, q6⟩ := hSw; go_simp; first | done | with_reducible rfl)
  try simp only [Act.put, List.setIfInBounds_toArray, List.set_cons_zero, List.set_cons_succ]
  refine wpAnyH_take (i := 22) (oi := ⟨some 159, .load 3 (.tmp 158), _, _, _, _⟩) (v := ?vd21) rfl (by kernel_rfl) (by kernel_rfl) (by kernel_rfl) (fun _ _ _ h => h) (Or.inl ⟨by rfl, ?yd21⟩) (by assumption) ?rd21
  case yd21 => (intro W hSw; obtain ⟨⟨g2, g5, g6⟩, q2, q5, q6⟩ := hSw; go_simp; first | done | with_reducible rfl)
  try simp only [Act.put, List.setIfInBounds_toArray, List.set_cons_zero, List.set_cons_succ]
  refine wpAnyH_take (i := 24) (oi := ⟨some 161, .fieldAddr 39 (.tmp 3) 6, _, _, _, _⟩) (v := ?vd22) rfl (by kernel_rfl) (by kernel_rfl) (by kernel_rfl) (fun _ _ _ h => h) (Or.inl ⟨by rfl, ?yd22⟩) (by assumption) ?rd22
  case yd22 => (intro W hSw; obtain ⟨⟨g2, g5, g6⟩, q2, q5, q6⟩ := hSw; go_simp; first | done | with_reducible rfl)
  try simp only [Act.put, List.setIfInBounds_toArray, List.set_cons_zero, List.set_cons_succ]
  refine wpAnyH_take (i := 25) (oi := ⟨some 162, .load 35 (.tmp 161), _, _, _, _⟩) (v := ?vd23) rfl (by kernel_rfl) (by kernel_rfl) (by kernel_rfl) (fun _ _ _ h => h) (Or.inl ⟨by rfl, ?yd23⟩) (by assumption) ?rd23
  case yd23 => (intro W hSw; obtain ⟨⟨g2, g5, g6⟩, q2, q5, q6⟩ := hSw; go_simp; first | done | with_reducible rfl)
  try simp only [Act.put, List.setIfInBounds_toArray, List.set_cons_zero, List.set_cons_succ]
  refine wpAnyH_take (i := 26) (oi := ⟨some 163, .fieldAddr 39 (.tmp 3) 2, _, _, _, _⟩) (v := ?vd24) rfl (by kernel_rfl) (by kernel_rfl) (by kernel_rfl) (fun _ _ _ h => h) (Or.inl ⟨by rfl, ?yd24⟩) (by assumption) ?rd24
  case yd24 => (intro W hSw; obtain ⟨⟨g2, g5, g6⟩, q2, q5, q6⟩ := hSw; go_simp; first | done | with_reducible rfl)
  try simp only [Act.put, List.setIfInBounds_toArray, List.set_cons_zero, List.set_cons_succ]
  refine wpAnyH_take (i := 27) (oi := ⟨some 164, .load 3 (.tmp 163), _, _, _, _⟩) (v := ?vd25) rfl (by kernel_rfl) (by kernel_rfl) (by kernel_rfl) (fun _ _ _ h => h) (Or.inl ⟨by rfl, ?yd25⟩) (by assumption) ?rd25
  case yd25 => (intro W hSw; obtain ⟨⟨g2, g5, g6⟩, q2, q5, q6⟩ := hSw; go_simp; first | done | with_reducible rfl)
  try simp only [Act.put, List.setIfInBounds_toArray, List.set_cons_zero, List.set_cons_succ]
  refine wpAnyH_ready (rs := [23]) (by kernel_rfl) (by simp) ?_
  refine AllReadyH.cons (o := ⟨some 160, .call { callee := .value (.func 62), args := #[.tmp 157, .tmp 159], argTypes := #[35, 3] }, _, _, _, _⟩) rfl (fun Kx hKx => ?_) AllReadyH.nil
  (go_simp; go_at_call 62; refine (zfloat64 _ c 64 rfl).mono ?_; rintro e w1 ⟨rfl, rfl⟩)
  refine hKx.out _ _ (by (try dsimp only); (exact hHeld)) (fun hNew => ?_)
  clear hKx Kx hHeld
  have hHeld := hNew
  clear hNew
  try simp only [Act.put, List.setIfInBounds_toArray, List.set_cons_zero, List.set_cons_succ]
  refine wpAnyH_ready (rs := [28]) (by kernel_rfl) (by simp) ?_
  refine AllReadyH.cons (o := ⟨some 165, .call { callee := .value (.func 62), args := #[.tmp 162, .tmp 164], argTypes := #[35, 3] }, _, _, _, _⟩) rfl (fun Kx hKx => ?_) AllReadyH.nil
  (go_simp; go_at_call 62; refine (zfloat64 _ d 64 rfl).mono ?_; rintro e w1 ⟨rfl, rfl⟩)
  refine hKx.out _ _ (by (try dsimp only); (exact hHeld)) (fun hNew => ?_)
  clear hKx Kx hHeld
  have hHeld := hNew
  clear hNew
  try simp only [Act.put, List.setIfInBounds_toArray, List.set_cons_zero, List.set_cons_succ]
  refine wpAnyH_take (i := 29) (oi := ⟨some 166, .binOp .eql 136 (.tmp 160) (.tmp 165) 136, _, _, _, _⟩) (v := ?vd26) rfl (by kernel_rfl) (by kernel_rfl) (by kernel_rfl) (fun _ _ _ h => h) (Or.inl ⟨by rfl, ?yd26⟩) (by assumption) ?rd26
  case yd26 => (intro W hSw; obtain ⟨⟨g2, g5, g6⟩, q2, q5, q6⟩ := hSw; go_simp; first | done | with_reducible rfl)
  try simp only [Act.put, List.setIfInBounds_toArray, List.set_cons_zero, List.set_cons_succ]
  refine wpAnyH_take (i := 30) (oi := ⟨some 167, .pick (.tmp 155) (.tmp 166) (.const (.bool false)), _, _, _, _⟩) (v := ?vd27) rfl (by kernel_rfl) (by kernel_rfl) (by kernel_rfl) (fun _ _ _ h => h) (Or.inl ⟨by rfl, ?yd27⟩) (by assumption) ?rd27
  case yd27 => (intro W hSw; obtain ⟨⟨g2, g5, g6⟩, q2, q5, q6⟩ := hSw; go_simp; first | done | with_reducible rfl)
  try simp only [Act.put, List.setIfInBounds_toArray, List.set_cons_zero, List.set_cons_succ]
  refine wpAnyH_take (i := 31) (oi := ⟨some 4, .assign (.tmp 167), _, _, _, _⟩) (v := ?vd28) rfl (by kernel_rfl) (by kernel_rfl) (by kernel_rfl) (fun _ _ _ h => h) (Or.inl ⟨by rfl, ?yd28⟩) (by assumption) ?rd28
  case yd28 => (intro W hSw; obtain ⟨⟨g2, g5, g6⟩, q2, q5, q6⟩ := hSw; go_simp; first | done | with_reducible rfl)
  try simp only [Act.put, List.setIfInBounds_toArray, List.set_cons_zero, List.set_cons_succ]
  refine wpAnyH_done (by kernel_rfl) ?_ _
  refine NoPanic.normal ?_
  (go_wp2_with fail; go_ret; exact ⟨by rfl, by repeat (first | exact below_dr | apply below_drewN)⟩)
set_option maxHeartbeats 4000000 in
theorem zcx32_f (w : World) (key key' : ByteArray) (int uint int' uint' : Int) (a b c d : Nat) (text text' : ByteArray) (bA bA' : Option Addr) (bn bc bn' bc' : Nat) (zero zero' : Bool) (nanos offset nanos' offset' : Int) (zone zone' : ByteArray) (iA iA' : Option Addr) (ilen ic ilen' ic' : Nat) (fail fail' : ByteArray) (hk : (key.toList == key'.toList) = true) (he : Op.floatEq .f32 a b = false) (ha : a < 4294967296) (hb : b < 4294967296) (hc : c < 4294967296) (hd : d < 4294967296) : Calls Tryz.prog 23 #[.agg (Fld.arr ⟨6, key, 32, int, uint, (a : Int), (c : Int), text, bA, bn, bc, zero, nanos, offset, zone, iA, ilen, ic, fail⟩), .agg (Fld.arr ⟨6, key', 32, int', uint', (b : Int), (d : Int), text', bA', bn', bc', zero', nanos', offset', zone', iA', ilen', ic', fail'⟩)] w (BoolIs false w) := by
  go_enter Tryz.func23, Tryz.ntmps23
  go_wp2_with fail
  refine wp_region_noPanic ?_
  refine wp_region_held_drew (S := fun W => (W.cell? ⟨w.heap.size, 2, none⟩ = some (.int .i64 32) ∧ W.cell? ⟨w.heap.size, 5, none⟩ = some (.int .u64 (a : Int)) ∧ W.cell? ⟨w.heap.size, 6, none⟩ = some (.int .u64 (c : Int))) ∧ (W.cell? ⟨w.heap.size + 1, 2, none⟩ = some (.int .i64 32) ∧ W.cell? ⟨w.heap.size + 1, 5, none⟩ = some (.int .u64 (b : Int)) ∧ W.cell? ⟨w.heap.size + 1, 6, none⟩ = some (.int .u64 (d : Int)))) (by kernel_rfl) ⟨by refine ⟨?_, ?_, ?_⟩ <;> simp [go_sem], by refine ⟨?_, ?_, ?_⟩ <;> simp [go_sem]⟩ (fun hHeld => ?_)
  refine wpAnyH_take (i := 0) (oi := ⟨some 137, .fieldAddr 39 (.tmp 2) 2, _, _, _, _⟩) (v := ?ve1) rfl (by kernel_rfl) (by kernel_rfl) (by kernel_rfl) (fun _ _ _ h => h) (Or.inl ⟨by rfl, ?ye1⟩) (by assumption) ?re1
  case ye1 => (intro W hSw; obtain ⟨⟨g2, g5, g6⟩, q2, q5, q6⟩ := hSw; go_simp; first | done | with_reducible rfl)
  try simp only [Act.put, List.setIfInBounds_toArray, List.set_cons_zero, List.set_cons_succ]
  refine wpAnyH_take (i := 1) (oi := ⟨some 138, .load 3 (.tmp 137), _, _, _, _⟩) (v := ?ve2) rfl (by kernel_rfl) (by kernel_rfl) (by kernel_rfl) (fun _ _ _ h => h) (Or.inl ⟨by rfl, ?ye2⟩) (by assumption) ?re2
  case ye2 => (intro W hSw; obtain ⟨⟨g2, g5, g6⟩, q2, q5, q6⟩ := hSw; go_simp; first | done | with_reducible rfl)
  try simp only [Act.put, List.setIfInBounds_toArray, List.set_cons_zero, List.set_cons_succ]
  refine wpAnyH_take (i := 2) (oi := ⟨some 139, .fieldAddr 39 (.tmp 3) 2, _, _, _, _⟩) (v := ?ve3) rfl (by kernel_rfl) (by kernel_rfl) (by kernel_rfl) (fun _ _ _ h => h) (Or.inl ⟨by rfl, ?ye3⟩) (by assumption) ?re3
  case ye3 => (intro W hSw; obtain ⟨⟨g2, g5, g6⟩, q2, q5, q6⟩ := hSw; go_simp; first | done | with_reducible rfl)
  try simp only [Act.put, List.setIfInBounds_toArray, List.set_cons_zero, List.set_cons_succ]
  refine wpAnyH_take (i := 3) (oi := ⟨some 140, .load 3 (.tmp 139), _, _, _, _⟩) (v := ?ve4) rfl (by kernel_rfl) (by kernel_rfl) (by kernel_rfl) (fun _ _ _ h => h) (Or.inl ⟨by rfl, ?ye4⟩) (by assumption) ?re4
  case ye4 => (intro W hSw; obtain ⟨⟨g2, g5, g6⟩, q2, q5, q6⟩ := hSw; go_simp; first | done | with_reducible rfl)
  try simp only [Act.put, List.setIfInBounds_toArray, List.set_cons_zero, List.set_cons_succ]
  refine wpAnyH_take (i := 4) (oi := ⟨some 141, .binOp .eql 3 (.tmp 138) (.tmp 140) 3, _, _, _, _⟩) (v := ?ve5) rfl (by kernel_rfl) (by kernel_rfl) (by kernel_rfl) (fun _ _ _ h => h) (Or.inl ⟨by rfl, ?ye5⟩) (by assumption) ?re5
  case ye5 => (intro W hSw; obtain ⟨⟨g2, g5, g6⟩, q2, q5, q6⟩ := hSw; go_simp; first | done | with_reducible rfl)
  try simp only [Act.put, List.setIfInBounds_toArray, List.set_cons_zero, List.set_cons_succ]
  refine wpAnyH_take (i := 5) (oi := ⟨some 142, .move (.tmp 141), _, _, _, _⟩) (v := ?ve6) rfl (by kernel_rfl) (by kernel_rfl) (by kernel_rfl) (fun _ _ _ h => h) (Or.inl ⟨by rfl, ?ye6⟩) (by assumption) ?re6
  case ye6 => (intro W hSw; obtain ⟨⟨g2, g5, g6⟩, q2, q5, q6⟩ := hSw; go_simp; first | done | with_reducible rfl)
  try simp only [Act.put, List.setIfInBounds_toArray, List.set_cons_zero, List.set_cons_succ]
  refine wpAnyH_take (i := 6) (oi := ⟨some 143, .fieldAddr 39 (.tmp 2) 5, _, _, _, _⟩) (v := ?ve7) rfl (by kernel_rfl) (by kernel_rfl) (by kernel_rfl) (fun _ _ _ h => h) (Or.inl ⟨by rfl, ?ye7⟩) (by assumption) ?re7
  case ye7 => (intro W hSw; obtain ⟨⟨g2, g5, g6⟩, q2, q5, q6⟩ := hSw; go_simp; first | done | with_reducible rfl)
  try simp only [Act.put, List.setIfInBounds_toArray, List.set_cons_zero, List.set_cons_succ]
  refine wpAnyH_take (i := 7) (oi := ⟨some 144, .load 35 (.tmp 143), _, _, _, _⟩) (v := ?ve8) rfl (by kernel_rfl) (by kernel_rfl) (by kernel_rfl) (fun _ _ _ h => h) (Or.inl ⟨by rfl, ?ye8⟩) (by assumption) ?re8
  case ye8 => (intro W hSw; obtain ⟨⟨g2, g5, g6⟩, q2, q5, q6⟩ := hSw; go_simp; first | done | with_reducible rfl)
  try simp only [Act.put, List.setIfInBounds_toArray, List.set_cons_zero, List.set_cons_succ]
  refine wpAnyH_take (i := 8) (oi := ⟨some 145, .fieldAddr 39 (.tmp 2) 2, _, _, _, _⟩) (v := ?ve9) rfl (by kernel_rfl) (by kernel_rfl) (by kernel_rfl) (fun _ _ _ h => h) (Or.inl ⟨by rfl, ?ye9⟩) (by assumption) ?re9
  case ye9 => (intro W hSw; obtain ⟨⟨g2, g5, g6⟩, q2, q5, q6⟩ := hSw; go_simp; first | done | with_reducible rfl)
  try simp only [Act.put, List.setIfInBounds_toArray, List.set_cons_zero, List.set_cons_succ]
  refine wpAnyH_take (i := 9) (oi := ⟨some 146, .load 3 (.tmp 145), _, _, _, _⟩) (v := ?ve10) rfl (by kernel_rfl) (by kernel_rfl) (by kernel_rfl) (fun _ _ _ h => h) (Or.inl ⟨by rfl, ?ye10⟩) (by assumption) ?re10
  case ye10 => (intro W hSw; obtain ⟨⟨g2, g5, g6⟩, q2, q5, q6⟩ := hSw; go_simp; first | done | with_reducible rfl)
  try simp only [Act.put, List.setIfInBounds_toArray, List.set_cons_zero, List.set_cons_succ]
  refine wpAnyH_take (i := 11) (oi := ⟨some 148, .fieldAddr 39 (.tmp 3) 5, _, _, _, _⟩) (v := ?ve11) rfl (by kernel_rfl) (by kernel_rfl) (by kernel_rfl) (fun _ _ _ h => h) (Or.inl ⟨by rfl, ?ye11⟩) (by assumption) ?re11
  case ye11 => (intro W hSw; obtain ⟨⟨g2, g5, g6⟩, q2, q5, q6⟩ := hSw; go_simp; first | done | with_reducible rfl)
  try simp only [Act.put, List.setIfInBounds_toArray, List.set_cons_zero, List.set_cons_succ]
  refine wpAnyH_take (i := 12) (oi := ⟨some 149, .load 35 (.tmp 148), _, _, _, _⟩) (v := ?ve12) rfl (by kernel_rfl) (by kernel_rfl) (by kernel_rfl) (fun _ _ _ h => h) (Or.inl ⟨by rfl, ?ye12⟩) (by assumption) ?re12
  case ye12 => (intro W hSw; obtain ⟨⟨g2, g5, g6⟩, q2, q5, q6⟩ := hSw; go_simp; first | done | with_reducible rfl)
  try simp only [Act.put, List.setIfInBounds_toArray, List.set_cons_zero, List.set_cons_succ]
  refine wpAnyH_take (i := 13) (oi := ⟨some 150, .fieldAddr 39 (.tmp 3) 2, _, _, _, _⟩) (v := ?ve13) rfl (by kernel_rfl) (by kernel_rfl) (by kernel_rfl) (fun _ _ _ h => h) (Or.inl ⟨by rfl, ?ye13⟩) (by assumption) ?re13
  case ye13 => (intro W hSw; obtain ⟨⟨g2, g5, g6⟩, q2, q5, q6⟩ := hSw; go_simp; first | done | with_reducible rfl)
  try simp only [Act.put, List.setIfInBounds_toArray, List.set_cons_zero, List.set_cons_succ]
  refine wpAnyH_take (i := 14) (oi := ⟨some 151, .load 3 (.tmp 150), _, _, _, _⟩) (v := ?ve14) rfl (by kernel_rfl) (by kernel_rfl) (by kernel_rfl) (fun _ _ _ h => h) (Or.inl ⟨by rfl, ?ye14⟩) (by assumption) ?re14
  case ye14 => (intro W hSw; obtain ⟨⟨g2, g5, g6⟩, q2, q5, q6⟩ := hSw; go_simp; first | done | with_reducible rfl)
  try simp only [Act.put, List.setIfInBounds_toArray, List.set_cons_zero, List.set_cons_succ]
  refine wpAnyH_ready (rs := [10]) (by kernel_rfl) (by simp) ?_
  refine AllReadyH.cons (o := ⟨some 147, .call { callee := .value (.func 62), args := #[.tmp 144, .tmp 146], argTypes := #[35, 3] }, _, _, _, _⟩) rfl (fun Kx hKx => ?_) AllReadyH.nil
  (go_simp; go_at_call 62; refine (zfloat32 _ a (by omega)).mono ?_; rintro e w1 ⟨r1, d1, rfl, k1, rfl⟩)
  refine hKx.out _ _ (by (try dsimp only); (exact hHeld)) (fun hNew => ?_)
  clear hKx Kx hHeld
  have hHeld := hNew
  clear hNew
  try simp only [Act.put, List.setIfInBounds_toArray, List.set_cons_zero, List.set_cons_succ]
  refine wpAnyH_ready (rs := [15]) (by kernel_rfl) (by simp) ?_
  refine AllReadyH.cons (o := ⟨some 152, .call { callee := .value (.func 62), args := #[.tmp 149, .tmp 151], argTypes := #[35, 3] }, _, _, _, _⟩) rfl (fun Kx hKx => ?_) AllReadyH.nil
  (go_simp; go_at_call 62; refine (zfloat32 _ b (by omega)).mono ?_; rintro e w2 ⟨r2, d2, rfl, k2, rfl⟩; have hF2 := fcmp r1 r2 (false) ((wid_eq (by omega) (by omega) k1 k2).trans he))
  refine hKx.out _ _ (by (try dsimp only); (exact hHeld)) (fun hNew => ?_)
  clear hKx Kx hHeld
  have hHeld := hNew
  clear hNew
  try simp only [Act.put, List.setIfInBounds_toArray, List.set_cons_zero, List.set_cons_succ]
  refine wpAnyH_take (i := 16) (oi := ⟨some 153, .binOp .eql 136 (.tmp 147) (.tmp 152) 136, _, _, _, _⟩) (v := ?ve15) rfl (by kernel_rfl) (by kernel_rfl) (by kernel_rfl) (fun _ _ _ h => h) (Or.inl ⟨by rfl, ?ye15⟩) (by assumption) ?re15
  case ye15 => (intro W hSw; obtain ⟨⟨g2, g5, g6⟩, q2, q5, q6⟩ := hSw; go_simp; first | done | with_reducible rfl)
  try simp only [Act.put, List.setIfInBounds_toArray, List.set_cons_zero, List.set_cons_succ]
  refine wpAnyH_take (i := 17) (oi := ⟨some 154, .pick (.tmp 142) (.tmp 153) (.const (.bool false)), _, _, _, _⟩) (v := ?ve16) rfl (by kernel_rfl) (by kernel_rfl) (by kernel_rfl) (fun _ _ _ h => h) (Or.inl ⟨by rfl, ?ye16⟩) (by assumption) ?re16
  case ye16 => (intro W hSw; obtain ⟨⟨g2, g5, g6⟩, q2, q5, q6⟩ := hSw; go_simp; first | done | with_reducible rfl)
  try simp only [Act.put, List.setIfInBounds_toArray, List.set_cons_zero, List.set_cons_succ]
  refine wpAnyH_take (i := 18) (oi := ⟨some 155, .move (.tmp 154), _, _, _, _⟩) (v := ?ve17) rfl (by kernel_rfl) (by kernel_rfl) (by kernel_rfl) (fun _ _ _ h => h) (Or.inl ⟨by rfl, ?ye17⟩) (by assumption) ?re17
  case ye17 => (intro W hSw; obtain ⟨⟨g2, g5, g6⟩, q2, q5, q6⟩ := hSw; go_simp; first | done | with_reducible rfl)
  try simp only [Act.put, List.setIfInBounds_toArray, List.set_cons_zero, List.set_cons_succ]
  refine wpAnyH_take (i := 19) (oi := ⟨some 156, .fieldAddr 39 (.tmp 2) 6, _, _, _, _⟩) (v := undef) rfl (by kernel_rfl) (by kernel_rfl) (by kernel_rfl) (fun _ _ _ h => h) (Or.inr ⟨by rfl, rfl⟩) (by assumption) ?re18
  try simp only [Act.put, List.setIfInBounds_toArray, List.set_cons_zero, List.set_cons_succ]
  refine wpAnyH_take (i := 20) (oi := ⟨some 157, .load 35 (.tmp 156), _, _, _, _⟩) (v := undef) rfl (by kernel_rfl) (by kernel_rfl) (by kernel_rfl) (fun _ _ _ h => h) (Or.inr ⟨by rfl, rfl⟩) (by assumption) ?re19
  try simp only [Act.put, List.setIfInBounds_toArray, List.set_cons_zero, List.set_cons_succ]
  refine wpAnyH_take (i := 21) (oi := ⟨some 158, .fieldAddr 39 (.tmp 2) 2, _, _, _, _⟩) (v := undef) rfl (by kernel_rfl) (by kernel_rfl) (by kernel_rfl) (fun _ _ _ h => h) (Or.inr ⟨by rfl, rfl⟩) (by assumption) ?re20
  try simp only [Act.put, List.setIfInBounds_toArray, List.set_cons_zero, List.set_cons_succ]
  refine wpAnyH_take (i := 22) (oi := ⟨some 159, .load 3 (.tmp 158), _, _, _, _⟩) (v := undef) rfl (by kernel_rfl) (by kernel_rfl) (by kernel_rfl) (fun _ _ _ h => h) (Or.inr ⟨by rfl, rfl⟩) (by assumption) ?re21
  try simp only [Act.put, List.setIfInBounds_toArray, List.set_cons_zero, List.set_cons_succ]
  refine wpAnyH_take (i := 23) (oi := ⟨some 160, .call { callee := .value (.func 62), args := #[.tmp 157, .tmp 159], argTypes := #[35, 3] }, _, _, _, _⟩) (v := undef) rfl (by kernel_rfl) (by kernel_rfl) (by kernel_rfl) (fun _ _ _ h => h) (Or.inr ⟨by rfl, rfl⟩) (by assumption) ?re22
  try simp only [Act.put, List.setIfInBounds_toArray, List.set_cons_zero, List.set_cons_succ]
  refine wpAnyH_take (i := 24) (oi := ⟨some 161, .fieldAddr 39 (.tmp 3) 6, _, _, _, _⟩) (v := undef) rfl (by kernel_rfl) (by kernel_rfl) (by kernel_rfl) (fun _ _ _ h => h) (Or.inr ⟨by rfl, rfl⟩) (by assumption) ?re23
  try simp only [Act.put, List.setIfInBounds_toArray, List.set_cons_zero, List.set_cons_succ]
  refine wpAnyH_take (i := 25) (oi := ⟨some 162, .load 35 (.tmp 161), _, _, _, _⟩) (v := undef) rfl (by kernel_rfl) (by kernel_rfl) (by kernel_rfl) (fun _ _ _ h => h) (Or.inr ⟨by rfl, rfl⟩) (by assumption) ?re24
  try simp only [Act.put, List.setIfInBounds_toArray, List.set_cons_zero, List.set_cons_succ]
  refine wpAnyH_take (i := 26) (oi := ⟨some 163, .fieldAddr 39 (.tmp 3) 2, _, _, _, _⟩) (v := undef) rfl (by kernel_rfl) (by kernel_rfl) (by kernel_rfl) (fun _ _ _ h => h) (Or.inr ⟨by rfl, rfl⟩) (by assumption) ?re25
  try simp only [Act.put, List.setIfInBounds_toArray, List.set_cons_zero, List.set_cons_succ]
  refine wpAnyH_take (i := 27) (oi := ⟨some 164, .load 3 (.tmp 163), _, _, _, _⟩) (v := undef) rfl (by kernel_rfl) (by kernel_rfl) (by kernel_rfl) (fun _ _ _ h => h) (Or.inr ⟨by rfl, rfl⟩) (by assumption) ?re26
  try simp only [Act.put, List.setIfInBounds_toArray, List.set_cons_zero, List.set_cons_succ]
  refine wpAnyH_take (i := 28) (oi := ⟨some 165, .call { callee := .value (.func 62), args := #[.tmp 162, .tmp 164], argTypes := #[35, 3] }, _, _, _, _⟩) (v := undef) rfl (by kernel_rfl) (by kernel_rfl) (by kernel_rfl) (fun _ _ _ h => h) (Or.inr ⟨by rfl, rfl⟩) (by assumption) ?re27
  try simp only [Act.put, List.setIfInBounds_toArray, List.set_cons_zero, List.set_cons_succ]
  refine wpAnyH_take (i := 29) (oi := ⟨some 166, .binOp .eql 136 (.tmp 160) (.tmp 165) 136, _, _, _, _⟩) (v := undef) rfl (by kernel_rfl) (by kernel_rfl) (by kernel_rfl) (fun _ _ _ h => h) (Or.inr ⟨by rfl, rfl⟩) (by assumption) ?re28
  try simp only [Act.put, List.setIfInBounds_toArray, List.set_cons_zero, List.set_cons_succ]
  refine wpAnyH_take (i := 30) (oi := ⟨some 167, .pick (.tmp 155) (.tmp 166) (.const (.bool false)), _, _, _, _⟩) (v := ?ve29) rfl (by kernel_rfl) (by kernel_rfl) (by kernel_rfl) (fun _ _ _ h => h) (Or.inl ⟨by rfl, ?ye29⟩) (by assumption) ?re29
  case ye29 => (intro W hSw; obtain ⟨⟨g2, g5, g6⟩, q2, q5, q6⟩ := hSw; go_simp; first | done | with_reducible rfl)
  try simp only [Act.put, List.setIfInBounds_toArray, List.set_cons_zero, List.set_cons_succ]
  refine wpAnyH_take (i := 31) (oi := ⟨some 4, .assign (.tmp 167), _, _, _, _⟩) (v := ?ve30) rfl (by kernel_rfl) (by kernel_rfl) (by kernel_rfl) (fun _ _ _ h => h) (Or.inl ⟨by rfl, ?ye30⟩) (by assumption) ?re30
  case ye30 => (intro W hSw; obtain ⟨⟨g2, g5, g6⟩, q2, q5, q6⟩ := hSw; go_simp; first | done | with_reducible rfl)
  try simp only [Act.put, List.setIfInBounds_toArray, List.set_cons_zero, List.set_cons_succ]
  refine wpAnyH_done (by kernel_rfl) ?_ _
  refine NoPanic.normal ?_
  (go_wp2_with fail; go_ret; exact ⟨by rfl, by repeat (first | exact below_dr | apply below_drewN)⟩)
set_option maxHeartbeats 4000000 in
theorem zcx32_t (w : World) (key key' : ByteArray) (int uint int' uint' : Int) (a b c d : Nat) (text text' : ByteArray) (bA bA' : Option Addr) (bn bc bn' bc' : Nat) (zero zero' : Bool) (nanos offset nanos' offset' : Int) (zone zone' : ByteArray) (iA iA' : Option Addr) (ilen ic ilen' ic' : Nat) (fail fail' : ByteArray) (hk : (key.toList == key'.toList) = true) (he : Op.floatEq .f32 a b = true) (ha : a < 4294967296) (hb : b < 4294967296) (hc : c < 4294967296) (hd : d < 4294967296) : Calls Tryz.prog 23 #[.agg (Fld.arr ⟨6, key, 32, int, uint, (a : Int), (c : Int), text, bA, bn, bc, zero, nanos, offset, zone, iA, ilen, ic, fail⟩), .agg (Fld.arr ⟨6, key', 32, int', uint', (b : Int), (d : Int), text', bA', bn', bc', zero', nanos', offset', zone', iA', ilen', ic', fail'⟩)] w (BoolIs (Op.floatEq .f32 c d) w) := by
  go_enter Tryz.func23, Tryz.ntmps23
  go_wp2_with fail
  refine wp_region_noPanic ?_
  refine wp_region_held_drew (S := fun W => (W.cell? ⟨w.heap.size, 2, none⟩ = some (.int .i64 32) ∧ W.cell? ⟨w.heap.size, 5, none⟩ = some (.int .u64 (a : Int)) ∧ W.cell? ⟨w.heap.size, 6, none⟩ = some (.int .u64 (c : Int))) ∧ (W.cell? ⟨w.heap.size + 1, 2, none⟩ = some (.int .i64 32) ∧ W.cell? ⟨w.heap.size + 1, 5, none⟩ = some (.int .u64 (b : Int)) ∧ W.cell? ⟨w.heap.size + 1, 6, none⟩ = some (.int .u64 (d : Int)))) (by kernel_rfl) ⟨by refine ⟨?_, ?_, ?_⟩ <;> simp [go_sem], by refine ⟨?_, ?_, ?_⟩ <;> simp [go_sem]⟩ (fun hHeld => ?_)
  refine wpAnyH_take (i := 0) (oi := ⟨some 137, .fieldAddr 39 (.tmp 2) 2, _, _, _, _⟩) (v := ?vf1) rfl (by kernel_rfl) (by kernel_rfl) (by kernel_rfl) (fun _ _ _ h => h) (Or.inl ⟨by rfl, ?yf1⟩) (by assumption) ?rf1
  case yf1 => (intro W hSw; obtain ⟨⟨g2, g5, g6⟩, q2, q5, q6⟩ := hSw; go_simp; first | done | with_reducible rfl)
  try simp only [Act.put, List.setIfInBounds_toArray, List.set_cons_zero, List.set_cons_succ]
  refine wpAnyH_take (i := 1) (oi := ⟨some 138, .load 3 (.tmp 137), _, _, _, _⟩) (v := ?vf2) rfl (by kernel_rfl) (by kernel_rfl) (by kernel_rfl) (fun _ _ _ h => h) (Or.inl ⟨by rfl, ?yf2⟩) (by assumption) ?rf2
  case yf2 => (intro W hSw; obtain ⟨⟨g2, g5, g6⟩, q2, q5, q6⟩ := hSw; go_simp; first | done | with_reducible rfl)
  try simp only [Act.put, List.setIfInBounds_toArray, List.set_cons_zero, List.set_cons_succ]
  refine wpAnyH_take (i := 2) (oi := ⟨some 139, .fieldAddr 39 (.tmp 3) 2, _, _, _, _⟩) (v := ?vf3) rfl (by kernel_rfl) (by kernel_rfl) (by kernel_rfl) (fun _ _ _ h => h) (Or.inl ⟨by rfl, ?yf3⟩) (by assumption) ?rf3
  case yf3 => (intro W hSw; obtain ⟨⟨g2, g5, g6⟩, q2, q5, q6⟩ := hSw; go_simp; first | done | with_reducible rfl)
  try simp only [Act.put, List.setIfInBounds_toArray, List.set_cons_zero, List.set_cons_succ]
  refine wpAnyH_take (i := 3) (oi := ⟨some 140, .load 3 (.tmp 139), _, _, _, _⟩) (v := ?vf4) rfl (by kernel_rfl) (by kernel_rfl) (by kernel_rfl) (fun _ _ _ h => h) (Or.inl ⟨by rfl, ?yf4⟩) (by assumption) ?rf4
  case yf4 => (intro W hSw; obtain ⟨⟨g2, g5, g6⟩, q2, q5, q6⟩ := hSw; go_simp; first | done | with_reducible rfl)
  try simp only [Act.put, List.setIfInBounds_toArray, List.set_cons_zero, List.set_cons_succ]
  refine wpAnyH_take (i := 4) (oi := ⟨some 141, .binOp .eql 3 (.tmp 138) (.tmp 140) 3, _, _, _, _⟩) (v := ?vf5) rfl (by kernel_rfl) (by kernel_rfl) (by kernel_rfl) (fun _ _ _ h => h) (Or.inl ⟨by rfl, ?yf5⟩) (by assumption) ?rf5
  case yf5 => (intro W hSw; obtain ⟨⟨g2, g5, g6⟩, q2, q5, q6⟩ := hSw; go_simp; first | done | with_reducible rfl)
  try simp only [Act.put, List.setIfInBounds_toArray, List.set_cons_zero, List.set_cons_succ]
  refine wpAnyH_take (i := 5) (oi := ⟨some 142, .move (.tmp 141), _, _, _, _⟩) (v := ?vf6) rfl (by kernel_rfl) (by kernel_rfl) (by kernel_rfl) (fun _ _ _ h => h) (Or.inl ⟨by rfl, ?yf6⟩) (by assumption) ?rf6
  case yf6 => (intro W hSw; obtain ⟨⟨g2, g5, g6⟩, q2, q5, q6⟩ := hSw; go_simp; first | done | with_reducible rfl)
  try simp only [Act.put, List.setIfInBounds_toArray, List.set_cons_zero, List.set_cons_succ]
  refine wpAnyH_take (i := 6) (oi := ⟨some 143, .fieldAddr 39 (.tmp 2) 5, _, _, _, _⟩) (v := ?vf7) rfl (by kernel_rfl) (by kernel_rfl) (by kernel_rfl) (fun _ _ _ h => h) (Or.inl ⟨by rfl, ?yf7⟩) (by assumption) ?rf7
  case yf7 => (intro W hSw; obtain ⟨⟨g2, g5, g6⟩, q2, q5, q6⟩ := hSw; go_simp; first | done | with_reducible rfl)
  try simp only [Act.put, List.setIfInBounds_toArray, List.set_cons_zero, List.set_cons_succ]
  refine wpAnyH_take (i := 7) (oi := ⟨some 144, .load 35 (.tmp 143), _, _, _, _⟩) (v := ?vf8) rfl (by kernel_rfl) (by kernel_rfl) (by kernel_rfl) (fun _ _ _ h => h) (Or.inl ⟨by rfl, ?yf8⟩) (by assumption) ?rf8
  case yf8 => (intro W hSw; obtain ⟨⟨g2, g5, g6⟩, q2, q5, q6⟩ := hSw; go_simp; first | done | with_reducible rfl)
  try simp only [Act.put, List.setIfInBounds_toArray, List.set_cons_zero, List.set_cons_succ]
  refine wpAnyH_take (i := 8) (oi := ⟨some 145, .fieldAddr 39 (.tmp 2) 2, _, _, _, _⟩) (v := ?vf9) rfl (by kernel_rfl) (by kernel_rfl) (by kernel_rfl) (fun _ _ _ h => h) (Or.inl ⟨by rfl, ?yf9⟩) (by assumption) ?rf9
  case yf9 => (intro W hSw; obtain ⟨⟨g2, g5, g6⟩, q2, q5, q6⟩ := hSw; go_simp; first | done | with_reducible rfl)
  try simp only [Act.put, List.setIfInBounds_toArray, List.set_cons_zero, List.set_cons_succ]
  refine wpAnyH_take (i := 9) (oi := ⟨some 146, .load 3 (.tmp 145), _, _, _, _⟩) (v := ?vf10) rfl (by kernel_rfl) (by kernel_rfl) (by kernel_rfl) (fun _ _ _ h => h) (Or.inl ⟨by rfl, ?yf10⟩) (by assumption) ?rf10
  case yf10 => (intro W hSw; obtain ⟨⟨g2, g5, g6⟩, q2, q5, q6⟩ := hSw; go_simp; first | done | with_reducible rfl)
  try simp only [Act.put, List.setIfInBounds_toArray, List.set_cons_zero, List.set_cons_succ]
  refine wpAnyH_take (i := 11) (oi := ⟨some 148, .fieldAddr 39 (.tmp 3) 5, _, _, _, _⟩) (v := ?vf11) rfl (by kernel_rfl) (by kernel_rfl) (by kernel_rfl) (fun _ _ _ h => h) (Or.inl ⟨by rfl, ?yf11⟩) (by assumption) ?rf11
  case yf11 => (intro W hSw; obtain ⟨⟨g2, g5, g6⟩, q2, q5, q6⟩ := hSw; go_simp; first | done | with_reducible rfl)
  try simp only [Act.put, List.setIfInBounds_toArray, List.set_cons_zero, List.set_cons_succ]
  refine wpAnyH_take (i := 12) (oi := ⟨some 149, .load 35 (.tmp 148), _, _, _, _⟩) (v := ?vf12) rfl (by kernel_rfl) (by kernel_rfl) (by kernel_rfl) (fun _ _ _ h => h) (Or.inl ⟨by rfl, ?yf12⟩) (by assumption) ?rf12
  case yf12 => (intro W hSw; obtain ⟨⟨g2, g5, g6⟩, q2, q5, q6⟩ := hSw; go_simp; first | done | with_reducible rfl)
  try simp only [Act.put, List.setIfInBounds_toArray, List.set_cons_zero, List.set_cons_succ]
  refine wpAnyH_take (i := 13) (oi := ⟨some 150, .fieldAddr 39 (.tmp 3) 2, _, _, _, _⟩) (v := ?vf13) rfl (by kernel_rfl) (by kernel_rfl) (by kernel_rfl) (fun _ _ _ h => h) (Or.inl ⟨by rfl, ?yf13⟩) (by assumption) ?rf13
  case yf13 => (intro W hSw; obtain ⟨⟨g2, g5, g6⟩, q2, q5, q6⟩ := hSw; go_simp; first | done | with_reducible rfl)
  try simp only [Act.put, List.setIfInBounds_toArray, List.set_cons_zero, List.set_cons_succ]
  refine wpAnyH_take (i := 14) (oi := ⟨some 151, .load 3 (.tmp 150), _, _, _, _⟩) (v := ?vf14) rfl (by kernel_rfl) (by kernel_rfl) (by kernel_rfl) (fun _ _ _ h => h) (Or.inl ⟨by rfl, ?yf14⟩) (by assumption) ?rf14
  case yf14 => (intro W hSw; obtain ⟨⟨g2, g5, g6⟩, q2, q5, q6⟩ := hSw; go_simp; first | done | with_reducible rfl)
  try simp only [Act.put, List.setIfInBounds_toArray, List.set_cons_zero, List.set_cons_succ]
  refine wpAnyH_ready (rs := [10]) (by kernel_rfl) (by simp) ?_
  refine AllReadyH.cons (o := ⟨some 147, .call { callee := .value (.func 62), args := #[.tmp 144, .tmp 146], argTypes := #[35, 3] }, _, _, _, _⟩) rfl (fun Kx hKx => ?_) AllReadyH.nil
  (go_simp; go_at_call 62; refine (zfloat32 _ a (by omega)).mono ?_; rintro e w1 ⟨r1, d1, rfl, k1, rfl⟩)
  refine hKx.out _ _ (by (try dsimp only); (exact hHeld)) (fun hNew => ?_)
  clear hKx Kx hHeld
  have hHeld := hNew
  clear hNew
  try simp only [Act.put, List.setIfInBounds_toArray, List.set_cons_zero, List.set_cons_succ]
  refine wpAnyH_ready (rs := [15]) (by kernel_rfl) (by simp) ?_
  refine AllReadyH.cons (o := ⟨some 152, .call { callee := .value (.func 62), args := #[.tmp 149, .tmp 151], argTypes := #[35, 3] }, _, _, _, _⟩) rfl (fun Kx hKx => ?_) AllReadyH.nil
  (go_simp; go_at_call 62; refine (zfloat32 _ b (by omega)).mono ?_; rintro e w2 ⟨r2, d2, rfl, k2, rfl⟩; have hF2 := fcmp r1 r2 (true) ((wid_eq (by omega) (by omega) k1 k2).trans he))
  refine hKx.out _ _ (by (try dsimp only); (exact hHeld)) (fun hNew => ?_)
  clear hKx Kx hHeld
  have hHeld := hNew
  clear hNew
  try simp only [Act.put, List.setIfInBounds_toArray, List.set_cons_zero, List.set_cons_succ]
  refine wpAnyH_take (i := 16) (oi := ⟨some 153, .binOp .eql 136 (.tmp 147) (.tmp 152) 136, _, _, _, _⟩) (v := ?vf15) rfl (by kernel_rfl) (by kernel_rfl) (by kernel_rfl) (fun _ _ _ h => h) (Or.inl ⟨by rfl, ?yf15⟩) (by assumption) ?rf15
  case yf15 => (intro W hSw; obtain ⟨⟨g2, g5, g6⟩, q2, q5, q6⟩ := hSw; go_simp; first | done | with_reducible rfl)
  try simp only [Act.put, List.setIfInBounds_toArray, List.set_cons_zero, List.set_cons_succ]
  refine wpAnyH_take (i := 17) (oi := ⟨some 154, .pick (.tmp 142) (.tmp 153) (.const (.bool false)), _, _, _, _⟩) (v := ?vf16) rfl (by kernel_rfl) (by kernel_rfl) (by kernel_rfl) (fun _ _ _ h => h) (Or.inl ⟨by rfl, ?yf16⟩) (by assumption) ?rf16
  case yf16 => (intro W hSw; obtain ⟨⟨g2, g5, g6⟩, q2, q5, q6⟩ := hSw; go_simp; first | done | with_reducible rfl)
  try simp only [Act.put, List.setIfInBounds_toArray, List.set_cons_zero, List.set_cons_succ]
  refine wpAnyH_take (i := 18) (oi := ⟨some 155, .move (.tmp 154), _, _, _, _⟩) (v := ?vf17) rfl (by kernel_rfl) (by kernel_rfl) (by kernel_rfl) (fun _ _ _ h => h) (Or.inl ⟨by rfl, ?yf17⟩) (by assumption) ?rf17
  case yf17 => (intro W hSw; obtain ⟨⟨g2, g5, g6⟩, q2, q5, q6⟩ := hSw; go_simp; first | done | with_reducible rfl)
  try simp only [Act.put, List.setIfInBounds_toArray, List.set_cons_zero, List.set_cons_succ]
  refine wpAnyH_take (i := 19) (oi := ⟨some 156, .fieldAddr 39 (.tmp 2) 6, _, _, _, _⟩) (v := ?vf18) rfl (by kernel_rfl) (by kernel_rfl) (by kernel_rfl) (fun _ _ _ h => h) (Or.inl ⟨by rfl, ?yf18⟩) (by assumption) ?rf18
  case yf18 => (intro W hSw; obtain ⟨⟨g2, g5, g6⟩, q2, q5, q6⟩ := hSw; go_simp; first | done | with_reducible rfl)
  try simp only [Act.put, List.setIfInBounds_toArray, List.set_cons_zero, List.set_cons_succ]
  refine wpAnyH_take (i := 20) (oi := ⟨some 157, .load 35 (.tmp 156), _, _, _, _⟩) (v := ?vf19) rfl (by kernel_rfl) (by kernel_rfl) (by kernel_rfl) (fun _ _ _ h => h) (Or.inl ⟨by rfl, ?yf19⟩) (by assumption) ?rf19
  case yf19 => (intro W hSw; obtain ⟨⟨g2, g5, g6⟩, q2, q5, q6⟩ := hSw; go_simp; first | done | with_reducible rfl)
  try simp only [Act.put, List.setIfInBounds_toArray, List.set_cons_zero, List.set_cons_succ]
  refine wpAnyH_take (i := 21) (oi := ⟨some 158, .fieldAddr 39 (.tmp 2) 2, _, _, _, _⟩) (v := ?vf20) rfl (by kernel_rfl) (by kernel_rfl) (by kernel_rfl) (fun _ _ _ h => h) (Or.inl ⟨by rfl, ?yf20⟩) (by assumption) ?rf20
  case yf20 => (intro W hSw; obtain ⟨⟨g2, g5, g6⟩, q2, q5, q6⟩ := hSw; go_simp; first | done | with_reducible rfl)
  try simp only [Act.put, List.setIfInBounds_toArray, List.set_cons_zero, List.set_cons_succ]
  refine wpAnyH_take (i := 22) (oi := ⟨some 159, .load 3 (.tmp 158), _, _, _, _⟩) (v := ?vf21) rfl (by kernel_rfl) (by kernel_rfl) (by kernel_rfl) (fun _ _ _ h => h) (Or.inl ⟨by rfl, ?yf21⟩) (by assumption) ?rf21
  case yf21 => (intro W hSw; obtain ⟨⟨g2, g5, g6⟩, q2, q5, q6⟩ := hSw; go_simp; first | done | with_reducible rfl)
  try simp only [Act.put, List.setIfInBounds_toArray, List.set_cons_zero, List.set_cons_succ]
  refine wpAnyH_take (i := 24) (oi := ⟨some 161, .fieldAddr 39 (.tmp 3) 6, _, _, _, _⟩) (v := ?vf22) rfl (by kernel_rfl) (by kernel_rfl) (by kernel_rfl) (fun _ _ _ h => h) (Or.inl ⟨by rfl, ?yf22⟩) (by assumption) ?rf22
  case yf22 => (intro W hSw; obtain ⟨⟨g2, g5, g6⟩, q2, q5, q6⟩ := hSw; go_simp; first | done | with_reducible rfl)
  try simp only [Act.put, List.setIfInBounds_toArray, List.set_cons_zero, List.set_cons_succ]
  refine wpAnyH_take (i := 25) (oi := ⟨some 162, .load 35 (.tmp 161), _, _, _, _⟩) (v := ?vf23) rfl (by kernel_rfl) (by kernel_rfl) (by kernel_rfl) (fun _ _ _ h => h) (Or.inl ⟨by rfl, ?yf23⟩) (by assumption) ?rf23
  case yf23 => (intro W hSw; obtain ⟨⟨g2, g5, g6⟩, q2, q5, q6⟩ := hSw; go_simp; first | done | with_reducible rfl)
  try simp only [Act.put, List.setIfInBounds_toArray, List.set_cons_zero, List.set_cons_succ]
  refine wpAnyH_take (i := 26) (oi := ⟨some 163, .fieldAddr 39 (.tmp 3) 2, _, _, _, _⟩) (v := ?vf24) rfl (by kernel_rfl) (by kernel_rfl) (by kernel_rfl) (fun _ _ _ h => h) (Or.inl ⟨by rfl, ?yf24⟩) (by assumption) ?rf24
  case yf24 => (intro W hSw; obtain ⟨⟨g2, g5, g6⟩, q2, q5, q6⟩ := hSw; go_simp; first | done | with_reducible rfl)
  try simp only [Act.put, List.setIfInBounds_toArray, List.set_cons_zero, List.set_cons_succ]
  refine wpAnyH_take (i := 27) (oi := ⟨some 164, .load 3 (.tmp 163), _, _, _, _⟩) (v := ?vf25) rfl (by kernel_rfl) (by kernel_rfl) (by kernel_rfl) (fun _ _ _ h => h) (Or.inl ⟨by rfl, ?yf25⟩) (by assumption) ?rf25
  case yf25 => (intro W hSw; obtain ⟨⟨g2, g5, g6⟩, q2, q5, q6⟩ := hSw; go_simp; first | done | with_reducible rfl)
  try simp only [Act.put, List.setIfInBounds_toArray, List.set_cons_zero, List.set_cons_succ]
  refine wpAnyH_ready (rs := [23]) (by kernel_rfl) (by simp) ?_
  refine AllReadyH.cons (o := ⟨some 160, .call { callee := .value (.func 62), args := #[.tmp 157, .tmp 159], argTypes := #[35, 3] }, _, _, _, _⟩) rfl (fun Kx hKx => ?_) AllReadyH.nil
  (go_simp; go_at_call 62; refine (zfloat32 _ c (by omega)).mono ?_; rintro e w3 ⟨r3, d3, rfl, k3, rfl⟩)
  refine hKx.out _ _ (by (try dsimp only); (exact hHeld)) (fun hNew => ?_)
  clear hKx Kx hHeld
  have hHeld := hNew
  clear hNew
  try simp only [Act.put, List.setIfInBounds_toArray, List.set_cons_zero, List.set_cons_succ]
  refine wpAnyH_ready (rs := [28]) (by kernel_rfl) (by simp) ?_
  refine AllReadyH.cons (o := ⟨some 165, .call { callee := .value (.func 62), args := #[.tmp 162, .tmp 164], argTypes := #[35, 3] }, _, _, _, _⟩) rfl (fun Kx hKx => ?_) AllReadyH.nil
  (go_simp; go_at_call 62; refine (zfloat32 _ d (by omega)).mono ?_; rintro e w4 ⟨r4, d4, rfl, k4, rfl⟩; have hF4 := fcmp r3 r4 (Op.floatEq .f32 c d) ((wid_eq (by omega) (by omega) k3 k4).trans rfl))
  refine hKx.out _ _ (by (try dsimp only); (exact hHeld)) (fun hNew => ?_)
  clear hKx Kx hHeld
  have hHeld := hNew
  clear hNew
  try simp only [Act.put, List.setIfInBounds_toArray, List.set_cons_zero, List.set_cons_succ]
  refine wpAnyH_take (i := 29) (oi := ⟨some 166, .binOp .eql 136 (.tmp 160) (.tmp 165) 136, _, _, _, _⟩) (v := ?vf26) rfl (by kernel_rfl) (by kernel_rfl) (by kernel_rfl) (fun _ _ _ h => h) (Or.inl ⟨by rfl, ?yf26⟩) (by assumption) ?rf26
  case yf26 => (intro W hSw; obtain ⟨⟨g2, g5, g6⟩, q2, q5, q6⟩ := hSw; go_simp; first | done | with_reducible rfl)
  try simp only [Act.put, List.setIfInBounds_toArray, List.set_cons_zero, List.set_cons_succ]
  refine wpAnyH_take (i := 30) (oi := ⟨some 167, .pick (.tmp 155) (.tmp 166) (.const (.bool false)), _, _, _, _⟩) (v := ?vf27) rfl (by kernel_rfl) (by kernel_rfl) (by kernel_rfl) (fun _ _ _ h => h) (Or.inl ⟨by rfl, ?yf27⟩) (by assumption) ?rf27
  case yf27 => (intro W hSw; obtain ⟨⟨g2, g5, g6⟩, q2, q5, q6⟩ := hSw; go_simp; first | done | with_reducible rfl)
  try simp only [Act.put, List.setIfInBounds_toArray, List.set_cons_zero, List.set_cons_succ]
  refine wpAnyH_take (i := 31) (oi := ⟨some 4, .assign (.tmp 167), _, _, _, _⟩) (v := ?vf28) rfl (by kernel_rfl) (by kernel_rfl) (by kernel_rfl) (fun _ _ _ h => h) (Or.inl ⟨by rfl, ?yf28⟩) (by assumption) ?rf28
  case yf28 => (intro W hSw; obtain ⟨⟨g2, g5, g6⟩, q2, q5, q6⟩ := hSw; go_simp; first | done | with_reducible rfl)
  try simp only [Act.put, List.setIfInBounds_toArray, List.set_cons_zero, List.set_cons_succ]
  refine wpAnyH_done (by kernel_rfl) ?_ _
  refine NoPanic.normal ?_
  (go_wp2_with fail; go_ret; exact ⟨by rfl, by repeat (first | exact below_dr | apply below_drewN)⟩)
/-- Two complex numbers. -/
theorem zsf_cpx (w : World) (f g : Fld) (h : f.kind = 6) (h' : g.kind = 6) (hk : (f.key.toList == g.key.toList) = true) (F : Fine1 f) (G : Fine1 g) (R : Rng f) (S : Rng g) : Calls Tryz.prog 23 #[.agg f.arr, .agg g.arr] w (BoolIs (f.width == g.width && cEq f g) w) := by
  have hf := F.flo (Or.inr h)
  have hg := G.flo (Or.inr h')
  have r0 := R.r0
  have i0 := R.i0
  have r0' := S.r0
  have i0' := S.i0
  clear F G R S
  obtain ⟨kind, key, width, int, uint, re, im, text, bA, bn, bc, zero, nanos, offset, zone, iA, ilen, ic, fail⟩ := f
  obtain ⟨kind', key', width', int', uint', re', im', text', bA', bn', bc', zero', nanos', offset', zone', iA', ilen', ic', fail'⟩ := g
  simp only at h h' hk hf hg r0 i0 r0' i0'
  subst h h'
  obtain ⟨a, rfl⟩ : ∃ a : Nat, re = (a : Int) := ⟨re.toNat, by omega⟩
  obtain ⟨b, rfl⟩ : ∃ b : Nat, re' = (b : Int) := ⟨re'.toNat, by omega⟩
  obtain ⟨c, rfl⟩ : ∃ c : Nat, im = (c : Int) := ⟨im.toNat, by omega⟩
  obtain ⟨d, rfl⟩ : ∃ d : Nat, im' = (d : Int) := ⟨im'.toNat, by omega⟩
  by_cases hw : (width == width') = false
  · rw [hw]
    exact zcx_w w key key' int uint int' uint' a b c d text text' bA bA' bn bc bn' bc' zero zero' nanos offset nanos' offset' zone zone' iA iA' ilen ic ilen' ic' fail fail' hk width width' hw
  · have hw' : width = width' := by simpa using hw
    subst hw'
    rcases hf with rfl | ⟨rfl, ha, hc⟩
    · simp only [cEq, beq_self_eq_true, Bool.true_and, Int.toNat_natCast, show ((64 : Int) = 32) = False by decide, if_false]
      cases he : Op.floatEq .f64 a b
      · exact zcx64_f w key key' int uint int' uint' a b c d text text' bA bA' bn bc bn' bc' zero zero' nanos offset nanos' offset' zone zone' iA iA' ilen ic ilen' ic' fail fail' hk he
      · exact zcx64_t w key key' int uint int' uint' a b c d text text' bA bA' bn bc bn' bc' zero zero' nanos offset nanos' offset' zone zone' iA iA' ilen ic ilen' ic' fail fail' hk he
    · have hb : (b : Int) < 4294967296 ∧ (d : Int) < 4294967296 := by omega
      simp only [cEq, beq_self_eq_true, Bool.true_and, Int.toNat_natCast, if_true]
      cases he : Op.floatEq .f32 a b
      · exact zcx32_f w key key' int uint int' uint' a b c d text text' bA bA' bn bc bn' bc' zero zero' nanos offset nanos' offset' zone zone' iA iA' ilen ic ilen' ic' fail fail' hk he (by omega) (by omega) (by omega) (by omega)
      · exact zcx32_t w key key' int uint int' uint' a b c d text text' bA bA' bn bc bn' bc' zero zero' nanos offset nanos' offset' zone zone' iA iA' ilen ic ilen' ic' fail fail' hk he (by omega) (by omega) (by omega) (by omega)
end Go.Proofs.YtieidjlmgalihaaGreatDoor
