import Derived.Test.YtieidjlmgalihaaGreatDoorCpx0
set_option linter.all false
namespace Go.Proofs.YtieidjlmgalihaaGreatDoor
open Go.RowKit
set_option maxRecDepth 100000
set_option maxHeartbeats 4000000 in
theorem complex32 (w : World) (f : Fld) (hw : f.width = 32) (h0 : 0 ≤ f.re) (h1 : 0 ≤ f.im) (k0 : f.re < 4294967296) (k1 : f.im < 4294967296) : Calls Tryz.prog 107 #[.agg f.arr] w fun e w' => ∃ r i, e = .returned (.complex .f64 r i) ∧ Wd f.re.toNat r ∧ Wd f.im.toNat i ∧ Below w.heap.size w w' := by
  obtain ⟨kind, key, width, int, uint, re, im, text, bA, bn, bc, zero, nanos, offset, zone, iA, ilen, ic, fail⟩ := f
  simp only at hw h0 h1 k0 k1
  subst hw
  obtain ⟨a, rfl⟩ : ∃ a : Nat, re = (a : Int) := ⟨re.toNat, by omega⟩
  obtain ⟨b, rfl⟩ : ∃ b : Nat, im = (b : Int) := ⟨im.toNat, by omega⟩
  have hx := fun W => cx112 W a
  have hy := fun W => cx112 W b
  have wa : IntKind.u32.wrap (a : Int) = (a : Int) := by simp [IntKind.wrap, IntKind.signed, IntKind.bits]; omega
  have wb : IntKind.u32.wrap (b : Int) = (b : Int) := by simp [IntKind.wrap, IntKind.signed, IntKind.bits]; omega
  obtain ⟨r, i, d, hc, kr, ki⟩ := cc_wide a b (by omega) (by omega) ((w.alloc (.cells (Fld.arr ⟨kind, key, 32, int, uint, (a : Int), (b : Int), text, bA, bn, bc, zero, nanos, offset, zone, iA, ilen, ic, fail⟩) 39)).drew)
  go_enter Tryz.func107, Tryz.ntmps107
  go_wp2_with fail
  refine wp_region_noPanic ?_
  refine wp_region_held_drew (S := fun W => W.cell? ⟨w.heap.size, 5, none⟩ = some (.int .u64 (a : Int)) ∧ W.cell? ⟨w.heap.size, 6, none⟩ = some (.int .u64 (b : Int))) (by kernel_rfl) (by constructor <;> simp [go_sem]) (fun hHeld => ?_)
  refine wpAnyH_take (i := 0) (oi := ⟨some 6, .fieldAddr 39 (.tmp 1) 5, _, _, _, _⟩) (v := ?vc1) rfl (by kernel_rfl) (by kernel_rfl) (by kernel_rfl) (fun _ _ _ h => h) (Or.inl ⟨by rfl, ?yc1⟩) (by assumption) ?rc1
  case yc1 => (intro W hSw; obtain ⟨g5, g6⟩ := hSw; go_simp; first | done | with_reducible rfl)
  try simp only [Act.put, List.setIfInBounds_toArray, List.set_cons_zero, List.set_cons_succ]
  refine wpAnyH_take (i := 1) (oi := ⟨some 7, .load 35 (.tmp 6), _, _, _, _⟩) (v := ?vc2) rfl (by kernel_rfl) (by kernel_rfl) (by kernel_rfl) (fun _ _ _ h => h) (Or.inl ⟨by rfl, ?yc2⟩) (by assumption) ?rc2
  case yc2 => (intro W hSw; obtain ⟨g5, g6⟩ := hSw; go_simp; first | done | with_reducible rfl)
  try simp only [Act.put, List.setIfInBounds_toArray, List.set_cons_zero, List.set_cons_succ]
  refine wpAnyH_take (i := 2) (oi := ⟨some 8, .convert 35 135 (.tmp 7), _, _, _, _⟩) (v := ?vc3) rfl (by kernel_rfl) (by kernel_rfl) (by kernel_rfl) (fun _ _ _ h => h) (Or.inl ⟨by rfl, ?yc3⟩) (by assumption) ?rc3
  case yc3 => (intro W hSw; obtain ⟨g5, g6⟩ := hSw; go_simp; first | done | with_reducible rfl)
  try simp only [Act.put, List.setIfInBounds_toArray, List.set_cons_zero, List.set_cons_succ]
  refine wpAnyH_take (i := 4) (oi := ⟨some 10, .fieldAddr 39 (.tmp 1) 6, _, _, _, _⟩) (v := ?vc4) rfl (by kernel_rfl) (by kernel_rfl) (by kernel_rfl) (fun _ _ _ h => h) (Or.inl ⟨by rfl, ?yc4⟩) (by assumption) ?rc4
  case yc4 => (intro W hSw; obtain ⟨g5, g6⟩ := hSw; go_simp; first | done | with_reducible rfl)
  try simp only [Act.put, List.setIfInBounds_toArray, List.set_cons_zero, List.set_cons_succ]
  refine wpAnyH_take (i := 5) (oi := ⟨some 11, .load 35 (.tmp 10), _, _, _, _⟩) (v := ?vc5) rfl (by kernel_rfl) (by kernel_rfl) (by kernel_rfl) (fun _ _ _ h => h) (Or.inl ⟨by rfl, ?yc5⟩) (by assumption) ?rc5
  case yc5 => (intro W hSw; obtain ⟨g5, g6⟩ := hSw; go_simp; first | done | with_reducible rfl)
  try simp only [Act.put, List.setIfInBounds_toArray, List.set_cons_zero, List.set_cons_succ]
  refine wpAnyH_take (i := 6) (oi := ⟨some 12, .convert 35 135 (.tmp 11), _, _, _, _⟩) (v := ?vc6) rfl (by kernel_rfl) (by kernel_rfl) (by kernel_rfl) (fun _ _ _ h => h) (Or.inl ⟨by rfl, ?yc6⟩) (by assumption) ?rc6
  case yc6 => (intro W hSw; obtain ⟨g5, g6⟩ := hSw; go_simp; first | done | with_reducible rfl)
  try simp only [Act.put, List.setIfInBounds_toArray, List.set_cons_zero, List.set_cons_succ]
  refine wpAnyH_ready (rs := [3]) (by kernel_rfl) (by simp) ?_
  refine AllReadyH.cons (o := ⟨some 9, .call { callee := .value (.func 112), args := #[.tmp 8], argTypes := #[135] }, _, _, _, _⟩) rfl (fun Kx hKx => ?_) AllReadyH.nil
  go_simp
  refine hKx.out _ _ (by (try dsimp only); (first | exact hHeld | exact ⟨hHeld.1, hHeld.2⟩)) (fun hNew => ?_)
  clear hKx Kx hHeld
  have hHeld := hNew
  clear hNew
  try simp only [Act.put, List.setIfInBounds_toArray, List.set_cons_zero, List.set_cons_succ]
  refine wpAnyH_ready (rs := [7]) (by kernel_rfl) (by simp) ?_
  refine AllReadyH.cons (o := ⟨some 13, .call { callee := .value (.func 112), args := #[.tmp 12], argTypes := #[135] }, _, _, _, _⟩) rfl (fun Kx hKx => ?_) AllReadyH.nil
  go_simp
  refine hKx.out _ _ (by (try dsimp only); (first | exact hHeld | exact ⟨hHeld.1, hHeld.2⟩)) (fun hNew => ?_)
  clear hKx Kx hHeld
  have hHeld := hNew
  clear hNew
  try simp only [Act.put, List.setIfInBounds_toArray, List.set_cons_zero, List.set_cons_succ]
  refine wpAnyH_ready (rs := [8]) (by kernel_rfl) (by simp) ?_
  refine AllReadyH.cons (o := ⟨some 14, .call { callee := .builtin .complex, args := #[.tmp 9, .tmp 13], argTypes := #[238, 238] }, _, _, _, _⟩) rfl (fun Kx hKx => ?_) AllReadyH.nil
  go_simp
  refine hKx.out _ _ (by (try dsimp only); (first | exact hHeld | exact ⟨hHeld.1, hHeld.2⟩)) (fun hNew => ?_)
  clear hKx Kx hHeld
  have hHeld := hNew
  clear hNew
  try simp only [Act.put, List.setIfInBounds_toArray, List.set_cons_zero, List.set_cons_succ]
  refine wpAnyH_ready (rs := [9]) (by kernel_rfl) (by simp) ?_
  refine AllReadyH.cons (o := ⟨some 15, .convert 233 231 (.tmp 14), _, _, _, _⟩) rfl (fun Kx hKx => ?_) AllReadyH.nil
  go_simp
  refine hKx.out _ _ (by (try dsimp only); (first | exact hHeld | exact ⟨hHeld.1, hHeld.2⟩)) (fun hNew => ?_)
  clear hKx Kx hHeld
  have hHeld := hNew
  clear hNew
  try simp only [Act.put, List.setIfInBounds_toArray, List.set_cons_zero, List.set_cons_succ]
  refine wpAnyH_take (i := 10) (oi := ⟨some 2, .assign (.tmp 15), _, _, _, _⟩) (v := ?vc7) rfl (by kernel_rfl) (by kernel_rfl) (by kernel_rfl) (fun _ _ _ h => h) (Or.inl ⟨by rfl, ?yc7⟩) (by assumption) ?rc7
  case yc7 => (intro W hSw; obtain ⟨g5, g6⟩ := hSw; go_simp; first | done | with_reducible rfl)
  try simp only [Act.put, List.setIfInBounds_toArray, List.set_cons_zero, List.set_cons_succ]
  refine wpAnyH_done (by kernel_rfl) ?_ _
  refine NoPanic.normal ?_
  (go_wp2_with fail; go_ret; refine ⟨r, i, rfl, kr, ki, ?_⟩; apply below_drewN; go_grown)
end Go.Proofs.YtieidjlmgalihaaGreatDoor
