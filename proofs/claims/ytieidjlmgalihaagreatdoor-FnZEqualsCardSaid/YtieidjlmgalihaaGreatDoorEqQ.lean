/- ZEquals: whatever its parts are. -/
import Derived.Test.YtieidjlmgalihaaGreatDoorEqI
set_option linter.all false
namespace Go.Proofs.YtieidjlmgalihaaGreatDoor
open Go.RowKit
set_option maxRecDepth 100000
/-- What is made of a field has a property. -/
def Made (w0 : World) (f : Fld) (P : World → Value → Prop) : Prop :=
  ∀ W, Below w0.heap.size w0 W → Calls Tryz.prog 60 #[.agg f.arr] W (fun e W' => ∃ raw, e = .returned raw ∧ Below W.heap.size W W' ∧ ∀ W2, Below W'.heap.size W' W2 → Calls Tryz.prog 59 #[raw] W2 (fun e W3 => ∃ pub, e = .returned pub ∧ Below W2.heap.size W2 W3 ∧ P W3 pub))
set_option maxHeartbeats 4000000 in
theorem zequals_of (w : World) (f g : Fld) (b : Bool) (P1 : World → Value → Prop) (P2 : World → World → Value → Prop) (h1 : Made w f P1) (h2 : ∀ w2, Below w.heap.size w w2 → Made w2 g (P2 w2))
    (h3 : ∀ W1 W2 V1 V2, Below w.heap.size w W1 → P1 W1 V1 → Below W1.heap.size W1 W2 → P2 W1 W2 V2 → Calls Tryz.prog 61 #[V1, V2] W2 (BoolIs b W2)) :
    Calls Tryz.prog 22 #[.agg f.arr, .agg g.arr] w (BoolIs b w) := by
  have H1 := Lib.hid h1
  have H2 := Lib.hid h2
  have H3 := Lib.hid h3
  clear h1 h2 h3
  obtain ⟨kind, key, width, int, uint, re, im, text, bA, bn, bc, zero, nanos, offset, zone, iA, ilen, ic, fail⟩ := f
  obtain ⟨kind', key', width', int', uint', re', im', text', bA', bn', bc', zero', nanos', offset', zone', iA', ilen', ic', fail'⟩ := g
  go_enter Tryz.func22, Tryz.ntmps22
  go_wp2_with fail
  refine wp_region_noPanic ?_
  refine wp_region_held_drew (S := fun W => Blk W w.heap.size 39 #[.int .i64 kind, .string key, .int .i64 width, .int .i64 int, .int .u64 uint, .int .u64 re, .int .u64 im, .string text, .slice bA bn bc, .bool zero, .int .i64 nanos, .int .i64 offset, .string zone, .slice iA ilen ic, .string fail] ∧ Blk W (w.heap.size + 1) 39 #[.int .i64 kind', .string key', .int .i64 width', .int .i64 int', .int .u64 uint', .int .u64 re', .int .u64 im', .string text', .slice bA' bn' bc', .bool zero', .int .i64 nanos', .int .i64 offset', .string zone', .slice iA' ilen' ic', .string fail']) (by kernel_rfl) ⟨(Blk.new w 39 _).alloc _, Blk.new_at _ 39 _ _ (by simp)⟩ (fun hHeld => ?_)
  refine wpAnyH_take (i := 0) (oi := ⟨some 5, .load 39 (.tmp 2), _, _, _, _⟩) (v := ?vq1) rfl (by kernel_rfl) (by kernel_rfl) (by kernel_rfl) (fun _ _ _ h => h) (Or.inl ⟨by rfl, ?yq1⟩) (by assumption) ?rq1
  case yq1 => (intro w hSw; have p0 := hSw.1.cell 0; have q0 := hSw.2.cell 0; have p1 := hSw.1.cell 1; have q1 := hSw.2.cell 1; have p2 := hSw.1.cell 2; have q2 := hSw.2.cell 2; have p3 := hSw.1.cell 3; have q3 := hSw.2.cell 3; have p4 := hSw.1.cell 4; have q4 := hSw.2.cell 4; have p5 := hSw.1.cell 5; have q5 := hSw.2.cell 5; have p6 := hSw.1.cell 6; have q6 := hSw.2.cell 6; have p7 := hSw.1.cell 7; have q7 := hSw.2.cell 7; have p8 := hSw.1.cell 8; have q8 := hSw.2.cell 8; have p9 := hSw.1.cell 9; have q9 := hSw.2.cell 9; have p10 := hSw.1.cell 10; have q10 := hSw.2.cell 10; have p11 := hSw.1.cell 11; have q11 := hSw.2.cell 11; have p12 := hSw.1.cell 12; have q12 := hSw.2.cell 12; have p13 := hSw.1.cell 13; have q13 := hSw.2.cell 13; have p14 := hSw.1.cell 14; have q14 := hSw.2.cell 14; clear hSw; simp only [List.getElem?_toArray, List.getElem?_cons_zero, List.getElem?_cons_succ] at p0 q0 p1 q1 p2 q2 p3 q3 p4 q4 p5 q5 p6 q6 p7 q7 p8 q8 p9 q9 p10 q10 p11 q11 p12 q12 p13 q13 p14 q14; go_simp; first | done | with_reducible rfl)
  try simp only [Act.put, List.setIfInBounds_toArray, List.set_cons_zero, List.set_cons_succ]
  refine wpAnyH_take (i := 3) (oi := ⟨some 8, .load 39 (.tmp 3), _, _, _, _⟩) (v := ?vq2) rfl (by kernel_rfl) (by kernel_rfl) (by kernel_rfl) (fun _ _ _ h => h) (Or.inl ⟨by rfl, ?yq2⟩) (by assumption) ?rq2
  case yq2 => (intro w hSw; have p0 := hSw.1.cell 0; have q0 := hSw.2.cell 0; have p1 := hSw.1.cell 1; have q1 := hSw.2.cell 1; have p2 := hSw.1.cell 2; have q2 := hSw.2.cell 2; have p3 := hSw.1.cell 3; have q3 := hSw.2.cell 3; have p4 := hSw.1.cell 4; have q4 := hSw.2.cell 4; have p5 := hSw.1.cell 5; have q5 := hSw.2.cell 5; have p6 := hSw.1.cell 6; have q6 := hSw.2.cell 6; have p7 := hSw.1.cell 7; have q7 := hSw.2.cell 7; have p8 := hSw.1.cell 8; have q8 := hSw.2.cell 8; have p9 := hSw.1.cell 9; have q9 := hSw.2.cell 9; have p10 := hSw.1.cell 10; have q10 := hSw.2.cell 10; have p11 := hSw.1.cell 11; have q11 := hSw.2.cell 11; have p12 := hSw.1.cell 12; have q12 := hSw.2.cell 12; have p13 := hSw.1.cell 13; have q13 := hSw.2.cell 13; have p14 := hSw.1.cell 14; have q14 := hSw.2.cell 14; clear hSw; simp only [List.getElem?_toArray, List.getElem?_cons_zero, List.getElem?_cons_succ] at p0 q0 p1 q1 p2 q2 p3 q3 p4 q4 p5 q5 p6 q6 p7 q7 p8 q8 p9 q9 p10 q10 p11 q11 p12 q12 p13 q13 p14 q14; go_simp; first | done | with_reducible rfl)
  try simp only [Act.put, List.setIfInBounds_toArray, List.set_cons_zero, List.set_cons_succ]
  refine wpAnyH_ready (rs := [1]) (by kernel_rfl) (by simp) ?_
  refine AllReadyH.cons (o := ⟨some 6, .call { callee := .value (.func 60), args := #[.tmp 5], argTypes := #[39] }, _, _, _, _⟩) rfl (fun Kx hKx => ?_) AllReadyH.nil
  (go_simp; go_at_call 60; refine (H1.out _ (by go_grown)).mono ?_; rintro e w1 ⟨raw1, rfl, hb1, ha1⟩; have HA1 := Lib.hid ha1; clear ha1; have hB1 : Below w.heap.size w w1 := Below.trans (by go_grown) (hb1.mono (by simp; omega)); have hbL := hb1; clear hb1)
  refine hKx.out _ _ (by (try dsimp only); (first | exact ⟨hHeld.1.here hbL, hHeld.2.here hbL⟩ | exact hHeld)) (fun hNew => ?_)
  clear hKx Kx hHeld
  have hHeld := hNew
  clear hNew
  try simp only [Act.put, List.setIfInBounds_toArray, List.set_cons_zero, List.set_cons_succ]
  refine wpAnyH_ready (rs := [2]) (by kernel_rfl) (by simp) ?_
  refine AllReadyH.cons (o := ⟨some 7, .call { callee := .value (.func 59), args := #[.tmp 6], argTypes := #[131] }, _, _, _, _⟩) rfl (fun Kx hKx => ?_) AllReadyH.nil
  (go_simp; go_at_call 59; refine (HA1.out _ (Below.refl _ _)).mono ?_; rintro e w2 ⟨pub1, rfl, hb2, hp1⟩; have HP1 := Lib.hid hp1; clear hp1 hbL; have hB2 : Below w.heap.size w w2 := hB1.trans (hb2.mono hB1.size); have hbL := hb2; clear hb2)
  refine hKx.out _ _ (by (try dsimp only); (first | exact ⟨hHeld.1.here hbL, hHeld.2.here hbL⟩ | exact hHeld)) (fun hNew => ?_)
  clear hKx Kx hHeld
  have hHeld := hNew
  clear hNew
  try simp only [Act.put, List.setIfInBounds_toArray, List.set_cons_zero, List.set_cons_succ]
  refine wpAnyH_ready (rs := [4]) (by kernel_rfl) (by simp) ?_
  refine AllReadyH.cons (o := ⟨some 9, .call { callee := .value (.func 60), args := #[.tmp 8], argTypes := #[39] }, _, _, _, _⟩) rfl (fun Kx hKx => ?_) AllReadyH.nil
  (go_simp; go_at_call 60; refine (H2.out w2 hB2 _ (Below.refl _ _)).mono ?_; rintro e w3 ⟨raw2, rfl, hb3, ha2⟩; have HA2 := Lib.hid ha2; clear ha2 hbL; have hbL := hb3)
  refine hKx.out _ _ (by (try dsimp only); (first | exact ⟨hHeld.1.here hbL, hHeld.2.here hbL⟩ | exact hHeld)) (fun hNew => ?_)
  clear hKx Kx hHeld
  have hHeld := hNew
  clear hNew
  try simp only [Act.put, List.setIfInBounds_toArray, List.set_cons_zero, List.set_cons_succ]
  refine wpAnyH_ready (rs := [5]) (by kernel_rfl) (by simp) ?_
  refine AllReadyH.cons (o := ⟨some 10, .call { callee := .value (.func 59), args := #[.tmp 9], argTypes := #[131] }, _, _, _, _⟩) rfl (fun Kx hKx => ?_) AllReadyH.nil
  (go_simp; go_at_call 59; refine (HA2.out _ (Below.refl _ _)).mono ?_; rintro e w4 ⟨pub2, rfl, hb4, hp2⟩; have HP2 := Lib.hid hp2; clear hp2 hbL; have hB4 : Below w2.heap.size w2 w4 := hb3.trans (hb4.mono hb3.size); have hbL := hb4; clear hb4)
  refine hKx.out _ _ (by (try dsimp only); (first | exact ⟨hHeld.1.here hbL, hHeld.2.here hbL⟩ | exact hHeld)) (fun hNew => ?_)
  clear hKx Kx hHeld
  have hHeld := hNew
  clear hNew
  try simp only [Act.put, List.setIfInBounds_toArray, List.set_cons_zero, List.set_cons_succ]
  refine wpAnyH_ready (rs := [6]) (by kernel_rfl) (by simp) ?_
  refine AllReadyH.cons (o := ⟨some 11, .call { callee := .value (.func 61), args := #[.tmp 7, .tmp 10], argTypes := #[131, 131] }, _, _, _, _⟩) rfl (fun Kx hKx => ?_) AllReadyH.nil
  (go_simp; go_at_call 61; refine (H3.out w2 w4 pub1 pub2 hB2 HP1.out hB4 HP2.out).mono ?_; rintro e w5 ⟨rfl, hb5⟩; clear hbL; have hB5 : Below w.heap.size w w5 := (hB2.trans (hB4.mono hB2.size)).trans (hb5.mono (hB2.trans (hB4.mono hB2.size)).size); have hbL := hb5; clear hb5)
  refine hKx.out _ _ (by (try dsimp only); (first | exact ⟨hHeld.1.here hbL, hHeld.2.here hbL⟩ | exact hHeld)) (fun hNew => ?_)
  clear hKx Kx hHeld
  have hHeld := hNew
  clear hNew
  try simp only [Act.put, List.setIfInBounds_toArray, List.set_cons_zero, List.set_cons_succ]
  refine wpAnyH_take (i := 7) (oi := ⟨some 4, .assign (.tmp 11), _, _, _, _⟩) (v := ?vq3) rfl (by kernel_rfl) (by kernel_rfl) (by kernel_rfl) (fun _ _ _ h => h) (Or.inl ⟨by rfl, ?yq3⟩) (by assumption) ?rq3
  case yq3 => (intro w hSw; (try dsimp only at hSw); go_simp; first | done | with_reducible rfl)
  try simp only [Act.put, List.setIfInBounds_toArray, List.set_cons_zero, List.set_cons_succ]
  refine wpAnyH_done (by kernel_rfl) ?_ _
  refine NoPanic.normal ?_
  (go_wp2_with fail; go_ret; exact ⟨rfl, hB5⟩)
end Go.Proofs.YtieidjlmgalihaaGreatDoor
