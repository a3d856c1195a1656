/- ZFine. -/
import Derived.Test.YtieidjlmgalihaaGreatDoorEqH
import Derived.Test.YtieidjlmgalihaaGreatDoorEqI
import Derived.Test.YtieidjlmgalihaaGreatDoorFine
import Derived.BigGuard
set_option linter.all false
namespace Go.Proofs.YtieidjlmgalihaaGreatDoor
open Go.RowKit
set_option maxRecDepth 100000
theorem width_8 (w : World) : Calls Tryz.prog 56 #[.int .i64 8] w fun e w' => e = .returned (.bool true) ∧ w = w' := by
  go_enter Tryz.func56, Tryz.ntmps56
  go_wp2
  go_ret
  exact ⟨rfl, rfl⟩
theorem width_16 (w : World) : Calls Tryz.prog 56 #[.int .i64 16] w fun e w' => e = .returned (.bool true) ∧ w = w' := by
  go_enter Tryz.func56, Tryz.ntmps56
  go_wp2
  go_ret
  exact ⟨rfl, rfl⟩
theorem width_32 (w : World) : Calls Tryz.prog 56 #[.int .i64 32] w fun e w' => e = .returned (.bool true) ∧ w = w' := by
  go_enter Tryz.func56, Tryz.ntmps56
  go_wp2
  go_ret
  exact ⟨rfl, rfl⟩
theorem width_64 (w : World) : Calls Tryz.prog 56 #[.int .i64 64] w fun e w' => e = .returned (.bool true) ∧ w = w' := by
  go_enter Tryz.func56, Tryz.ntmps56
  go_wp2
  go_ret
  exact ⟨rfl, rfl⟩
theorem width_no (w : World) (n : Int) (h8 : (n == 8) = false) (h16 : (n == 16) = false) (h32 : (n == 32) = false) (h64 : (n == 64) = false) : Calls Tryz.prog 56 #[.int .i64 n] w fun e w' => e = .returned (.bool false) ∧ w = w' := by
  go_enter Tryz.func56, Tryz.ntmps56
  go_wp2
  go_ret
  exact ⟨rfl, rfl⟩
theorem momFine_zero (w : World) (n o : Int) (s : ByteArray) : Calls Tryz.prog 57 #[.agg #[.bool true, .int .i64 n, .int .i64 o, .string s]] w (BoolIs false w) := by
  go_enter Tryz.func57, Tryz.ntmps57
  go_wp2_with fail
  go_ret
  exact ⟨rfl, by go_grown⟩
theorem momFine_some (w : World) (n o : Int) (s : ByteArray) : Calls Tryz.prog 57 #[.agg #[.bool false, .int .i64 n, .int .i64 o, .string s]] w (SomeBool w) := by
  go_enter Tryz.func57, Tryz.ntmps57
  go_wp2_with fail
  all_goals (go_ret; exact ⟨_, rfl, by go_grown⟩)
theorem width_no_q (w : World) (n : Int) (h8 : (n == 8) = false) (h16 : (n == 16) = false) (h32 : (n == 32) = false) (h64 : (n == 64) = false) : Calls Tryz.prog 56 #[.int .i64 n] w fun e w' => e = .returned (.bool false) ∧ w' = w := (width_no w n h8 h16 h32 h64).mono fun e w' ⟨a, b⟩ => ⟨a, b.symm⟩
theorem below_drewN {B : Nat} {w w' : World} (h : Below B w w') (n : Nat) : Below B w (w'.drewN n) := ⟨h.os, h.tape, h.output, h.size, h.block⟩
set_option maxHeartbeats 8000000 in
theorem fine_round (w : World) (A : Option Addr) (n c : Nat) (l : List FT) (h : FtsOk w A n l)
    (ih : ∀ q, q < n → ∀ W, Below w.heap.size w W → Calls Tryz.prog 20 #[.slice (at_ l q).f.iA (at_ l q).f.ilen (at_ l q).f.ic] W (FinePost (at_ l q).kids W)) :
    Calls Tryz.prog 20 #[.slice A n c] w (FinePost l w) := by
  have hn := h.1
  unfold maxLen at hn
  have HH := Lib.hid h
  have HI := Lib.hid ih
  have HN := Lib.hid h.2.1
  clear h ih
  go_enter Tryz.func20, Tryz.ntmps20
  go_wp2_with fail
  go_loopw [3] (fun i wr => ∃ q : Nat, q ≤ n ∧ i = .int .i64 q ∧ Below w.heap.size w wr ∧ Hid (∀ j, j < q → Fine1 (at_ l j).f)) (fun i _ => n - (intOf i).toNat)
  case atStart => exact ⟨0, Nat.zero_le _, rfl, Below.refl _ _, Lib.hid (fun j hj => by omega)⟩
  case round =>
    obtain ⟨q, hq, rfl, hb, HFin⟩ := hrel
    by_cases hlt : q < n
    · obtain ⟨b, off, rfl, hbl, hc⟩ := elem_cells (HH.out.below hb) q hlt
      have hcs := Fld.cells hc
      have HE := Lib.hid (HI.out q hlt)
      clear hc
      generalize (at_ l q).kids = kl at *
      generalize hf : (at_ l q).f = f at *
      obtain ⟨kind, key, width, int, uint, re, im, text, bA, bn, bc, zero, nanos, offset, zone, iA, ilen, ic, fail⟩ := f
      have HNX := Lib.hid (show Fine1 ⟨kind, key, width, int, uint, re, im, text, bA, bn, bc, zero, nanos, offset, zone, iA, ilen, ic, fail⟩ → ∀ j, j < q + 1 → Fine1 (at_ l j).f from fun hf1 j hj => by
        rcases Nat.lt_or_ge j q with h1 | h1
        · exact HFin.out j h1
        · obtain rfl : j = q := by omega
          rw [hf]; exact hf1)
      clear hf
      simp only at HE hcs
      obtain ⟨a0, a1, a2, a3, a4, a5, a6, a7, a8, a9, a10, a11, a12, a13, a14⟩ := hcs
      have i1 : (0 : Int) ≤ (q : Int) := by omega
      have i2 : (q : Int) < (n : Int) := by omega
      have hsz := hb.size
      have s56 : IntKind.i64.wrap 56 = 56 := by decide
      have s48 : IntKind.i64.wrap 48 = 48 := by decide
      have s32 : IntKind.i64.wrap 32 = 32 := by decide
      have s0 : IntKind.i64.wrap 0 = 0 := by decide
      by_cases c0 : kind < 0
      · as_aux_lemma =>
          go_wp2_with fail
          (go_ret; exact ⟨false, rfl, by (first | exact hB | exact hB.drew | exact hB2 | exact hb.alloc hsz _), fun h => by cases h⟩)
      by_cases c1 : 18 < kind
      · as_aux_lemma =>
          go_wp2_with fail
          (go_ret; exact ⟨false, rfl, by (first | exact hB | exact hB.drew | exact hB2 | exact hb.alloc hsz _), fun h => by cases h⟩)
      by_cases c2 : kind = 2
      · subst c2
        by_cases hwd : width = 8 ∨ width = 16 ∨ width = 32 ∨ width = 64
        · rcases hwd with hw | hw | hw | hw
          · as_aux_lemma =>
              subst hw
              go_wp2_with (go_at_call 20; go_must (refine (HE.out _ (hb.alloc hsz _)).mono ?_; rintro e w1 ⟨bo, rfl, hb1, hbo⟩; have B0 := (Blk.new wr 39 _).here hb1; have p0 := B0.cell 0; have p2 := B0.cell 2; have p3 := B0.cell 3; have p4 := B0.cell 4; have p5 := B0.cell 5; have p6 := B0.cell 6; have p9 := B0.cell 9; have p10 := B0.cell 10; have p11 := B0.cell 11; have p12 := B0.cell 12; simp only [Fld.arr, List.getElem?_toArray, List.getElem?_cons_zero, List.getElem?_cons_succ] at p0 p2 p3 p4 p5 p6 p9 p10 p11 p12; have hB : Below w.heap.size w w1 := Below.trans (hb.alloc hsz _) (hb1.mono (by simp; omega)); have hlt1 := B0.lt; clear B0 hb1 hbo; cases bo))
              all_goals first
                | (go_ret; exact ⟨false, rfl, by (first | exact hB | exact hB.drew | exact hB2 | exact hb.alloc hsz _), fun h => by cases h⟩)
                | skip
              go_region_held3 (fun w' => w'.cell? ⟨wr.heap.size, 2, none⟩ = some (.int .i64 8) ∧ w'.cell? ⟨wr.heap.size, 3, none⟩ = some (.int .i64 int) ∧ w'.cell? ⟨wr.heap.size, 4, none⟩ = some (.int .u64 uint)) (go_keep) (first | (go_at_call 56; go_must (refine (width_8 _).mono ?_; rintro e w2 ⟨rfl, rfl⟩)))
              all_goals go_wp2_with fail
              all_goals first
                | (go_ret; exact ⟨false, rfl, by (first | exact hB | exact hB.drew | exact hB2 | exact hb.alloc hsz _), fun h => by cases h⟩)
                | (refine ⟨⟨q + 1, by omega, by go_num, by (first | exact hB | exact hB.drew | exact hB2 | exact hb.alloc hsz _), Lib.hid (HNX.out ⟨by simp, by simp, fun _ => by simp, fun h => by simp at h, fun h => by simp at h⟩)⟩, by simp [intOf]; omega⟩)
          · as_aux_lemma =>
              subst hw
              go_wp2_with (go_at_call 20; go_must (refine (HE.out _ (hb.alloc hsz _)).mono ?_; rintro e w1 ⟨bo, rfl, hb1, hbo⟩; have B0 := (Blk.new wr 39 _).here hb1; have p0 := B0.cell 0; have p2 := B0.cell 2; have p3 := B0.cell 3; have p4 := B0.cell 4; have p5 := B0.cell 5; have p6 := B0.cell 6; have p9 := B0.cell 9; have p10 := B0.cell 10; have p11 := B0.cell 11; have p12 := B0.cell 12; simp only [Fld.arr, List.getElem?_toArray, List.getElem?_cons_zero, List.getElem?_cons_succ] at p0 p2 p3 p4 p5 p6 p9 p10 p11 p12; have hB : Below w.heap.size w w1 := Below.trans (hb.alloc hsz _) (hb1.mono (by simp; omega)); have hlt1 := B0.lt; clear B0 hb1 hbo; cases bo))
              all_goals first
                | (go_ret; exact ⟨false, rfl, by (first | exact hB | exact hB.drew | exact hB2 | exact hb.alloc hsz _), fun h => by cases h⟩)
                | skip
              go_region_held3 (fun w' => w'.cell? ⟨wr.heap.size, 2, none⟩ = some (.int .i64 16) ∧ w'.cell? ⟨wr.heap.size, 3, none⟩ = some (.int .i64 int) ∧ w'.cell? ⟨wr.heap.size, 4, none⟩ = some (.int .u64 uint)) (go_keep) (first | (go_at_call 56; go_must (refine (width_16 _).mono ?_; rintro e w2 ⟨rfl, rfl⟩)))
              all_goals go_wp2_with fail
              all_goals first
                | (go_ret; exact ⟨false, rfl, by (first | exact hB | exact hB.drew | exact hB2 | exact hb.alloc hsz _), fun h => by cases h⟩)
                | (refine ⟨⟨q + 1, by omega, by go_num, by (first | exact hB | exact hB.drew | exact hB2 | exact hb.alloc hsz _), Lib.hid (HNX.out ⟨by simp, by simp, fun _ => by simp, fun h => by simp at h, fun h => by simp at h⟩)⟩, by simp [intOf]; omega⟩)
          · as_aux_lemma =>
              subst hw
              go_wp2_with (go_at_call 20; go_must (refine (HE.out _ (hb.alloc hsz _)).mono ?_; rintro e w1 ⟨bo, rfl, hb1, hbo⟩; have B0 := (Blk.new wr 39 _).here hb1; have p0 := B0.cell 0; have p2 := B0.cell 2; have p3 := B0.cell 3; have p4 := B0.cell 4; have p5 := B0.cell 5; have p6 := B0.cell 6; have p9 := B0.cell 9; have p10 := B0.cell 10; have p11 := B0.cell 11; have p12 := B0.cell 12; simp only [Fld.arr, List.getElem?_toArray, List.getElem?_cons_zero, List.getElem?_cons_succ] at p0 p2 p3 p4 p5 p6 p9 p10 p11 p12; have hB : Below w.heap.size w w1 := Below.trans (hb.alloc hsz _) (hb1.mono (by simp; omega)); have hlt1 := B0.lt; clear B0 hb1 hbo; cases bo))
              all_goals first
                | (go_ret; exact ⟨false, rfl, by (first | exact hB | exact hB.drew | exact hB2 | exact hb.alloc hsz _), fun h => by cases h⟩)
                | skip
              go_region_held3 (fun w' => w'.cell? ⟨wr.heap.size, 2, none⟩ = some (.int .i64 32) ∧ w'.cell? ⟨wr.heap.size, 3, none⟩ = some (.int .i64 int) ∧ w'.cell? ⟨wr.heap.size, 4, none⟩ = some (.int .u64 uint)) (go_keep) (first | (go_at_call 56; go_must (refine (width_32 _).mono ?_; rintro e w2 ⟨rfl, rfl⟩)))
              all_goals go_wp2_with fail
              all_goals first
                | (go_ret; exact ⟨false, rfl, by (first | exact hB | exact hB.drew | exact hB2 | exact hb.alloc hsz _), fun h => by cases h⟩)
                | (refine ⟨⟨q + 1, by omega, by go_num, by (first | exact hB | exact hB.drew | exact hB2 | exact hb.alloc hsz _), Lib.hid (HNX.out ⟨by simp, by simp, fun _ => by simp, fun h => by simp at h, fun h => by simp at h⟩)⟩, by simp [intOf]; omega⟩)
          · as_aux_lemma =>
              subst hw
              go_wp2_with (go_at_call 20; go_must (refine (HE.out _ (hb.alloc hsz _)).mono ?_; rintro e w1 ⟨bo, rfl, hb1, hbo⟩; have B0 := (Blk.new wr 39 _).here hb1; have p0 := B0.cell 0; have p2 := B0.cell 2; have p3 := B0.cell 3; have p4 := B0.cell 4; have p5 := B0.cell 5; have p6 := B0.cell 6; have p9 := B0.cell 9; have p10 := B0.cell 10; have p11 := B0.cell 11; have p12 := B0.cell 12; simp only [Fld.arr, List.getElem?_toArray, List.getElem?_cons_zero, List.getElem?_cons_succ] at p0 p2 p3 p4 p5 p6 p9 p10 p11 p12; have hB : Below w.heap.size w w1 := Below.trans (hb.alloc hsz _) (hb1.mono (by simp; omega)); have hlt1 := B0.lt; clear B0 hb1 hbo; cases bo))
              all_goals first
                | (go_ret; exact ⟨false, rfl, by (first | exact hB | exact hB.drew | exact hB2 | exact hb.alloc hsz _), fun h => by cases h⟩)
                | skip
              go_region_held3 (fun w' => w'.cell? ⟨wr.heap.size, 2, none⟩ = some (.int .i64 64) ∧ w'.cell? ⟨wr.heap.size, 3, none⟩ = some (.int .i64 int) ∧ w'.cell? ⟨wr.heap.size, 4, none⟩ = some (.int .u64 uint)) (go_keep) (first | (go_at_call 56; go_must (refine (width_64 _).mono ?_; rintro e w2 ⟨rfl, rfl⟩)))
              all_goals go_wp2_with fail
              all_goals first
                | (go_ret; exact ⟨false, rfl, by (first | exact hB | exact hB.drew | exact hB2 | exact hb.alloc hsz _), fun h => by cases h⟩)
                | (refine ⟨⟨q + 1, by omega, by go_num, by (first | exact hB | exact hB.drew | exact hB2 | exact hb.alloc hsz _), Lib.hid (HNX.out ⟨by simp, by simp, fun _ => by simp, fun h => by simp at h, fun h => by simp at h⟩)⟩, by simp [intOf]; omega⟩)
        · have w8 : (width == 8) = false := by simp; omega
          have w16 : (width == 16) = false := by simp; omega
          have w32 : (width == 32) = false := by simp; omega
          have w64 : (width == 64) = false := by simp; omega
          clear hwd
          as_aux_lemma =>
            go_wp2_with (go_at_call 20; go_must (refine (HE.out _ (hb.alloc hsz _)).mono ?_; rintro e w1 ⟨bo, rfl, hb1, hbo⟩; have B0 := (Blk.new wr 39 _).here hb1; have p0 := B0.cell 0; have p2 := B0.cell 2; have p3 := B0.cell 3; have p4 := B0.cell 4; have p5 := B0.cell 5; have p6 := B0.cell 6; have p9 := B0.cell 9; have p10 := B0.cell 10; have p11 := B0.cell 11; have p12 := B0.cell 12; simp only [Fld.arr, List.getElem?_toArray, List.getElem?_cons_zero, List.getElem?_cons_succ] at p0 p2 p3 p4 p5 p6 p9 p10 p11 p12; have hB : Below w.heap.size w w1 := Below.trans (hb.alloc hsz _) (hb1.mono (by simp; omega)); have hlt1 := B0.lt; clear B0 hb1 hbo; cases bo))
            all_goals first
              | (go_ret; exact ⟨false, rfl, by (first | exact hB | exact hB.drew | exact hB2 | exact hb.alloc hsz _), fun h => by cases h⟩)
              | skip
            refine wp_region_quiet_lit (by kernel_rfl) (by kernel_rfl) ?_
            repeat (any_goals (first | go_big_quiet_step ((go_at_call 56; exact Calls.quiet_of_same (width_no_q _ _ w8 w16 w32 w64)))))
            all_goals (refine wpQuiet_nil ?_; intro _ hw'; obtain ⟨nq, hw''⟩ := hw'; subst hw'')
            all_goals go_wp2_with fail
            all_goals (go_ret; exact ⟨false, rfl, below_drewN hB _, fun h => by cases h⟩)
      by_cases c3 : kind = 3
      · subst c3
        by_cases hwd : width = 8 ∨ width = 16 ∨ width = 32 ∨ width = 64
        · rcases hwd with hw | hw | hw | hw
          · as_aux_lemma =>
              subst hw
              go_wp2_with (go_at_call 20; go_must (refine (HE.out _ (hb.alloc hsz _)).mono ?_; rintro e w1 ⟨bo, rfl, hb1, hbo⟩; have B0 := (Blk.new wr 39 _).here hb1; have p0 := B0.cell 0; have p2 := B0.cell 2; have p3 := B0.cell 3; have p4 := B0.cell 4; have p5 := B0.cell 5; have p6 := B0.cell 6; have p9 := B0.cell 9; have p10 := B0.cell 10; have p11 := B0.cell 11; have p12 := B0.cell 12; simp only [Fld.arr, List.getElem?_toArray, List.getElem?_cons_zero, List.getElem?_cons_succ] at p0 p2 p3 p4 p5 p6 p9 p10 p11 p12; have hB : Below w.heap.size w w1 := Below.trans (hb.alloc hsz _) (hb1.mono (by simp; omega)); have hlt1 := B0.lt; clear B0 hb1 hbo; cases bo))
              all_goals first
                | (go_ret; exact ⟨false, rfl, by (first | exact hB | exact hB.drew | exact hB2 | exact hb.alloc hsz _), fun h => by cases h⟩)
                | skip
              go_region_held3 (fun w' => w'.cell? ⟨wr.heap.size, 2, none⟩ = some (.int .i64 8) ∧ w'.cell? ⟨wr.heap.size, 3, none⟩ = some (.int .i64 int) ∧ w'.cell? ⟨wr.heap.size, 4, none⟩ = some (.int .u64 uint)) (go_keep) (first | (go_at_call 56; go_must (refine (width_8 _).mono ?_; rintro e w2 ⟨rfl, rfl⟩)))
              all_goals go_wp2_with fail
              all_goals first
                | (go_ret; exact ⟨false, rfl, by (first | exact hB | exact hB.drew | exact hB2 | exact hb.alloc hsz _), fun h => by cases h⟩)
                | (refine ⟨⟨q + 1, by omega, by go_num, by (first | exact hB | exact hB.drew | exact hB2 | exact hb.alloc hsz _), Lib.hid (HNX.out ⟨by simp, by simp, fun _ => by simp, fun h => by simp at h, fun h => by simp at h⟩)⟩, by simp [intOf]; omega⟩)
          · as_aux_lemma =>
              subst hw
              go_wp2_with (go_at_call 20; go_must (refine (HE.out _ (hb.alloc hsz _)).mono ?_; rintro e w1 ⟨bo, rfl, hb1, hbo⟩; have B0 := (Blk.new wr 39 _).here hb1; have p0 := B0.cell 0; have p2 := B0.cell 2; have p3 := B0.cell 3; have p4 := B0.cell 4; have p5 := B0.cell 5; have p6 := B0.cell 6; have p9 := B0.cell 9; have p10 := B0.cell 10; have p11 := B0.cell 11; have p12 := B0.cell 12; simp only [Fld.arr, List.getElem?_toArray, List.getElem?_cons_zero, List.getElem?_cons_succ] at p0 p2 p3 p4 p5 p6 p9 p10 p11 p12; have hB : Below w.heap.size w w1 := Below.trans (hb.alloc hsz _) (hb1.mono (by simp; omega)); have hlt1 := B0.lt; clear B0 hb1 hbo; cases bo))
              all_goals first
                | (go_ret; exact ⟨false, rfl, by (first | exact hB | exact hB.drew | exact hB2 | exact hb.alloc hsz _), fun h => by cases h⟩)
                | skip
              go_region_held3 (fun w' => w'.cell? ⟨wr.heap.size, 2, none⟩ = some (.int .i64 16) ∧ w'.cell? ⟨wr.heap.size, 3, none⟩ = some (.int .i64 int) ∧ w'.cell? ⟨wr.heap.size, 4, none⟩ = some (.int .u64 uint)) (go_keep) (first | (go_at_call 56; go_must (refine (width_16 _).mono ?_; rintro e w2 ⟨rfl, rfl⟩)))
              all_goals go_wp2_with fail
              all_goals first
                | (go_ret; exact ⟨false, rfl, by (first | exact hB | exact hB.drew | exact hB2 | exact hb.alloc hsz _), fun h => by cases h⟩)
                | (refine ⟨⟨q + 1, by omega, by go_num, by (first | exact hB | exact hB.drew | exact hB2 | exact hb.alloc hsz _), Lib.hid (HNX.out ⟨by simp, by simp, fun _ => by simp, fun h => by simp at h, fun h => by simp at h⟩)⟩, by simp [intOf]; omega⟩)
          · as_aux_lemma =>
              subst hw
              go_wp2_with (go_at_call 20; go_must (refine (HE.out _ (hb.alloc hsz _)).mono ?_; rintro e w1 ⟨bo, rfl, hb1, hbo⟩; have B0 := (Blk.new wr 39 _).here hb1; have p0 := B0.cell 0; have p2 := B0.cell 2; have p3 := B0.cell 3; have p4 := B0.cell 4; have p5 := B0.cell 5; have p6 := B0.cell 6; have p9 := B0.cell 9; have p10 := B0.cell 10; have p11 := B0.cell 11; have p12 := B0.cell 12; simp only [Fld.arr, List.getElem?_toArray, List.getElem?_cons_zero, List.getElem?_cons_succ] at p0 p2 p3 p4 p5 p6 p9 p10 p11 p12; have hB : Below w.heap.size w w1 := Below.trans (hb.alloc hsz _) (hb1.mono (by simp; omega)); have hlt1 := B0.lt; clear B0 hb1 hbo; cases bo))
              all_goals first
                | (go_ret; exact ⟨false, rfl, by (first | exact hB | exact hB.drew | exact hB2 | exact hb.alloc hsz _), fun h => by cases h⟩)
                | skip
              go_region_held3 (fun w' => w'.cell? ⟨wr.heap.size, 2, none⟩ = some (.int .i64 32) ∧ w'.cell? ⟨wr.heap.size, 3, none⟩ = some (.int .i64 int) ∧ w'.cell? ⟨wr.heap.size, 4, none⟩ = some (.int .u64 uint)) (go_keep) (first | (go_at_call 56; go_must (refine (width_32 _).mono ?_; rintro e w2 ⟨rfl, rfl⟩)))
              all_goals go_wp2_with fail
              all_goals first
                | (go_ret; exact ⟨false, rfl, by (first | exact hB | exact hB.drew | exact hB2 | exact hb.alloc hsz _), fun h => by cases h⟩)
                | (refine ⟨⟨q + 1, by omega, by go_num, by (first | exact hB | exact hB.drew | exact hB2 | exact hb.alloc hsz _), Lib.hid (HNX.out ⟨by simp, by simp, fun _ => by simp, fun h => by simp at h, fun h => by simp at h⟩)⟩, by simp [intOf]; omega⟩)
          · as_aux_lemma =>
              subst hw
              go_wp2_with (go_at_call 20; go_must (refine (HE.out _ (hb.alloc hsz _)).mono ?_; rintro e w1 ⟨bo, rfl, hb1, hbo⟩; have B0 := (Blk.new wr 39 _).here hb1; have p0 := B0.cell 0; have p2 := B0.cell 2; have p3 := B0.cell 3; have p4 := B0.cell 4; have p5 := B0.cell 5; have p6 := B0.cell 6; have p9 := B0.cell 9; have p10 := B0.cell 10; have p11 := B0.cell 11; have p12 := B0.cell 12; simp only [Fld.arr, List.getElem?_toArray, List.getElem?_cons_zero, List.getElem?_cons_succ] at p0 p2 p3 p4 p5 p6 p9 p10 p11 p12; have hB : Below w.heap.size w w1 := Below.trans (hb.alloc hsz _) (hb1.mono (by simp; omega)); have hlt1 := B0.lt; clear B0 hb1 hbo; cases bo))
              all_goals first
                | (go_ret; exact ⟨false, rfl, by (first | exact hB | exact hB.drew | exact hB2 | exact hb.alloc hsz _), fun h => by cases h⟩)
                | skip
              go_region_held3 (fun w' => w'.cell? ⟨wr.heap.size, 2, none⟩ = some (.int .i64 64) ∧ w'.cell? ⟨wr.heap.size, 3, none⟩ = some (.int .i64 int) ∧ w'.cell? ⟨wr.heap.size, 4, none⟩ = some (.int .u64 uint)) (go_keep) (first | (go_at_call 56; go_must (refine (width_64 _).mono ?_; rintro e w2 ⟨rfl, rfl⟩)))
              all_goals go_wp2_with fail
              all_goals first
                | (go_ret; exact ⟨false, rfl, by (first | exact hB | exact hB.drew | exact hB2 | exact hb.alloc hsz _), fun h => by cases h⟩)
                | (refine ⟨⟨q + 1, by omega, by go_num, by (first | exact hB | exact hB.drew | exact hB2 | exact hb.alloc hsz _), Lib.hid (HNX.out ⟨by simp, by simp, fun _ => by simp, fun h => by simp at h, fun h => by simp at h⟩)⟩, by simp [intOf]; omega⟩)
        · have w8 : (width == 8) = false := by simp; omega
          have w16 : (width == 16) = false := by simp; omega
          have w32 : (width == 32) = false := by simp; omega
          have w64 : (width == 64) = false := by simp; omega
          clear hwd
          as_aux_lemma =>
            go_wp2_with (go_at_call 20; go_must (refine (HE.out _ (hb.alloc hsz _)).mono ?_; rintro e w1 ⟨bo, rfl, hb1, hbo⟩; have B0 := (Blk.new wr 39 _).here hb1; have p0 := B0.cell 0; have p2 := B0.cell 2; have p3 := B0.cell 3; have p4 := B0.cell 4; have p5 := B0.cell 5; have p6 := B0.cell 6; have p9 := B0.cell 9; have p10 := B0.cell 10; have p11 := B0.cell 11; have p12 := B0.cell 12; simp only [Fld.arr, List.getElem?_toArray, List.getElem?_cons_zero, List.getElem?_cons_succ] at p0 p2 p3 p4 p5 p6 p9 p10 p11 p12; have hB : Below w.heap.size w w1 := Below.trans (hb.alloc hsz _) (hb1.mono (by simp; omega)); have hlt1 := B0.lt; clear B0 hb1 hbo; cases bo))
            all_goals first
              | (go_ret; exact ⟨false, rfl, by (first | exact hB | exact hB.drew | exact hB2 | exact hb.alloc hsz _), fun h => by cases h⟩)
              | skip
            refine wp_region_quiet_lit (by kernel_rfl) (by kernel_rfl) ?_
            repeat (any_goals (first | go_big_quiet_step ((go_at_call 56; exact Calls.quiet_of_same (width_no_q _ _ w8 w16 w32 w64)))))
            all_goals (refine wpQuiet_nil ?_; intro _ hw'; obtain ⟨nq, hw''⟩ := hw'; subst hw'')
            all_goals go_wp2_with fail
            all_goals (go_ret; exact ⟨false, rfl, below_drewN hB _, fun h => by cases h⟩)
      by_cases c5 : kind = 5 ∨ kind = 6
      · rcases c5 with rfl | rfl
        · as_aux_lemma =>
            by_cases f64 : width = 64
            · subst f64
              go_wp2_with (go_at_call 20; go_must (refine (HE.out _ (hb.alloc hsz _)).mono ?_; rintro e w1 ⟨bo, rfl, hb1, hbo⟩; have B0 := (Blk.new wr 39 _).here hb1; have p0 := B0.cell 0; have p2 := B0.cell 2; have p3 := B0.cell 3; have p4 := B0.cell 4; have p5 := B0.cell 5; have p6 := B0.cell 6; have p9 := B0.cell 9; have p10 := B0.cell 10; have p11 := B0.cell 11; have p12 := B0.cell 12; simp only [Fld.arr, List.getElem?_toArray, List.getElem?_cons_zero, List.getElem?_cons_succ] at p0 p2 p3 p4 p5 p6 p9 p10 p11 p12; have hB : Below w.heap.size w w1 := Below.trans (hb.alloc hsz _) (hb1.mono (by simp; omega)); have hlt1 := B0.lt; clear B0 hb1 hbo; cases bo))
              all_goals first
                | (go_ret; exact ⟨false, rfl, by (first | exact hB | exact hB.drew | exact hB2 | exact hb.alloc hsz _), fun h => by cases h⟩)
                | (refine ⟨⟨q + 1, by omega, by go_num, by (first | exact hB | exact hB.drew | exact hB2 | exact hb.alloc hsz _), Lib.hid (HNX.out ⟨by simp, by simp, fun h => by simp at h, fun _ => .inl rfl, fun h => by simp at h⟩)⟩, by simp [intOf]; omega⟩)
            · by_cases f32 : width = 32
              · subst f32
                by_cases r0 : re < 4294967296 ∧ im < 4294967296
                · have HR0 := Lib.hid r0
                  clear r0
                  go_wp2_with (go_at_call 20; go_must (refine (HE.out _ (hb.alloc hsz _)).mono ?_; rintro e w1 ⟨bo, rfl, hb1, hbo⟩; have B0 := (Blk.new wr 39 _).here hb1; have p0 := B0.cell 0; have p2 := B0.cell 2; have p3 := B0.cell 3; have p4 := B0.cell 4; have p5 := B0.cell 5; have p6 := B0.cell 6; have p9 := B0.cell 9; have p10 := B0.cell 10; have p11 := B0.cell 11; have p12 := B0.cell 12; simp only [Fld.arr, List.getElem?_toArray, List.getElem?_cons_zero, List.getElem?_cons_succ] at p0 p2 p3 p4 p5 p6 p9 p10 p11 p12; have hB : Below w.heap.size w w1 := Below.trans (hb.alloc hsz _) (hb1.mono (by simp; omega)); have hlt1 := B0.lt; clear B0 hb1 hbo; cases bo))
                  all_goals first
                    | (go_ret; exact ⟨false, rfl, by (first | exact hB | exact hB.drew | exact hB2 | exact hb.alloc hsz _), fun h => by cases h⟩)
                    | (refine ⟨⟨q + 1, by omega, by go_num, by (first | exact hB | exact hB.drew | exact hB2 | exact hb.alloc hsz _), Lib.hid (HNX.out ⟨by simp, by simp, fun h => by simp at h, fun _ => .inr ⟨rfl, HR0.out⟩, fun h => by simp at h⟩)⟩, by simp [intOf]; omega⟩)
                · go_wp2_with (go_at_call 20; go_must (refine (HE.out _ (hb.alloc hsz _)).mono ?_; rintro e w1 ⟨bo, rfl, hb1, hbo⟩; have B0 := (Blk.new wr 39 _).here hb1; have p0 := B0.cell 0; have p2 := B0.cell 2; have p3 := B0.cell 3; have p4 := B0.cell 4; have p5 := B0.cell 5; have p6 := B0.cell 6; have p9 := B0.cell 9; have p10 := B0.cell 10; have p11 := B0.cell 11; have p12 := B0.cell 12; simp only [Fld.arr, List.getElem?_toArray, List.getElem?_cons_zero, List.getElem?_cons_succ] at p0 p2 p3 p4 p5 p6 p9 p10 p11 p12; have hB : Below w.heap.size w w1 := Below.trans (hb.alloc hsz _) (hb1.mono (by simp; omega)); have hlt1 := B0.lt; clear B0 hb1 hbo; cases bo))
                  all_goals first
                    | (go_ret; exact ⟨false, rfl, by (first | exact hB | exact hB.drew | exact hB2 | exact hb.alloc hsz _), fun h => by cases h⟩)
                    | (exfalso; simp_all; omega)
                    | (exfalso; omega)
              · have g64 : (width != 64) = true := by simp; omega
                have g32 : (width != 32) = true := by simp; omega
                go_wp2_with (go_at_call 20; go_must (refine (HE.out _ (hb.alloc hsz _)).mono ?_; rintro e w1 ⟨bo, rfl, hb1, hbo⟩; have B0 := (Blk.new wr 39 _).here hb1; have p0 := B0.cell 0; have p2 := B0.cell 2; have p3 := B0.cell 3; have p4 := B0.cell 4; have p5 := B0.cell 5; have p6 := B0.cell 6; have p9 := B0.cell 9; have p10 := B0.cell 10; have p11 := B0.cell 11; have p12 := B0.cell 12; simp only [Fld.arr, List.getElem?_toArray, List.getElem?_cons_zero, List.getElem?_cons_succ] at p0 p2 p3 p4 p5 p6 p9 p10 p11 p12; have hB : Below w.heap.size w w1 := Below.trans (hb.alloc hsz _) (hb1.mono (by simp; omega)); have hlt1 := B0.lt; clear B0 hb1 hbo; cases bo))
                all_goals (go_ret; exact ⟨false, rfl, by (first | exact hB | exact hB.drew | exact hB2 | exact hb.alloc hsz _), fun h => by cases h⟩)
        · as_aux_lemma =>
            by_cases f64 : width = 64
            · subst f64
              go_wp2_with (go_at_call 20; go_must (refine (HE.out _ (hb.alloc hsz _)).mono ?_; rintro e w1 ⟨bo, rfl, hb1, hbo⟩; have B0 := (Blk.new wr 39 _).here hb1; have p0 := B0.cell 0; have p2 := B0.cell 2; have p3 := B0.cell 3; have p4 := B0.cell 4; have p5 := B0.cell 5; have p6 := B0.cell 6; have p9 := B0.cell 9; have p10 := B0.cell 10; have p11 := B0.cell 11; have p12 := B0.cell 12; simp only [Fld.arr, List.getElem?_toArray, List.getElem?_cons_zero, List.getElem?_cons_succ] at p0 p2 p3 p4 p5 p6 p9 p10 p11 p12; have hB : Below w.heap.size w w1 := Below.trans (hb.alloc hsz _) (hb1.mono (by simp; omega)); have hlt1 := B0.lt; clear B0 hb1 hbo; cases bo))
              all_goals first
                | (go_ret; exact ⟨false, rfl, by (first | exact hB | exact hB.drew | exact hB2 | exact hb.alloc hsz _), fun h => by cases h⟩)
                | (refine ⟨⟨q + 1, by omega, by go_num, by (first | exact hB | exact hB.drew | exact hB2 | exact hb.alloc hsz _), Lib.hid (HNX.out ⟨by simp, by simp, fun h => by simp at h, fun _ => .inl rfl, fun h => by simp at h⟩)⟩, by simp [intOf]; omega⟩)
            · by_cases f32 : width = 32
              · subst f32
                by_cases r0 : re < 4294967296 ∧ im < 4294967296
                · have HR0 := Lib.hid r0
                  clear r0
                  go_wp2_with (go_at_call 20; go_must (refine (HE.out _ (hb.alloc hsz _)).mono ?_; rintro e w1 ⟨bo, rfl, hb1, hbo⟩; have B0 := (Blk.new wr 39 _).here hb1; have p0 := B0.cell 0; have p2 := B0.cell 2; have p3 := B0.cell 3; have p4 := B0.cell 4; have p5 := B0.cell 5; have p6 := B0.cell 6; have p9 := B0.cell 9; have p10 := B0.cell 10; have p11 := B0.cell 11; have p12 := B0.cell 12; simp only [Fld.arr, List.getElem?_toArray, List.getElem?_cons_zero, List.getElem?_cons_succ] at p0 p2 p3 p4 p5 p6 p9 p10 p11 p12; have hB : Below w.heap.size w w1 := Below.trans (hb.alloc hsz _) (hb1.mono (by simp; omega)); have hlt1 := B0.lt; clear B0 hb1 hbo; cases bo))
                  all_goals first
                    | (go_ret; exact ⟨false, rfl, by (first | exact hB | exact hB.drew | exact hB2 | exact hb.alloc hsz _), fun h => by cases h⟩)
                    | (refine ⟨⟨q + 1, by omega, by go_num, by (first | exact hB | exact hB.drew | exact hB2 | exact hb.alloc hsz _), Lib.hid (HNX.out ⟨by simp, by simp, fun h => by simp at h, fun _ => .inr ⟨rfl, HR0.out⟩, fun h => by simp at h⟩)⟩, by simp [intOf]; omega⟩)
                · go_wp2_with (go_at_call 20; go_must (refine (HE.out _ (hb.alloc hsz _)).mono ?_; rintro e w1 ⟨bo, rfl, hb1, hbo⟩; have B0 := (Blk.new wr 39 _).here hb1; have p0 := B0.cell 0; have p2 := B0.cell 2; have p3 := B0.cell 3; have p4 := B0.cell 4; have p5 := B0.cell 5; have p6 := B0.cell 6; have p9 := B0.cell 9; have p10 := B0.cell 10; have p11 := B0.cell 11; have p12 := B0.cell 12; simp only [Fld.arr, List.getElem?_toArray, List.getElem?_cons_zero, List.getElem?_cons_succ] at p0 p2 p3 p4 p5 p6 p9 p10 p11 p12; have hB : Below w.heap.size w w1 := Below.trans (hb.alloc hsz _) (hb1.mono (by simp; omega)); have hlt1 := B0.lt; clear B0 hb1 hbo; cases bo))
                  all_goals first
                    | (go_ret; exact ⟨false, rfl, by (first | exact hB | exact hB.drew | exact hB2 | exact hb.alloc hsz _), fun h => by cases h⟩)
                    | (exfalso; simp_all; omega)
                    | (exfalso; omega)
              · have g64 : (width != 64) = true := by simp; omega
                have g32 : (width != 32) = true := by simp; omega
                go_wp2_with (go_at_call 20; go_must (refine (HE.out _ (hb.alloc hsz _)).mono ?_; rintro e w1 ⟨bo, rfl, hb1, hbo⟩; have B0 := (Blk.new wr 39 _).here hb1; have p0 := B0.cell 0; have p2 := B0.cell 2; have p3 := B0.cell 3; have p4 := B0.cell 4; have p5 := B0.cell 5; have p6 := B0.cell 6; have p9 := B0.cell 9; have p10 := B0.cell 10; have p11 := B0.cell 11; have p12 := B0.cell 12; simp only [Fld.arr, List.getElem?_toArray, List.getElem?_cons_zero, List.getElem?_cons_succ] at p0 p2 p3 p4 p5 p6 p9 p10 p11 p12; have hB : Below w.heap.size w w1 := Below.trans (hb.alloc hsz _) (hb1.mono (by simp; omega)); have hlt1 := B0.lt; clear B0 hb1 hbo; cases bo))
                all_goals (go_ret; exact ⟨false, rfl, by (first | exact hB | exact hB.drew | exact hB2 | exact hb.alloc hsz _), fun h => by cases h⟩)
      by_cases c11 : kind = 11
      · subst c11
        cases zero
        · as_aux_lemma =>
            go_wp2_with (first
              | (go_at_call 20; go_must (refine (HE.out _ (hb.alloc hsz _)).mono ?_; rintro e w1 ⟨bo, rfl, hb1, hbo⟩; have B0 := (Blk.new wr 39 _).here hb1; have p0 := B0.cell 0; have p2 := B0.cell 2; have p3 := B0.cell 3; have p4 := B0.cell 4; have p5 := B0.cell 5; have p6 := B0.cell 6; have p9 := B0.cell 9; have p10 := B0.cell 10; have p11 := B0.cell 11; have p12 := B0.cell 12; simp only [Fld.arr, List.getElem?_toArray, List.getElem?_cons_zero, List.getElem?_cons_succ] at p0 p2 p3 p4 p5 p6 p9 p10 p11 p12; have hB : Below w.heap.size w w1 := Below.trans (hb.alloc hsz _) (hb1.mono (by simp; omega)); have hlt1 := B0.lt; clear B0 hb1 hbo; cases bo))
              | (go_at_call 57; go_must (refine (momFine_some _ _ _ _).mono ?_; rintro e w2 ⟨bb, rfl, hb2⟩; have hB2 : Below w.heap.size w w2 := hB.trans (hb2.mono hB.size); cases bb)))
            all_goals first
              | (go_ret; exact ⟨false, rfl, by (first | exact hB | exact hB.drew | exact hB2 | exact hb.alloc hsz _), fun h => by cases h⟩)
              | (refine ⟨⟨q + 1, by omega, by go_num, by (first | exact hB | exact hB.drew | exact hB2 | exact hb.alloc hsz _), Lib.hid (HNX.out ⟨by simp, by simp, fun h => by simp at h, fun h => by simp at h, fun _ => rfl⟩)⟩, by simp [intOf]; omega⟩)
        · as_aux_lemma =>
            go_wp2_with (first
              | (go_at_call 20; go_must (refine (HE.out _ (hb.alloc hsz _)).mono ?_; rintro e w1 ⟨bo, rfl, hb1, hbo⟩; have B0 := (Blk.new wr 39 _).here hb1; have p0 := B0.cell 0; have p2 := B0.cell 2; have p3 := B0.cell 3; have p4 := B0.cell 4; have p5 := B0.cell 5; have p6 := B0.cell 6; have p9 := B0.cell 9; have p10 := B0.cell 10; have p11 := B0.cell 11; have p12 := B0.cell 12; simp only [Fld.arr, List.getElem?_toArray, List.getElem?_cons_zero, List.getElem?_cons_succ] at p0 p2 p3 p4 p5 p6 p9 p10 p11 p12; have hB : Below w.heap.size w w1 := Below.trans (hb.alloc hsz _) (hb1.mono (by simp; omega)); have hlt1 := B0.lt; clear B0 hb1 hbo; cases bo))
              | (go_at_call 57; go_must (refine (momFine_zero _ _ _ _).mono ?_; rintro e w2 ⟨rfl, hb2⟩; have hB2 : Below w.heap.size w w2 := hB.trans (hb2.mono hB.size))))
            all_goals (go_ret; exact ⟨false, rfl, by (first | exact hB | exact hB.drew | exact hB2 | exact hb.alloc hsz _), fun h => by cases h⟩)
      have d2 : (kind == 2) = false := by simp; omega
      have d3 : (kind == 3) = false := by simp; omega
      have d5 : (kind == 5) = false := by simp; omega
      have d6 : (kind == 6) = false := by simp; omega
      have d11 : (kind == 11) = false := by simp; omega
      as_aux_lemma =>
        go_wp2_with (go_at_call 20; go_must (refine (HE.out _ (hb.alloc hsz _)).mono ?_; rintro e w1 ⟨bo, rfl, hb1, hbo⟩; have B0 := (Blk.new wr 39 _).here hb1; have p0 := B0.cell 0; have p2 := B0.cell 2; have p3 := B0.cell 3; have p4 := B0.cell 4; have p5 := B0.cell 5; have p6 := B0.cell 6; have p9 := B0.cell 9; have p10 := B0.cell 10; have p11 := B0.cell 11; have p12 := B0.cell 12; simp only [Fld.arr, List.getElem?_toArray, List.getElem?_cons_zero, List.getElem?_cons_succ] at p0 p2 p3 p4 p5 p6 p9 p10 p11 p12; have hB : Below w.heap.size w w1 := Below.trans (hb.alloc hsz _) (hb1.mono (by simp; omega)); have hlt1 := B0.lt; clear B0 hb1 hbo; cases bo))
        all_goals first
          | (go_ret; exact ⟨false, rfl, by (first | exact hB | exact hB.drew | exact hB2 | exact hb.alloc hsz _), fun h => by cases h⟩)
          | (refine ⟨⟨q + 1, by omega, by go_num, by (first | exact hB | exact hB.drew | exact hB2 | exact hb.alloc hsz _), Lib.hid (HNX.out ⟨by simp only; omega, by simp only; omega, fun h => by simp only at h; omega, fun h => by simp only at h; omega, fun h => by simp only at h; omega⟩)⟩, by simp [intOf]; omega⟩)
    · go_wp2_with fail
      go_ret
      have e1 : q = n := by omega
      subst e1
      exact ⟨true, rfl, hb, fun _ i hi => HFin.out i (by rw [HN.out] at hi; exact hi)⟩
/-- ZFine. -/
theorem fine_any : ∀ (N : Nat) (w : World) (A : Option Addr) (n c : Nat) (l : List FT), SizeOf.sizeOf l < N → FtsOk w A n l → Calls Tryz.prog 20 #[.slice A n c] w (FinePost l w)
  | 0, w, A, n, c, l, hN, h => by omega
  | N + 1, w, A, n, c, l, hN, h => fine_round w A n c l h (fun q hq W hb => fine_any N W _ _ _ _ (by have := kid_lt (l := l) (i := q) (by rw [h.2.1]; exact hq); omega) (FT.ok_kids (FT.ok_below hb _ (okL_at h.2.2.2 q (by rw [h.2.1]; exact hq)))))
end Go.Proofs.YtieidjlmgalihaaGreatDoor
