/- zGreat: some answer. -/
import Derived.Test.YtieidjlmgalihaaGreatDoorFld
import Derived.BigGuard
import Derived.BigQuiet
set_option linter.all false
namespace Go.Proofs.YtieidjlmgalihaaGreatDoor
open Go.RowKit
set_option maxRecDepth 100000
/-- A count's variable holds some number behind it; what was there at the begin is as it was. -/
def CountPost (w0 : World) (p : Nat) (e : Ending) (w' : World) : Prop :=
  ∃ (bo : Bool) (z : Int), e = .returned (.bool bo) ∧ Blk w' p 3 #[.int .i64 z] ∧ Below w0.heap.size w0 w'
theorem below_drewN {B : Nat} {w w' : World} (h : Below B w w') (n : Nat) : Below B w (w'.drewN n) := ⟨h.os, h.tape, h.output, h.size, h.block⟩
theorem i64_wrap64 (n : Int) : IntKind.i64.wrap n = wrap64 n := IntWalk.i64_left n
theorem count_zero (w0 w : World) (A : Option Addr) (n c p : Nat) (z : Int) (hb : Below w0.heap.size w0 w) (hw : w0.heap.size ≤ p) (hp : Blk w p 3 #[.int .i64 z]) :
    Calls Tryz.prog 58 #[.slice A n c, .int .i64 0, .pointer (some ⟨p, 0, none⟩)] w (CountPost w0 p) := by
  obtain ⟨c1, f1, l1⟩ := hp.use
  have d1 := c1 0
  simp only [List.getElem?_toArray, List.getElem?_cons_zero] at d1
  have hend := fun u => Lib.hid (show Blk (w.setCell ⟨p, 0, none⟩ u) p 3 #[u] ∧ Below w0.heap.size w0 (w.setCell ⟨p, 0, none⟩ u) from ⟨by simpa using hp.set_ 0 u, hb.setCell (p := ⟨p, 0, none⟩) hw u⟩)
  clear c1
  go_enter Tryz.func58, Tryz.ntmps58
  go_wp2_with fail
  all_goals (go_ret; exact ⟨_, _, rfl, (hend _).out.1, (hend _).out.2⟩)
set_option maxHeartbeats 4000000 in
theorem count_succ (w0 w : World) (d : Nat) (hd : d ≤ 30) (ih : ∀ (w : World) (A : Option Addr) (n c k p : Nat) (g : Nat → Fld) (z : Int), FldsOk k w0 A n g → Below w0.heap.size w0 w → w0.heap.size ≤ p → Blk w p 3 #[.int .i64 z] → Calls Tryz.prog 58 #[.slice A n c, .int .i64 (d : Int), .pointer (some ⟨p, 0, none⟩)] w (CountPost w0 p))
    (A : Option Addr) (n c k p : Nat) (g : Nat → Fld) (z : Int) (h : FldsOk k w0 A n g) (hb : Below w0.heap.size w0 w) (hw : w0.heap.size ≤ p) (hp : Blk w p 3 #[.int .i64 z]) :
    Calls Tryz.prog 58 #[.slice A n c, .int .i64 ((d : Int) + 1), .pointer (some ⟨p, 0, none⟩)] w (CountPost w0 p) := by
  have hn := h.1
  unfold maxLen at hn
  obtain ⟨c1, f1, l1⟩ := hp.use
  have d1 := c1 0
  simp only [List.getElem?_toArray, List.getElem?_cons_zero] at d1
  have hend := fun u => Lib.hid (show Blk (w.setCell ⟨p, 0, none⟩ u) p 3 #[u] ∧ Below w0.heap.size w0 (w.setCell ⟨p, 0, none⟩ u) from ⟨by simpa using hp.set_ 0 u, hb.setCell (p := ⟨p, 0, none⟩) hw u⟩)
  clear c1
  have hd0 : ((d : Int) + 1 == 0) = false := by simp; omega
  have hd1 : IntKind.i64.wrap ((d : Int) + 1 - 1) = (d : Int) := by rw [IntWalk.i64_in _ (by omega)]; omega
  have hd2 : IntKind.i64.wrap (d : Int) = (d : Int) := IntWalk.i64_in _ (by omega)
  go_enter Tryz.func58, Tryz.ntmps58
  go_wp2_with fail
  · go_ret
    exact ⟨_, _, rfl, (hend _).out.1, (hend _).out.2⟩
  · rename wrap64 (z + (n : Int)) ≤ 300 => hbig
    clear hbig
    go_loopw [7] (fun i wr => ∃ q : Nat, q ≤ n ∧ i = .int .i64 q ∧ (∃ z, Blk wr p 3 #[.int .i64 z]) ∧ Below w0.heap.size w0 wr) (fun i _ => n - (intOf i).toNat)
    case atStart => exact ⟨0, Nat.zero_le _, rfl, ⟨_, (hend _).out.1⟩, (hend _).out.2⟩
    case round =>
      obtain ⟨q, hq, rfl, ⟨z2, hz2⟩, hbr⟩ := hrel
      by_cases hlt : q < n
      · obtain ⟨b, off, rfl, hs, hc⟩ := (h.2.1) q hlt
        have hb0 : b < w0.heap.size := World.block_lt_of_cell? w0 _ (hc 0 (by omega))
        have hcs := Fld.cells (w := wr) (b := b) (q := off + q * 15) (f := g q) (fun j hj => (hbr.cell (p := ⟨b, off + q * 15 + j, none⟩) hb0).trans (hc j hj))
        have hok := h.2.2 q hlt
        have m1 := hc 1 (by omega)
        have m7 := hc 7 (by omega)
        have m8 := hc 8 (by omega)
        have m13 := hc 13 (by omega)
        have m14 := hc 14 (by omega)
        simp only [List.getElem?_toArray, List.getElem?_cons_zero, List.getElem?_cons_succ] at m1 m7 m8 m13 m14
        have HZ := Lib.hid hz2
        clear hc hs h hend hp hz2 d1 f1
        generalize g q = f at *
        obtain ⟨a0, a1, a2, a3, a4, a5, a6, a7, a8, a9, a10, a11, a12, a13, a14⟩ := hcs
        clear a0 a2 a3 a4 a5 a6 a9 a10 a11 a12
        obtain ⟨k', g', hff⟩ : ∃ k' g', FldsOk k' w0 f.iA f.ilen g' := by
          cases k with
          | zero => exact hok.elim
          | succ k =>
            obtain ⟨_, _, hin, g', hg1, hg2⟩ := hok
            exact ⟨k, g', hin, hg1, hg2⟩
        have HF := Lib.hid hff
        clear hok hff
        have i1 : (0 : Int) ≤ (q : Int) := by omega
        have i2 : (q : Int) < (n : Int) := by omega
        by_cases hX : 2000 < wrap64 (wrap64 (wrap64 ((f.key.size : Int) + (f.text.size : Int)) + (f.bn : Int)) + (f.fail.size : Int))
        · have HX := Lib.hid (show decide (2000 < wrap64 (wrap64 (wrap64 ((f.key.size : Int) + (f.text.size : Int)) + (f.bn : Int)) + (f.fail.size : Int))) = true by simpa using hX)
          clear hX
          go_wp2_with fail
          refine wp_region_quiet_lit (by kernel_rfl) (by kernel_rfl) ?_
          iterate 29 go_big_quiet_step (fail)
          rw [HX.out]
          iterate 9 go_big_quiet_step (fail)
          go_big_quiet_step (fail)
          refine wpQuiet_nil ?_
          intro _ hw'
          obtain ⟨nq, hw''⟩ := hw'
          subst hw''
          go_wp2_with fail
          all_goals (go_ret; exact ⟨_, _, rfl, HZ.out.drewN nq, below_drewN hbr nq⟩)
        · have hX' : decide (2000 < IntKind.i64.wrap (IntKind.i64.wrap (IntKind.i64.wrap ((f.key.size : Int) + (f.text.size : Int)) + (f.bn : Int)) + (f.fail.size : Int))) = false := by
            simp only [i64_wrap64]
            simpa using hX
          clear hX
          go_wp2_with fail
          go_region_held3 (fun w' => w'.cell? ⟨b, off + q * 15 + 1, none⟩ = some (.string f.key) ∧ w'.cell? ⟨b, off + q * 15 + 7, none⟩ = some (.string f.text) ∧ w'.cell? ⟨b, off + q * 15 + 8, none⟩ = some (.slice f.bA f.bn f.bc) ∧ w'.cell? ⟨b, off + q * 15 + 14, none⟩ = some (.string f.fail) ∧ w'.cell? ⟨b, off + q * 15 + 13, none⟩ = some (.slice f.iA f.ilen f.ic)) (go_keep) (first
            | (go_at_call 58; go_must ((with_reducible refine (ih _ f.iA f.ilen f.ic k' p g' z2 HF.out hbr.drew hw HZ.out.drew).mono ?_); rintro e w1 ⟨bo, z3, rfl, hz3, hb3⟩; have y1 := (hb3.cell (p := ⟨b, off + q * 15 + 1, none⟩) hb0).trans m1; have y7 := (hb3.cell (p := ⟨b, off + q * 15 + 7, none⟩) hb0).trans m7; have y8 := (hb3.cell (p := ⟨b, off + q * 15 + 8, none⟩) hb0).trans m8; have y14 := (hb3.cell (p := ⟨b, off + q * 15 + 14, none⟩) hb0).trans m14; have y13 := (hb3.cell (p := ⟨b, off + q * 15 + 13, none⟩) hb0).trans m13)))
          go_wp2_with fail
          · go_ret
            exact ⟨_, _, rfl, hz3, hb3⟩
          · exact ⟨⟨q + 1, by omega, by go_num, ⟨_, hz3⟩, hb3⟩, by simp [intOf]; omega⟩
      · go_wp2_with fail
        go_ret
        exact ⟨_, _, rfl, hz2, hbr⟩
theorem count_any (w0 : World) : ∀ (d : Nat), d ≤ 30 → ∀ (w : World) (A : Option Addr) (n c k p : Nat) (g : Nat → Fld) (z : Int), FldsOk k w0 A n g → Below w0.heap.size w0 w → w0.heap.size ≤ p → Blk w p 3 #[.int .i64 z] → Calls Tryz.prog 58 #[.slice A n c, .int .i64 (d : Int), .pointer (some ⟨p, 0, none⟩)] w (CountPost w0 p)
  | 0, _, w, A, n, c, k, p, g, z, _, hb, hw, hp => count_zero w0 w A n c p z hb hw hp
  | d + 1, hd, w, A, n, c, k, p, g, z, h, hb, hw, hp => by
    have h1 := count_succ w0 w d (by omega) (count_any w0 d (by omega)) A n c k p g z h hb hw hp
    have e : ((d + 1 : Nat) : Int) = (d : Int) + 1 := by omega
    rw [e]
    exact h1
/-- zGreat answers. -/
theorem great_any (w : World) (A : Option Addr) (n c k : Nat) (g : Nat → Fld) (h : FldsOk k w A n g) : Calls Tryz.prog 21 #[.slice A n c] w (SomeBool w) := by
  have hcall := fun (W : World) (hb : Below w.heap.size w W) (hp : Blk W w.heap.size 3 #[.int .i64 0]) => count_any w 30 (Nat.le_refl _) W A n c k w.heap.size g 0 h hb (Nat.le_refl _) hp
  have HC := Lib.hid hcall
  clear hcall h
  go_enter Tryz.func21, Tryz.ntmps21
  go_wp2_with (go_at_call 58; go_must (refine (HC.out _ (by go_grown) (Blk.new _ _ _)).mono ?_; rintro e w1 ⟨bo, z, rfl, hz, hb⟩; have hz0 : w1.cell? ⟨w.heap.size, 0, none⟩ = some (.int .i64 z) := hz.cell 0; cases bo))
  all_goals (go_ret; exact ⟨_, rfl, hb⟩)
end Go.Proofs.YtieidjlmgalihaaGreatDoor
namespace Go.Proofs.YtieidjlmgalihaaGreatDoor
open Go.RowKit
set_option maxRecDepth 100000
theorem count_big (w : World) (A : Option Addr) (n c p B : Nat) (h : 300 < n) (hn : n ≤ maxLen) (hb : B ≤ p) (hp : Blk w p 3 #[.int .i64 0]) :
    Calls Tryz.prog 58 #[.slice A n c, .int .i64 30, .pointer (some ⟨p, 0, none⟩)] w fun e w' => e = .returned (.bool true) ∧ Blk w' p 3 #[.int .i64 (n : Int)] ∧ Below B w w' := by
  unfold maxLen at hn
  obtain ⟨c1, f1, l1⟩ := hp.use
  have d1 := c1 0
  simp only [List.getElem?_toArray, List.getElem?_cons_zero] at d1
  have hend := Lib.hid (show Blk (w.setCell ⟨p, 0, none⟩ (.int .i64 (n : Int))) p 3 #[.int .i64 (n : Int)] ∧ Below B w (w.setCell ⟨p, 0, none⟩ (.int .i64 (n : Int))) from ⟨by simpa using hp.set_ 0 (.int .i64 (n : Int)), (Below.refl B w).setCell (p := ⟨p, 0, none⟩) hb _⟩)
  clear c1
  have hI : (300 : Int) < (n : Int) := by omega
  go_enter Tryz.func58, Tryz.ntmps58
  go_wp2_with fail
  go_ret
  exact ⟨rfl, hend.out.1, hend.out.2⟩
/-- zGreat says of more than 300 that they are too many. -/
theorem great_big (w : World) (A : Option Addr) (n c : Nat) (h : 300 < n) (hn : n ≤ maxLen) : Calls Tryz.prog 21 #[.slice A n c] w fun e w' => e = .returned (.bool true) ∧ Below w.heap.size w w' := by
  go_enter Tryz.func21, Tryz.ntmps21
  go_wp2_with (go_at_call 58; go_must (refine (count_big _ A n c w.heap.size w.heap.size h hn (Nat.le_refl _) (Blk.new _ _ _)).mono ?_; rintro e w1 ⟨rfl, hz, hb⟩; have hz0 : w1.cell? ⟨w.heap.size, 0, none⟩ = some (.int .i64 (n : Int)) := hz.cell 0))
  go_ret
  exact ⟨rfl, Below.trans (by go_grown) hb⟩
/-- What zGreat answers. -/
def GreatPost (n : Nat) (w : World) (e : Ending) (w' : World) : Prop := ∃ bo, e = .returned (.bool bo) ∧ Below w.heap.size w w' ∧ (bo = false → n ≤ 300)
theorem great_full (w : World) (A : Option Addr) (n c k : Nat) (g : Nat → Fld) (h : FldsOk k w A n g) : Calls Tryz.prog 21 #[.slice A n c] w (GreatPost n w) := by
  by_cases hn : 300 < n
  · exact (great_big w A n c hn h.1).mono fun e w' ⟨h1, h2⟩ => ⟨_, h1, h2, fun h => by cases h⟩
  · exact (great_any w A n c k g h).mono fun e w' ⟨b, h1, h2⟩ => ⟨b, h1, h2, fun _ => by omega⟩
end Go.Proofs.YtieidjlmgalihaaGreatDoor
