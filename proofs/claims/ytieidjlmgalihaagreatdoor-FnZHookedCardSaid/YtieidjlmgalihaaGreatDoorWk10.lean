/- Check of a hooked leaf. -/
import Derived.Test.YtieidjlmgalihaaGreatDoorWk9
namespace Go.Proofs.YtieidjlmgalihaaGreatDoor
open Go.RowKit
set_option maxRecDepth 100000
theorem undrew {B : Nat} {w w1 : World} (hb : Below B w.drew w1) : Below B w w1 := ⟨hb.os, hb.tape, hb.output, hb.size, hb.block⟩
/-- A boxed entry, cell by cell. -/
theorem boxEnt {W : World} {b : Nat} {x : Ent} (h : ∀ i, W.cell? ⟨b, i, none⟩ = x.pub[i]?) : W.cell? ⟨b, 0, none⟩ = some (.int .i8 (IntKind.i8.wrap x.level)) ∧ W.cell? ⟨b, 1, none⟩ = some (.int .i64 (momExt x.zero x.nanos)) ∧ W.cell? ⟨b, 2, none⟩ = some (.int .i32 (momNs x.zero x.nanos)) ∧ W.cell? ⟨b, 3, none⟩ = some (.string (momZone x.zero x.zone)) ∧ W.cell? ⟨b, 4, none⟩ = some (.int .i64 (momOff x.zero x.offset)) ∧ W.cell? ⟨b, 5, none⟩ = some (.string x.logger) ∧ W.cell? ⟨b, 6, none⟩ = some (.string x.message) ∧ W.cell? ⟨b, 7, none⟩ = some (.bool x.defined) ∧ W.cell? ⟨b, 8, none⟩ = some (.int .u64 0) ∧ W.cell? ⟨b, 9, none⟩ = some (.string x.file) ∧ W.cell? ⟨b, 10, none⟩ = some (.int .i64 x.line) ∧ W.cell? ⟨b, 11, none⟩ = some (.string x.function) ∧ W.cell? ⟨b, 12, none⟩ = some (.string x.stack) :=
  ⟨h 0, h 1, h 2, h 3, h 4, h 5, h 6, h 7, h 8, h 9, h 10, h 11, h 12⟩
/-- What Check of a hooked leaf leaves: both cores. -/
def HookCE (x : Ent) (c1 c2 : Value) (w : World) (e : Ending) (w' : World) : Prop :=
  ∃ ce g cap, e = .returned (.pointer (some ⟨ce, 0, none⟩)) ∧ w.heap.size ≤ ce ∧ Blk w' ce 250 (x.ce false (.slice (some ⟨g, 0, none⟩) 2 cap)) ∧ w'.ownsRow w.heap.size 139 1 (.slice (some ⟨g, 0, none⟩) 2 cap) 2 [c1, c2] ∧ Below w.heap.size w w'
set_option maxHeartbeats 2000000 in
theorem hookCheck_yes (w : World) (H L N : Nat) (a num : Int) (flds F : Value) (x : Ent) (hH : Blk w H 244 #[.iface 141 (.pointer (some ⟨L, 0, none⟩)), F]) (hL : Blk w L 150 (leafArr a num flds N)) (hlv : a ≤ IntKind.i8.wrap x.level) :
    Calls Tryz.prog 356 #[.pointer (some ⟨H, 0, none⟩), .agg x.pub, .pointer none] w (HookCE x (.iface 141 (.pointer (some ⟨L, 0, none⟩))) (.iface 242 (.pointer (some ⟨H, 0, none⟩))) w) := by
  obtain ⟨c1, f1, l1⟩ := hH.use
  have d1 := c1 0
  simp only [List.getElem?_toArray, List.getElem?_cons_zero] at d1
  go_enter Tryz.func356, Tryz.ntmps356
  go_wp2
  go_region_held3 (fun w' => w'.cell? ⟨H, 0, none⟩ = some (.iface 141 (.pointer (some ⟨L, 0, none⟩))) ∧ w'.cell? ⟨w.heap.size, 0, none⟩ = some (.int .i8 (IntKind.i8.wrap x.level)) ∧ w'.cell? ⟨w.heap.size, 1, none⟩ = some (.int .i64 (momExt x.zero x.nanos)) ∧ w'.cell? ⟨w.heap.size, 2, none⟩ = some (.int .i32 (momNs x.zero x.nanos)) ∧ w'.cell? ⟨w.heap.size, 3, none⟩ = some (.string (momZone x.zero x.zone)) ∧ w'.cell? ⟨w.heap.size, 4, none⟩ = some (.int .i64 (momOff x.zero x.offset)) ∧ w'.cell? ⟨w.heap.size, 5, none⟩ = some (.string x.logger) ∧ w'.cell? ⟨w.heap.size, 6, none⟩ = some (.string x.message) ∧ w'.cell? ⟨w.heap.size, 7, none⟩ = some (.bool x.defined) ∧ w'.cell? ⟨w.heap.size, 8, none⟩ = some (.int .u64 0) ∧ w'.cell? ⟨w.heap.size, 9, none⟩ = some (.string x.file) ∧ w'.cell? ⟨w.heap.size, 10, none⟩ = some (.int .i64 x.line) ∧ w'.cell? ⟨w.heap.size, 11, none⟩ = some (.string x.function) ∧ w'.cell? ⟨w.heap.size, 12, none⟩ = some (.string x.stack)) (go_keep) (first
    | (go_at_call 261; go_must (refine (leafCheck_yes _ L N a num flds x ((hL.alloc _).drew) hlv).mono ?_; rintro e w1 ⟨ce, g, cap, rfl, hce0, hce, hrow, hb⟩; have hbx0 := boxed (w := w) (cs := x.pub) (T := 154) (undrew hb); have hb1 : Below w.heap.size w w1 := hbx0.2.2.2; have dH := (hb1.cell (p := ⟨H, 0, none⟩) l1).trans d1; have hbx := boxEnt hbx0.1)))
  go_wp2_with (go_at_call 116; go_must (refine (addCore_more _ x x false _ ce 1 (.slice (some ⟨g, 0, none⟩) 1 cap) [.iface 141 (.pointer (some ⟨L, 0, none⟩))] 242 (.pointer (some ⟨H, 0, none⟩)) hce hrow ?_ (by omega)).mono ?_; rotate_left; rintro e w2 ⟨g2, cap2, rfl, hce2, hrow2, ho2, hlies2⟩))
  · go_ret
    have hz : w.heap.size < ce := by simp at hce0; omega
    have hz2 := hb.size
    simp at hz2
    have hg : w.heap.size < g := by
      rcases hrow.2 with ⟨h', _⟩ | ⟨g', _, _, h', hbg, _⟩
      · simp at h'
      · simp at h'
        obtain ⟨⟨rfl, _⟩, _⟩ := h'
        simp at hbg
        omega
    refine ⟨ce, g2, cap2, rfl, by omega, hce2, own_mono hrow2 (by simp), hb1.trans (ho2.below hb1.size (fun k hk h => ?_))⟩
    rcases h with rfl | h
    · omega
    · simp [Value.ownBlock] at h
      omega
  · exact hb.size
set_option maxHeartbeats 2000000 in
theorem hookCheck_no (w : World) (H L N : Nat) (a num : Int) (flds F : Value) (x : Ent) (hH : Blk w H 244 #[.iface 141 (.pointer (some ⟨L, 0, none⟩)), F]) (hL : Blk w L 150 (leafArr a num flds N)) (hlv : IntKind.i8.wrap x.level < a) :
    Calls Tryz.prog 356 #[.pointer (some ⟨H, 0, none⟩), .agg x.pub, .pointer none] w fun e w' => e = .returned (.pointer none) ∧ Below w.heap.size w w' := by
  obtain ⟨c1, f1, l1⟩ := hH.use
  have d1 := c1 0
  simp only [List.getElem?_toArray, List.getElem?_cons_zero] at d1
  go_enter Tryz.func356, Tryz.ntmps356
  go_wp2
  go_region_held3 (fun w' => w'.cell? ⟨H, 0, none⟩ = some (.iface 141 (.pointer (some ⟨L, 0, none⟩))) ∧ w'.cell? ⟨w.heap.size, 0, none⟩ = some (.int .i8 (IntKind.i8.wrap x.level)) ∧ w'.cell? ⟨w.heap.size, 1, none⟩ = some (.int .i64 (momExt x.zero x.nanos)) ∧ w'.cell? ⟨w.heap.size, 2, none⟩ = some (.int .i32 (momNs x.zero x.nanos)) ∧ w'.cell? ⟨w.heap.size, 3, none⟩ = some (.string (momZone x.zero x.zone)) ∧ w'.cell? ⟨w.heap.size, 4, none⟩ = some (.int .i64 (momOff x.zero x.offset)) ∧ w'.cell? ⟨w.heap.size, 5, none⟩ = some (.string x.logger) ∧ w'.cell? ⟨w.heap.size, 6, none⟩ = some (.string x.message) ∧ w'.cell? ⟨w.heap.size, 7, none⟩ = some (.bool x.defined) ∧ w'.cell? ⟨w.heap.size, 8, none⟩ = some (.int .u64 0) ∧ w'.cell? ⟨w.heap.size, 9, none⟩ = some (.string x.file) ∧ w'.cell? ⟨w.heap.size, 10, none⟩ = some (.int .i64 x.line) ∧ w'.cell? ⟨w.heap.size, 11, none⟩ = some (.string x.function) ∧ w'.cell? ⟨w.heap.size, 12, none⟩ = some (.string x.stack)) (go_keep) (first
    | (go_at_call 261; go_must (refine (leafCheck_no _ L N a num flds x ((hL.alloc _).drew) hlv (.pointer none)).mono ?_; rintro e w1 ⟨rfl, hb⟩; have hbx0 := boxed (w := w) (cs := x.pub) (T := 154) (undrew hb); have hb1 : Below w.heap.size w w1 := hbx0.2.2.2; have dH := (hb1.cell (p := ⟨H, 0, none⟩) l1).trans d1; have hbx := boxEnt hbx0.1)))
  go_wp2
  go_ret
  exact ⟨rfl, hb1⟩
end Go.Proofs.YtieidjlmgalihaaGreatDoor
