/- Check of a leaf. -/
import Derived.Test.YtieidjlmgalihaaGreatDoorWk8
namespace Go.Proofs.YtieidjlmgalihaaGreatDoor
open Go.RowKit
set_option maxRecDepth 100000
/-- A leaf's cells. -/
abbrev leafArr (a num : Int) (flds : Value) (N : Nat) : Array Value := #[.iface 142 (.int .i8 a), .int .i64 num, flds, .pointer (some ⟨N, 0, none⟩)]
theorem own_mono {w : World} {B B' : Nat} {e : TypeId} {size n : Nat} {v : Value} {xs : List Value} (h : w.ownsRow B e size v n xs) (hB : B' ≤ B) : w.ownsRow B' e size v n xs := by
  refine ⟨h.1, ?_⟩
  rcases h.2 with h2 | ⟨g, cap, cur, hv, hb, rest⟩
  · exact .inl h2
  · exact .inr ⟨g, cap, cur, hv, by omega, rest⟩
theorem NewCE.up {w W w' : World} {x : Ent} {core : Value} {e : Ending} (h : NewCE x core W e w') (hb : Below w.heap.size w W) : NewCE x core w e w' := by
  obtain ⟨ce, g, cap, he, hl, hk, ho, hb'⟩ := h
  have := hb.size
  exact ⟨ce, g, cap, he, by omega, hk, own_mono ho this, hb.trans (hb'.mono this)⟩
set_option maxHeartbeats 1000000 in
theorem leafCheck_yes (w : World) (L N : Nat) (a num : Int) (flds : Value) (x : Ent) (hL : Blk w L 150 (leafArr a num flds N)) (hlv : a ≤ IntKind.i8.wrap x.level) :
    Calls Tryz.prog 261 #[.pointer (some ⟨L, 0, none⟩), .agg x.pub, .pointer none] w (NewCE x (.iface 141 (.pointer (some ⟨L, 0, none⟩))) w) := by
  obtain ⟨c1, f1, l1⟩ := hL.use
  have d1 := c1 0
  simp only [List.getElem?_toArray, List.getElem?_cons_zero] at d1
  go_enter Tryz.func261, Tryz.ntmps261
  go_wp2
  go_region_held3 (fun w' => w'.cell? ⟨L, 0, none⟩ = some (.iface 142 (.int .i8 a)) ∧ w'.cell? ⟨w.heap.size, 0, none⟩ = some (.int .i8 (IntKind.i8.wrap x.level))) (go_keep) (first
    | go_in)
  go_wp2_with (go_at_call 116; go_must (refine (addCore_nil _ x 141 (.pointer (some ⟨L, 0, none⟩))).mono ?_; rintro e w1 hpost; have hp := hpost.up (w := w) (by go_grown); obtain ⟨ce, g, cap, rfl, h1, h2, h3, h4⟩ := hp; clear hpost))
  go_ret
  exact ⟨ce, g, cap, rfl, h1, h2, h3, h4⟩
set_option maxHeartbeats 1000000 in
theorem leafCheck_no (w : World) (L N : Nat) (a num : Int) (flds : Value) (x : Ent) (hL : Blk w L 150 (leafArr a num flds N)) (hlv : IntKind.i8.wrap x.level < a) (ce : Value) :
    Calls Tryz.prog 261 #[.pointer (some ⟨L, 0, none⟩), .agg x.pub, ce] w fun e w' => e = .returned ce ∧ Below w.heap.size w w' := by
  obtain ⟨c1, f1, l1⟩ := hL.use
  have d1 := c1 0
  simp only [List.getElem?_toArray, List.getElem?_cons_zero] at d1
  go_enter Tryz.func261, Tryz.ntmps261
  go_wp2
  go_region_held3 (fun w' => w'.cell? ⟨L, 0, none⟩ = some (.iface 142 (.int .i8 a)) ∧ w'.cell? ⟨w.heap.size, 0, none⟩ = some (.int .i8 (IntKind.i8.wrap x.level))) (go_keep) (first
    | go_in)
  go_wp2
  go_ret
  exact ⟨rfl, by go_grown⟩
end Go.Proofs.YtieidjlmgalihaaGreatDoor
