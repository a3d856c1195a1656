/- Write of a hooked leaf's hook. -/
import Derived.Test.YtieidjlmgalihaaGreatDoorWk10
namespace Go.Proofs.YtieidjlmgalihaaGreatDoor
open Go.RowKit
set_option maxRecDepth 100000
theorem first_nil (w : World) : Calls Tryz.prog 360 #[.nilIface, .nilIface] w fun e w' => e = .returned .nilIface ∧ w = w' := by
  go_enter Tryz.func360, Tryz.ntmps360
  go_wp2
  go_ret
  exact ⟨rfl, rfl⟩
theorem own_drew {w : World} {B : Nat} {e : TypeId} {size n : Nat} {v : Value} {xs : List Value} (h : w.ownsRow B e size v n xs) : w.drew.ownsRow B e size v n xs := h
set_option maxHeartbeats 4000000 in
theorem hookWrite_any (w : World) (B H O F capF n : Nat) (coreV outV : Value) (xs : List Value) (x : Ent) (flds : Value) (hH : Blk w H 244 #[coreV, .slice (some ⟨F, 0, none⟩) 1 capF]) (hF : w.cell? ⟨F, 0, none⟩ = some (.func (.func 64) #[] #[.pointer (some ⟨O, 0, none⟩)])) (hO : Blk w O 43 #[outV]) (hown : w.ownsRow B 3 1 outV n xs) (hB : B ≤ w.heap.size) (hn : n ≤ 1000)
    (hFO : F ≠ O) (hFo : outV.ownBlock ≠ some F) :
    Calls Tryz.prog 359 #[.pointer (some ⟨H, 0, none⟩), .agg x.pub, flds] w (ToldPost B O outV n xs x.line w) := by
  obtain ⟨c1, f1, l1⟩ := hH.use
  have d1 := c1 1
  simp only [List.getElem?_toArray, List.getElem?_cons_zero, List.getElem?_cons_succ] at d1
  clear c1 f1
  have lF := World.block_lt_of_cell? w _ hF
  have hB2 : B ≤ (w.alloc (.cells x.pub 154)).drew.heap.size := by simp; omega
  have hF2 : (w.alloc (.cells x.pub 154)).drew.cell? ⟨F, 0, none⟩ = some (.func (.func 64) #[] #[.pointer (some ⟨O, 0, none⟩)]) := (World.cell?_alloc_lt w _ ⟨F, 0, none⟩ lF).trans hF
  have hnH : ¬ (H = O ∨ outV.ownBlock = some H) := by
    rintro (h | h)
    · exact hH.ne_ hO (by decide) h
    · exact own_ne hown hH (by decide) h
  have hnF : ¬ (F = O ∨ outV.ownBlock = some F) := by
    rintro (h | h)
    · exact hFO h
    · exact hFo h
  have hnB : ¬ (w.heap.size = O ∨ outV.ownBlock = some w.heap.size) := by
    rintro (h | h)
    · have := hO.lt; omega
    · have := (hown.lt _ h).2; omega
  go_enter Tryz.func359, Tryz.ntmps359
  go_wp2_with fail
  refine wp_loop_rounds 2 ?_
  rw [rounds_succ]
  go_wp2_with fail
  go_region_held3 (fun w' => w'.cell? ⟨H, 1, none⟩ = some (.slice (some ⟨F, 0, none⟩) 1 capF) ∧ w'.cell? ⟨F, 0, none⟩ = some (.func (.func 64) #[] #[.pointer (some ⟨O, 0, none⟩)]) ∧ w'.cell? ⟨w.heap.size, 0, none⟩ = some (.int .i8 (IntKind.i8.wrap x.level)) ∧ w'.cell? ⟨w.heap.size, 1, none⟩ = some (.int .i64 (momExt x.zero x.nanos)) ∧ w'.cell? ⟨w.heap.size, 2, none⟩ = some (.int .i32 (momNs x.zero x.nanos)) ∧ w'.cell? ⟨w.heap.size, 3, none⟩ = some (.string (momZone x.zero x.zone)) ∧ w'.cell? ⟨w.heap.size, 4, none⟩ = some (.int .i64 (momOff x.zero x.offset)) ∧ w'.cell? ⟨w.heap.size, 5, none⟩ = some (.string x.logger) ∧ w'.cell? ⟨w.heap.size, 6, none⟩ = some (.string x.message) ∧ w'.cell? ⟨w.heap.size, 7, none⟩ = some (.bool x.defined) ∧ w'.cell? ⟨w.heap.size, 8, none⟩ = some (.int .u64 0) ∧ w'.cell? ⟨w.heap.size, 9, none⟩ = some (.string x.file) ∧ w'.cell? ⟨w.heap.size, 10, none⟩ = some (.int .i64 x.line) ∧ w'.cell? ⟨w.heap.size, 11, none⟩ = some (.string x.function) ∧ w'.cell? ⟨w.heap.size, 12, none⟩ = some (.string x.stack)) (go_keep) (first
    | (go_at_call 64; go_must (refine (closure_any _ B O n outV xs x (hO.alloc _).drew (own_drew (hown.alloc _)) hB2 hn).mono ?_; rintro e w1 ⟨g, cap, rfl, hO1, hown1, ho1, hlies⟩; have dH : w1.cell? ⟨H, 1, none⟩ = some (.slice (some ⟨F, 0, none⟩) 1 capF) := (((hH.alloc _).drew).only ho1 hnH).cell 1; have dF := (World.cell?_of_block (a := ⟨F, 0, none⟩) (ho1.block F (by simp; omega) hnF)).trans hF2; have dB := boxEnt (((Blk.new w 154 x.pub).drew).only ho1 hnB).cell))
    | (go_at_call 360; refine (first_nil _).mono ?_; rintro e w' ⟨rfl, rfl⟩))
  go_wp2_with fail
  rw [rounds_succ]
  go_wp2_with fail
  go_ret
  refine ⟨g, cap, rfl, hO1, hown1, (((Only.refl _ w).alloc _).drew).then ho1 (fun _ _ h => h), ?_⟩
  rcases hlies with h | h
  · exact .inl h
  · exact .inr (by simp at h; omega)
end Go.Proofs.YtieidjlmgalihaaGreatDoor
