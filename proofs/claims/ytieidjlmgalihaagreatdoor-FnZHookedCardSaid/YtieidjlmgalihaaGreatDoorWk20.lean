/- The observer's core. -/
import Derived.Test.YtieidjlmgalihaaGreatDoorWk13
namespace Go.Proofs.YtieidjlmgalihaaGreatDoor
open Go.RowKit
set_option maxRecDepth 100000
/-- A logged entry's cells. -/
abbrev Ent.log (x : Ent) (ctx : Value) : Array Value :=
  #[.int .i8 (IntKind.i8.wrap x.level), .int .i64 (momExt x.zero x.nanos), .int .i32 (momNs x.zero x.nanos), .string (momZone x.zero x.zone), .int .i64 (momOff x.zero x.offset), .string x.logger, .string x.message, .bool x.defined, .int .u64 0, .string x.file, .int .i64 x.line, .string x.function, .string x.stack, ctx]
theorem info182 : (Tryz.prog.info? 182).map (fun i => (i.zero, i.size, i.bytes)) = some (some (.agg #[.int .i8 0, .int .i64 0, .int .i32 0, .string ⟨#[]⟩, .int .i64 0, .string ⟨#[]⟩, .string ⟨#[]⟩, .bool false, .int .u64 0, .string ⟨#[]⟩, .int .i64 0, .string ⟨#[]⟩, .string ⟨#[]⟩, .slice none 0 0]), 14, 176) := by kernel_rfl
/-- What the observer's add leaves. -/
def AddPost (B OL n : Nat) (V : Value) (xs : List Value) (news : Array Value) (ret : Value) (w : World) (e : Ending) (w' : World) : Prop :=
  ∃ g cap, e = .returned ret ∧ Blk w' OL 256 #[.slice (some ⟨g, 0, none⟩) (n + 1) cap] ∧ w'.ownsRow B 182 14 (.slice (some ⟨g, 0, none⟩) (n + 1) cap) (n + 1) (xs ++ news.toList) ∧ Only (fun k => k = OL ∨ V.ownBlock = some k) w w' ∧ (V.ownBlock = some g ∨ w.heap.size ≤ g)
theorem addFin {w W w1 : World} {B OL n g cap : Nat} {V ret : Value} {xs : List Value} {news : Array Value} (q4 : Only (fun k => k = OL ∨ V.ownBlock = some k) w W)
    (hown1 : w1.ownsRow B 182 14 (.slice (some ⟨g, 0, none⟩) (n + 1) cap) (n + 1) (xs ++ news.toList)) (ho1 : Only (fun k => V.ownBlock = some k) W w1) (hlies : V.ownBlock = some g ∨ W.heap.size ≤ g) (hN1 : Blk w1 OL 256 #[V]) :
    AddPost B OL n V xs news ret w (.returned ret) (w1.setCell ⟨OL, 0, none⟩ (.slice (some ⟨g, 0, none⟩) (n + 1) cap)) := by
  refine ⟨g, cap, rfl, by simpa using hN1.set_ 0 (.slice (some ⟨g, 0, none⟩) (n + 1) cap), own_only hown1 ((Only.refl (fun k => k = OL) w1).setCell (.inl rfl) _) (fun k hk e => own_ne hown1 hN1 (by decide) (by rw [hk, e])), ?_, ?_⟩
  · exact (q4.then ho1 (fun i _ h => .inr h)).setCell (.inl (.inl rfl)) _
  · have := q4.size
    rcases hlies with h | h
    · exact .inl h
    · exact .inr (by omega)
set_option maxHeartbeats 8000000 in
theorem obsAdd (w : World) (B OL n : Nat) (V : Value) (xs : List Value) (x : Ent) (ca : Option Addr) (cl cc : Nat) (hO : Blk w OL 256 #[V]) (hown : w.ownsRow B 182 14 V n xs) (hB : B ≤ w.heap.size) (hn : n ≤ 1000000) :
    Calls Tryz.prog 366 #[.pointer (some ⟨OL, 0, none⟩), .agg (x.log (.slice ca cl cc))] w (AddPost B OL n V xs (x.log (.slice ca cl cc)) (.tuple #[]) w) := by
  obtain ⟨c1, f1, l1⟩ := hO.use
  have hne : V.ownBlock ≠ some OL := own_ne hown hO (by decide)
  have hone : ∀ u ∈ (x.log (.slice ca cl cc)).toList, u.oneCell' = true := by simp [Value.oneCell']
  have hmax : n + 1 ≤ maxLen := by unfold maxLen; omega
  have hbyt : (n + 1) * 176 ≤ 140737488355328 := by omega
  go_enter Tryz.func366, Tryz.ntmps366
  go_wp2
  obtain ⟨W, hW⟩ : ∃ W : World, W = w.alloc (.cells (x.log (.slice ca cl cc)) 182) := ⟨_, rfl⟩
  have q0 : W.ownsRow B 182 14 V n xs := by rw [hW]; exact hown.alloc _
  have q1 : Blk W OL 256 #[V] := by rw [hW]; exact hO.alloc _
  have q2 : Blk W w.heap.size 182 (x.log (.slice ca cl cc)) := by rw [hW]; exact Blk.new _ _ _
  have q4 : Only (fun k => k = OL ∨ V.ownBlock = some k) w W := by rw [hW]; exact (Only.refl _ w).alloc _
  have q5 := q4.size
  have hBW : B ≤ W.heap.size := by omega
  rw [← hW]
  clear hW c1 f1
  obtain ⟨g1, j1, k1⟩ := q1.use
  obtain ⟨g2, j2, k2⟩ := q2.use
  have p1 := g1 0
  simp only [List.getElem?_toArray, List.getElem?_cons_zero] at p1
  clear g1
  go_region_law (refine step_append1 rfl (.tmp 8) (.tmp 10) 179 rfl B 182 _ 14 176 info182 Tryz.underlying179 rfl (by decide) V n xs W rfl q0 (x.log (.slice ca cl cc)) _ rfl rfl rfl hone hmax hbyt hBW ?_; intro g cap w1 hown1 ho1 hlies hlt; have hN1 := q1.only ho1 hne; obtain ⟨c3, f3, l3⟩ := hN1.use)
  all_goals (go_wp2; go_returns; exact addFin q4 hown1 ho1 hlies hN1)
end Go.Proofs.YtieidjlmgalihaaGreatDoor
