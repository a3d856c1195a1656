/- Write of a leaf without fields. -/
import Derived.Test.YtieidjlmgalihaaGreatDoorWk10
namespace Go.Proofs.YtieidjlmgalihaaGreatDoor
open Go.RowKit
set_option maxRecDepth 100000
theorem grow_nil (w : World) : Calls Tryz.prog 118 #[.slice none 0 0, .int .i64 0] w fun e w' => e = .returned (.slice none 0 0) ∧ w = w' := by
  go_enter Tryz.func118, Tryz.ntmps118
  go_wp2
  go_ret
  exact ⟨rfl, rfl⟩
theorem concat_nil (w : World) (b : Nat) (h0 : w.cell? ⟨b, 0, none⟩ = some (.slice none 0 0)) (h1 : w.cell? ⟨b, 1, none⟩ = some (.slice none 0 0)) :
    Calls Tryz.prog 77 #[.slice (some ⟨b, 0, none⟩) 2 2] w fun e w' => e = .returned (.slice none 0 0) ∧ w = w' := by
  go_enter Tryz.func77, Tryz.ntmps77
  go_wp2_with fail
  refine wp_loop_rounds 3 ?_
  repeat any_goals (rw [rounds_succ]; go_wp2_with (go_at_call 118; refine (grow_nil _).mono ?_; rintro e w' ⟨rfl, rfl⟩))
  refine wp_loop_rounds 3 ?_
  repeat any_goals (rw [rounds_succ]; go_wp2_with fail)
  go_ret
  exact ⟨rfl, rfl⟩
theorem info196 : (Tryz.prog.info? 196).map (fun i => (i.zero, i.size, i.bytes)) = some (some (.agg #[.int .i64 0, .int .i64 0, .slice none 0 0]), 3, 40) := by kernel_rfl
theorem cells3 (w : World) (a b c : Value) (n : Nat) (h : w.heap.size = n) {T : TypeId} : ∀ (j : Nat) (u : Value), [a, b, c][j]? = some u → (w.alloc (.cells #[a, b, c] T)).cell? ((⟨n, 0, none⟩ : Addr).add j) = some u := by
  subst h
  intro j u hj
  have hadd : (⟨w.heap.size, 0, none⟩ : Addr).add j = ⟨w.heap.size, j, none⟩ := by unfold Addr.add; split <;> simp_all
  rw [hadd, World.cell?_alloc_new]
  simpa using hj
/-- What a leaf's Write leaves. -/
def LeafPost (B N n : Nat) (ent lv num : Int) (seenV : Value) (xs : List Value) (w : World) (e : Ending) (w' : World) : Prop :=
  ∃ g cap, e = .returned .nilIface ∧ Blk w' N 145 #[.int .i64 ent, .int .i64 lv, .slice (some ⟨g, 0, none⟩) (n + 1) cap] ∧ w'.ownsRow B 196 3 (.slice (some ⟨g, 0, none⟩) (n + 1) cap) (n + 1) (xs ++ [.int .i64 num, .int .i64 ent, .slice none 0 0]) ∧ Only (fun k => k = N ∨ seenV.ownBlock = some k) w w' ∧ (seenV.ownBlock = some g ∨ w.heap.size ≤ g)
theorem leafFin {w W w1 : World} {B N n g cap : Nat} {ent lv num : Int} {seenV : Value} {xs : List Value} (q4 : Only (fun k => k = N ∨ seenV.ownBlock = some k) w W)
    (hown1 : w1.ownsRow B 196 3 (.slice (some ⟨g, 0, none⟩) (n + 1) cap) (n + 1) (xs ++ [.int .i64 num, .int .i64 ent, .slice none 0 0])) (ho1 : Only (fun k => seenV.ownBlock = some k) W w1) (hlies : seenV.ownBlock = some g ∨ W.heap.size ≤ g) (hN1 : Blk w1 N 145 #[.int .i64 ent, .int .i64 lv, seenV]) :
    LeafPost B N n ent lv num seenV xs w (.returned .nilIface) (w1.setCell ⟨N, 2, none⟩ (.slice (some ⟨g, 0, none⟩) (n + 1) cap)) := by
  refine ⟨g, cap, rfl, by simpa using hN1.set_ 2 (.slice (some ⟨g, 0, none⟩) (n + 1) cap), own_only hown1 ((Only.refl (fun k => k = N) w1).setCell (.inl rfl) _) (fun k hk e => own_ne hown1 hN1 (by decide) (by rw [hk, e])), ?_, ?_⟩
  · exact (q4.then ho1 (fun i _ h => .inr h)).setCell (.inl (.inl rfl)) _
  · have := q4.size
    rcases hlies with h | h
    · exact .inl h
    · exact .inr (by omega)
set_option maxHeartbeats 8000000 in
theorem leafWrite_nil (w : World) (B L N n : Nat) (a num ent lv : Int) (seenV : Value) (xs : List Value) (x : Ent) (hL : Blk w L 150 (leafArr a num (.slice none 0 0) N)) (hN : Blk w N 145 #[.int .i64 ent, .int .i64 lv, seenV]) (hown : w.ownsRow B 196 3 seenV n xs) (hB : B ≤ w.heap.size) (hn : n ≤ 100000) :
    Calls Tryz.prog 264 #[.pointer (some ⟨L, 0, none⟩), .agg x.pub, .slice none 0 0] w (LeafPost B N n ent lv num seenV xs w) := by
  obtain ⟨c1, f1, l1⟩ := hL.use
  obtain ⟨c2, f2, l2⟩ := hN.use
  have hne : seenV.ownBlock ≠ some N := own_ne hown hN (by decide)
  have hneL : seenV.ownBlock ≠ some L := own_ne hown hL (by decide)
  have d1 := c1 1
  have d3 := c1 3
  have e0 := c2 0
  simp only [List.getElem?_toArray, List.getElem?_cons_zero, List.getElem?_cons_succ] at d1 d3 e0
  go_enter Tryz.func264, Tryz.ntmps264
  go_wp2
  go_region_held3 (fun w' => w'.cell? ⟨L, 1, none⟩ = some (.int .i64 num) ∧ w'.cell? ⟨L, 3, none⟩ = some (.pointer (some ⟨N, 0, none⟩)) ∧ w'.cell? ⟨N, 0, none⟩ = some (.int .i64 ent)) (go_keep) (first
    | go_in)
  go_wp2_with (go_at_call 77; go_must (refine (concat_nil _ _ (by simp [go_sem]) (by simp [go_sem])).mono ?_; rintro e w' ⟨rfl, rfl⟩))
  refine wp_loop_rounds 1 ?_
  rw [rounds_succ]
  go_wp2_with fail
  have hone : ∀ u ∈ (#[.int .i64 num, .int .i64 ent, .slice none 0 0] : Array Value).toList, u.oneCell' = true := by simp [Value.oneCell']
  have hmax : n + 1 ≤ maxLen := by unfold maxLen; omega
  have hbyt : (n + 1) * 40 ≤ 140737488355328 := by omega
  have u1 := ups l1
  have u2 := ups l2
  have hW : ∃ W : World, W = (((w.alloc (.cells x.pub 154)).alloc (.cells #[.int .i64 num, .int .i64 ent, .slice none 0 0] 196)).alloc (.cells #[.slice none 0 0, .slice none 0 0] 148)).drew := ⟨_, rfl⟩
  obtain ⟨W, hW⟩ := hW
  have q0 : W.ownsRow B 196 3 seenV n xs := by rw [hW]; exact ((hown.alloc _).alloc _).alloc _
  have q1 : Blk W N 145 #[.int .i64 ent, .int .i64 lv, seenV] := by rw [hW]; exact ((hN.alloc _).alloc _).alloc _
  have q2 : Blk W (w.heap.size + 1) 196 #[.int .i64 num, .int .i64 ent, .slice none 0 0] := by rw [hW]; exact (Blk.new_at (w.alloc _) 196 _ (w.heap.size + 1) (by simp)).alloc _
  have q3 : Blk W L 150 (leafArr a num (.slice none 0 0) N) := by rw [hW]; exact ((hL.alloc _).alloc _).alloc _
  have q4 : Only (fun k => k = N ∨ seenV.ownBlock = some k) w W := by rw [hW]; exact ((((Only.refl _ w).alloc _).alloc _).alloc _).drew
  have q5 := q4.size
  have hBW : B ≤ W.heap.size := by omega
  rw [← hW]
  clear hW c1 c2 f1 f2 d1 d3 e0
  obtain ⟨g1, j1, k1⟩ := q1.use
  obtain ⟨g2, j2, k2⟩ := q2.use
  obtain ⟨g3, j3, k3⟩ := q3.use
  have p1 := g1 2
  have p2 := g2 0
  have p3 := g2 1
  have p4 := g2 2
  have p5 := g3 3
  simp only [List.getElem?_toArray, List.getElem?_cons_zero, List.getElem?_cons_succ] at p1 p2 p3 p4 p5
  clear g1 g2 g3
  go_region_law (refine step_append1 rfl (.tmp 53) (.tmp 55) 74 rfl B 196 (.agg #[.int .i64 0, .int .i64 0, .slice none 0 0]) 3 40 info196 Tryz.underlying74 rfl (by decide) seenV n xs W rfl q0 #[.int .i64 num, .int .i64 ent, .slice none 0 0] _ rfl rfl rfl hone hmax hbyt hBW ?_; intro g cap w1 hown1 ho1 hlies hlt; have hN1 := q1.only ho1 hne; obtain ⟨c3, f3, l3⟩ := hN1.use; have pL : w1.cell? ⟨L, 3, none⟩ = some (.pointer (some ⟨N, 0, none⟩)) := (q3.only ho1 hneL).cell 3)
  all_goals (go_wp2; go_ret; exact leafFin q4 hown1 ho1 hlies hN1)
end Go.Proofs.YtieidjlmgalihaaGreatDoor
