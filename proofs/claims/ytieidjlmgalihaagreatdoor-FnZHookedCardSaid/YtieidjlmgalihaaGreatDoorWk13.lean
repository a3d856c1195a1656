/- Write of a checked entry of a hooked leaf. -/
import Derived.Test.YtieidjlmgalihaaGreatDoorWk11
import Derived.Test.YtieidjlmgalihaaGreatDoorWk12
namespace Go.Proofs.YtieidjlmgalihaaGreatDoor
open Go.RowKit
set_option maxRecDepth 100000
/-- A hooked leaf at work: the leaf, its notes, the hook's core, its functions, the variable that the closure writes; n lines told so far; at most m entries seen. -/
structure St (B L H F N O : Nat) (a : Int) (m n : Nat) (xs : List Value) (w : World) : Prop where
  base : B ≤ w.heap.size
  bases : B ≤ L ∧ B ≤ H ∧ B ≤ F ∧ B ≤ N ∧ B ≤ O
  leaf : Blk w L 150 (leafArr a 0 (.slice none 0 0) N)
  hook : ∃ cap, Blk w H 244 #[.iface 141 (.pointer (some ⟨L, 0, none⟩)), .slice (some ⟨F, 0, none⟩) 1 cap]
  funcs : ∃ cur : Array Value, Blk w F 157 cur ∧ cur[0]? = some (.func (.func 64) #[] #[.pointer (some ⟨O, 0, none⟩)])
  notes : ∃ seenV k ys, k ≤ m ∧ Blk w N 145 #[.int .i64 0, .int .i64 0, seenV] ∧ w.ownsRow B 196 3 seenV k ys
  out : ∃ outV, Blk w O 43 #[outV] ∧ w.ownsRow B 3 1 outV n xs
theorem St.here {B L H F N O : Nat} {a : Int} {m n : Nat} {xs : List Value} {w w' : World} (h : St B L H F N O a m n xs w) (hb : Below w.heap.size w w') : St B L H F N O a m n xs w' := by
  obtain ⟨h0, h1, h2, ⟨c, h3⟩, ⟨cur, h4, h5⟩, ⟨sv, k, ys, h6, h7, h8⟩, ⟨ov, h9, h10⟩⟩ := h
  have ho : Only (fun _ => False) w w' := Only.none_of_below hb
  exact ⟨Nat.le_trans h0 hb.size, h1, h2.here hb, ⟨c, h3.here hb⟩, ⟨cur, h4.here hb, h5⟩, ⟨sv, k, ys, h6, h7.here hb, own_only h8 ho (fun _ _ h => h)⟩, ⟨ov, h9.here hb, own_only h10 ho (fun _ _ h => h)⟩⟩
/-- A block of another type is neither the variable nor its row. -/
theorem notin {W : World} {b N T T1 T2 B sz k : Nat} {cs cs' : Array Value} {sv : Value} {ys : List Value} (hb : Blk W b T cs) (hN : Blk W N T1 cs') (hs : W.ownsRow B T2 sz sv k ys) (h1 : T ≠ T1) (h2 : T2 ≠ T) : ¬ (b = N ∨ sv.ownBlock = some b) := by
  rintro (h | h)
  · exact hb.ne_ hN h1 h
  · exact own_ne hs hb h2 h
theorem notin_own {W : World} {N T T1 T2 B B' sz sz' k k' : Nat} {cs' : Array Value} {sv ov : Value} {ys zs : List Value} (ho : W.ownsRow B' T sz' ov k' zs) (hN : Blk W N T1 cs') (hs : W.ownsRow B T2 sz sv k ys) (h1 : T ≠ T1) (h2 : T2 ≠ T) : ∀ g, ov.ownBlock = some g → ¬ (g = N ∨ sv.ownBlock = some g) := by
  rintro g hg (rfl | h)
  · exact own_ne ho hN h1 hg
  · exact own_ne_own hs ho h2 g h hg
/-- What the walk reads of a checked entry with two cores, and of the entry's box. -/
theorem useCE {W : World} {ce g bx cap L H : Nat} {x : Ent} {d : Bool} {cur : Array Value} (h1 : Blk W ce 250 (x.ce d (.slice (some ⟨g, 0, none⟩) 2 cap))) (h2 : Blk W g 139 cur) (h3 : Blk W bx 154 x.pub) (e0 : cur[0]? = some (.iface 141 (.pointer (some ⟨L, 0, none⟩)))) (e1 : cur[1]? = some (.iface 242 (.pointer (some ⟨H, 0, none⟩)))) :
    W.cell? ⟨ce, 14, none⟩ = some .nilIface ∧ W.cell? ⟨ce, 15, none⟩ = some (.slice (some ⟨g, 0, none⟩) 2 cap) ∧ W.cell? ⟨g, 0, none⟩ = some (.iface 141 (.pointer (some ⟨L, 0, none⟩))) ∧ W.cell? ⟨g, 1, none⟩ = some (.iface 242 (.pointer (some ⟨H, 0, none⟩))) ∧ W.cell? ⟨bx, 0, none⟩ = some (.int .i8 (IntKind.i8.wrap x.level)) ∧ W.cell? ⟨bx, 1, none⟩ = some (.int .i64 (momExt x.zero x.nanos)) ∧ W.cell? ⟨bx, 2, none⟩ = some (.int .i32 (momNs x.zero x.nanos)) ∧ W.cell? ⟨bx, 3, none⟩ = some (.string (momZone x.zero x.zone)) ∧ W.cell? ⟨bx, 4, none⟩ = some (.int .i64 (momOff x.zero x.offset)) ∧ W.cell? ⟨bx, 5, none⟩ = some (.string x.logger) ∧ W.cell? ⟨bx, 6, none⟩ = some (.string x.message) ∧ W.cell? ⟨bx, 7, none⟩ = some (.bool x.defined) ∧ W.cell? ⟨bx, 8, none⟩ = some (.int .u64 0) ∧ W.cell? ⟨bx, 9, none⟩ = some (.string x.file) ∧ W.cell? ⟨bx, 10, none⟩ = some (.int .i64 x.line) ∧ W.cell? ⟨bx, 11, none⟩ = some (.string x.function) ∧ W.cell? ⟨bx, 12, none⟩ = some (.string x.stack) :=
  ⟨h1.cell 14, h1.cell 15, (h2.cell 0).trans e0, (h2.cell 1).trans e1, boxEnt h3.cell⟩
set_option maxHeartbeats 8000000 in
theorem ceWrite_any (w : World) (B L H F N O ce g cap : Nat) (a : Int) (m n : Nat) (xs : List Value) (x : Ent) (hs : St B L H F N O a m n xs w) (hm : m ≤ 10000) (hn : n ≤ 1000) (hceB : B ≤ ce)
    (hce : Blk w ce 250 (x.ce false (.slice (some ⟨g, 0, none⟩) 2 cap))) (hrow : w.ownsRow B 139 1 (.slice (some ⟨g, 0, none⟩) 2 cap) 2 [.iface 141 (.pointer (some ⟨L, 0, none⟩)), .iface 242 (.pointer (some ⟨H, 0, none⟩))]) :
    Calls Tryz.prog 66 #[.pointer (some ⟨ce, 0, none⟩), .slice none 0 0] w fun e w' => e = .returned (.tuple #[]) ∧ Below B w w' ∧ St B L H F N O a (m + 1) (n + 1) (xs ++ [.int .i64 x.line]) w' := by
  obtain ⟨h0, h1, hL, ⟨cH, hH⟩, ⟨cur, hF, hF0⟩, ⟨sv, k, ys, hk, hN, hseen⟩, ⟨ov, hO, hout⟩⟩ := hs
  obtain ⟨c1, f1, l1⟩ := hce.use
  obtain ⟨curg, hg, e0, e1⟩ : ∃ curg : Array Value, Blk w g 139 curg ∧ curg[0]? = some (.iface 141 (.pointer (some ⟨L, 0, none⟩))) ∧ curg[1]? = some (.iface 242 (.pointer (some ⟨H, 0, none⟩))) := by
    rcases hrow.2 with ⟨h, _⟩ | ⟨g', cap', curg, h, _, hg, _, _, _, htk⟩
    · simp at h
    · simp at h
      obtain ⟨rfl, rfl⟩ := h
      refine ⟨curg, hg, ?_, ?_⟩
      · have := congrArg (·[0]?) htk
        simpa [List.getElem?_take] using this
      · have := congrArg (·[1]?) htk
        simpa [List.getElem?_take] using this
  have hgB : B ≤ g := by
    have := (hrow.lt g rfl).1
    exact this
  go_enter Tryz.func66, Tryz.ntmps66
  go_wp2_with fail
  obtain ⟨W, hW⟩ : ∃ W : World, W = (w.setCell ⟨ce, 13, none⟩ (.bool true)).alloc (.cells x.pub 154) := ⟨_, rfl⟩
  have hsz : (w.setCell ⟨ce, 13, none⟩ (.bool true)).heap.size = w.heap.size := by simp [World.setCell]
  have ho : Only (fun k => k = ce) w W := by rw [hW]; exact ((Only.refl (fun k => k = ce) w).setCell (p := ⟨ce, 13, none⟩) (.inl rfl) _).alloc _
  have qce : Blk W ce 250 (x.ce true (.slice (some ⟨g, 0, none⟩) 2 cap)) := by rw [hW]; exact Blk.alloc (by simpa using hce.set_ 13 (.bool true)) _
  have qbx : Blk W w.heap.size 154 x.pub := by rw [hW]; exact Blk.new_at _ _ _ _ hsz
  have qg : Blk W g 139 curg := hg.only ho (hg.ne_ hce (by decide))
  have qL := hL.only ho (hL.ne_ hce (by decide))
  have qH := hH.only ho (hH.ne_ hce (by decide))
  have qF := hF.only ho (hF.ne_ hce (by decide))
  have qN := hN.only ho (hN.ne_ hce (by decide))
  have qO := hO.only ho (hO.ne_ hce (by decide))
  have qseen := own_only hseen ho (fun g' hg' e => own_ne hseen hce (by decide) (by rw [hg', e]))
  have qout := own_only hout ho (fun g' hg' e => own_ne hout hce (by decide) (by rw [hg', e]))
  have hBW : B ≤ W.heap.size := Nat.le_trans h0 ho.size
  have hb0 : Below B w W := ho.below h0 (fun k hk e => by omega)
  have n1 := notin qce qN qseen (by decide) (by decide)
  have n2 := notin qg qN qseen (by decide) (by decide)
  have n3 := notin qbx qN qseen (by decide) (by decide)
  have n4 := notin qH qN qseen (by decide) (by decide)
  have n5 := notin qF qN qseen (by decide) (by decide)
  have n6 := notin qO qN qseen (by decide) (by decide)
  have n8 := notin qL qN qseen (by decide) (by decide)
  have n7 := notin_own qout qN qseen (by decide) (by decide)
  rw [← hW]
  clear hW c1 f1
  obtain ⟨u14, u15, ug0, ug1, ub⟩ := useCE qce qg qbx e0 e1
  refine wp_loop_rounds 1 ?_
  rw [rounds_succ]
  go_wp2_with fail
  refine wp_loop_rounds 3 ?_
  rw [rounds_succ]
  go_wp2_with fail
  go_region_held3 (fun w' => w'.cell? ⟨ce, 15, none⟩ = some (.slice (some ⟨g, 0, none⟩) 2 cap) ∧ w'.cell? ⟨g, 0, none⟩ = some (.iface 141 (.pointer (some ⟨L, 0, none⟩))) ∧ w'.cell? ⟨g, 1, none⟩ = some (.iface 242 (.pointer (some ⟨H, 0, none⟩))) ∧ w'.cell? ⟨w.heap.size, 0, none⟩ = some (.int .i8 (IntKind.i8.wrap x.level)) ∧ w'.cell? ⟨w.heap.size, 1, none⟩ = some (.int .i64 (momExt x.zero x.nanos)) ∧ w'.cell? ⟨w.heap.size, 2, none⟩ = some (.int .i32 (momNs x.zero x.nanos)) ∧ w'.cell? ⟨w.heap.size, 3, none⟩ = some (.string (momZone x.zero x.zone)) ∧ w'.cell? ⟨w.heap.size, 4, none⟩ = some (.int .i64 (momOff x.zero x.offset)) ∧ w'.cell? ⟨w.heap.size, 5, none⟩ = some (.string x.logger) ∧ w'.cell? ⟨w.heap.size, 6, none⟩ = some (.string x.message) ∧ w'.cell? ⟨w.heap.size, 7, none⟩ = some (.bool x.defined) ∧ w'.cell? ⟨w.heap.size, 8, none⟩ = some (.int .u64 0) ∧ w'.cell? ⟨w.heap.size, 9, none⟩ = some (.string x.file) ∧ w'.cell? ⟨w.heap.size, 10, none⟩ = some (.int .i64 x.line) ∧ w'.cell? ⟨w.heap.size, 11, none⟩ = some (.string x.function) ∧ w'.cell? ⟨w.heap.size, 12, none⟩ = some (.string x.stack)) (go_keep) (first
    | (go_at_call 264; go_must (refine (leafWrite_nil _ B L N k a 0 0 0 sv ys x qL.drew qN.drew (own_drew qseen) hBW (by omega)).mono ?_; rintro e w1 ⟨g1, cap1, rfl, rN, rseen, ro, rlies⟩; obtain ⟨v14, v15, vg0, vg1, vb⟩ := useCE (qce.drew.only ro n1) (qg.drew.only ro n2) (qbx.drew.only ro n3) e0 e1)))
  have rce := qce.drew.only ro n1
  have rg := qg.drew.only ro n2
  have rbx := qbx.drew.only ro n3
  have rH := qH.drew.only ro n4
  have rF := qF.drew.only ro n5
  have rO := qO.drew.only ro n6
  have rL := qL.drew.only ro n8
  have rout := own_only (own_drew qout) ro n7
  have hBw1 : B ≤ w1.heap.size := Nat.le_trans hBW ro.size
  have m1 := notin rce rO rout (by decide) (by decide)
  have m2 := notin rg rO rout (by decide) (by decide)
  have m3 := notin rbx rO rout (by decide) (by decide)
  have m4 := notin rH rO rout (by decide) (by decide)
  have m5 := notin rF rO rout (by decide) (by decide)
  have m6 := notin rN rO rout (by decide) (by decide)
  have m8 := notin rL rO rout (by decide) (by decide)
  have m7 := notin_own rseen rO rout (by decide) (by decide)
  have rF0 : w1.drew.cell? ⟨F, 0, none⟩ = some (.func (.func 64) #[] #[.pointer (some ⟨O, 0, none⟩)]) := (rF.cell 0).trans hF0
  have hHid := Lib.hid (And.intro n1 (And.intro n2 (And.intro n3 (And.intro n4 (And.intro n5 (And.intro n6 (And.intro n8 (And.intro n7 (And.intro m1 (And.intro m2 (And.intro m3 (And.intro m4 (And.intro m5 (And.intro m6 (And.intro m8 m7)))))))))))))))
  go_wp2_with fail
  rw [rounds_succ]
  go_wp2_with fail
  go_region_held3 (fun w' => w'.cell? ⟨ce, 15, none⟩ = some (.slice (some ⟨g, 0, none⟩) 2 cap) ∧ w'.cell? ⟨g, 0, none⟩ = some (.iface 141 (.pointer (some ⟨L, 0, none⟩))) ∧ w'.cell? ⟨g, 1, none⟩ = some (.iface 242 (.pointer (some ⟨H, 0, none⟩))) ∧ w'.cell? ⟨w.heap.size, 0, none⟩ = some (.int .i8 (IntKind.i8.wrap x.level)) ∧ w'.cell? ⟨w.heap.size, 1, none⟩ = some (.int .i64 (momExt x.zero x.nanos)) ∧ w'.cell? ⟨w.heap.size, 2, none⟩ = some (.int .i32 (momNs x.zero x.nanos)) ∧ w'.cell? ⟨w.heap.size, 3, none⟩ = some (.string (momZone x.zero x.zone)) ∧ w'.cell? ⟨w.heap.size, 4, none⟩ = some (.int .i64 (momOff x.zero x.offset)) ∧ w'.cell? ⟨w.heap.size, 5, none⟩ = some (.string x.logger) ∧ w'.cell? ⟨w.heap.size, 6, none⟩ = some (.string x.message) ∧ w'.cell? ⟨w.heap.size, 7, none⟩ = some (.bool x.defined) ∧ w'.cell? ⟨w.heap.size, 8, none⟩ = some (.int .u64 0) ∧ w'.cell? ⟨w.heap.size, 9, none⟩ = some (.string x.file) ∧ w'.cell? ⟨w.heap.size, 10, none⟩ = some (.int .i64 x.line) ∧ w'.cell? ⟨w.heap.size, 11, none⟩ = some (.string x.function) ∧ w'.cell? ⟨w.heap.size, 12, none⟩ = some (.string x.stack)) (go_keep) (first
    | (go_at_call 359; go_must (refine (hookWrite_any _ B H O F cH n _ ov xs x (.slice none 0 0) rH.drew rF0 rO.drew (own_drew rout) hBw1 hn (fun e => m5 (.inl e)) (fun e => m5 (.inr e))).mono ?_; rintro e w2 ⟨g2, cap2, rfl, tO, tout, to, tlies⟩; obtain ⟨t14, t15, tg0, tg1, tb⟩ := useCE (rce.drew.only to m1) (rg.drew.only to m2) (rbx.drew.only to m3) e0 e1)))
  go_wp2_with fail
  rw [rounds_succ]
  go_wp2_with fail
  go_returns
  have hB1 : Below B W w1 := by
    have : Below B W.drew w1 := ro.below hBW (fun i hi e => by
      rcases e with e | e
      · omega
      · have := (qseen.lt _ e).1; omega)
    exact undrew this
  have hB2 : Below B w1 w2 := by
    have : Below B w1.drew w2 := to.below hBw1 (fun i hi e => by
      rcases e with e | e
      · omega
      · have := (rout.lt _ e).1; omega)
    exact undrew this
  exact ⟨rfl, (hb0.trans hB1).trans hB2, Nat.le_trans hBw1 to.size, h1, rL.drew.only to m8, ⟨cH, rH.drew.only to m4⟩, ⟨cur, rF.drew.only to m5, hF0⟩, ⟨_, k + 1, _, by omega, rN.drew.only to m6, own_only (own_drew rseen) to m7⟩, ⟨_, tO, tout⟩⟩
end Go.Proofs.YtieidjlmgalihaaGreatDoor
