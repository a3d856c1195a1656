/- Checked entries: AddCore. -/
import Derived.Test.YtieidjlmgalihaaGreatDoorWk6
set_option linter.all false
namespace Go.Proofs.YtieidjlmgalihaaGreatDoor
open Go.RowKit
set_option maxRecDepth 100000
theorem info139 : (Tryz.prog.info? 139).map (fun i => (i.zero, i.size, i.bytes)) = some (some .nilIface, 1, 16) := by kernel_rfl
/-- A checked entry's cells: the entry, dirty, no hook behind, the cores, no hook ahead. -/
abbrev Ent.ce (x : Ent) (d : Bool) (v : Value) : Array Value :=
  #[.int .i8 (IntKind.i8.wrap x.level), .int .i64 (momExt x.zero x.nanos), .int .i32 (momNs x.zero x.nanos), .string (momZone x.zero x.zone), .int .i64 (momOff x.zero x.offset), .string x.logger, .string x.message, .bool x.defined, .int .u64 0, .string x.file, .int .i64 x.line, .string x.function, .string x.stack, .bool d, .nilIface, v, .slice none 0 0]
/-- What AddCore of none leaves. -/
def NewCE (x : Ent) (core : Value) (w : World) (e : Ending) (w' : World) : Prop :=
  ∃ ce g cap, e = .returned (.pointer (some ⟨ce, 0, none⟩)) ∧ w.heap.size ≤ ce ∧ Blk w' ce 250 (x.ce false (.slice (some ⟨g, 0, none⟩) 1 cap)) ∧ w'.ownsRow w.heap.size 139 1 (.slice (some ⟨g, 0, none⟩) 1 cap) 1 [core] ∧ Below w.heap.size w w'
theorem addCore_nil (w : World) (x : Ent) (t : TypeId) (u : Value) :
    Calls Tryz.prog 116 #[.pointer none, .agg x.pub, .iface t u] w (NewCE x (.iface t u) w) := by
  go_enter Tryz.func116, Tryz.ntmps116
  go_wp2_with (first | (at_builtin; go_must (refine wpList_append1 rfl (.tmp 18) (.tmp 20) 247 rfl w.heap.size 139 .nilIface 1 16 info139 Tryz.underlying247 rfl (by decide) (.slice none 0 0) 0 [] _ rfl (World.ownsRow_nil _ _ _ _) #[.iface t u] _ rfl (by simp) rfl (by simp [Value.oneCell']) (by unfold maxLen; omega) (by omega) (by simp; omega) ?_; intro g cap w1 hown1 ho1 hlies hg1; have hce := (Blk.new_at (w.alloc (.cells x.pub 154)) 250 (x.ce false (.slice none 0 0)) (w.heap.size + 1) (by simp)).only ho1 (by simp [Value.ownBlock]); obtain ⟨c2, f2, l2⟩ := hce.use)) | go_in)
  go_ret
  have hgw : w.heap.size < g := by simp [Value.ownBlock] at hlies; omega
  have hb1 : Below w.heap.size w w1 := Below.trans (by go_grown) ((ho1.below (B := w.heap.size) (by simp; omega) (by simp [Value.ownBlock])))
  have hne : g ≠ w.heap.size + 1 := fun e => own_ne hown1 hce (by decide) (by simp [Value.ownBlock, e])
  refine ⟨w.heap.size + 1, g, cap, rfl, by omega, by simpa using hce.set_ 15 (.slice (some ⟨g, 0, none⟩) 1 cap), ?_, hb1.setCell (by simp) _⟩
  exact own_only hown1 ((Only.refl (fun k => k = w.heap.size + 1) w1).setCell (.inl rfl) _) (fun k hk e => hne (by simp [Value.ownBlock] at hk; omega))
/-- What AddCore of one leaves. -/
def MoreCE (x : Ent) (d : Bool) (B ce n : Nat) (V : Value) (cores : List Value) (core : Value) (w : World) (e : Ending) (w' : World) : Prop :=
  ∃ g cap, e = .returned (.pointer (some ⟨ce, 0, none⟩)) ∧ Blk w' ce 250 (x.ce d (.slice (some ⟨g, 0, none⟩) (n + 1) cap)) ∧ w'.ownsRow B 139 1 (.slice (some ⟨g, 0, none⟩) (n + 1) cap) (n + 1) (cores ++ [core]) ∧ Only (fun k => k = ce ∨ V.ownBlock = some k) w w' ∧ (V.ownBlock = some g ∨ w.heap.size ≤ g)
theorem addCore_more (w : World) (x y : Ent) (d : Bool) (B ce n : Nat) (V : Value) (cores : List Value) (t : TypeId) (u : Value) (hce : Blk w ce 250 (x.ce d V)) (hown : w.ownsRow B 139 1 V n cores) (hB : B ≤ w.heap.size) (hn : n ≤ 100000) :
    Calls Tryz.prog 116 #[.pointer (some ⟨ce, 0, none⟩), .agg y.pub, .iface t u] w (MoreCE x d B ce n V cores (.iface t u) w) := by
  obtain ⟨c1, f1, l1⟩ := hce.use
  have hne : V.ownBlock ≠ some ce := own_ne hown hce (by decide)
  go_enter Tryz.func116, Tryz.ntmps116
  go_wp2_with (first | (at_builtin; go_must (refine wpList_append1 rfl (.tmp 18) (.tmp 20) 247 rfl B 139 .nilIface 1 16 info139 Tryz.underlying247 rfl (by decide) V n cores _ rfl (hown.alloc _) #[.iface t u] _ rfl (by simp) rfl (by simp [Value.oneCell']) (by unfold maxLen; omega) (by omega) (by simp; omega) ?_; intro g cap w1 hown1 ho1 hlies hg1; have hce1 := (hce.alloc _).only ho1 hne; obtain ⟨c2, f2, l2⟩ := hce1.use)) | go_in)
  go_ret
  refine ⟨g, cap, rfl, by simpa using hce1.set_ 15 (.slice (some ⟨g, 0, none⟩) (n + 1) cap), own_only hown1 ((Only.refl (fun k => k = ce) w1).setCell (.inl rfl) _) (fun k hk e => own_ne hown1 hce1 (by decide) (by rw [hk, e])), ?_, ?_⟩
  · exact (((Only.refl _ w).alloc _).then ho1 (fun i _ h => .inr h)).setCell (.inl (.inl rfl)) _
  · rcases hlies with h | h
    · exact .inl h
    · exact .inr (by simp at h; omega)
end Go.Proofs.YtieidjlmgalihaaGreatDoor
namespace Go.Proofs.YtieidjlmgalihaaGreatDoor
open Go.RowKit
set_option maxRecDepth 100000
/-- A leaf's cells. -/
abbrev leafArr (a num : Int) (flds : Value) (N : Nat) : Array Value := #[.iface 142 (.int .i8 a), .int .i64 num, flds, .pointer (some ⟨N, 0, none⟩)]
theorem own_mono {w : World} {B B' : Nat} {e : TypeId} {size n : Nat} {v : Value} {xs : List Value} (h : w.ownsRow B e size v n xs) (hB : B' ≤ B) : w.ownsRow B' e size v n xs := by
  refine ⟨h.1, ?_⟩
  rcases h.2 with h2 | ⟨g, cap, cur, hv, hb, rest⟩
  · exact .inl h2
  · exact .inr ⟨g, cap, cur, hv, by omega, rest⟩
theorem NewCE.up {w W w' : World} {x : Ent} {core : Value} {e : Ending} (h : NewCE x core W e w') (hb : Below w.heap.size w W) : NewCE x core w e w' := by
  obtain ⟨ce, g, cap, he, hl, hk, ho, hb'⟩ := h
  have := hb.size
  exact ⟨ce, g, cap, he, by omega, hk, own_mono ho this, hb.trans (hb'.mono this)⟩
set_option maxHeartbeats 1000000 in
theorem leafCheck_yes (w : World) (L N : Nat) (a num : Int) (flds : Value) (x : Ent) (hL : Blk w L 150 (leafArr a num flds N)) (hlv : a ≤ IntKind.i8.wrap x.level) :
    Calls Tryz.prog 261 #[.pointer (some ⟨L, 0, none⟩), .agg x.pub, .pointer none] w (NewCE x (.iface 141 (.pointer (some ⟨L, 0, none⟩))) w) := by
  obtain ⟨c1, f1, l1⟩ := hL.use
  have d1 := c1 0
  simp only [List.getElem?_toArray, List.getElem?_cons_zero] at d1
  go_enter Tryz.func261, Tryz.ntmps261
  go_wp2
  go_region_held3 (fun w' => w'.cell? ⟨L, 0, none⟩ = some (.iface 142 (.int .i8 a)) ∧ w'.cell? ⟨w.heap.size, 0, none⟩ = some (.int .i8 (IntKind.i8.wrap x.level))) (go_keep) (first
    | go_in)
  go_wp2_with (go_at_call 116; go_must (refine (addCore_nil _ x 141 (.pointer (some ⟨L, 0, none⟩))).mono ?_; rintro e w1 hpost; have hp := hpost.up (w := w) (by go_grown); obtain ⟨ce, g, cap, rfl, h1, h2, h3, h4⟩ := hp; clear hpost))
  go_ret
  exact ⟨ce, g, cap, rfl, h1, h2, h3, h4⟩
set_option maxHeartbeats 1000000 in
theorem leafCheck_no (w : World) (L N : Nat) (a num : Int) (flds : Value) (x : Ent) (hL : Blk w L 150 (leafArr a num flds N)) (hlv : IntKind.i8.wrap x.level < a) (ce : Value) :
    Calls Tryz.prog 261 #[.pointer (some ⟨L, 0, none⟩), .agg x.pub, ce] w fun e w' => e = .returned ce ∧ Below w.heap.size w w' := by
  obtain ⟨c1, f1, l1⟩ := hL.use
  have d1 := c1 0
  simp only [List.getElem?_toArray, List.getElem?_cons_zero] at d1
  go_enter Tryz.func261, Tryz.ntmps261
  go_wp2
  go_region_held3 (fun w' => w'.cell? ⟨L, 0, none⟩ = some (.iface 142 (.int .i8 a)) ∧ w'.cell? ⟨w.heap.size, 0, none⟩ = some (.int .i8 (IntKind.i8.wrap x.level))) (go_keep) (first
    | go_in)
  go_wp2
  go_ret
  exact ⟨rfl, by go_grown⟩
end Go.Proofs.YtieidjlmgalihaaGreatDoor
