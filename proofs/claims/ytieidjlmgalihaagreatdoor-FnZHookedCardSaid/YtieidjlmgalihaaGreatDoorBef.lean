/- Checked entries: Before. -/
import Derived.Test.YtieidjlmgalihaaGreatDoorCat
namespace Go.Proofs.YtieidjlmgalihaaGreatDoor
open Go.RowKit
set_option maxRecDepth 100000
theorem info252 : (Tryz.prog.info? 252).map (fun i => (i.zero, i.size, i.bytes)) = some (some .nilFunc, 1, 8) := by kernel_rfl
/-- A checked entry's cells, with hooks ahead. -/
abbrev Ent.ce2 (x : Ent) (d : Bool) (v b : Value) : Array Value :=
  #[.int .i8 (IntKind.i8.wrap x.level), .int .i64 (momExt x.zero x.nanos), .int .i32 (momNs x.zero x.nanos), .string (momZone x.zero x.zone), .int .i64 (momOff x.zero x.offset), .string x.logger, .string x.message, .bool x.defined, .int .u64 0, .string x.file, .int .i64 x.line, .string x.function, .string x.stack, .bool d, .nilIface, v, b]
/-- What Before leaves. -/
def BefPost (x : Ent) (d : Bool) (B ce n : Nat) (Vc V : Value) (fs : List Value) (F : Value) (w : World) (e : Ending) (w' : World) : Prop :=
  ∃ g cap, e = .returned (.pointer (some ⟨ce, 0, none⟩)) ∧ Blk w' ce 250 (x.ce2 d Vc (.slice (some ⟨g, 0, none⟩) (n + 1) cap)) ∧ w'.ownsRow B 252 1 (.slice (some ⟨g, 0, none⟩) (n + 1) cap) (n + 1) (fs ++ [F]) ∧ Only (fun k => k = ce ∨ V.ownBlock = some k) w w'
set_option maxHeartbeats 1000000 in
theorem before_more (w : World) (x y : Ent) (d : Bool) (B ce n : Nat) (Vc V : Value) (fs : List Value) (fn : Fn) (c1 c2 : Array Value) (hce : Blk w ce 250 (x.ce2 d Vc V)) (hown : w.ownsRow B 252 1 V n fs) (hB : B ≤ w.heap.size) (hn : n ≤ 100000) :
    Calls Tryz.prog 75 #[.pointer (some ⟨ce, 0, none⟩), .agg y.pub, .func fn c1 c2] w (BefPost x d B ce n Vc V fs (.func fn c1 c2) w) := by
  obtain ⟨a, l, c, rfl⟩ : ∃ a l c, V = .slice a l c := by
    rcases hown.2 with ⟨rfl, _⟩ | ⟨g, cap, cur, rfl, _⟩
    · exact ⟨_, _, _, rfl⟩
    · exact ⟨_, _, _, rfl⟩
  obtain ⟨e1, f1, l1⟩ := hce.use
  have hne : (Value.slice a l c).ownBlock ≠ some ce := own_ne hown hce (by decide)
  go_enter Tryz.func75, Tryz.ntmps75
  go_wp2_with (at_builtin; go_must (refine wpList_append1 rfl (.tmp 18) (.tmp 20) 248 rfl B 252 .nilFunc 1 8 info252 Tryz.underlying248 rfl (by decide) (.slice a l c) n fs _ rfl (hown.alloc _) #[.func fn c1 c2] _ rfl (by simp) rfl (by simp [Value.oneCell']) (by unfold maxLen; omega) (by omega) (by simp; omega) ?_; intro g cap w1 hown1 ho1 hlies hg1; have hce1 := (hce.alloc _).only ho1 hne; obtain ⟨c2', f2, l2⟩ := hce1.use))
  go_ret
  refine ⟨g, cap, rfl, by simpa using hce1.set_ 16 (.slice (some ⟨g, 0, none⟩) (n + 1) cap), own_only hown1 ((Only.refl (fun k => k = ce) w1).setCell (.inl rfl) _) (fun k hk e => own_ne hown1 hce1 (by decide) (by rw [hk, e])), ?_⟩
  exact (((Only.refl _ w).alloc _).then ho1 (fun i _ h => .inr h)).setCell (.inl (.inl rfl)) _
end Go.Proofs.YtieidjlmgalihaaGreatDoor
