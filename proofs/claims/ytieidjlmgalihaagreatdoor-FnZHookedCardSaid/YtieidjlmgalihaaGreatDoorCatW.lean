/- The catcher's Write. -/
import Derived.Test.YtieidjlmgalihaaGreatDoorNt1
import Derived.Test.YtieidjlmgalihaaGreatDoorBef
namespace Go.Proofs.YtieidjlmgalihaaGreatDoor
open Go.RowKit
set_option maxRecDepth 100000
/-- What a catcher's Write leaves. -/
def CatwPost (w : World) (B Ob Lb n : Nat) (e x : Ent) (g : Nat → Fld) (en : Ending) (w' : World) : Prop :=
  en = .returned .nilIface ∧ Blk w' Ob 50 ({ e with level := IntKind.i8.wrap x.level, message := x.message } : Ent).arr ∧ (∃ V, Blk w' Lb 37 #[V] ∧ w'.ownsRow B 39 15 V n (bare g n)) ∧ Only (fun b => b = Ob ∨ b = Lb) w w'
set_option maxHeartbeats 1000000 in
theorem catch_write (w : World) (B Ob Lb n : Nat) (V : Value) (e x : Ent) (g : Nat → Fld) (hO : Blk w Ob 50 e.arr) (hL : Blk w Lb 37 #[.slice none 0 0]) (hB : B ≤ w.heap.size) (hsrc : SrcF w V n (carr g n)) (hn : n ≤ 100000) :
    Calls Tryz.prog 273 #[.agg (catArr Ob Lb), .agg x.pub, V] w (CatwPost w B Ob Lb n e x g) := by
  go_enter Tryz.func273, Tryz.ntmps273
  have hb : ∀ a b : Obj, Below w.heap.size w ((w.alloc a).alloc b) := fun a b => ((Below.refl _ w).alloc (Nat.le_refl _) a).alloc (by simp) b
  go_wp2_with (go_at_call 73; go_must (refine (note_any _ B Ob Lb n V e x g (hO.here (hb _ _)) (hL.here (hb _ _)) (Nat.le_trans hB (hb _ _).size) (hsrc.below (hb _ _)) hn).mono ?_; rintro en w1 ⟨rfl, p1, p2, p3⟩))
  go_ret
  exact ⟨rfl, p1, p2, (Only.none_of_below (hb _ _)).trans (p3.mono (fun i _ h => by rcases h with h | h | h; exact .inl h; exact .inr h; exact absurd h (by simp [Value.ownBlock])))⟩
end Go.Proofs.YtieidjlmgalihaaGreatDoor
