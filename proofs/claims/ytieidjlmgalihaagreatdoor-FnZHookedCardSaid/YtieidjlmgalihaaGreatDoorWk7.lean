/- The closure of ZTold: the line's number, behind the others. -/
import Derived.Test.YtieidjlmgalihaaGreatDoorKit3
import Derived.Test.YtieidjlmgalihaaGreatDoorWk6
namespace Go.Proofs.YtieidjlmgalihaaGreatDoor
open Go.RowKit
set_option maxRecDepth 100000
theorem info3 : (Tryz.prog.info? 3).map (fun i => (i.zero, i.size, i.bytes)) = some (some (.int .i64 0), 1, 8) := by kernel_rfl
/-- What ZTold's closure leaves. -/
def ToldPost (B O : Nat) (outV : Value) (n : Nat) (xs : List Value) (line : Int) (w : World) (e : Ending) (w' : World) : Prop :=
  ∃ g cap, e = .returned .nilIface ∧ Blk w' O 43 #[.slice (some ⟨g, 0, none⟩) (n + 1) cap] ∧ w'.ownsRow B 3 1 (.slice (some ⟨g, 0, none⟩) (n + 1) cap) (n + 1) (xs ++ [.int .i64 line]) ∧ Only (fun k => k = O ∨ outV.ownBlock = some k) w w' ∧ (outV.ownBlock = some g ∨ w.heap.size ≤ g)
theorem closure_any (w : World) (B O n : Nat) (outV : Value) (xs : List Value) (x : Ent) (hO : Blk w O 43 #[outV]) (hown : w.ownsRow B 3 1 outV n xs) (hB : B ≤ w.heap.size) (hn : n ≤ 1000) :
    Calls Tryz.prog 64 #[.agg x.pub, .pointer (some ⟨O, 0, none⟩)] w (ToldPost B O outV n xs x.line w) := by
  obtain ⟨c1, f1, l1⟩ := hO.use
  have hne : outV.ownBlock ≠ some O := own_ne hown hO (by decide)
  go_enter Tryz.func64, Tryz.ntmps64
  go_wp2_with (at_builtin; go_must (refine wpList_append1 rfl (.tmp 4) (.tmp 8) 43 rfl B 3 (.int .i64 0) 1 8 info3 Tryz.underlying43 rfl (by decide) outV n xs _ rfl (hown.alloc _) #[.int .i64 x.line] _ rfl (by simp) rfl (by simp [Value.oneCell']) (by unfold maxLen; omega) (by omega) (by simp; omega) ?_; intro g cap w1 hown1 ho1 hlies hg1; have hO2 := (hO.alloc _).only ho1 hne; obtain ⟨c2, f2, l2⟩ := hO2.use))
  go_ret
  refine ⟨g, cap, rfl, by simpa using hO2.set_ 0 (.slice (some ⟨g, 0, none⟩) (n + 1) cap), own_only hown1 ((Only.refl (fun k => k = O) w1).setCell (.inl rfl) _) (fun k hk e => own_ne hown1 hO2 (by decide) (by rw [hk, e])), ?_, ?_⟩
  · exact (((Only.refl _ w).alloc _).then ho1 (fun i _ h => .inr h)).setCell (.inl (.inl rfl)) _
  · rcases hlies with h | h
    · exact .inl h
    · exact .inr (by simp at h; omega)
end Go.Proofs.YtieidjlmgalihaaGreatDoor
