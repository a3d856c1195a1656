/- RegisterHooks of one closure. -/
import Derived.Test.YtieidjlmgalihaaGreatDoorWk13
namespace Go.Proofs.YtieidjlmgalihaaGreatDoor
open Go.RowKit
set_option maxRecDepth 100000
theorem info157 : (Tryz.prog.info? 157).map (fun i => (i.zero, i.size, i.bytes)) = some (some .nilFunc, 1, 8) := by kernel_rfl
/-- What RegisterHooks leaves. -/
def RegPost (core clo : Value) (w : World) (e : Ending) (w' : World) : Prop :=
  ∃ H F cap, e = .returned (.iface 242 (.pointer (some ⟨H, 0, none⟩))) ∧ w.heap.size ≤ H ∧ w.heap.size ≤ F ∧ Blk w' H 244 #[core, .slice (some ⟨F, 0, none⟩) 1 cap] ∧ (∃ cur : Array Value, Blk w' F 157 cur ∧ cur[0]? = some clo) ∧ Below w.heap.size w w'
theorem register_any (w : World) (t : TypeId) (u : Value) (b : Nat) (fn : Fn) (f1 f2 : Array Value) (hb : w.cell? ⟨b, 0, none⟩ = some (.func fn f1 f2)) :
    Calls Tryz.prog 63 #[.iface t u, .slice (some ⟨b, 0, none⟩) 1 1] w (RegPost (.iface t u) (.func fn f1 f2) w) := by
  have lb := World.block_lt_of_cell? w _ hb
  have hone : ∀ v ∈ [Value.func fn f1 f2], v.oneCell' = true := by simp [Value.oneCell']
  obtain ⟨i, hi, hz0, hz1, hz2⟩ := info_parts info157
  have hnews : ∀ j v, [Value.func fn f1 f2][j]? = some v → (w.alloc (.cells #[] 157)).cell? ((⟨b, 0, none⟩ : Addr).add j) = some v := by
    intro j v hj
    have : j = 0 := by
      rcases j with _ | j
      · rfl
      · simp at hj
    subst this
    simp at hj
    subst hj
    exact (World.cell?_alloc_lt w _ ⟨b, 0, none⟩ lb).trans hb
  go_enter Tryz.func63, Tryz.ntmps63
  go_wp2_with (at_builtin; go_must (refine wpList_append_lies _ rfl (.tmp 6) (.tmp 7) 241 rfl w.heap.size 157 i .nilFunc 1 8 Tryz.underlying241 hi hz0 hz1 hz2 rfl (by decide) (.slice (some ⟨w.heap.size, 0, none⟩) 0 0) 0 [] rfl (World.ownsRow_lit w #[] 0 (Nat.le_refl _) (by decide) rfl) ⟨b, 0, none⟩ 1 1 [.func fn f1 f2] rfl rfl hnews hone (by omega) (by decide) (by decide) (by simp) (w.heap.size + 1) (by simp) ?_; intro g cap w1 hown1 hg1 hlies hlt))
  go_ret
  have hb1 : Below w.heap.size w w1 := ((Below.refl _ w).alloc (Nat.le_refl _) _).grown hg1 (by simp) (fun k hk => by simp [Value.ownBlock] at hk; omega)
  have hgb : w.heap.size ≤ g := by simp [Value.ownBlock] at hlies; omega
  obtain ⟨cur, hg, hc0⟩ : ∃ cur : Array Value, Blk w1 g 157 cur ∧ cur[0]? = some (.func fn f1 f2) := by
    rcases hown1.2 with ⟨h, _⟩ | ⟨g', cap', cur, h, _, hg, _, _, _, htk⟩
    · simp at h
    · simp at h
      obtain ⟨rfl, rfl⟩ := h
      refine ⟨cur, hg, ?_⟩
      have := congrArg (·[0]?) htk
      simpa [List.getElem?_take] using this
  exact ⟨w1.heap.size, g, cap, rfl, hb1.size, hgb, Blk.new w1 244 _, ⟨cur, hg.alloc _, hc0⟩, hb1.alloc hb1.size _⟩
end Go.Proofs.YtieidjlmgalihaaGreatDoor
