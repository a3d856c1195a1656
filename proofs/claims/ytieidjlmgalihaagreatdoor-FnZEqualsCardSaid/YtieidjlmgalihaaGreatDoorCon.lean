/- slices.Concat of two slices of fields. -/
import Derived.Test.YtieidjlmgalihaaGreatDoorFld
import Derived.Lib.AppendZeros
import Derived.Laws.AppendOwnNone
import Derived.Deep.AppendLies
set_option linter.all false
namespace Go.Proofs.YtieidjlmgalihaaGreatDoor
open Go.RowKit
set_option maxRecDepth 100000
open Go.RowKit
set_option maxRecDepth 100000
theorem grow_nil (w : World) : Calls Tryz.prog 118 #[.slice none 0 0, .int .i64 0] w fun e w' => e = .returned (.slice none 0 0) ∧ w = w' := by
  go_enter Tryz.func118, Tryz.ntmps118
  go_wp2
  go_ret
  exact ⟨rfl, rfl⟩
end Go.Proofs.YtieidjlmgalihaaGreatDoor
namespace Go.Proofs.YtieidjlmgalihaaGreatDoor
open Go.RowKit
set_option maxRecDepth 100000
/-- A slice of fields that reads as the cells xs: nil, or some. -/
def SrcF (w : World) (V : Value) (n : Nat) (xs : List Value) : Prop :=
  (n = 0 ∧ V = .slice none 0 0 ∧ xs = []) ∨ (0 < n ∧ ∃ b o c, V = .slice (some ⟨b, o, none⟩) n c ∧ xs.length = n * 5 ∧ (∀ j v, xs[j]? = some v → w.cell? ⟨b, o + j, none⟩ = some v) ∧ (∀ v ∈ xs, v.oneCell' = true) ∧ ∃ cs fz, w.heap[b]? = some (Obj.cells cs 131 fz))
theorem SrcF.below {w w' : World} {V : Value} {n : Nat} {xs : List Value} (h : SrcF w V n xs) (hb : Below w.heap.size w w') : SrcF w' V n xs := by
  rcases h with h | ⟨h0, b, o, c, hV, hl, hc, h1, cs, fz, hk⟩
  · exact .inl h
  · exact .inr ⟨h0, b, o, c, hV, hl, fun j v hj => (hb.cell (p := ⟨b, o + j, none⟩) (World.block_lt_of_cell? w _ (hc j v hj))).trans (hc j v hj), h1, cs, fz, (hb.block b (Array.getElem?_eq_some_iff.1 hk).1).trans hk⟩
theorem SrcF.only {S : Nat → Prop} {w w' : World} {V : Value} {n : Nat} {xs : List Value} (h : SrcF w V n xs) (ho : Only S w w') (hn : ∀ b cs fz, w.heap[b]? = some (Obj.cells cs 131 fz) → ¬ S b) : SrcF w' V n xs := by
  rcases h with h | ⟨h0, b, o, c, hV, hl, hc, h1, cs, fz, hk⟩
  · exact .inl h
  · have hb := (ho.block b (Array.getElem?_eq_some_iff.1 hk).1 (hn b cs fz hk)).trans hk
    refine .inr ⟨h0, b, o, c, hV, hl, fun j v hj => ?_, h1, cs, fz, hb⟩
    rw [cell_of_row w' b (o + j) cs 131 fz hb, ← hc j v hj, cell_of_row w b (o + j) cs 131 fz hk]
theorem SrcF.form {w : World} {V : Value} {n : Nat} {xs : List Value} (h : SrcF w V n xs) : ∃ a c, V = .slice a n c := by
  rcases h with ⟨rfl, hV, _⟩ | ⟨h0, b, o, c, hV, _⟩
  · exact ⟨_, _, hV⟩
  · exact ⟨_, _, hV⟩
theorem src_own {w : World} {B : Nat} {V : Value} {n : Nat} {xs : List Value} (h : w.ownsRow B 131 5 V n xs) (hz : n = 0 → V = .slice none 0 0) (h1 : ∀ v ∈ xs, v.oneCell' = true) : SrcF w V n xs := by
  rcases h.2 with ⟨rfl, rfl⟩ | ⟨g, cap, cur, rfl, _, hg, _, _, _, htk⟩
  · exact .inl ⟨rfl, rfl, List.length_eq_zero_iff.1 (by simpa using h.1)⟩
  · rcases Nat.eq_zero_or_pos n with h0 | h0
    · subst h0
      exact .inl ⟨rfl, hz rfl, List.length_eq_zero_iff.1 (by simpa using h.1)⟩
    · refine .inr ⟨h0, g, 0, cap, rfl, h.1, fun j v hj => ?_, h1, _, _, hg⟩
      rw [cell_of_row w g (0 + j) _ _ _ hg, Nat.zero_add]
      have hlt := (List.getElem?_eq_some_iff.1 hj).1
      have := congrArg (·[j]?) htk
      simp only [List.getElem?_take, hj, if_pos (show j < n * 5 by rw [← h.1]; exact hlt)] at this
      rw [← this]
      simp
theorem one_carr (g : Nat → Fld) : ∀ n, ∀ v ∈ carr g n, v.oneCell' = true
  | 0, v, h => by simp [carr] at h
  | n + 1, v, h => by
    rw [carr, List.mem_append] at h
    rcases h with h | h
    · exact one_carr g n v h
    · exact one_car (g n) v (by simpa using h)
/-- append of a slice of fields, for the walk. -/
theorem wpList_append_src {ops : Array Oper} {rest : List Oper} {o : Oper} {a : Act} {Q : Exit → Act → World → Prop} (hgd : o.guard = none) (s x : Operand)
    (ho : o.op = .call { callee := .builtin .append, args := #[s, x], argTypes := #[148, 148] })
    (w : World) (base : Nat) (v : Value) (n : Nat) (xs : List Value) (hs : a.eval s = v) (hown : w.ownsRow base 131 5 v n xs)
    (V : Value) (m : Nat) (news : List Value) (hx : a.eval x = V) (hsrc : SrcF w V m news) (h63 : n + m ≤ 1000000) (hbase : base ≤ w.heap.size)
    (h : ∀ v' w', w'.ownsRow base 131 5 v' (n + m) (xs ++ news) → Below base w w' → (m = 0 → v' = v) → wpList Tryz.prog ops Q rest (a.put o.dst v') w') : wpList Tryz.prog ops Q (o :: rest) a w := by
  obtain ⟨i, hi, hz0, hz1, hz2⟩ := info_parts info131
  rcases hsrc with ⟨rfl, rfl, rfl⟩ | ⟨h0, b, off, c, rfl, hl, hc, h1, _⟩
  · exact wpList_append_own_none hgd s x 148 ho base 131 i 5 Tryz.underlying148 hi v n xs hs hown hx (h v w (by simpa using hown) (Below.refl _ _) (fun _ => rfl))
  · refine wpList_append_lies w hgd s x 148 ho base 131 i _ 5 64 Tryz.underlying148 hi hz0 hz1 hz2 rfl (by decide) v n xs hs hown ⟨b, off, none⟩ m c news hx hl ?_ h1 h0 (by unfold maxLen; omega) (by omega) hbase _ rfl ?_
    · intro j u hj
      rw [Go.WideShapes.add_plain]
      exact hc j u hj
    · intro g cap w' ho' hg' _ _
      refine h _ w' ho' (((Only.refl (fun k => v.ownBlock = some k) w).grown hg' (fun k hk => .inl hk)).below hbase (fun k hk e => by have := (hown.lt k e).1; omega)) (fun h => by omega)
/-- slices.Grow of nil. -/
def GrowPost (w : World) (N : Nat) (e : Ending) (w' : World) : Prop := ∃ V, e = .returned V ∧ w'.ownsRow w.heap.size 131 5 V 0 [] ∧ Below w.heap.size w w' ∧ (N = 0 → V = .slice none 0 0)
set_option maxHeartbeats 1000000 in
theorem grow_n (w : World) (N : Nat) (hN : N ≤ 1000000) : Calls Tryz.prog 118 #[.slice none 0 0, .int .i64 (N : Int)] w (GrowPost w N) := by
  rcases Nat.eq_zero_or_pos N with h0 | h0
  · subst h0
    exact (grow_nil w).mono fun e w' ⟨h1, h2⟩ => by subst h2; exact ⟨_, h1, World.ownsRow_nil _ _ _ _, Below.refl _ _, fun _ => rfl⟩
  · obtain ⟨i, hi, hz0, hz1, hz2⟩ := info_parts info131
    have hrun := Lib.run_append_nil_zeros (P := Tryz.prog) w 148 3 148 131 i _ .i64 .i64 Tryz.underlying148 Tryz.underlying3 hi hz0 N h0 (by omega) (by omega) (by rw [hz2]; omega)
    obtain ⟨G, hG⟩ : ∃ G, G = grownCap w N 0 131 := ⟨_, rfl⟩
    have hG1 : N ≤ G := by rw [hG]; exact grownCap_ge w _ _ _
    have hG2 : G ≤ maxLen := by rw [hG]; exact grownCap_le_maxLen w _ _ _ (by unfold maxLen; omega)
    rw [← hG] at hrun
    clear hG hi hz0 hz1 hz2
    have hmade : ∀ cells : Array Value, cells.size = G * 5 → (w.drew.alloc (.cells cells 131)).ownsRow w.heap.size 131 5 (.slice (some ⟨w.heap.size, 0, none⟩) 0 G) 0 [] := fun cells hc => ⟨by simp, .inr ⟨w.heap.size, G, cells, rfl, Nat.le_refl _, heap_alloc_new w.drew _, Nat.zero_le _, hG2, hc, by simp⟩⟩
    have HM := Lib.hid hmade
    have HR := Lib.hid hrun
    clear hrun hmade
    unfold maxLen at hG2
    go_enter Tryz.func118, Tryz.ntmps118
    go_wp2_with (at_builtin; go_must (refine Lib.wpList_append_run w rfl (.tmp 20) (.tmp 21) 148 3 rfl _ _ rfl rfl _ _ HR.out ?_))
    go_ret
    refine ⟨_, rfl, HM.out _ ?_, ((Below.refl _ _).drew).alloc (Nat.le_refl _) _, fun h => by omega⟩
    simp [Builtin.zeroCells, Value.cells]
    omega
/-- What Concat of two leaves. -/
def CatPost (w : World) (n : Nat) (xs : List Value) (e : Ending) (w' : World) : Prop := ∃ V, e = .returned V ∧ w'.ownsRow w.heap.size 131 5 V n xs ∧ Below w.heap.size w w' ∧ (n = 0 → V = .slice none 0 0)
set_option maxHeartbeats 4000000 in
theorem concat_two (w : World) (bp : Nat) (V1 V2 : Value) (n1 n2 : Nat) (xs1 xs2 : List Value) (h1 : SrcF w V1 n1 xs1) (h2 : SrcF w V2 n2 xs2) (c0 : w.cell? ⟨bp, 0, none⟩ = some V1) (c1 : w.cell? ⟨bp, 1, none⟩ = some V2) (hn1 : n1 ≤ 400000) (hn2 : n2 ≤ 400000) :
    Calls Tryz.prog 77 #[.slice (some ⟨bp, 0, none⟩) 2 2] w (CatPost w (n1 + n2) (xs1 ++ xs2)) := by
  obtain ⟨A1, d1, rfl⟩ := h1.form
  obtain ⟨A2, d2, rfl⟩ := h2.form
  have hlt := World.block_lt_of_cell? w _ c0
  have H := Lib.hid (And.intro h1 h2)
  have HC := Lib.hid (And.intro c0 c1)
  clear h1 h2
  go_enter Tryz.func77, Tryz.ntmps77
  go_wp2_with fail
  refine wp_loop_rounds 3 ?_
  repeat any_goals (rw [rounds_succ]; go_wp2_with (go_at_call 118; go_must (refine (grow_n w (n1 + n2) (by omega)).mono ?_; rintro e w1 ⟨V, rfl, hown, hb1, hz1⟩)))
  have e0 : w1.cell? ⟨bp, 0, none⟩ = some (.slice A1 n1 d1) := (hb1.cell (p := ⟨bp, 0, none⟩) hlt).trans HC.out.1
  have e1 : w1.cell? ⟨bp, 1, none⟩ = some (.slice A2 n2 d2) := (hb1.cell (p := ⟨bp, 1, none⟩) hlt).trans HC.out.2
  have HZ1 := Lib.hid hz1
  clear hz1
  refine wp_loop_rounds 3 ?_
  rw [rounds_succ]
  go_wp2_with (at_builtin; go_must (refine wpList_append_src rfl (.tmp 31) (.tmp 32) rfl w1 w.heap.size V 0 [] rfl hown (.slice A1 n1 d1) n1 xs1 rfl (H.out.1.below hb1) (by omega) hb1.size ?_; intro V2 w2 hown2 hb2 hz2; have f1 : w2.cell? ⟨bp, 1, none⟩ = some (.slice A2 n2 d2) := ((hb1.trans hb2).cell (p := ⟨bp, 1, none⟩) hlt).trans HC.out.2; have HZ2 := Lib.hid hz2; clear hz2; simp only [Nat.zero_add, List.nil_append] at hown2))
  rw [rounds_succ]
  go_wp2_with (at_builtin; go_must (refine wpList_append_src rfl (.tmp 31) (.tmp 32) rfl w2 w.heap.size V2 n1 xs1 rfl hown2 (.slice A2 n2 d2) n2 xs2 rfl (H.out.2.below (hb1.trans hb2)) (by omega) (hb1.trans hb2).size ?_; intro V3 w3 hown3 hb3 hz3; have HZ3 := Lib.hid hz3; clear hz3))
  rw [rounds_succ]
  go_wp2_with fail
  go_ret
  refine ⟨_, rfl, hown3, (hb1.trans hb2).trans hb3, fun h => ?_⟩
  rw [HZ3.out (by omega), HZ2.out (by omega), HZ1.out (by omega)]
  rfl
end Go.Proofs.YtieidjlmgalihaaGreatDoor
