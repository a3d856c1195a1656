/- bytes.Buffer in a struct: Len, Bytes, Reset. -/
import Derived.Test.YtieidjlmgalihaaGreatDoorKit3
import Derived.Lib.BufferAt
namespace Go.Proofs.YtieidjlmgalihaaGreatDoor
open Go.RowKit
set_option maxRecDepth 100000
section
variable {T : TypeId} {R : Nat → Option Value} {B b q : Nat} {bs : List Value} {w : World}
/-- What is known of a buffer's three cells. -/
theorem buf_cells (h : LibA.IsBuffer T R 5 B b q bs w) : ∃ a cap lr, bs.length ≤ maxLen ∧ bs.length ≤ cap ∧ w.cell? ⟨b, q, none⟩ = some (.slice a bs.length cap) ∧ w.cell? ⟨b, q + 1, none⟩ = some (.int .i64 0) ∧ w.cell? ⟨b, q + 2, none⟩ = some (.int .i8 lr) ∧ (∀ i, w.frozen? ⟨b, i, none⟩ = false) ∧
    ∀ j v, bs[j]? = some v → ∃ g, a = some ⟨g, 0, none⟩ ∧ w.cell? ⟨g, j, none⟩ = some v := by
  obtain ⟨hB, lr, hc⟩ := h.cases
  rcases hc with ⟨rfl, hbk⟩ | ⟨g, cap, cur, hbk, hBg, hg, hnc, hcm, hcs, htk, hgb⟩
  · exact ⟨none, 0, lr, by simp [maxLen], Nat.le_refl _, hbk.c0, hbk.c1, hbk.c2, hbk.f, fun j v hj => by simp at hj⟩
  · refine ⟨_, cap, lr, Nat.le_trans hnc hcm, hnc, hbk.c0, hbk.c1, hbk.c2, hbk.f, fun j v hj => ⟨g, rfl, ?_⟩⟩
    rw [cell_of_row w g j _ _ _ hg]
    have h1 := congrArg (·[j]?) htk
    have hlt := (List.getElem?_eq_some_iff.1 hj).1
    simp only [List.getElem?_take, hlt, if_true] at h1
    rw [← hj, ← h1]
    simp
end
theorem bufLen (w : World) {T : TypeId} {R : Nat → Option Value} {B b q : Nat} {bs : List Value} (h : LibA.IsBuffer T R 5 B b q bs w) :
    Calls Tryz.prog 158 #[.pointer (some ⟨b, q, none⟩)] w fun e w' => e = .returned (.int .i64 bs.length) ∧ w.drew = w' := by
  obtain ⟨a, cap, lr, hm, hc, c0, c1, c2, hf, hread⟩ := buf_cells h
  unfold maxLen at hm
  clear h hread hf c2
  go_enter Tryz.func158, Tryz.ntmps158
  go_wp2
  go_region_held3 (fun w' => w'.cell? ⟨b, q, none⟩ = some (.slice a bs.length cap) ∧ w'.cell? ⟨b, q + 1, none⟩ = some (.int .i64 0)) (go_keep) (fail)
  all_goals (go_wp2; go_ret; exact ⟨congrArg (fun x => Ending.returned (.int .i64 x)) (IntWalk.i64_in (bs.length : Int) (by omega)), rfl⟩)
def BufBytes (bs : List Value) (w : World) (e : Ending) (w' : World) : Prop :=
  (∃ a c, e = .returned (.slice a bs.length c) ∧ bs.length ≤ c ∧ ∀ j v, bs[j]? = some v → ∃ g, a = some ⟨g, 0, none⟩ ∧ w.cell? ⟨g, j, none⟩ = some v) ∧ w.drew = w'
theorem bufBytes (w : World) {T : TypeId} {R : Nat → Option Value} {B b q : Nat} {bs : List Value} (h : LibA.IsBuffer T R 5 B b q bs w) :
    Calls Tryz.prog 160 #[.pointer (some ⟨b, q, none⟩)] w (BufBytes bs w) := by
  obtain ⟨a, cap, lr, hm, hc, c0, c1, c2, hf, hread⟩ := buf_cells h
  unfold maxLen at hm
  clear h hf c2
  have H := Lib.hid hread
  clear hread
  have hz : a = none ∨ ∃ g, a = some g := by cases a <;> simp
  go_enter Tryz.func160, Tryz.ntmps160
  go_wp2
  go_region_held3 (fun w' => w'.cell? ⟨b, q, none⟩ = some (.slice a bs.length cap) ∧ w'.cell? ⟨b, q + 1, none⟩ = some (.int .i64 0)) (go_keep) (fail)
  all_goals (go_wp2; go_ret; exact ⟨⟨_, _, rfl, hc, H.out⟩, rfl⟩)
theorem bufReset (w : World) {T : TypeId} {R : Nat → Option Value} {B b q : Nat} {bs : List Value} (h : LibA.IsBuffer T R 5 B b q bs w) :
    Calls Tryz.prog 161 #[.pointer (some ⟨b, q, none⟩)] w fun e w' => e = .returned (.tuple #[]) ∧ LibA.IsBuffer T R 5 B b q [] w' ∧ Only (fun k => k = b) w w' := by
  have ho : ∀ (x y z : Value), Only (fun k => k = b) w (((w.setCell ⟨b, q, none⟩ x).setCell ⟨b, q + 1, none⟩ y).setCell ⟨b, q + 2, none⟩ z) := fun x y z => (((Only.refl (fun k => k = b) w).setCell (.inl rfl) x).setCell (.inl rfl) y).setCell (.inl rfl) z
  obtain ⟨hB, lr, hc⟩ := h.cases
  rcases hc with ⟨rfl, hbk⟩ | ⟨g, cap, cur, hbk, hBg, hg, hnc, hcm, hcs, htk, hgb⟩
  · have c0 := hbk.c0
    have c1 := hbk.c1
    have c2 := hbk.c2
    have hf := hbk.f
    have hend : LibA.IsBuffer T R 5 B b q [] (((w.setCell ⟨b, q, none⟩ (.slice none 0 0)).setCell ⟨b, q + 1, none⟩ (.int .i64 0)).setCell ⟨b, q + 2, none⟩ (.int .i8 0)) := LibA.zero_isBuffer hB (((hbk.set0 _).set1 _).set2 _)
    have H := Lib.hid (And.intro hend ho)
    clear h hbk ho hend
    go_enter Tryz.func161, Tryz.ntmps161
    go_wp2
    go_returns
    exact ⟨rfl, H.out.1, H.out.2 _ _ _⟩
  · have c0 := hbk.c0
    have c1 := hbk.c1
    have c2 := hbk.c2
    have hf := hbk.f
    have hend : LibA.IsBuffer T R 5 B b q [] (((w.setCell ⟨b, q, none⟩ (.slice (some ⟨g, 0, none⟩) 0 cap)).setCell ⟨b, q + 1, none⟩ (.int .i64 0)).setCell ⟨b, q + 2, none⟩ (.int .i8 0)) := by
      have hgf : ∀ (x y z : Value), (((w.setCell ⟨b, q, none⟩ x).setCell ⟨b, q + 1, none⟩ y).setCell ⟨b, q + 2, none⟩ z).heap[g]? = some (.cells cur 5 (0, 0)) := fun x y z => by
        rw [Below.heap_setCell _ _ _ _ hgb, Below.heap_setCell _ _ _ _ hgb, Below.heap_setCell _ _ _ _ hgb]
        exact hg
      have h1 := LibA.isBuffer_mk (R := R) (n := 0) hB (((hbk.set0 (.slice (some ⟨g, 0, none⟩) 0 cap)).set1 (.int .i64 0)).set2 (.int .i8 0)) hBg (hgf _ _ _) (Nat.zero_le _) hcm hcs hgb
      simpa using h1
    have H := Lib.hid (And.intro hend ho)
    unfold maxLen at hcm
    clear h hbk ho hend htk hgb
    go_enter Tryz.func161, Tryz.ntmps161
    go_wp2
    go_returns
    exact ⟨rfl, H.out.1, H.out.2 _ _ _⟩
end Go.Proofs.YtieidjlmgalihaaGreatDoor
