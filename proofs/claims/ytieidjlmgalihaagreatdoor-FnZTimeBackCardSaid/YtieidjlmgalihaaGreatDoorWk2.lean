/- The closed calls behind zAwake. -/
import Derived.Test.YtieidjlmgalihaaGreatDoorWk1
import Derived.Test.YtieidjlmgalihaaGreatDoorShelf
import Derived.Lib.BufferRead
set_option linter.all false
namespace Go.Proofs.YtieidjlmgalihaaGreatDoor
open Go.RowKit
set_option maxRecDepth 100000
theorem itoa1500 : Lib.itoa 1500 = [49, 53, 48, 48] := by decide +kernel
/-- AppendInt onto nil: a new row with the numeral. -/
theorem appendInt_nil (W : World) (htab : Tab10 W.heap.size W) :
    Calls Tryz.prog 200 #[.slice none 0 0, .int .i64 1500, .int .i64 10] W fun e w' => ∃ g cap, e = .returned (.slice (some ⟨g, 0, none⟩) 4 cap) ∧ (∃ cur : Array Value, w'.heap[g]? = some (.cells cur 5 (0, 0)) ∧ cur.toList.take 4 = Lib.byteCells [49, 53, 48, 48]) ∧ W.heap.size ≤ g ∧ g < w'.heap.size ∧ Below W.heap.size W w' := by
  refine (Tryz.strconv_AppendInt_10 W.heap.size 0 1500 (by omega) (by omega) (.slice none 0 0) [] W (World.ownsRow_nil _ _ _ _) (Nat.le_refl _) (by omega) htab).mono ?_
  rintro e w2 ⟨v2, rfl, hown2, hb2, hk2⟩
  rw [itoa1500] at hown2
  rcases hown2.2 with ⟨_, h0⟩ | ⟨g, cap, cur, hv, hb, hg, _, _, _, htk⟩
  · simp at h0
  · exact ⟨g, cap, by rw [hv]; rfl, ⟨cur, hg, by simpa using htk⟩, hb, (Array.getElem?_eq_some_iff.1 hg).1, hb2⟩
set_option maxHeartbeats 4000000 in
theorem durText_any (w : World) (htab : Tab10 w.heap.size w) : Calls Tryz.prog 46 #[.int .i64 1500, .int .i64 2] w fun e w' => e = .returned (.string ⟨#[49, 53, 48, 48]⟩) ∧ Below w.heap.size w w' := by
  have qn : ∀ (W : World) (f : Fn) (a b : Array Value), (binOp .neq 103 (.func f a b) .nilFunc).run Tryz.prog W = .ok (.bool true) W := fun _ _ _ _ => by kernel_rfl
  go_enter Tryz.func46, Tryz.ntmps46
  go_wp2_with (first
    | (go_at_call 50; refine (config2 _).mono ?_; rintro e w1 ⟨rfl, hb1⟩; have g1 : w1.cell? ⟨w.heap.size, 0, none⟩ = some (.int .i64 1500) := (hb1.cell (p := ⟨w.heap.size, 0, none⟩) (by simp)).trans (by simp [go_sem]); have hz1 : w.heap.size < w1.heap.size := (by have := hb1.size; simp at this; omega); have hL1 := ups hz1)
    | (go_at_call 200; refine (appendInt_nil _ (tabUp htab ?h1 ?h2)).mono ?_; rotate_left; rotate_left; rintro e w2 ⟨g, cap, rfl, hrow, hgB, hgl, hb2⟩; have c2 : w2.cell? ⟨w1.heap.size + 1 + 1, 0, none⟩ = some (.slice none 0 0) := (hb2.cell (p := ⟨w1.heap.size + 1 + 1, 0, none⟩) (by simp)).trans (by simp [go_sem]); have f2 : w2.frozen? ⟨w1.heap.size + 1 + 1, 0, none⟩ = false := (hb2.frozen (p := ⟨w1.heap.size + 1 + 1, 0, none⟩) (by simp)).trans (by simp [go_sem]); have c3 : w2.cell? ⟨w1.heap.size + 1 + 1 + 1, 1, none⟩ = some (.pointer (some ⟨w1.heap.size + 1 + 1, 0, none⟩)) := (hb2.cell (p := ⟨w1.heap.size + 1 + 1 + 1, 1, none⟩) (by simp)).trans (by simp [go_sem]))
    | go_in)
  case h1 =>
    have h0 : Below w.heap.size w w1 := ((Below.refl _ _).alloc (Nat.le_refl _) _).trans (hb1.mono (by simp))
    go_grown
  case h2 => simp; omega
  · obtain ⟨cur, hg, htk⟩ := hrow
    have hne : g ≠ w1.heap.size + 1 + 1 := by simp at hgB; omega
    have hg' : (w2.setCell ⟨w1.heap.size + 1 + 1, 0, none⟩ (.slice (some ⟨g, 0, none⟩) 4 cap)).heap[g]? = some (.cells cur 5 (0, 0)) := (Below.heap_setCell _ _ _ _ hne).trans hg
    have hcv := run_convert_bytes_back (P := Tryz.prog) _ 36 9 5 ⟨g, 0, none⟩ cap [49, 53, 48, 48] Tryz.underlying36 Tryz.underlying5 Tryz.underlying9 (Lib.bytes_of_row hg' htk)
    simp only [List.length_cons, List.length_nil, Nat.zero_add, Nat.reduceAdd] at hcv
    have h0 : Below w.heap.size w w1 := ((Below.refl _ _).alloc (Nat.le_refl _) _).trans (hb1.mono (by simp))
    have h00 : Below w.heap.size w w2 := by
      refine Below.trans ?_ (hb2.mono (by simp; omega))
      go_grown
    clear hb1 hb2 hg' hg htk
    rw [hcv]
    go_simp
    go_wp2
    go_ret
    exact ⟨rfl, h00.setCell (by simp; omega) _⟩
end Go.Proofs.YtieidjlmgalihaaGreatDoor
