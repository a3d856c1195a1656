/- JRead of a text of plain bytes. -/
import Derived.Test.YtieidjlmgalihaaGreatDoorTbW
set_option linter.all false
namespace Go.Proofs.YtieidjlmgalihaaGreatDoor
open Go.RowKit Go.PlainAid
set_option maxRecDepth 100000
set_option maxHeartbeats 8000000 in
theorem jread_is (w : World) (s : ByteArray) (n : Nat) (hs : s.size ≤ 1000) (hn : 1 + n + 1 = s.size) (h34 : bt s 0 = 34) (hL : ∀ i, i < n → 32 ≤ bt s (1 + i) ∧ bt s (1 + i) < 128 ∧ bt s (1 + i) ≠ 34 ∧ bt s (1 + i) ≠ 92) (hq : bt s (1 + n) = 34) :
    Calls Tryz.prog 16 #[.string s] w fun e w' => e = .returned (.tuple #[.agg #[.int .i64 4, .string (s.extract 1 (1 + n)), .slice none 0 0, .slice none 0 0], .bool true]) ∧ Below w.heap.size w w' := by
  have HL := Lib.hid hL
  clear hL
  go_enter Tryz.func16, Tryz.ntmps16
  go_wp2_with fail
  obtain ⟨W1, hW1⟩ : ∃ W1, W1 = ((w.alloc (.cells #[.int .i64 0, .string ⟨#[]⟩, .slice none 0 0, .slice none 0 0] 29)).alloc (.cells (jArr s 0 0) 95)) := ⟨_, rfl⟩
  have J1 : Blk W1 (w.heap.size + 1) 95 (jArr s ((0 : Nat) : Int) 0) := by rw [hW1]; exact Blk.new_at _ 95 _ _ (by simp)
  have R1 : Blk W1 w.heap.size 29 #[.int .i64 0, .string ⟨#[]⟩, .slice none 0 0, .slice none 0 0] := by rw [hW1]; exact (Blk.new w 29 _).alloc _
  have B1 : Below w.heap.size w W1 := by rw [hW1]; go_grown
  rw [← hW1]
  clear hW1
  refine (value_is W1 (w.heap.size + 1) s 0 n hs (by omega) J1 h34 (fun i hi => by have := HL.out i hi; simpa using this) (by simpa using hq)).mono ?_
  rintro e w2 ⟨rfl, o2, J2⟩
  have R2 := R1.only o2 (by omega)
  have B2 : Below w.heap.size w w2 := B1.trans (o2.below B1.size (fun k hk h => by omega))
  clear J1 R1 B1 o2
  rw [show (0 + 1 + n + 1 : Nat) = s.size by omega] at J2
  rw [show 0 + 1 + n = 1 + n by omega, show 0 + 1 = 1 by rfl]
  have lJ := J2.lt
  have HH := Lib.hid (And.intro J2 (And.intro R2 B2))
  clear J2 R2 B2
  generalize hX : s.extract 1 (1 + n) = x
  go_wp2_with fail
  obtain ⟨J2, R2, B2⟩ := HH.out
  clear HH
  obtain ⟨W3, hW3⟩ : ∃ W3, W3 = (w2.alloc (Obj.cells #[Value.int IntKind.i64 4, Value.string x, Value.slice none 0 0, Value.slice none 0 0] 29)) := ⟨_, rfl⟩
  have J3 : Blk W3 (w.heap.size + 1) 95 (jArr s (s.size : Int) 0) := by rw [hW3]; exact J2.alloc _
  have R3 : Blk W3 w.heap.size 29 #[.int .i64 0, .string ⟨#[]⟩, .slice none 0 0, .slice none 0 0] := by rw [hW3]; exact R2.alloc _
  have T3 : Blk W3 w2.heap.size 29 #[.int .i64 4, .string x, .slice none 0 0, .slice none 0 0] := by rw [hW3]; exact Blk.new w2 29 _
  have B3 : Below w.heap.size w W3 := by rw [hW3]; exact B2.alloc B2.size _
  rw [← hW3]
  clear hW3 J2 R2 B2
  refine (blanks_end W3 (w.heap.size + 1) s 0 hs J3).mono ?_
  rintro e w4 ⟨rfl, b4⟩
  have J4 := J3.here b4
  have R4 := R3.here b4
  have T4 := T3.here b4
  have B4 : Below w.heap.size w w4 := B3.trans (b4.mono B3.size)
  clear J3 R3 T3 B3 b4
  have j0 := J4.cell 1
  have t0 := T4.cell 0
  have t1 := T4.cell 1
  have t2 := T4.cell 2
  have t3 := T4.cell 3
  have q0 := R4.cell 0
  have q1 := R4.cell 1
  have q2 := R4.cell 2
  have q3 := R4.cell 3
  have f0 := R4.frozen 0
  have f1 := R4.frozen 1
  have f2 := R4.frozen 2
  have f3 := R4.frozen 3
  simp only [List.getElem?_toArray, List.getElem?_cons_zero, List.getElem?_cons_succ] at j0 t0 t1 t2 t3 q0 q1 q2 q3
  have n1 : ¬ (w.heap.size = w2.heap.size) := by omega
  have n2 : ¬ (w2.heap.size = w.heap.size) := by omega
  have HH := Lib.hid (And.intro J4 (And.intro R4 B4))
  clear J4 R4 T4 B4
  go_wp2_with fail
  go_region_held_law (fun w' => w'.cell? ⟨w.heap.size + 1, 1, none⟩ = some (.int .i64 (s.size : Int)) ∧ w'.cell? ⟨w2.heap.size, 0, none⟩ = some (.int .i64 4) ∧ w'.cell? ⟨w2.heap.size, 1, none⟩ = some (.string x) ∧ w'.cell? ⟨w2.heap.size, 2, none⟩ = some (.slice none 0 0) ∧ w'.cell? ⟨w2.heap.size, 3, none⟩ = some (.slice none 0 0)) (go_keep) (fail)
  obtain ⟨J4, R4, B4⟩ := HH.out
  obtain ⟨W5, hW5⟩ : ∃ W5, W5 = ((((w4.setCell { block := w.heap.size, off := 0 } (Value.int IntKind.i64 4)).setCell { block := w.heap.size, off := 1 } (Value.string x)).setCell { block := w.heap.size, off := 2 } (Value.slice none 0 0)).setCell { block := w.heap.size, off := 3 } (Value.slice none 0 0)).drew := ⟨_, rfl⟩
  have R5 : Blk W5 w.heap.size 29 #[.int .i64 4, .string x, .slice none 0 0, .slice none 0 0] := by
    rw [hW5]
    have := (((R4.set_ 0 (.int .i64 4)).set_ 1 (.string x)).set_ 2 (.slice none 0 0)).set_ 3 (.slice none 0 0)
    simp only [List.setIfInBounds_toArray, List.set_cons_zero, List.set_cons_succ] at this
    exact this.drew
  have B5 : Below w.heap.size w W5 := by rw [hW5]; exact ((((B4.setCell (p := ⟨w.heap.size, 0, none⟩) (Nat.le_refl _) _).setCell (p := ⟨w.heap.size, 1, none⟩) (Nat.le_refl _) _).setCell (p := ⟨w.heap.size, 2, none⟩) (Nat.le_refl _) _).setCell (p := ⟨w.heap.size, 3, none⟩) (Nat.le_refl _) _).drew
  rw [← hW5]
  clear hW5 J4 R4 B4 HH q0 q1 q2 q3 f0 f1 f2 f3
  have q0 := R5.cell 0
  have q1 := R5.cell 1
  have q2 := R5.cell 2
  have q3 := R5.cell 3
  simp only [List.getElem?_toArray, List.getElem?_cons_zero, List.getElem?_cons_succ] at q0 q1 q2 q3
  go_wp2_with fail
  refine bodyPost_ret (v := .tuple #[.agg #[.int .i64 4, .string x, .slice none 0 0, .slice none 0 0], .bool true]) (by simp [results, Tryz.results16, go_sem, q0, q1, q2, q3]) rfl ⟨by rw [hX], B5⟩
end Go.Proofs.YtieidjlmgalihaaGreatDoor
