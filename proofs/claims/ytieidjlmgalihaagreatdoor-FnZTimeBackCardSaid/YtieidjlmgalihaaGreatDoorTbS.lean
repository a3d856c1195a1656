/- The reader of JSON: blanks, has, a text of plain bytes. -/
import Derived.Test.YtieidjlmgalihaaGreatDoorTbP
import Derived.Lib.AppendStr
import Derived.Test.YtieidjlmgalihaaGreatDoorTbF
import Derived.BigQuiet
set_option linter.all false
namespace Go.Proofs.YtieidjlmgalihaaGreatDoor
open Go.RowKit Go.PlainAid
set_option maxRecDepth 100000
/-- A reader's block. -/
abbrev jArr (s : ByteArray) (a d : Int) : Array Value := #[.string s, .int .i64 a, .int .i64 d]
set_option maxHeartbeats 4000000 in
theorem blanks_end (w : World) (b : Nat) (s : ByteArray) (d : Int) (hs : s.size ≤ 1000) (hJ : Blk w b 95 (jArr s (s.size : Int) d)) :
    Calls Tryz.prog 48 #[.pointer (some ⟨b, 0, none⟩)] w fun e w' => e = .returned (.tuple #[]) ∧ Below w.heap.size w w' := by
  have k0 := hJ.cell 0
  have k1 := hJ.cell 1
  simp only [List.getElem?_toArray, List.getElem?_cons_zero, List.getElem?_cons_succ] at k0 k1
  have hlt := hJ.lt
  have g0 : decide ((s.size : Int) < (s.size : Int)) = false := by simp
  go_enter Tryz.func48, Tryz.ntmps48
  go_wp2_with fail
  refine wp_loop_rounds 1 ?_
  rw [rounds_succ]
  go_wp2_with fail
  go_quiet (fail)
  go_wp2_with fail
  go_returns
  exact ⟨rfl, below_drewN (Below.refl _ _) nq⟩
set_option maxHeartbeats 4000000 in
theorem blanks_no (w : World) (b : Nat) (s : ByteArray) (a : Nat) (d : Int) (hs : s.size ≤ 1000) (ha : a < s.size) (hJ : Blk w b 95 (jArr s (a : Int) d)) (h0 : bt s a ≠ 32) (h1 : bt s a ≠ 9) (h2 : bt s a ≠ 10) (h3 : bt s a ≠ 13) :
    Calls Tryz.prog 48 #[.pointer (some ⟨b, 0, none⟩)] w fun e w' => e = .returned (.tuple #[]) ∧ Below w.heap.size w w' := by
  have k0 := hJ.cell 0
  have k1 := hJ.cell 1
  simp only [List.getElem?_toArray, List.getElem?_cons_zero, List.getElem?_cons_succ] at k0 k1
  have hlt := hJ.lt
  have hb' := get_bt s
  have g0 : decide ((a : Int) < (s.size : Int)) = true := by simp; exact ha
  have l0 : (a : Int) < (s.size : Int) := by omega
  have e0 : (bt s a == 32) = false := by simpa using h0
  have e1 : (bt s a == 9) = false := by simpa using h1
  have e2 : (bt s a == 10) = false := by simpa using h2
  have e3 : (bt s a == 13) = false := by simpa using h3
  go_enter Tryz.func48, Tryz.ntmps48
  go_wp2_with fail
  refine wp_loop_rounds 1 ?_
  rw [rounds_succ]
  go_wp2_with fail
  go_quiet (fail)
  go_wp2_with fail
  go_returns
  exact ⟨rfl, below_drewN (Below.refl _ _) nq⟩
end Go.Proofs.YtieidjlmgalihaaGreatDoor
