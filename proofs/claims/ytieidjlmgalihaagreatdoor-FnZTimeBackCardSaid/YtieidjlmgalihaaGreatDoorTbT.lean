/- The reader of JSON: has. -/
import Derived.Test.YtieidjlmgalihaaGreatDoorTbS
set_option linter.all false
namespace Go.Proofs.YtieidjlmgalihaaGreatDoor
open Go.RowKit Go.PlainAid
set_option maxRecDepth 100000
set_option maxHeartbeats 4000000 in
theorem has_no (w : World) (b : Nat) (s x : ByteArray) (a : Nat) (d : Int) (hs : s.size ≤ 1000) (ha : a < s.size) (hx : x.size = 1) (hJ : Blk w b 95 (jArr s (a : Int) d)) (hne : ((s.extract a (a + 1)).toList == x.toList) = false) :
    Calls Tryz.prog 92 #[.pointer (some ⟨b, 0, none⟩), .string x] w fun e w' => e = .returned (.bool false) ∧ Below w.heap.size w w' := by
  have k0 := hJ.cell 0
  have k1 := hJ.cell 1
  simp only [List.getElem?_toArray, List.getElem?_cons_zero, List.getElem?_cons_succ] at k0 k1
  have hlt := hJ.lt
  have hx' : (x.size : Int) = 1 := by omega
  have g0 : decide ((s.size : Int) - (a : Int) < 1) = false := by simp; omega
  have l0 : (a : Int) + 1 ≤ (s.size : Int) := by omega
  have e0 : ((s.extract a (a + 1)).toList != x.toList) = true := by rw [bne, hne]; rfl
  go_enter Tryz.func92, Tryz.ntmps92
  go_wp2_with fail
  go_quiet (fail)
  go_wp2_with fail
  go_ret
  exact ⟨rfl, below_drewN (Below.refl _ _) nq⟩
set_option maxHeartbeats 4000000 in
theorem has_yes (w : World) (b : Nat) (s x : ByteArray) (a : Nat) (d : Int) (hs : s.size ≤ 1000) (ha : a < s.size) (hx : x.size = 1) (hJ : Blk w b 95 (jArr s (a : Int) d)) (hne : ((s.extract a (a + 1)).toList == x.toList) = true) :
    Calls Tryz.prog 92 #[.pointer (some ⟨b, 0, none⟩), .string x] w fun e w' => e = .returned (.bool true) ∧ Only (fun k => k = b) w w' ∧ Blk w' b 95 (jArr s ((a : Int) + 1) d) := by
  have HJ := Lib.hid hJ
  have k0 := hJ.cell 0
  have k1 := hJ.cell 1
  have f1 := hJ.frozen 1
  simp only [List.getElem?_toArray, List.getElem?_cons_zero, List.getElem?_cons_succ] at k0 k1
  have hlt := hJ.lt
  have hx' : (x.size : Int) = 1 := by omega
  have g0 : decide ((s.size : Int) - (a : Int) < 1) = false := by simp; omega
  have l0 : (a : Int) + 1 ≤ (s.size : Int) := by omega
  have e0 : ((s.extract a (a + 1)).toList != x.toList) = false := by rw [bne, hne]; rfl
  clear hJ
  go_enter Tryz.func92, Tryz.ntmps92
  go_wp2_with fail
  go_quiet (fail)
  go_wp2_with fail
  go_ret
  refine ⟨rfl, (Only.none_of_below (S := fun k => k = b) (below_drewN (Below.refl w.heap.size w) nq)).setCell (p := ⟨b, 1, none⟩) (.inl rfl) _, ?_⟩
  exact (HJ.out.drewN nq).set_ 1 (.int .i64 ((a : Int) + 1))
end Go.Proofs.YtieidjlmgalihaaGreatDoor
