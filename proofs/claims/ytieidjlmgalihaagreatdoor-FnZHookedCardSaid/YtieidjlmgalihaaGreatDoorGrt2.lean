/- zGreat: no more than 300 behind a no. -/
import Derived.Test.YtieidjlmgalihaaGreatDoorGrt
namespace Go.Proofs.YtieidjlmgalihaaGreatDoor
open Go.RowKit
set_option maxRecDepth 100000
theorem count_big (w : World) (A : Option Addr) (n c p B : Nat) (h : 300 < n) (hn : n ≤ maxLen) (hb : B ≤ p) (hp : Blk w p 3 #[.int .i64 0]) :
    Calls Tryz.prog 58 #[.slice A n c, .int .i64 30, .pointer (some ⟨p, 0, none⟩)] w fun e w' => e = .returned (.bool true) ∧ Blk w' p 3 #[.int .i64 (n : Int)] ∧ Below B w w' := by
  unfold maxLen at hn
  obtain ⟨c1, f1, l1⟩ := hp.use
  have d1 := c1 0
  simp only [List.getElem?_toArray, List.getElem?_cons_zero] at d1
  have hend := Lib.hid (show Blk (w.setCell ⟨p, 0, none⟩ (.int .i64 (n : Int))) p 3 #[.int .i64 (n : Int)] ∧ Below B w (w.setCell ⟨p, 0, none⟩ (.int .i64 (n : Int))) from ⟨by simpa using hp.set_ 0 (.int .i64 (n : Int)), (Below.refl B w).setCell (p := ⟨p, 0, none⟩) hb _⟩)
  clear c1
  have hI : (300 : Int) < (n : Int) := by omega
  go_enter Tryz.func58, Tryz.ntmps58
  go_wp2_with fail
  go_ret
  exact ⟨rfl, hend.out.1, hend.out.2⟩
/-- zGreat says of more than 300 that they are too many. -/
theorem great_big (w : World) (A : Option Addr) (n c : Nat) (h : 300 < n) (hn : n ≤ maxLen) : Calls Tryz.prog 21 #[.slice A n c] w fun e w' => e = .returned (.bool true) ∧ Below w.heap.size w w' := by
  go_enter Tryz.func21, Tryz.ntmps21
  go_wp2_with (go_at_call 58; go_must (refine (count_big _ A n c w.heap.size w.heap.size h hn (Nat.le_refl _) (Blk.new _ _ _)).mono ?_; rintro e w1 ⟨rfl, hz, hb⟩; have hz0 : w1.cell? ⟨w.heap.size, 0, none⟩ = some (.int .i64 (n : Int)) := hz.cell 0))
  go_ret
  exact ⟨rfl, Below.trans (by go_grown) hb⟩
/-- What zGreat answers. -/
def GreatPost (n : Nat) (w : World) (e : Ending) (w' : World) : Prop := ∃ bo, e = .returned (.bool bo) ∧ Below w.heap.size w w' ∧ (bo = false → n ≤ 300)
theorem great_full (w : World) (A : Option Addr) (n c k : Nat) (g : Nat → Fld) (h : FldsOk k w A n g) : Calls Tryz.prog 21 #[.slice A n c] w (GreatPost n w) := by
  by_cases hn : 300 < n
  · exact (great_big w A n c hn h.1).mono fun e w' ⟨h1, h2⟩ => ⟨_, h1, h2, fun h => by cases h⟩
  · exact (great_any w A n c k g h).mono fun e w' ⟨b, h1, h2⟩ => ⟨b, h1, h2, fun _ => by omega⟩
end Go.Proofs.YtieidjlmgalihaaGreatDoor
