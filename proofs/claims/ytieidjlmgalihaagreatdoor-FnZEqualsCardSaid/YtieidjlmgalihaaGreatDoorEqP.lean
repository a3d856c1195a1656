/- zzFits11. -/
import Derived.Test.YtieidjlmgalihaaGreatDoorEqH
import Derived.Test.YtieidjlmgalihaaGreatDoorBas
set_option linter.all false
namespace Go.Proofs.YtieidjlmgalihaaGreatDoor
open Go.RowKit
set_option maxRecDepth 100000
/-- What zzFits11 answers. -/
def Fits11 (f : Fld) (w : World) (e : Ending) (w' : World) : Prop := ∃ bo : Bool, e = .returned (.bool bo) ∧ Below w.heap.size w w' ∧ (bo = true → f.bn ≤ 2147483647 ∧ f.ilen ≤ 2147483647)
theorem fits10_some (w : World) (z : Bool) (n o : Int) (s : ByteArray) : Calls Tryz.prog 13 #[.agg #[.bool z, .int .i64 n, .int .i64 o, .string s]] w (SomeBool w) := by
  go_enter Tryz.func13, Tryz.ntmps13
  go_wp2_with fail
  all_goals (go_ret; exact ⟨_, rfl, by go_grown⟩)
set_option maxHeartbeats 4000000 in
theorem fits11_any (w : World) (f : Fld) (h1 : f.bn ≤ maxLen) (h2 : f.ilen ≤ maxLen) : Calls Tryz.prog 19 #[.agg f.arr] w (Fits11 f w) := by
  unfold maxLen at h1 h2
  obtain ⟨kind, key, width, int, uint, re, im, text, bA, bn, bc, zero, nanos, offset, zone, iA, ilen, ic, fail⟩ := f
  simp only at h1 h2
  go_enter Tryz.func19, Tryz.ntmps19
  go_wp2_with (go_at_call 13; go_must (refine (fits10_some _ zero nanos offset zone).mono ?_; rintro e w1 ⟨bb, rfl, hb1⟩; have B0 := (Blk.new w 39 _).here hb1; have p10 := B0.cell 13; have p11 := B0.cell 14; simp only [Fld.arr, List.getElem?_toArray, List.getElem?_cons_zero, List.getElem?_cons_succ] at p10 p11; have hB : Below w.heap.size w w1 := Below.trans (by go_grown) (hb1.mono (by simp)); clear B0 hb1; cases bb))
  all_goals first
    | (go_ret; exact ⟨false, rfl, by first | exact hB | go_grown, fun h => by cases h⟩)
    | (go_ret; exact ⟨true, rfl, hB, fun _ => ⟨by simp only; omega, by simp only; omega⟩⟩)
end Go.Proofs.YtieidjlmgalihaaGreatDoor
