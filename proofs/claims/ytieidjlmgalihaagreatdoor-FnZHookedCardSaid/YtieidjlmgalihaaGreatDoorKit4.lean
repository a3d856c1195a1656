/- Stores of an entry's twelve cells. -/
import Derived.Test.YtieidjlmgalihaaGreatDoorKit
namespace Go.Proofs.YtieidjlmgalihaaGreatDoor
open Go.RowKit
theorem set12 {w : World} {b : Nat} {a0 a1 a2 a3 a4 a5 a6 a7 a8 a9 a10 a11 : Value} (h : ∀ i, w.cell? ⟨b, i, none⟩ = (#[a0, a1, a2, a3, a4, a5, a6, a7, a8, a9, a10, a11] : Array Value)[i]?) (v0 v1 v2 v3 v4 v5 v6 v7 v8 v9 v10 v11 : Value) : ∀ i, (((((((((((((w).setCell ⟨b, 0, none⟩ v0).setCell ⟨b, 1, none⟩ v1).setCell ⟨b, 2, none⟩ v2).setCell ⟨b, 3, none⟩ v3).setCell ⟨b, 4, none⟩ v4).setCell ⟨b, 5, none⟩ v5).setCell ⟨b, 6, none⟩ v6).setCell ⟨b, 7, none⟩ v7).setCell ⟨b, 8, none⟩ v8).setCell ⟨b, 9, none⟩ v9).setCell ⟨b, 10, none⟩ v10).setCell ⟨b, 11, none⟩ v11).cell? ⟨b, i, none⟩ = (#[v0, v1, v2, v3, v4, v5, v6, v7, v8, v9, v10, v11] : Array Value)[i]? := by
  have hc := setC (setC (setC (setC (setC (setC (setC (setC (setC (setC (setC (setC (h) 0 v0) 1 v1) 2 v2) 3 v3) 4 v4) 5 v5) 6 v6) 7 v7) 8 v8) 9 v9) 10 v10) 11 v11
  simp only [List.setIfInBounds_toArray, List.set_cons_zero, List.set_cons_succ] at hc
  exact hc
theorem belowSet12 {B : Nat} {w0 w : World} {b : Nat} (hb : Below B w0 w) (hB : B ≤ b) (v0 v1 v2 v3 v4 v5 v6 v7 v8 v9 v10 v11 : Value) : Below B w0 (((((((((((((w).setCell ⟨b, 0, none⟩ v0).setCell ⟨b, 1, none⟩ v1).setCell ⟨b, 2, none⟩ v2).setCell ⟨b, 3, none⟩ v3).setCell ⟨b, 4, none⟩ v4).setCell ⟨b, 5, none⟩ v5).setCell ⟨b, 6, none⟩ v6).setCell ⟨b, 7, none⟩ v7).setCell ⟨b, 8, none⟩ v8).setCell ⟨b, 9, none⟩ v9).setCell ⟨b, 10, none⟩ v10).setCell ⟨b, 11, none⟩ v11) :=
  ((((((((((((hb).setCell (p := ⟨b, 0, none⟩) hB v0).setCell (p := ⟨b, 1, none⟩) hB v1).setCell (p := ⟨b, 2, none⟩) hB v2).setCell (p := ⟨b, 3, none⟩) hB v3).setCell (p := ⟨b, 4, none⟩) hB v4).setCell (p := ⟨b, 5, none⟩) hB v5).setCell (p := ⟨b, 6, none⟩) hB v6).setCell (p := ⟨b, 7, none⟩) hB v7).setCell (p := ⟨b, 8, none⟩) hB v8).setCell (p := ⟨b, 9, none⟩) hB v9).setCell (p := ⟨b, 10, none⟩) hB v10).setCell (p := ⟨b, 11, none⟩) hB v11

end Go.Proofs.YtieidjlmgalihaaGreatDoor
