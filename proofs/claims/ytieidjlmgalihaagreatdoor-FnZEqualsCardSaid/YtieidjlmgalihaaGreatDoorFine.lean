/- What ZFine asks of a field itself. -/
import Derived.Test.YtieidjlmgalihaaGreatDoorEqT
set_option linter.all false
namespace Go.Proofs.YtieidjlmgalihaaGreatDoor
open Go.RowKit
/-- What ZFine asks of a field itself. -/
structure Fine1 (f : Fld) : Prop where
  lo : 0 ≤ f.kind
  hi : f.kind ≤ 18
  num : f.kind = 2 ∨ f.kind = 3 → f.width = 8 ∨ f.width = 16 ∨ f.width = 32 ∨ f.width = 64
  flo : f.kind = 5 ∨ f.kind = 6 → f.width = 64 ∨ (f.width = 32 ∧ f.re < 4294967296 ∧ f.im < 4294967296)
  tim : f.kind = 11 → f.zero = false
/-- What ZFine answers. -/
def FinePost (l : List FT) (w : World) (e : Ending) (w' : World) : Prop := ∃ bo : Bool, e = .returned (.bool bo) ∧ Below w.heap.size w w' ∧ (bo = true → ∀ i, i < l.length → Fine1 (at_ l i).f)
end Go.Proofs.YtieidjlmgalihaaGreatDoor
