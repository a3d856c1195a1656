/- ZSameFields, to any depth. -/
import Derived.Test.YtieidjlmgalihaaGreatDoorEqK
set_option linter.all false
namespace Go.Proofs.YtieidjlmgalihaaGreatDoor
open Go.RowKit
theorem sameFields_any : ∀ (N : Nat) (w : World) (A A' : Option Addr) (n m c c' : Nat) (l k : List FT), SizeOf.sizeOf l < N → FtsOk w A n l → FtsOk w A' m k → Calls Tryz.prog 33 #[.slice A n c, .slice A' m c'] w (BoolIs (alikeL l k) w)
  | 0, w, A, A', n, m, c, c', l, k, hN, h, h' => by omega
  | N + 1, w, A, A', n, m, c, c', l, k, hN, h, h' => sameFields_round w A A' n m c c' l k h h' (fun q hq hq' W hb => sameFields_any N W _ _ _ _ _ _ _ _ (by have := kid_lt (l := l) (i := q) (by rw [h.2.1]; exact hq); omega)
      (FT.ok_kids (FT.ok_below hb _ (okL_at h.2.2.2 q (by rw [h.2.1]; exact hq)))) (FT.ok_kids (FT.ok_below hb _ (okL_at h'.2.2.2 q (by rw [h'.2.1]; exact hq')))))
end Go.Proofs.YtieidjlmgalihaaGreatDoor
