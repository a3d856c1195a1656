/- FnZIncreases answers true. -/
import Derived.Test.YtieidjlmgalihaaGreatDoorCoAm
import Derived.Test.YtieidjlmgalihaaGreatDoorWk3
set_option linter.all false
namespace Go.Proofs.YtieidjlmgalihaaGreatDoor
open Go.RowKit
set_option maxRecDepth 100000
set_option maxHeartbeats 8000000 in
theorem increases_true (kf dk : Nat) (w : World) (a : Arg) (low high : Int) (A1 A2 : Option Addr) (n1 c1 n2 c2 : Nat) (es : Nat → Ent) (fs : Nat → FRow) (ha : CorAt kf dk w a) (hg : Giv kf w A1 n1 es A2 n2 fs) (htab : Tab10 w.heap.size w) :
    Calls Tryz.prog 9 #[.agg a.arr, .int .i64 low, .int .i64 high, .slice A1 n1 c1, .slice A2 n2 c2] w fun e w' => e = .returned (.bool true) ∧ Below w.heap.size w w' := by
  cases a with
  | nil => cases dk <;> exact ha.elim
  | mk kind lev kA kn kc fA fn fc kid fld =>
  have hn2 := hg.le2
  unfold maxLen at hn2
  have H := Lib.hid (And.intro ha (And.intro hg htab))
  clear ha hg htab
  show Calls Tryz.prog 9 #[.agg #[.int .i64 kind, .int .i64 lev, .slice kA kn kc, .slice fA fn fc], .int .i64 low, .int .i64 high, .slice A1 n1 c1, .slice A2 n2 c2] w _
  by_cases hr : (2147483647 : Int) < (n2 : Int) ∨ low < -1 ∨ high < low ∨ 5 < high
  · rcases (by omega : (2147483647 : Int) < (n2 : Int) ∨ ((n2 : Int) ≤ 2147483647 ∧ low < -1) ∨ ((n2 : Int) ≤ 2147483647 ∧ -1 ≤ low ∧ high < low) ∨ ((n2 : Int) ≤ 2147483647 ∧ -1 ≤ low ∧ low ≤ high ∧ 5 < high)) with g | ⟨g, g1⟩ | ⟨g, g1, g2⟩ | ⟨g, g1, g2, g3⟩
    all_goals clear hr
    all_goals go_enter Tryz.func9, Tryz.ntmps9
    all_goals go_wp2_with (first
      | (go_at_call 34; go_must (refine (fits16_any _ kind lev kA fA kn kc fn fc).mono ?_; rintro en w1 ⟨ok, rfl, hb1⟩; have Q := Lib.hid (bx_first hb1); clear hb1; obtain ⟨q0, q1, q2, q3, ql⟩ := Q.out.cells; cases ok))
      | (go_at_call 24; go_must (refine (fits8_any _ A1 n1 c1 es H.out.2.1.le1 (H.out.2.1.ents.below Q.out.2)).mono ?_; rintro en w1 ⟨ok, rfl, hb1⟩; replace Q := Lib.hid (Q.out.up hb1); clear hb1 q0 q1 q2 q3 ql; obtain ⟨q0, q1, q2, q3, ql⟩ := Q.out.cells; cases ok))
      | (go_at_call 35; go_must (refine (looked_any kf dk _ (.mk kind lev kA kn kc fA fn fc kid fld) A1 A2 n1 c1 n2 c2 fs (H.out.1.below Q.out.2) H.out.2.1.le1 H.out.2.1.le2 (H.out.2.1.rows.below Q.out.2) (fun i hi => (H.out.2.1.flds i hi).below Q.out.2)).mono ?_; rintro en w1 ⟨bo, rfl, hb1, -⟩; replace Q := Lib.hid (Q.out.up hb1); clear hb1 q0 q1 q2 q3 ql; cases bo))
      | (go_at_call 15; go_must (refine (awake_any _ (tabUp H.out.2.2 Q.out.2 Q.out.2.size)).mono ?_; rintro en w2 ⟨rfl, hb2⟩; replace Q := Lib.hid (Q.out.up hb2); clear hb2)))
    all_goals first
      | (go_ret; exact ⟨rfl, Q.out.2⟩)
      | (exfalso; omega)
  · have hr1 : ¬ (2147483647 : Int) < (n2 : Int) := fun h => hr (.inl h)
    have hr2 : -1 ≤ low := by omega
    have hr3 : low ≤ high := by omega
    have hr4 : high ≤ 5 := by omega
    clear hr
    go_enter Tryz.func9, Tryz.ntmps9
    go_wp2_with (first
      | (go_at_call 34; go_must (refine (fits16_any _ kind lev kA fA kn kc fn fc).mono ?_; rintro en w1 ⟨ok, rfl, hb1⟩; have Q := Lib.hid (bx_first hb1); clear hb1; obtain ⟨q0, q1, q2, q3, ql⟩ := Q.out.cells; cases ok))
      | (go_at_call 24; go_must (refine (fits8_any _ A1 n1 c1 es H.out.2.1.le1 (H.out.2.1.ents.below Q.out.2)).mono ?_; rintro en w1 ⟨ok, rfl, hb1⟩; replace Q := Lib.hid (Q.out.up hb1); clear hb1 q0 q1 q2 q3 ql; obtain ⟨q0, q1, q2, q3, ql⟩ := Q.out.cells; cases ok))
      | (go_at_call 35; go_must (refine (looked_any kf dk _ (.mk kind lev kA kn kc fA fn fc kid fld) A1 A2 n1 c1 n2 c2 fs (H.out.1.below Q.out.2) H.out.2.1.le1 H.out.2.1.le2 (H.out.2.1.rows.below Q.out.2) (fun i hi => (H.out.2.1.flds i hi).below Q.out.2)).mono ?_; rintro en w1 ⟨bo, rfl, hb1, hbo⟩; replace Q := Lib.hid (Q.out.up hb1); have HL := Lib.hid hbo; clear hb1 hbo q0 q1 q2 q3 ql; obtain ⟨q0, q1, q2, q3, ql⟩ := Q.out.cells; cases bo))
      | (go_at_call 36; go_must (refine (inc_fn _ kind lev _ kA fA kn kc fn fc).mono ?_; rintro en w2 ⟨b1, rfl, hB1, hb2⟩; replace Q := Lib.hid (Q.out.up hb2); have hL := HL.out (by trivial); have LT := (let_of H.out.1 hL).below Q.out.2; have IN := (H.out.2.1.inp hL).below Q.out.2; have K := Lib.hid (And.intro hL (And.intro LT (And.intro IN hB1))); clear hb2 hL LT IN hB1 HL q0 q1 q2 q3 ql))
      | (go_at_call 37; go_must (refine (zWrite_any (kf := kf) (dk := dk + 1) (a := oneArg 2 low (.mk kind lev kA kn kc fA fn fc kid fld) (some ⟨b1, 0, none⟩) none 0 0 (fun _ => default)) (es := es) (fs := fs) 0 0 ⟨one_at K.out.2.1.at_ K.out.2.2.2 flds_none (by omega), by rw [one_cnt (by decide)]; have := K.out.2.1.cnt; omega, by rw [one_sz]; have := K.out.2.1.sz; omega⟩ inp_none).mono ?_; rintro en w3 (⟨hn, rfl, hb3⟩ | ⟨c, seenV, xs, hn, rfl, -, -, hb3⟩) <;> (replace Q := Lib.hid (Q.out.up hb3); have HN := Lib.hid hn; clear hb3 hn; obtain ⟨q0, q1, q2, q3, ql⟩ := Q.out.cells)))
      | (go_at_call 15; go_must (refine (awake_any _ (tabUp H.out.2.2 Q.out.2 Q.out.2.size)).mono ?_; rintro en w2 ⟨rfl, hb2⟩; replace Q := Lib.hid (Q.out.up hb2); clear hb2)))
    all_goals first
      | (go_ret; exact ⟨rfl, Q.out.2⟩)
      | skip
    go_region_held3 (fun w' => w'.cell? ⟨w.heap.size, 0, none⟩ = some (.int .i64 kind) ∧ w'.cell? ⟨w.heap.size, 1, none⟩ = some (.int .i64 lev) ∧ w'.cell? ⟨w.heap.size, 2, none⟩ = some (.slice kA kn kc) ∧ w'.cell? ⟨w.heap.size, 3, none⟩ = some (.slice fA fn fc)) (go_keep) (first
      | (go_at_call 36; go_must (first | ((with_reducible refine (inc_fn _ kind lev low kA fA kn kc fn fc).mono ?_); rintro en wx ⟨bx, rfl, hBx, hbx⟩; replace Q := Lib.hid (by first | exact Q.out.up hbx | exact Q.out.up ((Below.refl _ _).drew.trans hbx)); clear q0 q1 q2 q3 ql; obtain ⟨q0, q1, q2, q3, ql⟩ := Q.out.cells) | ((with_reducible refine (inc_fn _ kind lev high kA fA kn kc fn fc).mono ?_); rintro en wz ⟨bz, rfl, hBz, hbz⟩; replace Q := Lib.hid (by first | exact Q.out.up hbz | exact Q.out.up ((Below.refl _ _).drew.trans hbz)); clear q0 q1 q2 q3 ql; obtain ⟨q0, q1, q2, q3, ql⟩ := Q.out.cells) | ((with_reducible refine (inc_fn _ 2 low high (some ⟨bx, 0, none⟩) none 1 1 0 0).mono ?_); rintro en wy ⟨bv, rfl, hBy, hby⟩; replace Q := Lib.hid (by first | exact Q.out.up hby | exact Q.out.up ((Below.refl _ _).drew.trans hby)); clear q0 q1 q2 q3 ql; obtain ⟨q0, q1, q2, q3, ql⟩ := Q.out.cells)))
      | (go_at_call 38; go_must (have LT := (let_of H.out.1 K.out.1).below Q.out.2; have EN : Env kf _ A1 n1 es A2 n2 fs := ⟨(H.out.2.1.inp K.out.1).below Q.out.2, tabUp H.out.2.2 Q.out.2 Q.out.2.size⟩; have HC := inc_call (kf := kf) (dk := dk) (a := .mk kind lev kA kn kc fA fn fc kid fld) (low := low) (high := high) (es := es) (fs := fs) c1 c2 LT EN hr2 hr3 hr4 (fun h => by have h2 := HN.out; rw [inc_build] at h h2; rw [h] at h2; cases h2) ((hBx.here hby).here hbz) (hBy.here hbz) hBz; refine HC.mono ?_; rintro en w5 ⟨rfl, hb5⟩; have Z := Lib.hid (Q.out.up hb5); clear hb5; have r0 := Z.out.cells; obtain ⟨q0, q1, q2, q3, ql⟩ := r0)))
    go_wp2_with fail
    go_ret
    exact ⟨rfl, Z.out.2⟩
end Go.Proofs.YtieidjlmgalihaaGreatDoor
