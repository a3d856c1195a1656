/- FnZTees answers true. -/
import Derived.Test.YtieidjlmgalihaaGreatDoorTeesA
import Derived.Test.YtieidjlmgalihaaGreatDoorWk3
set_option linter.all false
namespace Go.Proofs.YtieidjlmgalihaaGreatDoor
open Go.RowKit
set_option maxRecDepth 100000
/-- Three cores' boxes. -/
structure Bx3 (w : World) (x y z : Array Value) (W : World) : Prop where
  one : Blk W w.heap.size 69 x
  two : Blk W (w.heap.size + 1) 69 y
  three : Blk W (w.heap.size + 1 + 1) 69 z
  below : Below w.heap.size w W
theorem Bx3.up {w W W' : World} {x y z : Array Value} (h : Bx3 w x y z W) (hb : Below W.heap.size W W') : Bx3 w x y z W' := ⟨h.one.here hb, h.two.here hb, h.three.here hb, h.below.trans (hb.mono h.below.size)⟩
theorem bx3_first {w w1 : World} {x y z : Array Value} (hb : Below (((w.alloc (.cells x 69)).alloc (.cells y 69)).alloc (.cells z 69)).heap.size (((w.alloc (.cells x 69)).alloc (.cells y 69)).alloc (.cells z 69)) w1) : Bx3 w x y z w1 :=
  Bx3.up (W := ((w.alloc (.cells x 69)).alloc (.cells y 69)).alloc (.cells z 69)) ⟨((Blk.new _ _ _).alloc _).alloc _, (Blk.new_at _ 69 _ _ (by simp)).alloc _, Blk.new_at _ 69 _ _ (by simp), ((((Below.refl _ _).alloc (Nat.le_refl _) _).alloc (by simp) _).alloc (by simp; omega) _)⟩ hb
theorem Bx3.cells {w W : World} {x0 x1 x2 x3 y0 y1 y2 y3 z0 z1 z2 z3 : Value} (h : Bx3 w #[x0, x1, x2, x3] #[y0, y1, y2, y3] #[z0, z1, z2, z3] W) :
    (W.cell? ⟨w.heap.size, 0, none⟩ = some x0 ∧ W.cell? ⟨w.heap.size, 1, none⟩ = some x1 ∧ W.cell? ⟨w.heap.size, 2, none⟩ = some x2 ∧ W.cell? ⟨w.heap.size, 3, none⟩ = some x3) ∧ (W.cell? ⟨w.heap.size + 1, 0, none⟩ = some y0 ∧ W.cell? ⟨w.heap.size + 1, 1, none⟩ = some y1 ∧ W.cell? ⟨w.heap.size + 1, 2, none⟩ = some y2 ∧ W.cell? ⟨w.heap.size + 1, 3, none⟩ = some y3) ∧ (W.cell? ⟨w.heap.size + 1 + 1, 0, none⟩ = some z0 ∧ W.cell? ⟨w.heap.size + 1 + 1, 1, none⟩ = some z1 ∧ W.cell? ⟨w.heap.size + 1 + 1, 2, none⟩ = some z2 ∧ W.cell? ⟨w.heap.size + 1 + 1, 3, none⟩ = some z3) ∧ w.heap.size < W.heap.size ∧ w.heap.size + 1 < W.heap.size ∧ w.heap.size + 1 + 1 < W.heap.size :=
  ⟨⟨h.one.cell 0, h.one.cell 1, h.one.cell 2, h.one.cell 3⟩, ⟨h.two.cell 0, h.two.cell 1, h.two.cell 2, h.two.cell 3⟩, ⟨h.three.cell 0, h.three.cell 1, h.three.cell 2, h.three.cell 3⟩, h.one.lt, h.two.lt, h.three.lt⟩
theorem looked_mk (kf k : Nat) (w : World) (kind lev : Int) (kA fA : Option Addr) (kn kc fn fc : Nat) (kid : Nat → Arg) (fld : Nat → Fld) (A1 A2 : Option Addr) (n1 c1 n2 c2 : Nat) (fs : Nat → FRow) (h : CorAt kf k w (.mk kind lev kA kn kc fA fn fc kid fld)) (hn1 : n1 ≤ maxLen) (hn2 : n2 ≤ maxLen) (hr : RowAt w A2 n2 1 fun i => (fs i).arr) (hF : ∀ i, i < n2 → FldsOk kf w (fs i).A (fs i).n (fs i).g) :
    Calls Tryz.prog 35 #[.agg #[.int .i64 kind, .int .i64 lev, .slice kA kn kc, .slice fA fn fc], .slice A1 n1 c1, .slice A2 n2 c2] w (LookPost (.mk kind lev kA kn kc fA fn fc kid fld) n1 n2 fs w) := looked_any kf k w _ A1 A2 n1 c1 n2 c2 fs h hn1 hn2 hr hF
theorem ex_frame {A : Act} {f : (Nat → Value) → Act} (h : A = f (fun i => A.tmps.getD i undef)) : ∃ e, A = f e := ⟨_, h⟩
theorem wpAnyH_cut {P : Program} {md : Region.Mode} {ops : Array Oper} {Q : Exit → Act → World → Prop} {S : World → Prop} {fuel : Nat} {listed : Array Bool} {a0 : Act} {w0 : World} (R : Act → World → Prop) (fuel' : Nat) (listed' : Array Bool)
    (later : ∀ a w, R a w → S w → wpAnyH P md ops Q S fuel' listed' a w) (now : Hid (∀ a w, R a w → S w → wpAnyH P md ops Q S fuel' listed' a w) → wpAnyH P md ops Q S fuel listed a0 w0) : wpAnyH P md ops Q S fuel listed a0 w0 := now (Lib.hid later)
theorem wpAnyH_swap {P : Program} {md : Region.Mode} {ops : Array Oper} {Q : Exit → Act → World → Prop} {S : World → Prop} {fuel fuel' : Nat} {listed listed' : Array Bool} {a : Act} {w : World} (hl : listed = listed') (hf : fuel = fuel') (h : wpAnyH P md ops Q S fuel' listed' a w) : wpAnyH P md ops Q S fuel listed a w := by
  subst hl hf
  exact h
set_option maxHeartbeats 16000000 in
theorem tees_true (kf dk : Nat) (w : World) (a b c : Arg) (A1 A2 : Option Addr) (n1 c1 n2 c2 : Nat) (es : Nat → Ent) (fs : Nat → FRow) (ha : CorAt kf dk w a) (hb : CorAt kf dk w b) (hc : CorAt kf dk w c) (hg : Giv kf w A1 n1 es A2 n2 fs) (htab : Tab10 w.heap.size w) :
    Calls Tryz.prog 10 #[.agg a.arr, .agg b.arr, .agg c.arr, .slice A1 n1 c1, .slice A2 n2 c2] w fun e w' => e = .returned (.bool true) ∧ Below w.heap.size w w' := by
  cases a with
  | nil => cases dk <;> exact ha.elim
  | mk ka la kAa kna kca fAa fna fca kida flda =>
  cases b with
  | nil => cases dk <;> exact hb.elim
  | mk kb lb kAb knb kcb fAb fnb fcb kidb fldb =>
  cases c with
  | nil => cases dk <;> exact hc.elim
  | mk kc lc kAc knc kcc fAc fnc fcc kidc fldc =>
  have hn2 := hg.le2
  unfold maxLen at hn2
  have H := Lib.hid (And.intro ha (And.intro hb (And.intro hc (And.intro hg htab))))
  clear ha hb hc hg htab
  show Calls Tryz.prog 10 #[.agg #[.int .i64 ka, .int .i64 la, .slice kAa kna kca, .slice fAa fna fca], .agg #[.int .i64 kb, .int .i64 lb, .slice kAb knb kcb, .slice fAb fnb fcb], .agg #[.int .i64 kc, .int .i64 lc, .slice kAc knc kcc, .slice fAc fnc fcc], .slice A1 n1 c1, .slice A2 n2 c2] w _
  by_cases hr : (2147483647 : Int) < (n2 : Int)
  · go_enter Tryz.func10, Tryz.ntmps10
    go_wp2_with (first
      | (go_at_call 34; go_must (first | ((with_reducible refine (fits16_any _ ka la kAa fAa kna kca fna fca).mono ?_); rintro en w1 ⟨ok, rfl, hb1⟩; have Q := Lib.hid (bx3_first hb1); clear hb1; obtain ⟨⟨s0, s1, s2, s3⟩, ⟨t0, t1, t2, t3⟩, ⟨u0, u1, u2, u3⟩, sl, tl, ul⟩ := Q.out.cells; cases ok) | ((with_reducible refine (fits16_any _ kb lb kAb fAb knb kcb fnb fcb).mono ?_); rintro en w1 ⟨ok, rfl, hb1⟩; replace Q := Lib.hid (Q.out.up hb1); clear hb1 s0 s1 s2 s3 t0 t1 t2 t3 u0 u1 u2 u3 sl tl ul; obtain ⟨⟨s0, s1, s2, s3⟩, ⟨t0, t1, t2, t3⟩, ⟨u0, u1, u2, u3⟩, sl, tl, ul⟩ := Q.out.cells; cases ok) | ((with_reducible refine (fits16_any _ kc lc kAc fAc knc kcc fnc fcc).mono ?_); rintro en w1 ⟨ok, rfl, hb1⟩; replace Q := Lib.hid (Q.out.up hb1); clear hb1 s0 s1 s2 s3 t0 t1 t2 t3 u0 u1 u2 u3 sl tl ul; obtain ⟨⟨s0, s1, s2, s3⟩, ⟨t0, t1, t2, t3⟩, ⟨u0, u1, u2, u3⟩, sl, tl, ul⟩ := Q.out.cells; cases ok)))
      | (go_at_call 24; go_must (refine (fits8_any _ A1 n1 c1 es H.out.2.2.2.1.le1 (H.out.2.2.2.1.ents.below Q.out.below)).mono ?_; rintro en w1 ⟨ok, rfl, hb1⟩; replace Q := Lib.hid (Q.out.up hb1); clear hb1 s0 s1 s2 s3 t0 t1 t2 t3 u0 u1 u2 u3 sl tl ul; obtain ⟨⟨s0, s1, s2, s3⟩, ⟨t0, t1, t2, t3⟩, ⟨u0, u1, u2, u3⟩, sl, tl, ul⟩ := Q.out.cells; cases ok)))
    all_goals (go_ret; exact ⟨rfl, Q.out.below⟩)
  · go_enter Tryz.func10, Tryz.ntmps10
    go_wp2_with (first
      | (go_at_call 34; go_must (first | ((with_reducible refine (fits16_any _ ka la kAa fAa kna kca fna fca).mono ?_); rintro en w1 ⟨ok, rfl, hb1⟩; have Q := Lib.hid (bx3_first hb1); clear hb1; obtain ⟨⟨s0, s1, s2, s3⟩, ⟨t0, t1, t2, t3⟩, ⟨u0, u1, u2, u3⟩, sl, tl, ul⟩ := Q.out.cells; cases ok) | ((with_reducible refine (fits16_any _ kb lb kAb fAb knb kcb fnb fcb).mono ?_); rintro en w1 ⟨ok, rfl, hb1⟩; replace Q := Lib.hid (Q.out.up hb1); clear hb1 s0 s1 s2 s3 t0 t1 t2 t3 u0 u1 u2 u3 sl tl ul; obtain ⟨⟨s0, s1, s2, s3⟩, ⟨t0, t1, t2, t3⟩, ⟨u0, u1, u2, u3⟩, sl, tl, ul⟩ := Q.out.cells; cases ok) | ((with_reducible refine (fits16_any _ kc lc kAc fAc knc kcc fnc fcc).mono ?_); rintro en w1 ⟨ok, rfl, hb1⟩; replace Q := Lib.hid (Q.out.up hb1); clear hb1 s0 s1 s2 s3 t0 t1 t2 t3 u0 u1 u2 u3 sl tl ul; obtain ⟨⟨s0, s1, s2, s3⟩, ⟨t0, t1, t2, t3⟩, ⟨u0, u1, u2, u3⟩, sl, tl, ul⟩ := Q.out.cells; cases ok)))
      | (go_at_call 24; go_must (refine (fits8_any _ A1 n1 c1 es H.out.2.2.2.1.le1 (H.out.2.2.2.1.ents.below Q.out.below)).mono ?_; rintro en w1 ⟨ok, rfl, hb1⟩; replace Q := Lib.hid (Q.out.up hb1); clear hb1 s0 s1 s2 s3 t0 t1 t2 t3 u0 u1 u2 u3 sl tl ul; obtain ⟨⟨s0, s1, s2, s3⟩, ⟨t0, t1, t2, t3⟩, ⟨u0, u1, u2, u3⟩, sl, tl, ul⟩ := Q.out.cells; cases ok))
      | (go_at_call 35; go_must (first | ((with_reducible refine (looked_mk kf dk _ ka la kAa fAa kna kca fna fca kida flda A1 A2 n1 c1 n2 c2 fs (H.out.1.below Q.out.below) H.out.2.2.2.1.le1 H.out.2.2.2.1.le2 (H.out.2.2.2.1.rows.below Q.out.below) (fun i hi => (H.out.2.2.2.1.flds i hi).below Q.out.below)).mono ?_); rintro en w1 ⟨bo, rfl, hb1, hbo⟩; replace Q := Lib.hid (Q.out.up hb1); have HLa := Lib.hid hbo; clear hb1 hbo s0 s1 s2 s3 t0 t1 t2 t3 u0 u1 u2 u3 sl tl ul; obtain ⟨⟨s0, s1, s2, s3⟩, ⟨t0, t1, t2, t3⟩, ⟨u0, u1, u2, u3⟩, sl, tl, ul⟩ := Q.out.cells; cases bo) | ((with_reducible refine (looked_mk kf dk _ kb lb kAb fAb knb kcb fnb fcb kidb fldb A1 A2 n1 c1 n2 c2 fs (H.out.2.1.below Q.out.below) H.out.2.2.2.1.le1 H.out.2.2.2.1.le2 (H.out.2.2.2.1.rows.below Q.out.below) (fun i hi => (H.out.2.2.2.1.flds i hi).below Q.out.below)).mono ?_); rintro en w1 ⟨bo, rfl, hb1, hbo⟩; replace Q := Lib.hid (Q.out.up hb1); have HLb := Lib.hid hbo; clear hb1 hbo s0 s1 s2 s3 t0 t1 t2 t3 u0 u1 u2 u3 sl tl ul; obtain ⟨⟨s0, s1, s2, s3⟩, ⟨t0, t1, t2, t3⟩, ⟨u0, u1, u2, u3⟩, sl, tl, ul⟩ := Q.out.cells; cases bo) | ((with_reducible refine (looked_mk kf dk _ kc lc kAc fAc knc kcc fnc fcc kidc fldc A1 A2 n1 c1 n2 c2 fs (H.out.2.2.1.below Q.out.below) H.out.2.2.2.1.le1 H.out.2.2.2.1.le2 (H.out.2.2.2.1.rows.below Q.out.below) (fun i hi => (H.out.2.2.2.1.flds i hi).below Q.out.below)).mono ?_); rintro en w1 ⟨bo, rfl, hb1, hbo⟩; replace Q := Lib.hid (Q.out.up hb1); have HLc := Lib.hid hbo; clear hb1 hbo s0 s1 s2 s3 t0 t1 t2 t3 u0 u1 u2 u3 sl tl ul; obtain ⟨⟨s0, s1, s2, s3⟩, ⟨t0, t1, t2, t3⟩, ⟨u0, u1, u2, u3⟩, sl, tl, ul⟩ := Q.out.cells; cases bo)))
      | (go_at_call 15; go_must (refine (awake_any _ (tabUp H.out.2.2.2.2 Q.out.below Q.out.below.size)).mono ?_; rintro en w2 ⟨rfl, hb2⟩; replace Q := Lib.hid (Q.out.up hb2); clear hb2)))
    all_goals first
      | (go_ret; exact ⟨rfl, Q.out.below⟩)
      | skip
    have K := Lib.hid (And.intro (let_of H.out.1 (HLa.out (by trivial))) (And.intro (let_of H.out.2.1 (HLb.out (by trivial))) (And.intro (let_of H.out.2.2.1 (HLc.out (by trivial))) (Env.mk (H.out.2.2.2.1.inp (HLa.out (by trivial))) H.out.2.2.2.2))))
    clear HLa HLb HLc
    refine wp_region_noPanic ?_
    refine wp_region_held_drew (S := fun w' => w'.cell? ⟨w.heap.size, 0, none⟩ = some (.int .i64 ka) ∧ w'.cell? ⟨w.heap.size, 1, none⟩ = some (.int .i64 la) ∧ w'.cell? ⟨w.heap.size, 2, none⟩ = some (.slice kAa kna kca) ∧ w'.cell? ⟨w.heap.size, 3, none⟩ = some (.slice fAa fna fca) ∧ w'.cell? ⟨w.heap.size + 1, 0, none⟩ = some (.int .i64 kb) ∧ w'.cell? ⟨w.heap.size + 1, 1, none⟩ = some (.int .i64 lb) ∧ w'.cell? ⟨w.heap.size + 1, 2, none⟩ = some (.slice kAb knb kcb) ∧ w'.cell? ⟨w.heap.size + 1, 3, none⟩ = some (.slice fAb fnb fcb) ∧ w'.cell? ⟨w.heap.size + 1 + 1, 0, none⟩ = some (.int .i64 kc) ∧ w'.cell? ⟨w.heap.size + 1 + 1, 1, none⟩ = some (.int .i64 lc) ∧ w'.cell? ⟨w.heap.size + 1 + 1, 2, none⟩ = some (.slice kAc knc kcc) ∧ w'.cell? ⟨w.heap.size + 1 + 1, 3, none⟩ = some (.slice fAc fnc fcc)) (by kernel_rfl) (by (try dsimp only); go_keep) (fun hHeld => ?_)
    refine wpAnyH_take (i := 0) (oi := ⟨some 55, .move (.tmp 11), _, _, _, _⟩) (v := ?vt43) rfl (by kernel_rfl) (by kernel_rfl) (by kernel_rfl) (fun _ _ _ h => h) (Or.inl ⟨by rfl, ?yt43⟩) (by assumption) ?rt43
    case yt43 => (intro w hSw; (try dsimp only at hSw); go_simp; first | done | with_reducible rfl)
    try simp only [Act.put, List.setIfInBounds_toArray, List.set_cons_zero, List.set_cons_succ]
    refine wpAnyH_take (i := 1) (oi := ⟨some 56, .load 69 (.tmp 5), _, _, _, _⟩) (v := ?vt44) rfl (by kernel_rfl) (by kernel_rfl) (by kernel_rfl) (fun _ _ _ h => h) (Or.inl ⟨by rfl, ?yt44⟩) (by assumption) ?rt44
    case yt44 => (intro w hSw; (try dsimp only at hSw); go_simp; first | done | with_reducible rfl)
    try simp only [Act.put, List.setIfInBounds_toArray, List.set_cons_zero, List.set_cons_succ]
    refine wpAnyH_take (i := 4) (oi := ⟨some 59, .load 69 (.tmp 5), _, _, _, _⟩) (v := ?vt45) rfl (by kernel_rfl) (by kernel_rfl) (by kernel_rfl) (fun _ _ _ h => h) (Or.inl ⟨by rfl, ?yt45⟩) (by assumption) ?rt45
    case yt45 => (intro w hSw; (try dsimp only at hSw); go_simp; first | done | with_reducible rfl)
    try simp only [Act.put, List.setIfInBounds_toArray, List.set_cons_zero, List.set_cons_succ]
    refine wpAnyH_take (i := 5) (oi := ⟨some 60, .move (.tmp 3), _, _, _, _⟩) (v := ?vt46) rfl (by kernel_rfl) (by kernel_rfl) (by kernel_rfl) (fun _ _ _ h => h) (Or.inl ⟨by rfl, ?yt46⟩) (by assumption) ?rt46
    case yt46 => (intro w hSw; (try dsimp only at hSw); go_simp; first | done | with_reducible rfl)
    try simp only [Act.put, List.setIfInBounds_toArray, List.set_cons_zero, List.set_cons_succ]
    refine wpAnyH_take (i := 6) (oi := ⟨some 61, .move (.tmp 4), _, _, _, _⟩) (v := ?vt47) rfl (by kernel_rfl) (by kernel_rfl) (by kernel_rfl) (fun _ _ _ h => h) (Or.inl ⟨by rfl, ?yt47⟩) (by assumption) ?rt47
    case yt47 => (intro w hSw; (try dsimp only at hSw); go_simp; first | done | with_reducible rfl)
    try simp only [Act.put, List.setIfInBounds_toArray, List.set_cons_zero, List.set_cons_succ]
    refine wpAnyH_ready (rs := [2]) (by kernel_rfl) (by simp) ?_
    refine AllReadyH.cons (o := ⟨some 57, .buildSlice 67 1 #[(0, (.tmp 56))], _, _, _, _⟩) rfl (fun Kx hKx => ?_) AllReadyH.nil
    go_simp
    refine hKx.out _ _ (by (try dsimp only); go_keep) (fun hNew => ?_)
    clear hKx Kx hHeld
    have hHeld := hNew
    clear hNew
    try simp only [Act.put, List.setIfInBounds_toArray, List.set_cons_zero, List.set_cons_succ]
    refine wpAnyH_ready (rs := [3]) (by kernel_rfl) (by simp) ?_
    refine AllReadyH.cons (o := ⟨some 58, .call { callee := .value (.tmp 55), args := #[.tmp 57], argTypes := #[67] }, _, _, _, _⟩) rfl (fun Kx hKx => ?_) AllReadyH.nil
    (go_simp; go_at_call 39; ((with_reducible refine (tee_fn (w1.alloc (.cells #[.int .i64 ka, .int .i64 la, .slice kAa kna kca, .slice fAa fna fca] 69)).drew (some ⟨w1.heap.size, 0, none⟩) 1 1).mono ?_); rintro en r1 ⟨rfl, hb⟩; replace Q := Lib.hid (by first | exact Q.out.up hb | exact Bx3.up (Q.out.up (by go_grown)) hb); have E0 : Blk r1 w1.heap.size 69 #[.int .i64 ka, .int .i64 la, .slice kAa kna kca, .slice fAa fna fca] := (Blk.new _ _ _).drew.here hb; clear hb s0 s1 s2 s3 t0 t1 t2 t3 u0 u1 u2 u3 sl tl ul; obtain ⟨⟨s0, s1, s2, s3⟩, ⟨t0, t1, t2, t3⟩, ⟨u0, u1, u2, u3⟩, sl, tl, ul⟩ := Q.out.cells))
    refine hKx.out _ _ (by (try dsimp only); go_keep) (fun hNew => ?_)
    clear hKx Kx hHeld
    have hHeld := hNew
    clear hNew
    try simp only [Act.put, List.setIfInBounds_toArray, List.set_cons_zero, List.set_cons_succ]
    refine wpAnyH_ready (rs := [7]) (by kernel_rfl) (by simp) ?_
    refine AllReadyH.cons (o := ⟨some 62, .call { callee := .value (.func 38), args := #[.tmp 58, .tmp 59, .tmp 60, .tmp 61], argTypes := #[69, 69, 44, 70] }, _, _, _, _⟩) rfl (fun Kx hKx => ?_) AllReadyH.nil
    (go_simp; go_at_call 38; (have LA := K.out.1.below Q.out.below; have LB := K.out.2.1.below Q.out.below; have LC := K.out.2.2.1.below Q.out.below; have EN := K.out.2.2.2.below Q.out.below; (have HC : Calls Tryz.prog 38 #[.agg (teeV w1.heap.size 1), .agg #[.int .i64 ka, .int .i64 la, .slice kAa kna kca, .slice fAa fna fca], .slice A1 n1 c1, .slice A2 n2 c2] r1 (Good r1) := tee_call1 (kf := kf) (dk := dk) (a := (Arg.mk ka la kAa kna kca fAa fna fca kida flda)) (es := es) (fs := fs) c1 c2 LA EN E0 rfl; (with_reducible refine HC.mono ?_); rintro en v0 ⟨rfl, hb⟩; replace Q := Lib.hid (Q.out.up hb); clear HC hb s0 s1 s2 s3 t0 t1 t2 t3 u0 u1 u2 u3 sl tl ul; obtain ⟨⟨s0, s1, s2, s3⟩, ⟨t0, t1, t2, t3⟩, ⟨u0, u1, u2, u3⟩, sl, tl, ul⟩ := Q.out.cells)))
    refine hKx.out _ _ (by (try dsimp only); go_keep) (fun hNew => ?_)
    clear hKx Kx hHeld
    have hHeld := hNew
    clear hNew
    try simp only [Act.put, List.setIfInBounds_toArray, List.set_cons_zero, List.set_cons_succ]
    refine wpAnyH_take (i := 8) (oi := ⟨some 63, .move (.tmp 62), _, _, _, _⟩) (v := ?vt48) rfl (by kernel_rfl) (by kernel_rfl) (by kernel_rfl) (fun _ _ _ h => h) (Or.inl ⟨by rfl, ?yt48⟩) (by assumption) ?rt48
    case yt48 => (intro w hSw; (try dsimp only at hSw); go_simp; first | done | with_reducible rfl)
    try simp only [Act.put, List.setIfInBounds_toArray, List.set_cons_zero, List.set_cons_succ]
    refine wpAnyH_cut (fun (a : Act) (X : World) => (∃ e : Nat → Value, a = ⟨#[e 0, e 1, e 2, .slice A1 n1 c1, .slice A2 n2 c2, .pointer (some ⟨w.heap.size, 0, none⟩), .pointer (some ⟨w.heap.size + 1, 0, none⟩), .pointer (some ⟨w.heap.size + 1 + 1, 0, none⟩), e 8, e 9, .bool false, .func (.func 39) #[] #[], e 12, e 13, e 14, e 15, e 16, e 17, e 18, e 19, e 20, e 21, e 22, e 23, e 24, e 25, e 26, e 27, e 28, e 29, e 30, e 31, e 32, e 33, e 34, e 35, e 36, e 37, e 38, e 39, e 40, e 41, e 42, e 43, e 44, e 45, e 46, e 47, e 48, e 49, e 50, e 51, e 52, e 53, e 54, e 55, e 56, e 57, e 58, e 59, e 60, e 61, e 62, e 63, e 64, e 65, e 66, e 67, e 68, e 69, e 70, e 71, e 72, e 73, e 74, e 75, e 76, e 77, e 78, e 79, e 80, e 81, e 82, .bool true, e 84, e 85, e 86, e 87, e 88, e 89, e 90, e 91, e 92, e 93, e 94, e 95, e 96, e 97, e 98, e 99, e 100, e 101, e 102], []⟩) ∧ Bx3 w #[.int .i64 ka, .int .i64 la, .slice kAa kna kca, .slice fAa fna fca] #[.int .i64 kb, .int .i64 lb, .slice kAb knb kcb, .slice fAb fnb fcb] #[.int .i64 kc, .int .i64 lc, .slice kAc knc kcc, .slice fAc fnc fcc] X) 20 #[true, true, true, true, true, true, true, true, true, true, true, true, true, true, true, true, true, true, true, true, true, true, true, true, true, true, true, true, true, false, false, false, false, false, false, false, false, false, false, false, false, false, false, false, false, false, false, false, false] ?later ?now
    case later =>
      intro a x0 ha hHeld
      obtain ⟨⟨e, rfl⟩, hQ⟩ := ha
      have Q := Lib.hid hQ
      clear hQ
      obtain ⟨⟨s0, s1, s2, s3⟩, ⟨t0, t1, t2, t3⟩, ⟨u0, u1, u2, u3⟩, sl, tl, ul⟩ := Q.out.cells
      refine wpAnyH_take (i := 29) (oi := ⟨some 84, .move (.tmp 11), _, _, _, _⟩) (v := ?vt1) rfl (by kernel_rfl) (by kernel_rfl) (by kernel_rfl) (fun _ _ _ h => h) (Or.inl ⟨by rfl, ?yt1⟩) (by assumption) ?rt1
      case yt1 => (intro w hSw; (try dsimp only at hSw); go_simp; first | done | with_reducible rfl)
      try simp only [Act.put, List.setIfInBounds_toArray, List.set_cons_zero, List.set_cons_succ]
      refine wpAnyH_take (i := 30) (oi := ⟨some 85, .load 69 (.tmp 5), _, _, _, _⟩) (v := ?vt2) rfl (by kernel_rfl) (by kernel_rfl) (by kernel_rfl) (fun _ _ _ h => h) (Or.inl ⟨by rfl, ?yt2⟩) (by assumption) ?rt2
      case yt2 => (intro w hSw; (try dsimp only at hSw); go_simp; first | done | with_reducible rfl)
      try simp only [Act.put, List.setIfInBounds_toArray, List.set_cons_zero, List.set_cons_succ]
      refine wpAnyH_take (i := 31) (oi := ⟨some 86, .move (.tmp 11), _, _, _, _⟩) (v := ?vt3) rfl (by kernel_rfl) (by kernel_rfl) (by kernel_rfl) (fun _ _ _ h => h) (Or.inl ⟨by rfl, ?yt3⟩) (by assumption) ?rt3
      case yt3 => (intro w hSw; (try dsimp only at hSw); go_simp; first | done | with_reducible rfl)
      try simp only [Act.put, List.setIfInBounds_toArray, List.set_cons_zero, List.set_cons_succ]
      refine wpAnyH_take (i := 32) (oi := ⟨some 87, .load 69 (.tmp 6), _, _, _, _⟩) (v := ?vt4) rfl (by kernel_rfl) (by kernel_rfl) (by kernel_rfl) (fun _ _ _ h => h) (Or.inl ⟨by rfl, ?yt4⟩) (by assumption) ?rt4
      case yt4 => (intro w hSw; (try dsimp only at hSw); go_simp; first | done | with_reducible rfl)
      try simp only [Act.put, List.setIfInBounds_toArray, List.set_cons_zero, List.set_cons_succ]
      refine wpAnyH_take (i := 33) (oi := ⟨some 88, .load 69 (.tmp 7), _, _, _, _⟩) (v := ?vt5) rfl (by kernel_rfl) (by kernel_rfl) (by kernel_rfl) (fun _ _ _ h => h) (Or.inl ⟨by rfl, ?yt5⟩) (by assumption) ?rt5
      case yt5 => (intro w hSw; (try dsimp only at hSw); go_simp; first | done | with_reducible rfl)
      try simp only [Act.put, List.setIfInBounds_toArray, List.set_cons_zero, List.set_cons_succ]
      refine wpAnyH_take (i := 38) (oi := ⟨some 93, .move (.tmp 11), _, _, _, _⟩) (v := ?vt6) rfl (by kernel_rfl) (by kernel_rfl) (by kernel_rfl) (fun _ _ _ h => h) (Or.inl ⟨by rfl, ?yt6⟩) (by assumption) ?rt6
      case yt6 => (intro w hSw; (try dsimp only at hSw); go_simp; first | done | with_reducible rfl)
      try simp only [Act.put, List.setIfInBounds_toArray, List.set_cons_zero, List.set_cons_succ]
      refine wpAnyH_take (i := 39) (oi := ⟨some 94, .load 69 (.tmp 5), _, _, _, _⟩) (v := ?vt7) rfl (by kernel_rfl) (by kernel_rfl) (by kernel_rfl) (fun _ _ _ h => h) (Or.inl ⟨by rfl, ?yt7⟩) (by assumption) ?rt7
      case yt7 => (intro w hSw; (try dsimp only at hSw); go_simp; first | done | with_reducible rfl)
      try simp only [Act.put, List.setIfInBounds_toArray, List.set_cons_zero, List.set_cons_succ]
      refine wpAnyH_take (i := 40) (oi := ⟨some 95, .load 69 (.tmp 6), _, _, _, _⟩) (v := ?vt8) rfl (by kernel_rfl) (by kernel_rfl) (by kernel_rfl) (fun _ _ _ h => h) (Or.inl ⟨by rfl, ?yt8⟩) (by assumption) ?rt8
      case yt8 => (intro w hSw; (try dsimp only at hSw); go_simp; first | done | with_reducible rfl)
      try simp only [Act.put, List.setIfInBounds_toArray, List.set_cons_zero, List.set_cons_succ]
      refine wpAnyH_take (i := 41) (oi := ⟨some 96, .load 69 (.tmp 7), _, _, _, _⟩) (v := ?vt9) rfl (by kernel_rfl) (by kernel_rfl) (by kernel_rfl) (fun _ _ _ h => h) (Or.inl ⟨by rfl, ?yt9⟩) (by assumption) ?rt9
      case yt9 => (intro w hSw; (try dsimp only at hSw); go_simp; first | done | with_reducible rfl)
      try simp only [Act.put, List.setIfInBounds_toArray, List.set_cons_zero, List.set_cons_succ]
      refine wpAnyH_take (i := 44) (oi := ⟨some 99, .move (.tmp 3), _, _, _, _⟩) (v := ?vt10) rfl (by kernel_rfl) (by kernel_rfl) (by kernel_rfl) (fun _ _ _ h => h) (Or.inl ⟨by rfl, ?yt10⟩) (by assumption) ?rt10
      case yt10 => (intro w hSw; (try dsimp only at hSw); go_simp; first | done | with_reducible rfl)
      try simp only [Act.put, List.setIfInBounds_toArray, List.set_cons_zero, List.set_cons_succ]
      refine wpAnyH_take (i := 45) (oi := ⟨some 100, .move (.tmp 4), _, _, _, _⟩) (v := ?vt11) rfl (by kernel_rfl) (by kernel_rfl) (by kernel_rfl) (fun _ _ _ h => h) (Or.inl ⟨by rfl, ?yt11⟩) (by assumption) ?rt11
      case yt11 => (intro w hSw; (try dsimp only at hSw); go_simp; first | done | with_reducible rfl)
      try simp only [Act.put, List.setIfInBounds_toArray, List.set_cons_zero, List.set_cons_succ]
      refine wpAnyH_ready (rs := [34, 42]) (by kernel_rfl) (by simp) ?_
      refine AllReadyH.cons (o := ⟨some 89, .buildSlice 67 2 #[(0, (.tmp 87)), (1, (.tmp 88))], _, _, _, _⟩) rfl (fun Kx hKx => ?_) (AllReadyH.cons (o := ⟨some 97, .buildSlice 67 3 #[(0, (.tmp 94)), (1, (.tmp 95)), (2, (.tmp 96))], _, _, _, _⟩) rfl (fun Kx hKx => ?_) AllReadyH.nil)
      · go_simp
        refine hKx.out _ _ (by (try dsimp only); go_keep) (fun hNew => ?_)
        clear hKx Kx hHeld
        have hHeld := hNew
        clear hNew
        try simp only [Act.put, List.setIfInBounds_toArray, List.set_cons_zero, List.set_cons_succ]
        refine wpAnyH_ready (rs := [35, 42]) (by kernel_rfl) (by simp) ?_
        refine AllReadyH.cons (o := ⟨some 90, .call { callee := .value (.tmp 86), args := #[.tmp 89], argTypes := #[67] }, _, _, _, _⟩) rfl (fun Kx hKx => ?_) (AllReadyH.cons (o := ⟨some 97, .buildSlice 67 3 #[(0, (.tmp 94)), (1, (.tmp 95)), (2, (.tmp 96))], _, _, _, _⟩) rfl (fun Kx hKx => ?_) AllReadyH.nil)
        · (go_simp; go_at_call 39; ((with_reducible refine (tee_fn (x0.alloc (.cells #[.int .i64 kb, .int .i64 lb, .slice kAb knb kcb, .slice fAb fnb fcb, .int .i64 kc, .int .i64 lc, .slice kAc knc kcc, .slice fAc fnc fcc] 69)) (some ⟨x0.heap.size, 0, none⟩) 2 2).mono ?_); rintro en x1 ⟨rfl, hb⟩; replace Q := Lib.hid (by first | exact Q.out.up hb | exact Bx3.up (Q.out.up (by go_grown)) hb); have G1 : Blk x1 x0.heap.size 69 #[.int .i64 kb, .int .i64 lb, .slice kAb knb kcb, .slice fAb fnb fcb, .int .i64 kc, .int .i64 lc, .slice kAc knc kcc, .slice fAc fnc fcc] := Blk.here (Blk.new _ _ _) hb; clear hb s0 s1 s2 s3 t0 t1 t2 t3 u0 u1 u2 u3 sl tl ul; obtain ⟨⟨s0, s1, s2, s3⟩, ⟨t0, t1, t2, t3⟩, ⟨u0, u1, u2, u3⟩, sl, tl, ul⟩ := Q.out.cells))
          refine hKx.out _ _ (by (try dsimp only); go_keep) (fun hNew => ?_)
          clear hKx Kx hHeld
          have hHeld := hNew
          clear hNew
          try simp only [Act.put, List.setIfInBounds_toArray, List.set_cons_zero, List.set_cons_succ]
          refine wpAnyH_ready (rs := [36, 42]) (by kernel_rfl) (by simp) ?_
          refine AllReadyH.cons (o := ⟨some 91, .buildSlice 67 2 #[(0, (.tmp 85)), (1, (.tmp 90))], _, _, _, _⟩) rfl (fun Kx hKx => ?_) (AllReadyH.cons (o := ⟨some 97, .buildSlice 67 3 #[(0, (.tmp 94)), (1, (.tmp 95)), (2, (.tmp 96))], _, _, _, _⟩) rfl (fun Kx hKx => ?_) AllReadyH.nil)
          · go_simp
            refine hKx.out _ _ (by (try dsimp only); go_keep) (fun hNew => ?_)
            clear hKx Kx hHeld
            have hHeld := hNew
            clear hNew
            try simp only [Act.put, List.setIfInBounds_toArray, List.set_cons_zero, List.set_cons_succ]
            refine wpAnyH_ready (rs := [37, 42]) (by kernel_rfl) (by simp) ?_
            refine AllReadyH.cons (o := ⟨some 92, .call { callee := .value (.tmp 84), args := #[.tmp 91], argTypes := #[67] }, _, _, _, _⟩) rfl (fun Kx hKx => ?_) (AllReadyH.cons (o := ⟨some 97, .buildSlice 67 3 #[(0, (.tmp 94)), (1, (.tmp 95)), (2, (.tmp 96))], _, _, _, _⟩) rfl (fun Kx hKx => ?_) AllReadyH.nil)
            · (go_simp; go_at_call 39; ((with_reducible refine (tee_fn (x1.alloc (.cells #[.int .i64 ka, .int .i64 la, .slice kAa kna kca, .slice fAa fna fca, .int .i64 1, .int .i64 0, .slice (some ⟨_, 0, none⟩) 2 2, .slice none 0 0] 69)) (some ⟨x1.heap.size, 0, none⟩) 2 2).mono ?_); rintro en x2 ⟨rfl, hb⟩; replace Q := Lib.hid (by first | exact Q.out.up hb | exact Bx3.up (Q.out.up (by go_grown)) hb); have G2 : Blk x2 x1.heap.size 69 #[.int .i64 ka, .int .i64 la, .slice kAa kna kca, .slice fAa fna fca, .int .i64 1, .int .i64 0, .slice (some ⟨_, 0, none⟩) 2 2, .slice none 0 0] := Blk.here (Blk.new _ _ _) hb; replace G1 := Blk.here (Blk.here G1 (by go_grown)) hb; (try replace G3 := Blk.here (Blk.here G3 (by go_grown)) hb); clear hb s0 s1 s2 s3 t0 t1 t2 t3 u0 u1 u2 u3 sl tl ul; obtain ⟨⟨s0, s1, s2, s3⟩, ⟨t0, t1, t2, t3⟩, ⟨u0, u1, u2, u3⟩, sl, tl, ul⟩ := Q.out.cells))
              refine hKx.out _ _ (by (try dsimp only); go_keep) (fun hNew => ?_)
              clear hKx Kx hHeld
              have hHeld := hNew
              clear hNew
              try simp only [Act.put, List.setIfInBounds_toArray, List.set_cons_zero, List.set_cons_succ]
              refine wpAnyH_ready (rs := [42]) (by kernel_rfl) (by simp) ?_
              refine AllReadyH.cons (o := ⟨some 97, .buildSlice 67 3 #[(0, (.tmp 94)), (1, (.tmp 95)), (2, (.tmp 96))], _, _, _, _⟩) rfl (fun Kx hKx => ?_) AllReadyH.nil
              go_simp
              refine hKx.out _ _ (by (try dsimp only); go_keep) (fun hNew => ?_)
              clear hKx Kx hHeld
              have hHeld := hNew
              clear hNew
              try simp only [Act.put, List.setIfInBounds_toArray, List.set_cons_zero, List.set_cons_succ]
              refine wpAnyH_ready (rs := [43]) (by kernel_rfl) (by simp) ?_
              refine AllReadyH.cons (o := ⟨some 98, .call { callee := .value (.tmp 93), args := #[.tmp 97], argTypes := #[67] }, _, _, _, _⟩) rfl (fun Kx hKx => ?_) AllReadyH.nil
              (go_simp; go_at_call 39; ((with_reducible refine (tee_fn (x2.alloc (.cells #[.int .i64 ka, .int .i64 la, .slice kAa kna kca, .slice fAa fna fca, .int .i64 kb, .int .i64 lb, .slice kAb knb kcb, .slice fAb fnb fcb, .int .i64 kc, .int .i64 lc, .slice kAc knc kcc, .slice fAc fnc fcc] 69)) (some ⟨x2.heap.size, 0, none⟩) 3 3).mono ?_); rintro en x3 ⟨rfl, hb⟩; replace Q := Lib.hid (by first | exact Q.out.up hb | exact Bx3.up (Q.out.up (by go_grown)) hb); have G3 : Blk x3 x2.heap.size 69 #[.int .i64 ka, .int .i64 la, .slice kAa kna kca, .slice fAa fna fca, .int .i64 kb, .int .i64 lb, .slice kAb knb kcb, .slice fAb fnb fcb, .int .i64 kc, .int .i64 lc, .slice kAc knc kcc, .slice fAc fnc fcc] := Blk.here (Blk.new _ _ _) hb; replace G1 := Blk.here (Blk.here G1 (by go_grown)) hb; replace G2 := Blk.here (Blk.here G2 (by go_grown)) hb; clear hb s0 s1 s2 s3 t0 t1 t2 t3 u0 u1 u2 u3 sl tl ul; obtain ⟨⟨s0, s1, s2, s3⟩, ⟨t0, t1, t2, t3⟩, ⟨u0, u1, u2, u3⟩, sl, tl, ul⟩ := Q.out.cells))
              refine hKx.out _ _ (by (try dsimp only); go_keep) (fun hNew => ?_)
              clear hKx Kx hHeld
              have hHeld := hNew
              clear hNew
              try simp only [Act.put, List.setIfInBounds_toArray, List.set_cons_zero, List.set_cons_succ]
              refine wpAnyH_ready (rs := [46]) (by kernel_rfl) (by simp) ?_
              refine AllReadyH.cons (o := ⟨some 101, .call { callee := .value (.func 38), args := #[.tmp 92, .tmp 98, .tmp 99, .tmp 100], argTypes := #[69, 69, 44, 70] }, _, _, _, _⟩) rfl (fun Kx hKx => ?_) AllReadyH.nil
              (go_simp; go_at_call 38; (have LA := K.out.1.below Q.out.below; have LB := K.out.2.1.below Q.out.below; have LC := K.out.2.2.1.below Q.out.below; have EN := K.out.2.2.2.below Q.out.below; (have HC := tee_call3 (kf := kf) (dk := dk) (a := (Arg.mk ka la kAa kna kca fAa fna fca kida flda)) (b := (Arg.mk kb lb kAb knb kcb fAb fnb fcb kidb fldb)) (c := (Arg.mk kc lc kAc knc kcc fAc fnc fcc kidc fldc)) (es := es) (fs := fs) c1 c2 LA LB LC EN G1 rfl G2 rfl G3 rfl; (with_reducible refine HC.mono ?_); rintro en y0 ⟨rfl, hb⟩; replace Q := Lib.hid (Q.out.up hb); clear HC hb s0 s1 s2 s3 t0 t1 t2 t3 u0 u1 u2 u3 sl tl ul; obtain ⟨⟨s0, s1, s2, s3⟩, ⟨t0, t1, t2, t3⟩, ⟨u0, u1, u2, u3⟩, sl, tl, ul⟩ := Q.out.cells)))
              refine hKx.out _ _ (by (try dsimp only); go_keep) (fun hNew => ?_)
              clear hKx Kx hHeld
              have hHeld := hNew
              clear hNew
              try simp only [Act.put, List.setIfInBounds_toArray, List.set_cons_zero, List.set_cons_succ]
              refine wpAnyH_take (i := 47) (oi := ⟨some 102, .pick (.tmp 83) (.tmp 101) (.const (.bool false)), _, _, _, _⟩) (v := ?vt12) rfl (by kernel_rfl) (by kernel_rfl) (by kernel_rfl) (fun _ _ _ h => h) (Or.inl ⟨by rfl, ?yt12⟩) (by assumption) ?rt12
              case yt12 => (intro w hSw; (try dsimp only at hSw); go_simp; first | done | with_reducible rfl)
              try simp only [Act.put, List.setIfInBounds_toArray, List.set_cons_zero, List.set_cons_succ]
              refine wpAnyH_take (i := 48) (oi := ⟨some 10, .assign (.tmp 102), _, _, _, _⟩) (v := ?vt13) rfl (by kernel_rfl) (by kernel_rfl) (by kernel_rfl) (fun _ _ _ h => h) (Or.inl ⟨by rfl, ?yt13⟩) (by assumption) ?rt13
              case yt13 => (intro w hSw; (try dsimp only at hSw); go_simp; first | done | with_reducible rfl)
              try simp only [Act.put, List.setIfInBounds_toArray, List.set_cons_zero, List.set_cons_succ]
              refine wpAnyH_done (by kernel_rfl) ?_ _
              refine NoPanic.normal ?_
              (go_wp2_with fail; go_ret; exact ⟨rfl, Q.out.below⟩)
            · go_simp
              refine hKx.out _ _ (by (try dsimp only); go_keep) (fun hNew => ?_)
              clear hKx Kx hHeld
              have hHeld := hNew
              clear hNew
              try simp only [Act.put, List.setIfInBounds_toArray, List.set_cons_zero, List.set_cons_succ]
              refine wpAnyH_ready (rs := [37]) (by kernel_rfl) (by simp) ?_
              refine AllReadyH.cons (o := ⟨some 92, .call { callee := .value (.tmp 84), args := #[.tmp 91], argTypes := #[67] }, _, _, _, _⟩) rfl (fun Kx hKx => ?_) AllReadyH.nil
              (go_simp; go_at_call 39; ((with_reducible refine (tee_fn ((x1.alloc (.cells #[.int .i64 ka, .int .i64 la, .slice kAa kna kca, .slice fAa fna fca, .int .i64 1, .int .i64 0, .slice (some ⟨_, 0, none⟩) 2 2, .slice none 0 0] 69)).alloc (.cells #[.int .i64 ka, .int .i64 la, .slice kAa kna kca, .slice fAa fna fca, .int .i64 kb, .int .i64 lb, .slice kAb knb kcb, .slice fAb fnb fcb, .int .i64 kc, .int .i64 lc, .slice kAc knc kcc, .slice fAc fnc fcc] 69)) (some ⟨x1.heap.size, 0, none⟩) 2 2).mono ?_); rintro en x2 ⟨rfl, hb⟩; replace Q := Lib.hid (by first | exact Q.out.up hb | exact Bx3.up (Q.out.up (by go_grown)) hb); have G2 : Blk x2 x1.heap.size 69 #[.int .i64 ka, .int .i64 la, .slice kAa kna kca, .slice fAa fna fca, .int .i64 1, .int .i64 0, .slice (some ⟨_, 0, none⟩) 2 2, .slice none 0 0] := Blk.here (Blk.alloc (Blk.new _ _ _) _) hb; have G3 : Blk x2 (x1.heap.size + 1) 69 #[.int .i64 ka, .int .i64 la, .slice kAa kna kca, .slice fAa fna fca, .int .i64 kb, .int .i64 lb, .slice kAb knb kcb, .slice fAb fnb fcb, .int .i64 kc, .int .i64 lc, .slice kAc knc kcc, .slice fAc fnc fcc] := Blk.here (Blk.new_at _ 69 _ _ (by simp)) hb; replace G1 := Blk.here (Blk.here G1 (by go_grown)) hb; clear hb s0 s1 s2 s3 t0 t1 t2 t3 u0 u1 u2 u3 sl tl ul; obtain ⟨⟨s0, s1, s2, s3⟩, ⟨t0, t1, t2, t3⟩, ⟨u0, u1, u2, u3⟩, sl, tl, ul⟩ := Q.out.cells))
              refine hKx.out _ _ (by (try dsimp only); go_keep) (fun hNew => ?_)
              clear hKx Kx hHeld
              have hHeld := hNew
              clear hNew
              try simp only [Act.put, List.setIfInBounds_toArray, List.set_cons_zero, List.set_cons_succ]
              refine wpAnyH_ready (rs := [43]) (by kernel_rfl) (by simp) ?_
              refine AllReadyH.cons (o := ⟨some 98, .call { callee := .value (.tmp 93), args := #[.tmp 97], argTypes := #[67] }, _, _, _, _⟩) rfl (fun Kx hKx => ?_) AllReadyH.nil
              (go_simp; go_at_call 39; ((with_reducible refine (tee_fn x2 _ 3 3).mono ?_); rintro en x3 ⟨rfl, hb⟩; replace Q := Lib.hid (by first | exact Q.out.up hb | exact Bx3.up (Q.out.up (by go_grown)) hb); replace G1 := Blk.here G1 hb; replace G2 := Blk.here G2 hb; replace G3 := Blk.here G3 hb; clear hb s0 s1 s2 s3 t0 t1 t2 t3 u0 u1 u2 u3 sl tl ul; obtain ⟨⟨s0, s1, s2, s3⟩, ⟨t0, t1, t2, t3⟩, ⟨u0, u1, u2, u3⟩, sl, tl, ul⟩ := Q.out.cells))
              refine hKx.out _ _ (by (try dsimp only); go_keep) (fun hNew => ?_)
              clear hKx Kx hHeld
              have hHeld := hNew
              clear hNew
              try simp only [Act.put, List.setIfInBounds_toArray, List.set_cons_zero, List.set_cons_succ]
              refine wpAnyH_ready (rs := [46]) (by kernel_rfl) (by simp) ?_
              refine AllReadyH.cons (o := ⟨some 101, .call { callee := .value (.func 38), args := #[.tmp 92, .tmp 98, .tmp 99, .tmp 100], argTypes := #[69, 69, 44, 70] }, _, _, _, _⟩) rfl (fun Kx hKx => ?_) AllReadyH.nil
              (go_simp; go_at_call 38; (have LA := K.out.1.below Q.out.below; have LB := K.out.2.1.below Q.out.below; have LC := K.out.2.2.1.below Q.out.below; have EN := K.out.2.2.2.below Q.out.below; (have HC := tee_call3 (kf := kf) (dk := dk) (a := (Arg.mk ka la kAa kna kca fAa fna fca kida flda)) (b := (Arg.mk kb lb kAb knb kcb fAb fnb fcb kidb fldb)) (c := (Arg.mk kc lc kAc knc kcc fAc fnc fcc kidc fldc)) (es := es) (fs := fs) c1 c2 LA LB LC EN G1 rfl G2 rfl G3 rfl; (with_reducible refine HC.mono ?_); rintro en y0 ⟨rfl, hb⟩; replace Q := Lib.hid (Q.out.up hb); clear HC hb s0 s1 s2 s3 t0 t1 t2 t3 u0 u1 u2 u3 sl tl ul; obtain ⟨⟨s0, s1, s2, s3⟩, ⟨t0, t1, t2, t3⟩, ⟨u0, u1, u2, u3⟩, sl, tl, ul⟩ := Q.out.cells)))
              refine hKx.out _ _ (by (try dsimp only); go_keep) (fun hNew => ?_)
              clear hKx Kx hHeld
              have hHeld := hNew
              clear hNew
              try simp only [Act.put, List.setIfInBounds_toArray, List.set_cons_zero, List.set_cons_succ]
              refine wpAnyH_take (i := 47) (oi := ⟨some 102, .pick (.tmp 83) (.tmp 101) (.const (.bool false)), _, _, _, _⟩) (v := ?vt14) rfl (by kernel_rfl) (by kernel_rfl) (by kernel_rfl) (fun _ _ _ h => h) (Or.inl ⟨by rfl, ?yt14⟩) (by assumption) ?rt14
              case yt14 => (intro w hSw; (try dsimp only at hSw); go_simp; first | done | with_reducible rfl)
              try simp only [Act.put, List.setIfInBounds_toArray, List.set_cons_zero, List.set_cons_succ]
              refine wpAnyH_take (i := 48) (oi := ⟨some 10, .assign (.tmp 102), _, _, _, _⟩) (v := ?vt15) rfl (by kernel_rfl) (by kernel_rfl) (by kernel_rfl) (fun _ _ _ h => h) (Or.inl ⟨by rfl, ?yt15⟩) (by assumption) ?rt15
              case yt15 => (intro w hSw; (try dsimp only at hSw); go_simp; first | done | with_reducible rfl)
              try simp only [Act.put, List.setIfInBounds_toArray, List.set_cons_zero, List.set_cons_succ]
              refine wpAnyH_done (by kernel_rfl) ?_ _
              refine NoPanic.normal ?_
              (go_wp2_with fail; go_ret; exact ⟨rfl, Q.out.below⟩)
          · go_simp
            refine hKx.out _ _ (by (try dsimp only); go_keep) (fun hNew => ?_)
            clear hKx Kx hHeld
            have hHeld := hNew
            clear hNew
            try simp only [Act.put, List.setIfInBounds_toArray, List.set_cons_zero, List.set_cons_succ]
            refine wpAnyH_ready (rs := [36]) (by kernel_rfl) (by simp) ?_
            refine AllReadyH.cons (o := ⟨some 91, .buildSlice 67 2 #[(0, (.tmp 85)), (1, (.tmp 90))], _, _, _, _⟩) rfl (fun Kx hKx => ?_) AllReadyH.nil
            go_simp
            refine hKx.out _ _ (by (try dsimp only); go_keep) (fun hNew => ?_)
            clear hKx Kx hHeld
            have hHeld := hNew
            clear hNew
            try simp only [Act.put, List.setIfInBounds_toArray, List.set_cons_zero, List.set_cons_succ]
            refine wpAnyH_ready (rs := [37]) (by kernel_rfl) (by simp) ?_
            refine AllReadyH.cons (o := ⟨some 92, .call { callee := .value (.tmp 84), args := #[.tmp 91], argTypes := #[67] }, _, _, _, _⟩) rfl (fun Kx hKx => ?_) AllReadyH.nil
            (go_simp; go_at_call 39; ((with_reducible refine (tee_fn ((x1.alloc (.cells #[.int .i64 ka, .int .i64 la, .slice kAa kna kca, .slice fAa fna fca, .int .i64 kb, .int .i64 lb, .slice kAb knb kcb, .slice fAb fnb fcb, .int .i64 kc, .int .i64 lc, .slice kAc knc kcc, .slice fAc fnc fcc] 69)).alloc (.cells #[.int .i64 ka, .int .i64 la, .slice kAa kna kca, .slice fAa fna fca, .int .i64 1, .int .i64 0, .slice (some ⟨_, 0, none⟩) 2 2, .slice none 0 0] 69)) (some ⟨x1.heap.size + 1, 0, none⟩) 2 2).mono ?_); rintro en x2 ⟨rfl, hb⟩; replace Q := Lib.hid (by first | exact Q.out.up hb | exact Bx3.up (Q.out.up (by go_grown)) hb); have G3 : Blk x2 x1.heap.size 69 #[.int .i64 ka, .int .i64 la, .slice kAa kna kca, .slice fAa fna fca, .int .i64 kb, .int .i64 lb, .slice kAb knb kcb, .slice fAb fnb fcb, .int .i64 kc, .int .i64 lc, .slice kAc knc kcc, .slice fAc fnc fcc] := Blk.here (Blk.alloc (Blk.new _ _ _) _) hb; have G2 : Blk x2 (x1.heap.size + 1) 69 #[.int .i64 ka, .int .i64 la, .slice kAa kna kca, .slice fAa fna fca, .int .i64 1, .int .i64 0, .slice (some ⟨_, 0, none⟩) 2 2, .slice none 0 0] := Blk.here (Blk.new_at _ 69 _ _ (by simp)) hb; replace G1 := Blk.here (Blk.here G1 (by go_grown)) hb; clear hb s0 s1 s2 s3 t0 t1 t2 t3 u0 u1 u2 u3 sl tl ul; obtain ⟨⟨s0, s1, s2, s3⟩, ⟨t0, t1, t2, t3⟩, ⟨u0, u1, u2, u3⟩, sl, tl, ul⟩ := Q.out.cells))
            refine hKx.out _ _ (by (try dsimp only); go_keep) (fun hNew => ?_)
            clear hKx Kx hHeld
            have hHeld := hNew
            clear hNew
            try simp only [Act.put, List.setIfInBounds_toArray, List.set_cons_zero, List.set_cons_succ]
            refine wpAnyH_ready (rs := [43]) (by kernel_rfl) (by simp) ?_
            refine AllReadyH.cons (o := ⟨some 98, .call { callee := .value (.tmp 93), args := #[.tmp 97], argTypes := #[67] }, _, _, _, _⟩) rfl (fun Kx hKx => ?_) AllReadyH.nil
            (go_simp; go_at_call 39; ((with_reducible refine (tee_fn x2 _ 3 3).mono ?_); rintro en x3 ⟨rfl, hb⟩; replace Q := Lib.hid (by first | exact Q.out.up hb | exact Bx3.up (Q.out.up (by go_grown)) hb); replace G1 := Blk.here G1 hb; replace G2 := Blk.here G2 hb; replace G3 := Blk.here G3 hb; clear hb s0 s1 s2 s3 t0 t1 t2 t3 u0 u1 u2 u3 sl tl ul; obtain ⟨⟨s0, s1, s2, s3⟩, ⟨t0, t1, t2, t3⟩, ⟨u0, u1, u2, u3⟩, sl, tl, ul⟩ := Q.out.cells))
            refine hKx.out _ _ (by (try dsimp only); go_keep) (fun hNew => ?_)
            clear hKx Kx hHeld
            have hHeld := hNew
            clear hNew
            try simp only [Act.put, List.setIfInBounds_toArray, List.set_cons_zero, List.set_cons_succ]
            refine wpAnyH_ready (rs := [46]) (by kernel_rfl) (by simp) ?_
            refine AllReadyH.cons (o := ⟨some 101, .call { callee := .value (.func 38), args := #[.tmp 92, .tmp 98, .tmp 99, .tmp 100], argTypes := #[69, 69, 44, 70] }, _, _, _, _⟩) rfl (fun Kx hKx => ?_) AllReadyH.nil
            (go_simp; go_at_call 38; (have LA := K.out.1.below Q.out.below; have LB := K.out.2.1.below Q.out.below; have LC := K.out.2.2.1.below Q.out.below; have EN := K.out.2.2.2.below Q.out.below; (have HC := tee_call3 (kf := kf) (dk := dk) (a := (Arg.mk ka la kAa kna kca fAa fna fca kida flda)) (b := (Arg.mk kb lb kAb knb kcb fAb fnb fcb kidb fldb)) (c := (Arg.mk kc lc kAc knc kcc fAc fnc fcc kidc fldc)) (es := es) (fs := fs) c1 c2 LA LB LC EN G1 rfl G2 rfl G3 rfl; (with_reducible refine HC.mono ?_); rintro en y0 ⟨rfl, hb⟩; replace Q := Lib.hid (Q.out.up hb); clear HC hb s0 s1 s2 s3 t0 t1 t2 t3 u0 u1 u2 u3 sl tl ul; obtain ⟨⟨s0, s1, s2, s3⟩, ⟨t0, t1, t2, t3⟩, ⟨u0, u1, u2, u3⟩, sl, tl, ul⟩ := Q.out.cells)))
            refine hKx.out _ _ (by (try dsimp only); go_keep) (fun hNew => ?_)
            clear hKx Kx hHeld
            have hHeld := hNew
            clear hNew
            try simp only [Act.put, List.setIfInBounds_toArray, List.set_cons_zero, List.set_cons_succ]
            refine wpAnyH_take (i := 47) (oi := ⟨some 102, .pick (.tmp 83) (.tmp 101) (.const (.bool false)), _, _, _, _⟩) (v := ?vt16) rfl (by kernel_rfl) (by kernel_rfl) (by kernel_rfl) (fun _ _ _ h => h) (Or.inl ⟨by rfl, ?yt16⟩) (by assumption) ?rt16
            case yt16 => (intro w hSw; (try dsimp only at hSw); go_simp; first | done | with_reducible rfl)
            try simp only [Act.put, List.setIfInBounds_toArray, List.set_cons_zero, List.set_cons_succ]
            refine wpAnyH_take (i := 48) (oi := ⟨some 10, .assign (.tmp 102), _, _, _, _⟩) (v := ?vt17) rfl (by kernel_rfl) (by kernel_rfl) (by kernel_rfl) (fun _ _ _ h => h) (Or.inl ⟨by rfl, ?yt17⟩) (by assumption) ?rt17
            case yt17 => (intro w hSw; (try dsimp only at hSw); go_simp; first | done | with_reducible rfl)
            try simp only [Act.put, List.setIfInBounds_toArray, List.set_cons_zero, List.set_cons_succ]
            refine wpAnyH_done (by kernel_rfl) ?_ _
            refine NoPanic.normal ?_
            (go_wp2_with fail; go_ret; exact ⟨rfl, Q.out.below⟩)
        · go_simp
          refine hKx.out _ _ (by (try dsimp only); go_keep) (fun hNew => ?_)
          clear hKx Kx hHeld
          have hHeld := hNew
          clear hNew
          try simp only [Act.put, List.setIfInBounds_toArray, List.set_cons_zero, List.set_cons_succ]
          refine wpAnyH_ready (rs := [35]) (by kernel_rfl) (by simp) ?_
          refine AllReadyH.cons (o := ⟨some 90, .call { callee := .value (.tmp 86), args := #[.tmp 89], argTypes := #[67] }, _, _, _, _⟩) rfl (fun Kx hKx => ?_) AllReadyH.nil
          (go_simp; go_at_call 39; ((with_reducible refine (tee_fn ((x0.alloc (.cells #[.int .i64 kb, .int .i64 lb, .slice kAb knb kcb, .slice fAb fnb fcb, .int .i64 kc, .int .i64 lc, .slice kAc knc kcc, .slice fAc fnc fcc] 69)).alloc (.cells #[.int .i64 ka, .int .i64 la, .slice kAa kna kca, .slice fAa fna fca, .int .i64 kb, .int .i64 lb, .slice kAb knb kcb, .slice fAb fnb fcb, .int .i64 kc, .int .i64 lc, .slice kAc knc kcc, .slice fAc fnc fcc] 69)) (some ⟨x0.heap.size, 0, none⟩) 2 2).mono ?_); rintro en x1 ⟨rfl, hb⟩; replace Q := Lib.hid (by first | exact Q.out.up hb | exact Bx3.up (Q.out.up (by go_grown)) hb); have G1 : Blk x1 x0.heap.size 69 #[.int .i64 kb, .int .i64 lb, .slice kAb knb kcb, .slice fAb fnb fcb, .int .i64 kc, .int .i64 lc, .slice kAc knc kcc, .slice fAc fnc fcc] := Blk.here (Blk.alloc (Blk.new _ _ _) _) hb; have G3 : Blk x1 (x0.heap.size + 1) 69 #[.int .i64 ka, .int .i64 la, .slice kAa kna kca, .slice fAa fna fca, .int .i64 kb, .int .i64 lb, .slice kAb knb kcb, .slice fAb fnb fcb, .int .i64 kc, .int .i64 lc, .slice kAc knc kcc, .slice fAc fnc fcc] := Blk.here (Blk.new_at _ 69 _ _ (by simp)) hb; clear hb s0 s1 s2 s3 t0 t1 t2 t3 u0 u1 u2 u3 sl tl ul; obtain ⟨⟨s0, s1, s2, s3⟩, ⟨t0, t1, t2, t3⟩, ⟨u0, u1, u2, u3⟩, sl, tl, ul⟩ := Q.out.cells))
          refine hKx.out _ _ (by (try dsimp only); go_keep) (fun hNew => ?_)
          clear hKx Kx hHeld
          have hHeld := hNew
          clear hNew
          try simp only [Act.put, List.setIfInBounds_toArray, List.set_cons_zero, List.set_cons_succ]
          refine wpAnyH_ready (rs := [36]) (by kernel_rfl) (by simp) ?_
          refine AllReadyH.cons (o := ⟨some 91, .buildSlice 67 2 #[(0, (.tmp 85)), (1, (.tmp 90))], _, _, _, _⟩) rfl (fun Kx hKx => ?_) AllReadyH.nil
          go_simp
          refine hKx.out _ _ (by (try dsimp only); go_keep) (fun hNew => ?_)
          clear hKx Kx hHeld
          have hHeld := hNew
          clear hNew
          try simp only [Act.put, List.setIfInBounds_toArray, List.set_cons_zero, List.set_cons_succ]
          refine wpAnyH_ready (rs := [37]) (by kernel_rfl) (by simp) ?_
          refine AllReadyH.cons (o := ⟨some 92, .call { callee := .value (.tmp 84), args := #[.tmp 91], argTypes := #[67] }, _, _, _, _⟩) rfl (fun Kx hKx => ?_) AllReadyH.nil
          (go_simp; go_at_call 39; ((with_reducible refine (tee_fn (x1.alloc (.cells #[.int .i64 ka, .int .i64 la, .slice kAa kna kca, .slice fAa fna fca, .int .i64 1, .int .i64 0, .slice (some ⟨_, 0, none⟩) 2 2, .slice none 0 0] 69)) (some ⟨x1.heap.size, 0, none⟩) 2 2).mono ?_); rintro en x2 ⟨rfl, hb⟩; replace Q := Lib.hid (by first | exact Q.out.up hb | exact Bx3.up (Q.out.up (by go_grown)) hb); have G2 : Blk x2 x1.heap.size 69 #[.int .i64 ka, .int .i64 la, .slice kAa kna kca, .slice fAa fna fca, .int .i64 1, .int .i64 0, .slice (some ⟨_, 0, none⟩) 2 2, .slice none 0 0] := Blk.here (Blk.new _ _ _) hb; replace G1 := Blk.here (Blk.here G1 (by go_grown)) hb; (try replace G3 := Blk.here (Blk.here G3 (by go_grown)) hb); clear hb s0 s1 s2 s3 t0 t1 t2 t3 u0 u1 u2 u3 sl tl ul; obtain ⟨⟨s0, s1, s2, s3⟩, ⟨t0, t1, t2, t3⟩, ⟨u0, u1, u2, u3⟩, sl, tl, ul⟩ := Q.out.cells))
          refine hKx.out _ _ (by (try dsimp only); go_keep) (fun hNew => ?_)
          clear hKx Kx hHeld
          have hHeld := hNew
          clear hNew
          try simp only [Act.put, List.setIfInBounds_toArray, List.set_cons_zero, List.set_cons_succ]
          refine wpAnyH_ready (rs := [43]) (by kernel_rfl) (by simp) ?_
          refine AllReadyH.cons (o := ⟨some 98, .call { callee := .value (.tmp 93), args := #[.tmp 97], argTypes := #[67] }, _, _, _, _⟩) rfl (fun Kx hKx => ?_) AllReadyH.nil
          (go_simp; go_at_call 39; ((with_reducible refine (tee_fn x2 _ 3 3).mono ?_); rintro en x3 ⟨rfl, hb⟩; replace Q := Lib.hid (by first | exact Q.out.up hb | exact Bx3.up (Q.out.up (by go_grown)) hb); replace G1 := Blk.here G1 hb; replace G2 := Blk.here G2 hb; replace G3 := Blk.here G3 hb; clear hb s0 s1 s2 s3 t0 t1 t2 t3 u0 u1 u2 u3 sl tl ul; obtain ⟨⟨s0, s1, s2, s3⟩, ⟨t0, t1, t2, t3⟩, ⟨u0, u1, u2, u3⟩, sl, tl, ul⟩ := Q.out.cells))
          refine hKx.out _ _ (by (try dsimp only); go_keep) (fun hNew => ?_)
          clear hKx Kx hHeld
          have hHeld := hNew
          clear hNew
          try simp only [Act.put, List.setIfInBounds_toArray, List.set_cons_zero, List.set_cons_succ]
          refine wpAnyH_ready (rs := [46]) (by kernel_rfl) (by simp) ?_
          refine AllReadyH.cons (o := ⟨some 101, .call { callee := .value (.func 38), args := #[.tmp 92, .tmp 98, .tmp 99, .tmp 100], argTypes := #[69, 69, 44, 70] }, _, _, _, _⟩) rfl (fun Kx hKx => ?_) AllReadyH.nil
          (go_simp; go_at_call 38; (have LA := K.out.1.below Q.out.below; have LB := K.out.2.1.below Q.out.below; have LC := K.out.2.2.1.below Q.out.below; have EN := K.out.2.2.2.below Q.out.below; (have HC := tee_call3 (kf := kf) (dk := dk) (a := (Arg.mk ka la kAa kna kca fAa fna fca kida flda)) (b := (Arg.mk kb lb kAb knb kcb fAb fnb fcb kidb fldb)) (c := (Arg.mk kc lc kAc knc kcc fAc fnc fcc kidc fldc)) (es := es) (fs := fs) c1 c2 LA LB LC EN G1 rfl G2 rfl G3 rfl; (with_reducible refine HC.mono ?_); rintro en y0 ⟨rfl, hb⟩; replace Q := Lib.hid (Q.out.up hb); clear HC hb s0 s1 s2 s3 t0 t1 t2 t3 u0 u1 u2 u3 sl tl ul; obtain ⟨⟨s0, s1, s2, s3⟩, ⟨t0, t1, t2, t3⟩, ⟨u0, u1, u2, u3⟩, sl, tl, ul⟩ := Q.out.cells)))
          refine hKx.out _ _ (by (try dsimp only); go_keep) (fun hNew => ?_)
          clear hKx Kx hHeld
          have hHeld := hNew
          clear hNew
          try simp only [Act.put, List.setIfInBounds_toArray, List.set_cons_zero, List.set_cons_succ]
          refine wpAnyH_take (i := 47) (oi := ⟨some 102, .pick (.tmp 83) (.tmp 101) (.const (.bool false)), _, _, _, _⟩) (v := ?vt18) rfl (by kernel_rfl) (by kernel_rfl) (by kernel_rfl) (fun _ _ _ h => h) (Or.inl ⟨by rfl, ?yt18⟩) (by assumption) ?rt18
          case yt18 => (intro w hSw; (try dsimp only at hSw); go_simp; first | done | with_reducible rfl)
          try simp only [Act.put, List.setIfInBounds_toArray, List.set_cons_zero, List.set_cons_succ]
          refine wpAnyH_take (i := 48) (oi := ⟨some 10, .assign (.tmp 102), _, _, _, _⟩) (v := ?vt19) rfl (by kernel_rfl) (by kernel_rfl) (by kernel_rfl) (fun _ _ _ h => h) (Or.inl ⟨by rfl, ?yt19⟩) (by assumption) ?rt19
          case yt19 => (intro w hSw; (try dsimp only at hSw); go_simp; first | done | with_reducible rfl)
          try simp only [Act.put, List.setIfInBounds_toArray, List.set_cons_zero, List.set_cons_succ]
          refine wpAnyH_done (by kernel_rfl) ?_ _
          refine NoPanic.normal ?_
          (go_wp2_with fail; go_ret; exact ⟨rfl, Q.out.below⟩)
      · go_simp
        refine hKx.out _ _ (by (try dsimp only); go_keep) (fun hNew => ?_)
        clear hKx Kx hHeld
        have hHeld := hNew
        clear hNew
        try simp only [Act.put, List.setIfInBounds_toArray, List.set_cons_zero, List.set_cons_succ]
        refine wpAnyH_ready (rs := [34]) (by kernel_rfl) (by simp) ?_
        refine AllReadyH.cons (o := ⟨some 89, .buildSlice 67 2 #[(0, (.tmp 87)), (1, (.tmp 88))], _, _, _, _⟩) rfl (fun Kx hKx => ?_) AllReadyH.nil
        go_simp
        refine hKx.out _ _ (by (try dsimp only); go_keep) (fun hNew => ?_)
        clear hKx Kx hHeld
        have hHeld := hNew
        clear hNew
        try simp only [Act.put, List.setIfInBounds_toArray, List.set_cons_zero, List.set_cons_succ]
        refine wpAnyH_ready (rs := [35]) (by kernel_rfl) (by simp) ?_
        refine AllReadyH.cons (o := ⟨some 90, .call { callee := .value (.tmp 86), args := #[.tmp 89], argTypes := #[67] }, _, _, _, _⟩) rfl (fun Kx hKx => ?_) AllReadyH.nil
        (go_simp; go_at_call 39; ((with_reducible refine (tee_fn ((x0.alloc (.cells #[.int .i64 ka, .int .i64 la, .slice kAa kna kca, .slice fAa fna fca, .int .i64 kb, .int .i64 lb, .slice kAb knb kcb, .slice fAb fnb fcb, .int .i64 kc, .int .i64 lc, .slice kAc knc kcc, .slice fAc fnc fcc] 69)).alloc (.cells #[.int .i64 kb, .int .i64 lb, .slice kAb knb kcb, .slice fAb fnb fcb, .int .i64 kc, .int .i64 lc, .slice kAc knc kcc, .slice fAc fnc fcc] 69)) (some ⟨x0.heap.size + 1, 0, none⟩) 2 2).mono ?_); rintro en x1 ⟨rfl, hb⟩; replace Q := Lib.hid (by first | exact Q.out.up hb | exact Bx3.up (Q.out.up (by go_grown)) hb); have G3 : Blk x1 x0.heap.size 69 #[.int .i64 ka, .int .i64 la, .slice kAa kna kca, .slice fAa fna fca, .int .i64 kb, .int .i64 lb, .slice kAb knb kcb, .slice fAb fnb fcb, .int .i64 kc, .int .i64 lc, .slice kAc knc kcc, .slice fAc fnc fcc] := Blk.here (Blk.alloc (Blk.new _ _ _) _) hb; have G1 : Blk x1 (x0.heap.size + 1) 69 #[.int .i64 kb, .int .i64 lb, .slice kAb knb kcb, .slice fAb fnb fcb, .int .i64 kc, .int .i64 lc, .slice kAc knc kcc, .slice fAc fnc fcc] := Blk.here (Blk.new_at _ 69 _ _ (by simp)) hb; clear hb s0 s1 s2 s3 t0 t1 t2 t3 u0 u1 u2 u3 sl tl ul; obtain ⟨⟨s0, s1, s2, s3⟩, ⟨t0, t1, t2, t3⟩, ⟨u0, u1, u2, u3⟩, sl, tl, ul⟩ := Q.out.cells))
        refine hKx.out _ _ (by (try dsimp only); go_keep) (fun hNew => ?_)
        clear hKx Kx hHeld
        have hHeld := hNew
        clear hNew
        try simp only [Act.put, List.setIfInBounds_toArray, List.set_cons_zero, List.set_cons_succ]
        refine wpAnyH_ready (rs := [36]) (by kernel_rfl) (by simp) ?_
        refine AllReadyH.cons (o := ⟨some 91, .buildSlice 67 2 #[(0, (.tmp 85)), (1, (.tmp 90))], _, _, _, _⟩) rfl (fun Kx hKx => ?_) AllReadyH.nil
        go_simp
        refine hKx.out _ _ (by (try dsimp only); go_keep) (fun hNew => ?_)
        clear hKx Kx hHeld
        have hHeld := hNew
        clear hNew
        try simp only [Act.put, List.setIfInBounds_toArray, List.set_cons_zero, List.set_cons_succ]
        refine wpAnyH_ready (rs := [37]) (by kernel_rfl) (by simp) ?_
        refine AllReadyH.cons (o := ⟨some 92, .call { callee := .value (.tmp 84), args := #[.tmp 91], argTypes := #[67] }, _, _, _, _⟩) rfl (fun Kx hKx => ?_) AllReadyH.nil
        (go_simp; go_at_call 39; ((with_reducible refine (tee_fn (x1.alloc (.cells #[.int .i64 ka, .int .i64 la, .slice kAa kna kca, .slice fAa fna fca, .int .i64 1, .int .i64 0, .slice (some ⟨_, 0, none⟩) 2 2, .slice none 0 0] 69)) (some ⟨x1.heap.size, 0, none⟩) 2 2).mono ?_); rintro en x2 ⟨rfl, hb⟩; replace Q := Lib.hid (by first | exact Q.out.up hb | exact Bx3.up (Q.out.up (by go_grown)) hb); have G2 : Blk x2 x1.heap.size 69 #[.int .i64 ka, .int .i64 la, .slice kAa kna kca, .slice fAa fna fca, .int .i64 1, .int .i64 0, .slice (some ⟨_, 0, none⟩) 2 2, .slice none 0 0] := Blk.here (Blk.new _ _ _) hb; replace G1 := Blk.here (Blk.here G1 (by go_grown)) hb; (try replace G3 := Blk.here (Blk.here G3 (by go_grown)) hb); clear hb s0 s1 s2 s3 t0 t1 t2 t3 u0 u1 u2 u3 sl tl ul; obtain ⟨⟨s0, s1, s2, s3⟩, ⟨t0, t1, t2, t3⟩, ⟨u0, u1, u2, u3⟩, sl, tl, ul⟩ := Q.out.cells))
        refine hKx.out _ _ (by (try dsimp only); go_keep) (fun hNew => ?_)
        clear hKx Kx hHeld
        have hHeld := hNew
        clear hNew
        try simp only [Act.put, List.setIfInBounds_toArray, List.set_cons_zero, List.set_cons_succ]
        refine wpAnyH_ready (rs := [43]) (by kernel_rfl) (by simp) ?_
        refine AllReadyH.cons (o := ⟨some 98, .call { callee := .value (.tmp 93), args := #[.tmp 97], argTypes := #[67] }, _, _, _, _⟩) rfl (fun Kx hKx => ?_) AllReadyH.nil
        (go_simp; go_at_call 39; ((with_reducible refine (tee_fn x2 _ 3 3).mono ?_); rintro en x3 ⟨rfl, hb⟩; replace Q := Lib.hid (by first | exact Q.out.up hb | exact Bx3.up (Q.out.up (by go_grown)) hb); replace G1 := Blk.here G1 hb; replace G2 := Blk.here G2 hb; replace G3 := Blk.here G3 hb; clear hb s0 s1 s2 s3 t0 t1 t2 t3 u0 u1 u2 u3 sl tl ul; obtain ⟨⟨s0, s1, s2, s3⟩, ⟨t0, t1, t2, t3⟩, ⟨u0, u1, u2, u3⟩, sl, tl, ul⟩ := Q.out.cells))
        refine hKx.out _ _ (by (try dsimp only); go_keep) (fun hNew => ?_)
        clear hKx Kx hHeld
        have hHeld := hNew
        clear hNew
        try simp only [Act.put, List.setIfInBounds_toArray, List.set_cons_zero, List.set_cons_succ]
        refine wpAnyH_ready (rs := [46]) (by kernel_rfl) (by simp) ?_
        refine AllReadyH.cons (o := ⟨some 101, .call { callee := .value (.func 38), args := #[.tmp 92, .tmp 98, .tmp 99, .tmp 100], argTypes := #[69, 69, 44, 70] }, _, _, _, _⟩) rfl (fun Kx hKx => ?_) AllReadyH.nil
        (go_simp; go_at_call 38; (have LA := K.out.1.below Q.out.below; have LB := K.out.2.1.below Q.out.below; have LC := K.out.2.2.1.below Q.out.below; have EN := K.out.2.2.2.below Q.out.below; (have HC := tee_call3 (kf := kf) (dk := dk) (a := (Arg.mk ka la kAa kna kca fAa fna fca kida flda)) (b := (Arg.mk kb lb kAb knb kcb fAb fnb fcb kidb fldb)) (c := (Arg.mk kc lc kAc knc kcc fAc fnc fcc kidc fldc)) (es := es) (fs := fs) c1 c2 LA LB LC EN G1 rfl G2 rfl G3 rfl; (with_reducible refine HC.mono ?_); rintro en y0 ⟨rfl, hb⟩; replace Q := Lib.hid (Q.out.up hb); clear HC hb s0 s1 s2 s3 t0 t1 t2 t3 u0 u1 u2 u3 sl tl ul; obtain ⟨⟨s0, s1, s2, s3⟩, ⟨t0, t1, t2, t3⟩, ⟨u0, u1, u2, u3⟩, sl, tl, ul⟩ := Q.out.cells)))
        refine hKx.out _ _ (by (try dsimp only); go_keep) (fun hNew => ?_)
        clear hKx Kx hHeld
        have hHeld := hNew
        clear hNew
        try simp only [Act.put, List.setIfInBounds_toArray, List.set_cons_zero, List.set_cons_succ]
        refine wpAnyH_take (i := 47) (oi := ⟨some 102, .pick (.tmp 83) (.tmp 101) (.const (.bool false)), _, _, _, _⟩) (v := ?vt20) rfl (by kernel_rfl) (by kernel_rfl) (by kernel_rfl) (fun _ _ _ h => h) (Or.inl ⟨by rfl, ?yt20⟩) (by assumption) ?rt20
        case yt20 => (intro w hSw; (try dsimp only at hSw); go_simp; first | done | with_reducible rfl)
        try simp only [Act.put, List.setIfInBounds_toArray, List.set_cons_zero, List.set_cons_succ]
        refine wpAnyH_take (i := 48) (oi := ⟨some 10, .assign (.tmp 102), _, _, _, _⟩) (v := ?vt21) rfl (by kernel_rfl) (by kernel_rfl) (by kernel_rfl) (fun _ _ _ h => h) (Or.inl ⟨by rfl, ?yt21⟩) (by assumption) ?rt21
        case yt21 => (intro w hSw; (try dsimp only at hSw); go_simp; first | done | with_reducible rfl)
        try simp only [Act.put, List.setIfInBounds_toArray, List.set_cons_zero, List.set_cons_succ]
        refine wpAnyH_done (by kernel_rfl) ?_ _
        refine NoPanic.normal ?_
        (go_wp2_with fail; go_ret; exact ⟨rfl, Q.out.below⟩)
    case now =>
      intro HL
      refine wpAnyH_take (i := 9) (oi := ⟨some 64, .move (.tmp 11), _, _, _, _⟩) (v := ?vt22) rfl (by kernel_rfl) (by kernel_rfl) (by kernel_rfl) (fun _ _ _ h => h) (Or.inl ⟨by rfl, ?yt22⟩) (by assumption) ?rt22
      case yt22 => (intro w hSw; (try dsimp only at hSw); go_simp; first | done | with_reducible rfl)
      try simp only [Act.put, List.setIfInBounds_toArray, List.set_cons_zero, List.set_cons_succ]
      refine wpAnyH_take (i := 10) (oi := ⟨some 65, .move (.tmp 11), _, _, _, _⟩) (v := ?vt23) rfl (by kernel_rfl) (by kernel_rfl) (by kernel_rfl) (fun _ _ _ h => h) (Or.inl ⟨by rfl, ?yt23⟩) (by assumption) ?rt23
      case yt23 => (intro w hSw; (try dsimp only at hSw); go_simp; first | done | with_reducible rfl)
      try simp only [Act.put, List.setIfInBounds_toArray, List.set_cons_zero, List.set_cons_succ]
      refine wpAnyH_take (i := 11) (oi := ⟨some 66, .load 69 (.tmp 5), _, _, _, _⟩) (v := ?vt24) rfl (by kernel_rfl) (by kernel_rfl) (by kernel_rfl) (fun _ _ _ h => h) (Or.inl ⟨by rfl, ?yt24⟩) (by assumption) ?rt24
      case yt24 => (intro w hSw; (try dsimp only at hSw); go_simp; first | done | with_reducible rfl)
      try simp only [Act.put, List.setIfInBounds_toArray, List.set_cons_zero, List.set_cons_succ]
      refine wpAnyH_take (i := 12) (oi := ⟨some 67, .load 69 (.tmp 6), _, _, _, _⟩) (v := ?vt25) rfl (by kernel_rfl) (by kernel_rfl) (by kernel_rfl) (fun _ _ _ h => h) (Or.inl ⟨by rfl, ?yt25⟩) (by assumption) ?rt25
      case yt25 => (intro w hSw; (try dsimp only at hSw); go_simp; first | done | with_reducible rfl)
      try simp only [Act.put, List.setIfInBounds_toArray, List.set_cons_zero, List.set_cons_succ]
      refine wpAnyH_take (i := 15) (oi := ⟨some 70, .load 69 (.tmp 7), _, _, _, _⟩) (v := ?vt26) rfl (by kernel_rfl) (by kernel_rfl) (by kernel_rfl) (fun _ _ _ h => h) (Or.inl ⟨by rfl, ?yt26⟩) (by assumption) ?rt26
      case yt26 => (intro w hSw; (try dsimp only at hSw); go_simp; first | done | with_reducible rfl)
      try simp only [Act.put, List.setIfInBounds_toArray, List.set_cons_zero, List.set_cons_succ]
      refine wpAnyH_take (i := 18) (oi := ⟨some 73, .move (.tmp 11), _, _, _, _⟩) (v := ?vt27) rfl (by kernel_rfl) (by kernel_rfl) (by kernel_rfl) (fun _ _ _ h => h) (Or.inl ⟨by rfl, ?yt27⟩) (by assumption) ?rt27
      case yt27 => (intro w hSw; (try dsimp only at hSw); go_simp; first | done | with_reducible rfl)
      try simp only [Act.put, List.setIfInBounds_toArray, List.set_cons_zero, List.set_cons_succ]
      refine wpAnyH_take (i := 19) (oi := ⟨some 74, .load 69 (.tmp 5), _, _, _, _⟩) (v := ?vt28) rfl (by kernel_rfl) (by kernel_rfl) (by kernel_rfl) (fun _ _ _ h => h) (Or.inl ⟨by rfl, ?yt28⟩) (by assumption) ?rt28
      case yt28 => (intro w hSw; (try dsimp only at hSw); go_simp; first | done | with_reducible rfl)
      try simp only [Act.put, List.setIfInBounds_toArray, List.set_cons_zero, List.set_cons_succ]
      refine wpAnyH_take (i := 20) (oi := ⟨some 75, .load 69 (.tmp 6), _, _, _, _⟩) (v := ?vt29) rfl (by kernel_rfl) (by kernel_rfl) (by kernel_rfl) (fun _ _ _ h => h) (Or.inl ⟨by rfl, ?yt29⟩) (by assumption) ?rt29
      case yt29 => (intro w hSw; (try dsimp only at hSw); go_simp; first | done | with_reducible rfl)
      try simp only [Act.put, List.setIfInBounds_toArray, List.set_cons_zero, List.set_cons_succ]
      refine wpAnyH_take (i := 21) (oi := ⟨some 76, .load 69 (.tmp 7), _, _, _, _⟩) (v := ?vt30) rfl (by kernel_rfl) (by kernel_rfl) (by kernel_rfl) (fun _ _ _ h => h) (Or.inl ⟨by rfl, ?yt30⟩) (by assumption) ?rt30
      case yt30 => (intro w hSw; (try dsimp only at hSw); go_simp; first | done | with_reducible rfl)
      try simp only [Act.put, List.setIfInBounds_toArray, List.set_cons_zero, List.set_cons_succ]
      refine wpAnyH_take (i := 24) (oi := ⟨some 79, .move (.tmp 3), _, _, _, _⟩) (v := ?vt31) rfl (by kernel_rfl) (by kernel_rfl) (by kernel_rfl) (fun _ _ _ h => h) (Or.inl ⟨by rfl, ?yt31⟩) (by assumption) ?rt31
      case yt31 => (intro w hSw; (try dsimp only at hSw); go_simp; first | done | with_reducible rfl)
      try simp only [Act.put, List.setIfInBounds_toArray, List.set_cons_zero, List.set_cons_succ]
      refine wpAnyH_take (i := 25) (oi := ⟨some 80, .move (.tmp 4), _, _, _, _⟩) (v := ?vt32) rfl (by kernel_rfl) (by kernel_rfl) (by kernel_rfl) (fun _ _ _ h => h) (Or.inl ⟨by rfl, ?yt32⟩) (by assumption) ?rt32
      case yt32 => (intro w hSw; (try dsimp only at hSw); go_simp; first | done | with_reducible rfl)
      try simp only [Act.put, List.setIfInBounds_toArray, List.set_cons_zero, List.set_cons_succ]
      refine wpAnyH_ready (rs := [13, 22]) (by kernel_rfl) (by simp) ?_
      refine AllReadyH.cons (o := ⟨some 68, .buildSlice 67 2 #[(0, (.tmp 66)), (1, (.tmp 67))], _, _, _, _⟩) rfl (fun Kx hKx => ?_) (AllReadyH.cons (o := ⟨some 77, .buildSlice 67 3 #[(0, (.tmp 74)), (1, (.tmp 75)), (2, (.tmp 76))], _, _, _, _⟩) rfl (fun Kx hKx => ?_) AllReadyH.nil)
      · go_simp
        refine hKx.out _ _ (by (try dsimp only); go_keep) (fun hNew => ?_)
        clear hKx Kx hHeld
        have hHeld := hNew
        clear hNew
        try simp only [Act.put, List.setIfInBounds_toArray, List.set_cons_zero, List.set_cons_succ]
        refine wpAnyH_ready (rs := [14, 22]) (by kernel_rfl) (by simp) ?_
        refine AllReadyH.cons (o := ⟨some 69, .call { callee := .value (.tmp 65), args := #[.tmp 68], argTypes := #[67] }, _, _, _, _⟩) rfl (fun Kx hKx => ?_) (AllReadyH.cons (o := ⟨some 77, .buildSlice 67 3 #[(0, (.tmp 74)), (1, (.tmp 75)), (2, (.tmp 76))], _, _, _, _⟩) rfl (fun Kx hKx => ?_) AllReadyH.nil)
        · (go_simp; go_at_call 39; ((with_reducible refine (tee_fn (v0.alloc (.cells #[.int .i64 ka, .int .i64 la, .slice kAa kna kca, .slice fAa fna fca, .int .i64 kb, .int .i64 lb, .slice kAb knb kcb, .slice fAb fnb fcb] 69)) (some ⟨v0.heap.size, 0, none⟩) 2 2).mono ?_); rintro en v1 ⟨rfl, hb⟩; replace Q := Lib.hid (by first | exact Q.out.up hb | exact Bx3.up (Q.out.up (by go_grown)) hb); have E1 : Blk v1 v0.heap.size 69 #[.int .i64 ka, .int .i64 la, .slice kAa kna kca, .slice fAa fna fca, .int .i64 kb, .int .i64 lb, .slice kAb knb kcb, .slice fAb fnb fcb] := Blk.here (Blk.new _ _ _) hb; clear hb s0 s1 s2 s3 t0 t1 t2 t3 u0 u1 u2 u3 sl tl ul; obtain ⟨⟨s0, s1, s2, s3⟩, ⟨t0, t1, t2, t3⟩, ⟨u0, u1, u2, u3⟩, sl, tl, ul⟩ := Q.out.cells))
          refine hKx.out _ _ (by (try dsimp only); go_keep) (fun hNew => ?_)
          clear hKx Kx hHeld
          have hHeld := hNew
          clear hNew
          try simp only [Act.put, List.setIfInBounds_toArray, List.set_cons_zero, List.set_cons_succ]
          refine wpAnyH_ready (rs := [16, 22]) (by kernel_rfl) (by simp) ?_
          refine AllReadyH.cons (o := ⟨some 71, .buildSlice 67 2 #[(0, (.tmp 69)), (1, (.tmp 70))], _, _, _, _⟩) rfl (fun Kx hKx => ?_) (AllReadyH.cons (o := ⟨some 77, .buildSlice 67 3 #[(0, (.tmp 74)), (1, (.tmp 75)), (2, (.tmp 76))], _, _, _, _⟩) rfl (fun Kx hKx => ?_) AllReadyH.nil)
          · go_simp
            refine hKx.out _ _ (by (try dsimp only); go_keep) (fun hNew => ?_)
            clear hKx Kx hHeld
            have hHeld := hNew
            clear hNew
            try simp only [Act.put, List.setIfInBounds_toArray, List.set_cons_zero, List.set_cons_succ]
            refine wpAnyH_ready (rs := [17, 22]) (by kernel_rfl) (by simp) ?_
            refine AllReadyH.cons (o := ⟨some 72, .call { callee := .value (.tmp 64), args := #[.tmp 71], argTypes := #[67] }, _, _, _, _⟩) rfl (fun Kx hKx => ?_) (AllReadyH.cons (o := ⟨some 77, .buildSlice 67 3 #[(0, (.tmp 74)), (1, (.tmp 75)), (2, (.tmp 76))], _, _, _, _⟩) rfl (fun Kx hKx => ?_) AllReadyH.nil)
            · (go_simp; go_at_call 39; ((with_reducible refine (tee_fn (v1.alloc (.cells #[.int .i64 1, .int .i64 0, .slice (some ⟨_, 0, none⟩) 2 2, .slice none 0 0, .int .i64 kc, .int .i64 lc, .slice kAc knc kcc, .slice fAc fnc fcc] 69)) (some ⟨v1.heap.size, 0, none⟩) 2 2).mono ?_); rintro en v2 ⟨rfl, hb⟩; replace Q := Lib.hid (by first | exact Q.out.up hb | exact Bx3.up (Q.out.up (by go_grown)) hb); have E2 : Blk v2 v1.heap.size 69 #[.int .i64 1, .int .i64 0, .slice (some ⟨_, 0, none⟩) 2 2, .slice none 0 0, .int .i64 kc, .int .i64 lc, .slice kAc knc kcc, .slice fAc fnc fcc] := Blk.here (Blk.new _ _ _) hb; replace E1 := Blk.here (Blk.here E1 (by go_grown)) hb; (try replace E3 := Blk.here (Blk.here E3 (by go_grown)) hb); clear hb s0 s1 s2 s3 t0 t1 t2 t3 u0 u1 u2 u3 sl tl ul; obtain ⟨⟨s0, s1, s2, s3⟩, ⟨t0, t1, t2, t3⟩, ⟨u0, u1, u2, u3⟩, sl, tl, ul⟩ := Q.out.cells))
              refine hKx.out _ _ (by (try dsimp only); go_keep) (fun hNew => ?_)
              clear hKx Kx hHeld
              have hHeld := hNew
              clear hNew
              try simp only [Act.put, List.setIfInBounds_toArray, List.set_cons_zero, List.set_cons_succ]
              refine wpAnyH_ready (rs := [22]) (by kernel_rfl) (by simp) ?_
              refine AllReadyH.cons (o := ⟨some 77, .buildSlice 67 3 #[(0, (.tmp 74)), (1, (.tmp 75)), (2, (.tmp 76))], _, _, _, _⟩) rfl (fun Kx hKx => ?_) AllReadyH.nil
              go_simp
              refine hKx.out _ _ (by (try dsimp only); go_keep) (fun hNew => ?_)
              clear hKx Kx hHeld
              have hHeld := hNew
              clear hNew
              try simp only [Act.put, List.setIfInBounds_toArray, List.set_cons_zero, List.set_cons_succ]
              refine wpAnyH_ready (rs := [23]) (by kernel_rfl) (by simp) ?_
              refine AllReadyH.cons (o := ⟨some 78, .call { callee := .value (.tmp 73), args := #[.tmp 77], argTypes := #[67] }, _, _, _, _⟩) rfl (fun Kx hKx => ?_) AllReadyH.nil
              (go_simp; go_at_call 39; ((with_reducible refine (tee_fn (v2.alloc (.cells #[.int .i64 ka, .int .i64 la, .slice kAa kna kca, .slice fAa fna fca, .int .i64 kb, .int .i64 lb, .slice kAb knb kcb, .slice fAb fnb fcb, .int .i64 kc, .int .i64 lc, .slice kAc knc kcc, .slice fAc fnc fcc] 69)) (some ⟨v2.heap.size, 0, none⟩) 3 3).mono ?_); rintro en v3 ⟨rfl, hb⟩; replace Q := Lib.hid (by first | exact Q.out.up hb | exact Bx3.up (Q.out.up (by go_grown)) hb); have E3 : Blk v3 v2.heap.size 69 #[.int .i64 ka, .int .i64 la, .slice kAa kna kca, .slice fAa fna fca, .int .i64 kb, .int .i64 lb, .slice kAb knb kcb, .slice fAb fnb fcb, .int .i64 kc, .int .i64 lc, .slice kAc knc kcc, .slice fAc fnc fcc] := Blk.here (Blk.new _ _ _) hb; replace E1 := Blk.here (Blk.here E1 (by go_grown)) hb; replace E2 := Blk.here (Blk.here E2 (by go_grown)) hb; clear hb s0 s1 s2 s3 t0 t1 t2 t3 u0 u1 u2 u3 sl tl ul; obtain ⟨⟨s0, s1, s2, s3⟩, ⟨t0, t1, t2, t3⟩, ⟨u0, u1, u2, u3⟩, sl, tl, ul⟩ := Q.out.cells))
              refine hKx.out _ _ (by (try dsimp only); go_keep) (fun hNew => ?_)
              clear hKx Kx hHeld
              have hHeld := hNew
              clear hNew
              try simp only [Act.put, List.setIfInBounds_toArray, List.set_cons_zero, List.set_cons_succ]
              refine wpAnyH_ready (rs := [26]) (by kernel_rfl) (by simp) ?_
              refine AllReadyH.cons (o := ⟨some 81, .call { callee := .value (.func 38), args := #[.tmp 72, .tmp 78, .tmp 79, .tmp 80], argTypes := #[69, 69, 44, 70] }, _, _, _, _⟩) rfl (fun Kx hKx => ?_) AllReadyH.nil
              (go_simp; go_at_call 38; (have LA := K.out.1.below Q.out.below; have LB := K.out.2.1.below Q.out.below; have LC := K.out.2.2.1.below Q.out.below; have EN := K.out.2.2.2.below Q.out.below; (have HC := tee_call2 (kf := kf) (dk := dk) (a := (Arg.mk ka la kAa kna kca fAa fna fca kida flda)) (b := (Arg.mk kb lb kAb knb kcb fAb fnb fcb kidb fldb)) (c := (Arg.mk kc lc kAc knc kcc fAc fnc fcc kidc fldc)) (es := es) (fs := fs) c1 c2 LA LB LC EN E1 rfl E2 rfl E3 rfl; (with_reducible refine HC.mono ?_); rintro en x0 ⟨rfl, hb⟩; replace Q := Lib.hid (Q.out.up hb); clear HC hb s0 s1 s2 s3 t0 t1 t2 t3 u0 u1 u2 u3 sl tl ul; obtain ⟨⟨s0, s1, s2, s3⟩, ⟨t0, t1, t2, t3⟩, ⟨u0, u1, u2, u3⟩, sl, tl, ul⟩ := Q.out.cells)))
              refine hKx.out _ _ (by (try dsimp only); go_keep) (fun hNew => ?_)
              clear hKx Kx hHeld
              have hHeld := hNew
              clear hNew
              try simp only [Act.put, List.setIfInBounds_toArray, List.set_cons_zero, List.set_cons_succ]
              refine wpAnyH_take (i := 27) (oi := ⟨some 82, .pick (.tmp 63) (.tmp 81) (.const (.bool false)), _, _, _, _⟩) (v := ?vt33) rfl (by kernel_rfl) (by kernel_rfl) (by kernel_rfl) (fun _ _ _ h => h) (Or.inl ⟨by rfl, ?yt33⟩) (by assumption) ?rt33
              case yt33 => (intro w hSw; (try dsimp only at hSw); go_simp; first | done | with_reducible rfl)
              try simp only [Act.put, List.setIfInBounds_toArray, List.set_cons_zero, List.set_cons_succ]
              refine wpAnyH_take (i := 28) (oi := ⟨some 83, .move (.tmp 82), _, _, _, _⟩) (v := ?vt34) rfl (by kernel_rfl) (by kernel_rfl) (by kernel_rfl) (fun _ _ _ h => h) (Or.inl ⟨by rfl, ?yt34⟩) (by assumption) ?rt34
              case yt34 => (intro w hSw; (try dsimp only at hSw); go_simp; first | done | with_reducible rfl)
              try simp only [Act.put, List.setIfInBounds_toArray, List.set_cons_zero, List.set_cons_succ]
              refine wpAnyH_swap (listed' := #[true, true, true, true, true, true, true, true, true, true, true, true, true, true, true, true, true, true, true, true, true, true, true, true, true, true, true, true, true, false, false, false, false, false, false, false, false, false, false, false, false, false, false, false, false, false, false, false, false]) (fuel' := 20) (by kernel_rfl) (by kernel_rfl) ?_
              exact HL.out _ _ ⟨ex_frame (by kernel_rfl), Q.out⟩ hHeld
            · go_simp
              refine hKx.out _ _ (by (try dsimp only); go_keep) (fun hNew => ?_)
              clear hKx Kx hHeld
              have hHeld := hNew
              clear hNew
              try simp only [Act.put, List.setIfInBounds_toArray, List.set_cons_zero, List.set_cons_succ]
              refine wpAnyH_ready (rs := [17]) (by kernel_rfl) (by simp) ?_
              refine AllReadyH.cons (o := ⟨some 72, .call { callee := .value (.tmp 64), args := #[.tmp 71], argTypes := #[67] }, _, _, _, _⟩) rfl (fun Kx hKx => ?_) AllReadyH.nil
              (go_simp; go_at_call 39; ((with_reducible refine (tee_fn ((v1.alloc (.cells #[.int .i64 1, .int .i64 0, .slice (some ⟨_, 0, none⟩) 2 2, .slice none 0 0, .int .i64 kc, .int .i64 lc, .slice kAc knc kcc, .slice fAc fnc fcc] 69)).alloc (.cells #[.int .i64 ka, .int .i64 la, .slice kAa kna kca, .slice fAa fna fca, .int .i64 kb, .int .i64 lb, .slice kAb knb kcb, .slice fAb fnb fcb, .int .i64 kc, .int .i64 lc, .slice kAc knc kcc, .slice fAc fnc fcc] 69)) (some ⟨v1.heap.size, 0, none⟩) 2 2).mono ?_); rintro en v2 ⟨rfl, hb⟩; replace Q := Lib.hid (by first | exact Q.out.up hb | exact Bx3.up (Q.out.up (by go_grown)) hb); have E2 : Blk v2 v1.heap.size 69 #[.int .i64 1, .int .i64 0, .slice (some ⟨_, 0, none⟩) 2 2, .slice none 0 0, .int .i64 kc, .int .i64 lc, .slice kAc knc kcc, .slice fAc fnc fcc] := Blk.here (Blk.alloc (Blk.new _ _ _) _) hb; have E3 : Blk v2 (v1.heap.size + 1) 69 #[.int .i64 ka, .int .i64 la, .slice kAa kna kca, .slice fAa fna fca, .int .i64 kb, .int .i64 lb, .slice kAb knb kcb, .slice fAb fnb fcb, .int .i64 kc, .int .i64 lc, .slice kAc knc kcc, .slice fAc fnc fcc] := Blk.here (Blk.new_at _ 69 _ _ (by simp)) hb; replace E1 := Blk.here (Blk.here E1 (by go_grown)) hb; clear hb s0 s1 s2 s3 t0 t1 t2 t3 u0 u1 u2 u3 sl tl ul; obtain ⟨⟨s0, s1, s2, s3⟩, ⟨t0, t1, t2, t3⟩, ⟨u0, u1, u2, u3⟩, sl, tl, ul⟩ := Q.out.cells))
              refine hKx.out _ _ (by (try dsimp only); go_keep) (fun hNew => ?_)
              clear hKx Kx hHeld
              have hHeld := hNew
              clear hNew
              try simp only [Act.put, List.setIfInBounds_toArray, List.set_cons_zero, List.set_cons_succ]
              refine wpAnyH_ready (rs := [23]) (by kernel_rfl) (by simp) ?_
              refine AllReadyH.cons (o := ⟨some 78, .call { callee := .value (.tmp 73), args := #[.tmp 77], argTypes := #[67] }, _, _, _, _⟩) rfl (fun Kx hKx => ?_) AllReadyH.nil
              (go_simp; go_at_call 39; ((with_reducible refine (tee_fn v2 _ 3 3).mono ?_); rintro en v3 ⟨rfl, hb⟩; replace Q := Lib.hid (by first | exact Q.out.up hb | exact Bx3.up (Q.out.up (by go_grown)) hb); replace E1 := Blk.here E1 hb; replace E2 := Blk.here E2 hb; replace E3 := Blk.here E3 hb; clear hb s0 s1 s2 s3 t0 t1 t2 t3 u0 u1 u2 u3 sl tl ul; obtain ⟨⟨s0, s1, s2, s3⟩, ⟨t0, t1, t2, t3⟩, ⟨u0, u1, u2, u3⟩, sl, tl, ul⟩ := Q.out.cells))
              refine hKx.out _ _ (by (try dsimp only); go_keep) (fun hNew => ?_)
              clear hKx Kx hHeld
              have hHeld := hNew
              clear hNew
              try simp only [Act.put, List.setIfInBounds_toArray, List.set_cons_zero, List.set_cons_succ]
              refine wpAnyH_ready (rs := [26]) (by kernel_rfl) (by simp) ?_
              refine AllReadyH.cons (o := ⟨some 81, .call { callee := .value (.func 38), args := #[.tmp 72, .tmp 78, .tmp 79, .tmp 80], argTypes := #[69, 69, 44, 70] }, _, _, _, _⟩) rfl (fun Kx hKx => ?_) AllReadyH.nil
              (go_simp; go_at_call 38; (have LA := K.out.1.below Q.out.below; have LB := K.out.2.1.below Q.out.below; have LC := K.out.2.2.1.below Q.out.below; have EN := K.out.2.2.2.below Q.out.below; (have HC := tee_call2 (kf := kf) (dk := dk) (a := (Arg.mk ka la kAa kna kca fAa fna fca kida flda)) (b := (Arg.mk kb lb kAb knb kcb fAb fnb fcb kidb fldb)) (c := (Arg.mk kc lc kAc knc kcc fAc fnc fcc kidc fldc)) (es := es) (fs := fs) c1 c2 LA LB LC EN E1 rfl E2 rfl E3 rfl; (with_reducible refine HC.mono ?_); rintro en x0 ⟨rfl, hb⟩; replace Q := Lib.hid (Q.out.up hb); clear HC hb s0 s1 s2 s3 t0 t1 t2 t3 u0 u1 u2 u3 sl tl ul; obtain ⟨⟨s0, s1, s2, s3⟩, ⟨t0, t1, t2, t3⟩, ⟨u0, u1, u2, u3⟩, sl, tl, ul⟩ := Q.out.cells)))
              refine hKx.out _ _ (by (try dsimp only); go_keep) (fun hNew => ?_)
              clear hKx Kx hHeld
              have hHeld := hNew
              clear hNew
              try simp only [Act.put, List.setIfInBounds_toArray, List.set_cons_zero, List.set_cons_succ]
              refine wpAnyH_take (i := 27) (oi := ⟨some 82, .pick (.tmp 63) (.tmp 81) (.const (.bool false)), _, _, _, _⟩) (v := ?vt35) rfl (by kernel_rfl) (by kernel_rfl) (by kernel_rfl) (fun _ _ _ h => h) (Or.inl ⟨by rfl, ?yt35⟩) (by assumption) ?rt35
              case yt35 => (intro w hSw; (try dsimp only at hSw); go_simp; first | done | with_reducible rfl)
              try simp only [Act.put, List.setIfInBounds_toArray, List.set_cons_zero, List.set_cons_succ]
              refine wpAnyH_take (i := 28) (oi := ⟨some 83, .move (.tmp 82), _, _, _, _⟩) (v := ?vt36) rfl (by kernel_rfl) (by kernel_rfl) (by kernel_rfl) (fun _ _ _ h => h) (Or.inl ⟨by rfl, ?yt36⟩) (by assumption) ?rt36
              case yt36 => (intro w hSw; (try dsimp only at hSw); go_simp; first | done | with_reducible rfl)
              try simp only [Act.put, List.setIfInBounds_toArray, List.set_cons_zero, List.set_cons_succ]
              refine wpAnyH_swap (listed' := #[true, true, true, true, true, true, true, true, true, true, true, true, true, true, true, true, true, true, true, true, true, true, true, true, true, true, true, true, true, false, false, false, false, false, false, false, false, false, false, false, false, false, false, false, false, false, false, false, false]) (fuel' := 20) (by kernel_rfl) (by kernel_rfl) ?_
              exact HL.out _ _ ⟨ex_frame (by kernel_rfl), Q.out⟩ hHeld
          · go_simp
            refine hKx.out _ _ (by (try dsimp only); go_keep) (fun hNew => ?_)
            clear hKx Kx hHeld
            have hHeld := hNew
            clear hNew
            try simp only [Act.put, List.setIfInBounds_toArray, List.set_cons_zero, List.set_cons_succ]
            refine wpAnyH_ready (rs := [16]) (by kernel_rfl) (by simp) ?_
            refine AllReadyH.cons (o := ⟨some 71, .buildSlice 67 2 #[(0, (.tmp 69)), (1, (.tmp 70))], _, _, _, _⟩) rfl (fun Kx hKx => ?_) AllReadyH.nil
            go_simp
            refine hKx.out _ _ (by (try dsimp only); go_keep) (fun hNew => ?_)
            clear hKx Kx hHeld
            have hHeld := hNew
            clear hNew
            try simp only [Act.put, List.setIfInBounds_toArray, List.set_cons_zero, List.set_cons_succ]
            refine wpAnyH_ready (rs := [17]) (by kernel_rfl) (by simp) ?_
            refine AllReadyH.cons (o := ⟨some 72, .call { callee := .value (.tmp 64), args := #[.tmp 71], argTypes := #[67] }, _, _, _, _⟩) rfl (fun Kx hKx => ?_) AllReadyH.nil
            (go_simp; go_at_call 39; ((with_reducible refine (tee_fn ((v1.alloc (.cells #[.int .i64 ka, .int .i64 la, .slice kAa kna kca, .slice fAa fna fca, .int .i64 kb, .int .i64 lb, .slice kAb knb kcb, .slice fAb fnb fcb, .int .i64 kc, .int .i64 lc, .slice kAc knc kcc, .slice fAc fnc fcc] 69)).alloc (.cells #[.int .i64 1, .int .i64 0, .slice (some ⟨_, 0, none⟩) 2 2, .slice none 0 0, .int .i64 kc, .int .i64 lc, .slice kAc knc kcc, .slice fAc fnc fcc] 69)) (some ⟨v1.heap.size + 1, 0, none⟩) 2 2).mono ?_); rintro en v2 ⟨rfl, hb⟩; replace Q := Lib.hid (by first | exact Q.out.up hb | exact Bx3.up (Q.out.up (by go_grown)) hb); have E3 : Blk v2 v1.heap.size 69 #[.int .i64 ka, .int .i64 la, .slice kAa kna kca, .slice fAa fna fca, .int .i64 kb, .int .i64 lb, .slice kAb knb kcb, .slice fAb fnb fcb, .int .i64 kc, .int .i64 lc, .slice kAc knc kcc, .slice fAc fnc fcc] := Blk.here (Blk.alloc (Blk.new _ _ _) _) hb; have E2 : Blk v2 (v1.heap.size + 1) 69 #[.int .i64 1, .int .i64 0, .slice (some ⟨_, 0, none⟩) 2 2, .slice none 0 0, .int .i64 kc, .int .i64 lc, .slice kAc knc kcc, .slice fAc fnc fcc] := Blk.here (Blk.new_at _ 69 _ _ (by simp)) hb; replace E1 := Blk.here (Blk.here E1 (by go_grown)) hb; clear hb s0 s1 s2 s3 t0 t1 t2 t3 u0 u1 u2 u3 sl tl ul; obtain ⟨⟨s0, s1, s2, s3⟩, ⟨t0, t1, t2, t3⟩, ⟨u0, u1, u2, u3⟩, sl, tl, ul⟩ := Q.out.cells))
            refine hKx.out _ _ (by (try dsimp only); go_keep) (fun hNew => ?_)
            clear hKx Kx hHeld
            have hHeld := hNew
            clear hNew
            try simp only [Act.put, List.setIfInBounds_toArray, List.set_cons_zero, List.set_cons_succ]
            refine wpAnyH_ready (rs := [23]) (by kernel_rfl) (by simp) ?_
            refine AllReadyH.cons (o := ⟨some 78, .call { callee := .value (.tmp 73), args := #[.tmp 77], argTypes := #[67] }, _, _, _, _⟩) rfl (fun Kx hKx => ?_) AllReadyH.nil
            (go_simp; go_at_call 39; ((with_reducible refine (tee_fn v2 _ 3 3).mono ?_); rintro en v3 ⟨rfl, hb⟩; replace Q := Lib.hid (by first | exact Q.out.up hb | exact Bx3.up (Q.out.up (by go_grown)) hb); replace E1 := Blk.here E1 hb; replace E2 := Blk.here E2 hb; replace E3 := Blk.here E3 hb; clear hb s0 s1 s2 s3 t0 t1 t2 t3 u0 u1 u2 u3 sl tl ul; obtain ⟨⟨s0, s1, s2, s3⟩, ⟨t0, t1, t2, t3⟩, ⟨u0, u1, u2, u3⟩, sl, tl, ul⟩ := Q.out.cells))
            refine hKx.out _ _ (by (try dsimp only); go_keep) (fun hNew => ?_)
            clear hKx Kx hHeld
            have hHeld := hNew
            clear hNew
            try simp only [Act.put, List.setIfInBounds_toArray, List.set_cons_zero, List.set_cons_succ]
            refine wpAnyH_ready (rs := [26]) (by kernel_rfl) (by simp) ?_
            refine AllReadyH.cons (o := ⟨some 81, .call { callee := .value (.func 38), args := #[.tmp 72, .tmp 78, .tmp 79, .tmp 80], argTypes := #[69, 69, 44, 70] }, _, _, _, _⟩) rfl (fun Kx hKx => ?_) AllReadyH.nil
            (go_simp; go_at_call 38; (have LA := K.out.1.below Q.out.below; have LB := K.out.2.1.below Q.out.below; have LC := K.out.2.2.1.below Q.out.below; have EN := K.out.2.2.2.below Q.out.below; (have HC := tee_call2 (kf := kf) (dk := dk) (a := (Arg.mk ka la kAa kna kca fAa fna fca kida flda)) (b := (Arg.mk kb lb kAb knb kcb fAb fnb fcb kidb fldb)) (c := (Arg.mk kc lc kAc knc kcc fAc fnc fcc kidc fldc)) (es := es) (fs := fs) c1 c2 LA LB LC EN E1 rfl E2 rfl E3 rfl; (with_reducible refine HC.mono ?_); rintro en x0 ⟨rfl, hb⟩; replace Q := Lib.hid (Q.out.up hb); clear HC hb s0 s1 s2 s3 t0 t1 t2 t3 u0 u1 u2 u3 sl tl ul; obtain ⟨⟨s0, s1, s2, s3⟩, ⟨t0, t1, t2, t3⟩, ⟨u0, u1, u2, u3⟩, sl, tl, ul⟩ := Q.out.cells)))
            refine hKx.out _ _ (by (try dsimp only); go_keep) (fun hNew => ?_)
            clear hKx Kx hHeld
            have hHeld := hNew
            clear hNew
            try simp only [Act.put, List.setIfInBounds_toArray, List.set_cons_zero, List.set_cons_succ]
            refine wpAnyH_take (i := 27) (oi := ⟨some 82, .pick (.tmp 63) (.tmp 81) (.const (.bool false)), _, _, _, _⟩) (v := ?vt37) rfl (by kernel_rfl) (by kernel_rfl) (by kernel_rfl) (fun _ _ _ h => h) (Or.inl ⟨by rfl, ?yt37⟩) (by assumption) ?rt37
            case yt37 => (intro w hSw; (try dsimp only at hSw); go_simp; first | done | with_reducible rfl)
            try simp only [Act.put, List.setIfInBounds_toArray, List.set_cons_zero, List.set_cons_succ]
            refine wpAnyH_take (i := 28) (oi := ⟨some 83, .move (.tmp 82), _, _, _, _⟩) (v := ?vt38) rfl (by kernel_rfl) (by kernel_rfl) (by kernel_rfl) (fun _ _ _ h => h) (Or.inl ⟨by rfl, ?yt38⟩) (by assumption) ?rt38
            case yt38 => (intro w hSw; (try dsimp only at hSw); go_simp; first | done | with_reducible rfl)
            try simp only [Act.put, List.setIfInBounds_toArray, List.set_cons_zero, List.set_cons_succ]
            refine wpAnyH_swap (listed' := #[true, true, true, true, true, true, true, true, true, true, true, true, true, true, true, true, true, true, true, true, true, true, true, true, true, true, true, true, true, false, false, false, false, false, false, false, false, false, false, false, false, false, false, false, false, false, false, false, false]) (fuel' := 20) (by kernel_rfl) (by kernel_rfl) ?_
            exact HL.out _ _ ⟨ex_frame (by kernel_rfl), Q.out⟩ hHeld
        · go_simp
          refine hKx.out _ _ (by (try dsimp only); go_keep) (fun hNew => ?_)
          clear hKx Kx hHeld
          have hHeld := hNew
          clear hNew
          try simp only [Act.put, List.setIfInBounds_toArray, List.set_cons_zero, List.set_cons_succ]
          refine wpAnyH_ready (rs := [14]) (by kernel_rfl) (by simp) ?_
          refine AllReadyH.cons (o := ⟨some 69, .call { callee := .value (.tmp 65), args := #[.tmp 68], argTypes := #[67] }, _, _, _, _⟩) rfl (fun Kx hKx => ?_) AllReadyH.nil
          (go_simp; go_at_call 39; ((with_reducible refine (tee_fn ((v0.alloc (.cells #[.int .i64 ka, .int .i64 la, .slice kAa kna kca, .slice fAa fna fca, .int .i64 kb, .int .i64 lb, .slice kAb knb kcb, .slice fAb fnb fcb] 69)).alloc (.cells #[.int .i64 ka, .int .i64 la, .slice kAa kna kca, .slice fAa fna fca, .int .i64 kb, .int .i64 lb, .slice kAb knb kcb, .slice fAb fnb fcb, .int .i64 kc, .int .i64 lc, .slice kAc knc kcc, .slice fAc fnc fcc] 69)) (some ⟨v0.heap.size, 0, none⟩) 2 2).mono ?_); rintro en v1 ⟨rfl, hb⟩; replace Q := Lib.hid (by first | exact Q.out.up hb | exact Bx3.up (Q.out.up (by go_grown)) hb); have E1 : Blk v1 v0.heap.size 69 #[.int .i64 ka, .int .i64 la, .slice kAa kna kca, .slice fAa fna fca, .int .i64 kb, .int .i64 lb, .slice kAb knb kcb, .slice fAb fnb fcb] := Blk.here (Blk.alloc (Blk.new _ _ _) _) hb; have E3 : Blk v1 (v0.heap.size + 1) 69 #[.int .i64 ka, .int .i64 la, .slice kAa kna kca, .slice fAa fna fca, .int .i64 kb, .int .i64 lb, .slice kAb knb kcb, .slice fAb fnb fcb, .int .i64 kc, .int .i64 lc, .slice kAc knc kcc, .slice fAc fnc fcc] := Blk.here (Blk.new_at _ 69 _ _ (by simp)) hb; clear hb s0 s1 s2 s3 t0 t1 t2 t3 u0 u1 u2 u3 sl tl ul; obtain ⟨⟨s0, s1, s2, s3⟩, ⟨t0, t1, t2, t3⟩, ⟨u0, u1, u2, u3⟩, sl, tl, ul⟩ := Q.out.cells))
          refine hKx.out _ _ (by (try dsimp only); go_keep) (fun hNew => ?_)
          clear hKx Kx hHeld
          have hHeld := hNew
          clear hNew
          try simp only [Act.put, List.setIfInBounds_toArray, List.set_cons_zero, List.set_cons_succ]
          refine wpAnyH_ready (rs := [16]) (by kernel_rfl) (by simp) ?_
          refine AllReadyH.cons (o := ⟨some 71, .buildSlice 67 2 #[(0, (.tmp 69)), (1, (.tmp 70))], _, _, _, _⟩) rfl (fun Kx hKx => ?_) AllReadyH.nil
          go_simp
          refine hKx.out _ _ (by (try dsimp only); go_keep) (fun hNew => ?_)
          clear hKx Kx hHeld
          have hHeld := hNew
          clear hNew
          try simp only [Act.put, List.setIfInBounds_toArray, List.set_cons_zero, List.set_cons_succ]
          refine wpAnyH_ready (rs := [17]) (by kernel_rfl) (by simp) ?_
          refine AllReadyH.cons (o := ⟨some 72, .call { callee := .value (.tmp 64), args := #[.tmp 71], argTypes := #[67] }, _, _, _, _⟩) rfl (fun Kx hKx => ?_) AllReadyH.nil
          (go_simp; go_at_call 39; ((with_reducible refine (tee_fn (v1.alloc (.cells #[.int .i64 1, .int .i64 0, .slice (some ⟨_, 0, none⟩) 2 2, .slice none 0 0, .int .i64 kc, .int .i64 lc, .slice kAc knc kcc, .slice fAc fnc fcc] 69)) (some ⟨v1.heap.size, 0, none⟩) 2 2).mono ?_); rintro en v2 ⟨rfl, hb⟩; replace Q := Lib.hid (by first | exact Q.out.up hb | exact Bx3.up (Q.out.up (by go_grown)) hb); have E2 : Blk v2 v1.heap.size 69 #[.int .i64 1, .int .i64 0, .slice (some ⟨_, 0, none⟩) 2 2, .slice none 0 0, .int .i64 kc, .int .i64 lc, .slice kAc knc kcc, .slice fAc fnc fcc] := Blk.here (Blk.new _ _ _) hb; replace E1 := Blk.here (Blk.here E1 (by go_grown)) hb; (try replace E3 := Blk.here (Blk.here E3 (by go_grown)) hb); clear hb s0 s1 s2 s3 t0 t1 t2 t3 u0 u1 u2 u3 sl tl ul; obtain ⟨⟨s0, s1, s2, s3⟩, ⟨t0, t1, t2, t3⟩, ⟨u0, u1, u2, u3⟩, sl, tl, ul⟩ := Q.out.cells))
          refine hKx.out _ _ (by (try dsimp only); go_keep) (fun hNew => ?_)
          clear hKx Kx hHeld
          have hHeld := hNew
          clear hNew
          try simp only [Act.put, List.setIfInBounds_toArray, List.set_cons_zero, List.set_cons_succ]
          refine wpAnyH_ready (rs := [23]) (by kernel_rfl) (by simp) ?_
          refine AllReadyH.cons (o := ⟨some 78, .call { callee := .value (.tmp 73), args := #[.tmp 77], argTypes := #[67] }, _, _, _, _⟩) rfl (fun Kx hKx => ?_) AllReadyH.nil
          (go_simp; go_at_call 39; ((with_reducible refine (tee_fn v2 _ 3 3).mono ?_); rintro en v3 ⟨rfl, hb⟩; replace Q := Lib.hid (by first | exact Q.out.up hb | exact Bx3.up (Q.out.up (by go_grown)) hb); replace E1 := Blk.here E1 hb; replace E2 := Blk.here E2 hb; replace E3 := Blk.here E3 hb; clear hb s0 s1 s2 s3 t0 t1 t2 t3 u0 u1 u2 u3 sl tl ul; obtain ⟨⟨s0, s1, s2, s3⟩, ⟨t0, t1, t2, t3⟩, ⟨u0, u1, u2, u3⟩, sl, tl, ul⟩ := Q.out.cells))
          refine hKx.out _ _ (by (try dsimp only); go_keep) (fun hNew => ?_)
          clear hKx Kx hHeld
          have hHeld := hNew
          clear hNew
          try simp only [Act.put, List.setIfInBounds_toArray, List.set_cons_zero, List.set_cons_succ]
          refine wpAnyH_ready (rs := [26]) (by kernel_rfl) (by simp) ?_
          refine AllReadyH.cons (o := ⟨some 81, .call { callee := .value (.func 38), args := #[.tmp 72, .tmp 78, .tmp 79, .tmp 80], argTypes := #[69, 69, 44, 70] }, _, _, _, _⟩) rfl (fun Kx hKx => ?_) AllReadyH.nil
          (go_simp; go_at_call 38; (have LA := K.out.1.below Q.out.below; have LB := K.out.2.1.below Q.out.below; have LC := K.out.2.2.1.below Q.out.below; have EN := K.out.2.2.2.below Q.out.below; (have HC := tee_call2 (kf := kf) (dk := dk) (a := (Arg.mk ka la kAa kna kca fAa fna fca kida flda)) (b := (Arg.mk kb lb kAb knb kcb fAb fnb fcb kidb fldb)) (c := (Arg.mk kc lc kAc knc kcc fAc fnc fcc kidc fldc)) (es := es) (fs := fs) c1 c2 LA LB LC EN E1 rfl E2 rfl E3 rfl; (with_reducible refine HC.mono ?_); rintro en x0 ⟨rfl, hb⟩; replace Q := Lib.hid (Q.out.up hb); clear HC hb s0 s1 s2 s3 t0 t1 t2 t3 u0 u1 u2 u3 sl tl ul; obtain ⟨⟨s0, s1, s2, s3⟩, ⟨t0, t1, t2, t3⟩, ⟨u0, u1, u2, u3⟩, sl, tl, ul⟩ := Q.out.cells)))
          refine hKx.out _ _ (by (try dsimp only); go_keep) (fun hNew => ?_)
          clear hKx Kx hHeld
          have hHeld := hNew
          clear hNew
          try simp only [Act.put, List.setIfInBounds_toArray, List.set_cons_zero, List.set_cons_succ]
          refine wpAnyH_take (i := 27) (oi := ⟨some 82, .pick (.tmp 63) (.tmp 81) (.const (.bool false)), _, _, _, _⟩) (v := ?vt39) rfl (by kernel_rfl) (by kernel_rfl) (by kernel_rfl) (fun _ _ _ h => h) (Or.inl ⟨by rfl, ?yt39⟩) (by assumption) ?rt39
          case yt39 => (intro w hSw; (try dsimp only at hSw); go_simp; first | done | with_reducible rfl)
          try simp only [Act.put, List.setIfInBounds_toArray, List.set_cons_zero, List.set_cons_succ]
          refine wpAnyH_take (i := 28) (oi := ⟨some 83, .move (.tmp 82), _, _, _, _⟩) (v := ?vt40) rfl (by kernel_rfl) (by kernel_rfl) (by kernel_rfl) (fun _ _ _ h => h) (Or.inl ⟨by rfl, ?yt40⟩) (by assumption) ?rt40
          case yt40 => (intro w hSw; (try dsimp only at hSw); go_simp; first | done | with_reducible rfl)
          try simp only [Act.put, List.setIfInBounds_toArray, List.set_cons_zero, List.set_cons_succ]
          refine wpAnyH_swap (listed' := #[true, true, true, true, true, true, true, true, true, true, true, true, true, true, true, true, true, true, true, true, true, true, true, true, true, true, true, true, true, false, false, false, false, false, false, false, false, false, false, false, false, false, false, false, false, false, false, false, false]) (fuel' := 20) (by kernel_rfl) (by kernel_rfl) ?_
          exact HL.out _ _ ⟨ex_frame (by kernel_rfl), Q.out⟩ hHeld
      · go_simp
        refine hKx.out _ _ (by (try dsimp only); go_keep) (fun hNew => ?_)
        clear hKx Kx hHeld
        have hHeld := hNew
        clear hNew
        try simp only [Act.put, List.setIfInBounds_toArray, List.set_cons_zero, List.set_cons_succ]
        refine wpAnyH_ready (rs := [13]) (by kernel_rfl) (by simp) ?_
        refine AllReadyH.cons (o := ⟨some 68, .buildSlice 67 2 #[(0, (.tmp 66)), (1, (.tmp 67))], _, _, _, _⟩) rfl (fun Kx hKx => ?_) AllReadyH.nil
        go_simp
        refine hKx.out _ _ (by (try dsimp only); go_keep) (fun hNew => ?_)
        clear hKx Kx hHeld
        have hHeld := hNew
        clear hNew
        try simp only [Act.put, List.setIfInBounds_toArray, List.set_cons_zero, List.set_cons_succ]
        refine wpAnyH_ready (rs := [14]) (by kernel_rfl) (by simp) ?_
        refine AllReadyH.cons (o := ⟨some 69, .call { callee := .value (.tmp 65), args := #[.tmp 68], argTypes := #[67] }, _, _, _, _⟩) rfl (fun Kx hKx => ?_) AllReadyH.nil
        (go_simp; go_at_call 39; ((with_reducible refine (tee_fn ((v0.alloc (.cells #[.int .i64 ka, .int .i64 la, .slice kAa kna kca, .slice fAa fna fca, .int .i64 kb, .int .i64 lb, .slice kAb knb kcb, .slice fAb fnb fcb, .int .i64 kc, .int .i64 lc, .slice kAc knc kcc, .slice fAc fnc fcc] 69)).alloc (.cells #[.int .i64 ka, .int .i64 la, .slice kAa kna kca, .slice fAa fna fca, .int .i64 kb, .int .i64 lb, .slice kAb knb kcb, .slice fAb fnb fcb] 69)) (some ⟨v0.heap.size + 1, 0, none⟩) 2 2).mono ?_); rintro en v1 ⟨rfl, hb⟩; replace Q := Lib.hid (by first | exact Q.out.up hb | exact Bx3.up (Q.out.up (by go_grown)) hb); have E3 : Blk v1 v0.heap.size 69 #[.int .i64 ka, .int .i64 la, .slice kAa kna kca, .slice fAa fna fca, .int .i64 kb, .int .i64 lb, .slice kAb knb kcb, .slice fAb fnb fcb, .int .i64 kc, .int .i64 lc, .slice kAc knc kcc, .slice fAc fnc fcc] := Blk.here (Blk.alloc (Blk.new _ _ _) _) hb; have E1 : Blk v1 (v0.heap.size + 1) 69 #[.int .i64 ka, .int .i64 la, .slice kAa kna kca, .slice fAa fna fca, .int .i64 kb, .int .i64 lb, .slice kAb knb kcb, .slice fAb fnb fcb] := Blk.here (Blk.new_at _ 69 _ _ (by simp)) hb; clear hb s0 s1 s2 s3 t0 t1 t2 t3 u0 u1 u2 u3 sl tl ul; obtain ⟨⟨s0, s1, s2, s3⟩, ⟨t0, t1, t2, t3⟩, ⟨u0, u1, u2, u3⟩, sl, tl, ul⟩ := Q.out.cells))
        refine hKx.out _ _ (by (try dsimp only); go_keep) (fun hNew => ?_)
        clear hKx Kx hHeld
        have hHeld := hNew
        clear hNew
        try simp only [Act.put, List.setIfInBounds_toArray, List.set_cons_zero, List.set_cons_succ]
        refine wpAnyH_ready (rs := [16]) (by kernel_rfl) (by simp) ?_
        refine AllReadyH.cons (o := ⟨some 71, .buildSlice 67 2 #[(0, (.tmp 69)), (1, (.tmp 70))], _, _, _, _⟩) rfl (fun Kx hKx => ?_) AllReadyH.nil
        go_simp
        refine hKx.out _ _ (by (try dsimp only); go_keep) (fun hNew => ?_)
        clear hKx Kx hHeld
        have hHeld := hNew
        clear hNew
        try simp only [Act.put, List.setIfInBounds_toArray, List.set_cons_zero, List.set_cons_succ]
        refine wpAnyH_ready (rs := [17]) (by kernel_rfl) (by simp) ?_
        refine AllReadyH.cons (o := ⟨some 72, .call { callee := .value (.tmp 64), args := #[.tmp 71], argTypes := #[67] }, _, _, _, _⟩) rfl (fun Kx hKx => ?_) AllReadyH.nil
        (go_simp; go_at_call 39; ((with_reducible refine (tee_fn (v1.alloc (.cells #[.int .i64 1, .int .i64 0, .slice (some ⟨_, 0, none⟩) 2 2, .slice none 0 0, .int .i64 kc, .int .i64 lc, .slice kAc knc kcc, .slice fAc fnc fcc] 69)) (some ⟨v1.heap.size, 0, none⟩) 2 2).mono ?_); rintro en v2 ⟨rfl, hb⟩; replace Q := Lib.hid (by first | exact Q.out.up hb | exact Bx3.up (Q.out.up (by go_grown)) hb); have E2 : Blk v2 v1.heap.size 69 #[.int .i64 1, .int .i64 0, .slice (some ⟨_, 0, none⟩) 2 2, .slice none 0 0, .int .i64 kc, .int .i64 lc, .slice kAc knc kcc, .slice fAc fnc fcc] := Blk.here (Blk.new _ _ _) hb; replace E1 := Blk.here (Blk.here E1 (by go_grown)) hb; (try replace E3 := Blk.here (Blk.here E3 (by go_grown)) hb); clear hb s0 s1 s2 s3 t0 t1 t2 t3 u0 u1 u2 u3 sl tl ul; obtain ⟨⟨s0, s1, s2, s3⟩, ⟨t0, t1, t2, t3⟩, ⟨u0, u1, u2, u3⟩, sl, tl, ul⟩ := Q.out.cells))
        refine hKx.out _ _ (by (try dsimp only); go_keep) (fun hNew => ?_)
        clear hKx Kx hHeld
        have hHeld := hNew
        clear hNew
        try simp only [Act.put, List.setIfInBounds_toArray, List.set_cons_zero, List.set_cons_succ]
        refine wpAnyH_ready (rs := [23]) (by kernel_rfl) (by simp) ?_
        refine AllReadyH.cons (o := ⟨some 78, .call { callee := .value (.tmp 73), args := #[.tmp 77], argTypes := #[67] }, _, _, _, _⟩) rfl (fun Kx hKx => ?_) AllReadyH.nil
        (go_simp; go_at_call 39; ((with_reducible refine (tee_fn v2 _ 3 3).mono ?_); rintro en v3 ⟨rfl, hb⟩; replace Q := Lib.hid (by first | exact Q.out.up hb | exact Bx3.up (Q.out.up (by go_grown)) hb); replace E1 := Blk.here E1 hb; replace E2 := Blk.here E2 hb; replace E3 := Blk.here E3 hb; clear hb s0 s1 s2 s3 t0 t1 t2 t3 u0 u1 u2 u3 sl tl ul; obtain ⟨⟨s0, s1, s2, s3⟩, ⟨t0, t1, t2, t3⟩, ⟨u0, u1, u2, u3⟩, sl, tl, ul⟩ := Q.out.cells))
        refine hKx.out _ _ (by (try dsimp only); go_keep) (fun hNew => ?_)
        clear hKx Kx hHeld
        have hHeld := hNew
        clear hNew
        try simp only [Act.put, List.setIfInBounds_toArray, List.set_cons_zero, List.set_cons_succ]
        refine wpAnyH_ready (rs := [26]) (by kernel_rfl) (by simp) ?_
        refine AllReadyH.cons (o := ⟨some 81, .call { callee := .value (.func 38), args := #[.tmp 72, .tmp 78, .tmp 79, .tmp 80], argTypes := #[69, 69, 44, 70] }, _, _, _, _⟩) rfl (fun Kx hKx => ?_) AllReadyH.nil
        (go_simp; go_at_call 38; (have LA := K.out.1.below Q.out.below; have LB := K.out.2.1.below Q.out.below; have LC := K.out.2.2.1.below Q.out.below; have EN := K.out.2.2.2.below Q.out.below; (have HC := tee_call2 (kf := kf) (dk := dk) (a := (Arg.mk ka la kAa kna kca fAa fna fca kida flda)) (b := (Arg.mk kb lb kAb knb kcb fAb fnb fcb kidb fldb)) (c := (Arg.mk kc lc kAc knc kcc fAc fnc fcc kidc fldc)) (es := es) (fs := fs) c1 c2 LA LB LC EN E1 rfl E2 rfl E3 rfl; (with_reducible refine HC.mono ?_); rintro en x0 ⟨rfl, hb⟩; replace Q := Lib.hid (Q.out.up hb); clear HC hb s0 s1 s2 s3 t0 t1 t2 t3 u0 u1 u2 u3 sl tl ul; obtain ⟨⟨s0, s1, s2, s3⟩, ⟨t0, t1, t2, t3⟩, ⟨u0, u1, u2, u3⟩, sl, tl, ul⟩ := Q.out.cells)))
        refine hKx.out _ _ (by (try dsimp only); go_keep) (fun hNew => ?_)
        clear hKx Kx hHeld
        have hHeld := hNew
        clear hNew
        try simp only [Act.put, List.setIfInBounds_toArray, List.set_cons_zero, List.set_cons_succ]
        refine wpAnyH_take (i := 27) (oi := ⟨some 82, .pick (.tmp 63) (.tmp 81) (.const (.bool false)), _, _, _, _⟩) (v := ?vt41) rfl (by kernel_rfl) (by kernel_rfl) (by kernel_rfl) (fun _ _ _ h => h) (Or.inl ⟨by rfl, ?yt41⟩) (by assumption) ?rt41
        case yt41 => (intro w hSw; (try dsimp only at hSw); go_simp; first | done | with_reducible rfl)
        try simp only [Act.put, List.setIfInBounds_toArray, List.set_cons_zero, List.set_cons_succ]
        refine wpAnyH_take (i := 28) (oi := ⟨some 83, .move (.tmp 82), _, _, _, _⟩) (v := ?vt42) rfl (by kernel_rfl) (by kernel_rfl) (by kernel_rfl) (fun _ _ _ h => h) (Or.inl ⟨by rfl, ?yt42⟩) (by assumption) ?rt42
        case yt42 => (intro w hSw; (try dsimp only at hSw); go_simp; first | done | with_reducible rfl)
        try simp only [Act.put, List.setIfInBounds_toArray, List.set_cons_zero, List.set_cons_succ]
        refine wpAnyH_swap (listed' := #[true, true, true, true, true, true, true, true, true, true, true, true, true, true, true, true, true, true, true, true, true, true, true, true, true, true, true, true, true, false, false, false, false, false, false, false, false, false, false, false, false, false, false, false, false, false, false, false, false]) (fuel' := 20) (by kernel_rfl) (by kernel_rfl) ?_
        exact HL.out _ _ ⟨ex_frame (by kernel_rfl), Q.out⟩ hHeld
end Go.Proofs.YtieidjlmgalihaaGreatDoor
