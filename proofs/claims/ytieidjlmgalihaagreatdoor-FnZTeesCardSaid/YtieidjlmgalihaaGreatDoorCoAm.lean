/- The laws' arguments: cores that are asked for of cores that are given. -/
import Derived.Test.YtieidjlmgalihaaGreatDoorCoAk
import Derived.Test.YtieidjlmgalihaaGreatDoorCoAl
import Derived.Test.YtieidjlmgalihaaGreatDoorCoAg
set_option linter.all false
namespace Go.Proofs.YtieidjlmgalihaaGreatDoor
open Go.RowKit
set_option maxRecDepth 100000
/-- Entries and fields as they are given. -/
structure Giv (kf : Nat) (w : World) (A1 : Option Addr) (n1 : Nat) (es : Nat → Ent) (A2 : Option Addr) (n2 : Nat) (fs : Nat → FRow) : Prop where
  le1 : n1 ≤ maxLen
  le2 : n2 ≤ maxLen
  ents : RowAt w A1 n1 12 fun i => (es i).arr
  nanos : ∀ i, i < n1 → -9223372036854775808 ≤ (es i).nanos ∧ (es i).nanos ≤ 9223372036854775807
  rows : RowAt w A2 n2 1 fun i => (fs i).arr
  flds : ∀ i, i < n2 → FldsOk kf w (fs i).A (fs i).n (fs i).g
theorem Giv.below {kf : Nat} {w w' : World} {A1 A2 : Option Addr} {n1 n2 : Nat} {es : Nat → Ent} {fs : Nat → FRow} (h : Giv kf w A1 n1 es A2 n2 fs) (hb : Below w.heap.size w w') : Giv kf w' A1 n1 es A2 n2 fs :=
  ⟨h.le1, h.le2, h.ents.below hb, h.nanos, h.rows.below hb, fun i hi => (h.flds i hi).below hb⟩
theorem Giv.inp {kf : Nat} {w : World} {a : Arg} {A1 A2 : Option Addr} {n1 n2 : Nat} {es : Nat → Ent} {fs : Nat → FRow} (h : Giv kf w A1 n1 es A2 n2 fs) (hl : Looked a n1 n2 fs) : Inp kf w A1 n1 es A2 n2 fs :=
  ⟨hl.2.2.1, hl.2.2.2.1, h.ents, h.nanos, h.rows, fun i hi => ⟨h.flds i hi, hl.2.2.2.2 i hi⟩⟩
theorem inp_none {kf : Nat} {w : World} {es : Nat → Ent} {fs : Nat → FRow} : Inp kf w none 0 es none 0 fs :=
  ⟨by omega, by omega, fun i hi => by omega, fun i hi => by omega, fun i hi => by omega, fun i hi => by omega⟩
/-- A core that the guards let in. -/
structure Let (kf dk : Nat) (w : World) (a : Arg) : Prop where
  at_ : ArgAt kf dk w a
  cnt : a.cnt ≤ 7776
  sz : a.sz ≤ 1800
theorem let_of {kf dk : Nat} {w : World} {a : Arg} {n1 n2 : Nat} {fs : Nat → FRow} (h : CorAt kf dk w a) (hl : Looked a n1 n2 fs) : Let kf dk w a :=
  ⟨argAt_of h hl.1 hl.2.1, fine_cnt hl.1, fine_sz hl.1 hl.2.1⟩
theorem Let.below {kf dk : Nat} {w w' : World} {a : Arg} (h : Let kf dk w a) (hb : Below w.heap.size w w') : Let kf dk w' a := ⟨h.at_.below hb, h.cnt, h.sz⟩
theorem one_cnt {kind lev : Int} {x : Arg} {A fA : Option Addr} {fn fc : Nat} {fld : Nat → Fld} (h : kind ≠ 0) : (oneArg kind lev x A fA fn fc fld).cnt = x.cnt := by
  simp [Arg.cnt, h, sumN]
theorem one_sz {kind lev : Int} {x : Arg} {A fA : Option Addr} {fn fc : Nat} {fld : Nat → Fld} : (oneArg kind lev x A fA fn fc fld).sz = x.sz + fn := by
  simp [Arg.sz, supN]
theorem one_at {kf dk : Nat} {w : World} {kind lev : Int} {x : Arg} {b : Nat} {fA : Option Addr} {fn fc : Nat} {fld : Nat → Fld} (hx : ArgAt kf dk w x) (hB : Blk w b 69 x.arr) (hf : FldsOk kf w fA fn fld) (hn : fn ≤ 1000) : ArgAt kf (dk + 1) w (oneArg kind lev x (some ⟨b, 0, none⟩) fA fn fc fld) := by
  refine ⟨by omega, fun i hi => ⟨b, 0, rfl, by cases x <;> rfl, fun j hj => ?_⟩, fun i hi => hx, hf, hn⟩
  obtain rfl : i = 0 := by omega
  have := hB.cell j
  simpa using this
theorem flds_none {kf : Nat} {w : World} {g : Nat → Fld} : FldsOk kf w none 0 g := ⟨Nat.zero_le _, fun i hi => by omega, fun i hi => by omega⟩
/-- A core's box, and all that was there ahead. -/
structure Bx (w : World) (arr : Array Value) (w' : World) : Prop where
  blk : Blk w' w.heap.size 69 arr
  below : Below w.heap.size w w'
theorem Bx.up {w W W' : World} {arr : Array Value} (h : Bx w arr W) (hb : Below W.heap.size W W') : Bx w arr W' := ⟨h.1.here hb, h.2.trans (hb.mono h.2.size)⟩
theorem bx_first {w w1 : World} {arr : Array Value} (hb : Below (w.alloc (.cells arr 69)).heap.size (w.alloc (.cells arr 69)) w1) : Bx w arr w1 := ⟨(Blk.new _ _ _).here hb, ((Below.refl _ _).alloc (Nat.le_refl _) _).trans (hb.mono (by simp))⟩
theorem Bx.cells {w W : World} {a0 a1 a2 a3 : Value} (h : Bx w #[a0, a1, a2, a3] W) : W.cell? ⟨w.heap.size, 0, none⟩ = some a0 ∧ W.cell? ⟨w.heap.size, 1, none⟩ = some a1 ∧ W.cell? ⟨w.heap.size, 2, none⟩ = some a2 ∧ W.cell? ⟨w.heap.size, 3, none⟩ = some a3 ∧ w.heap.size < W.heap.size :=
  ⟨h.1.cell 0, h.1.cell 1, h.1.cell 2, h.1.cell 3, h.1.lt⟩
/-- The entries and fields, the table, at the place where two cores are compared. -/
structure Env (kf : Nat) (w : World) (A1 : Option Addr) (n1 : Nat) (es : Nat → Ent) (A2 : Option Addr) (n2 : Nat) (fs : Nat → FRow) : Prop where
  inp : Inp kf w A1 n1 es A2 n2 fs
  tab : Tab10 w.heap.size w
theorem Env.below {kf : Nat} {w w' : World} {A1 A2 : Option Addr} {n1 n2 : Nat} {es : Nat → Ent} {fs : Nat → FRow} (h : Env kf w A1 n1 es A2 n2 fs) (hb : Below w.heap.size w w') : Env kf w' A1 n1 es A2 n2 fs :=
  ⟨h.inp.below hb, tabUp h.tab hb hb.size⟩
theorem one_ask {kf dk : Nat} {w : World} {kind lev : Int} {x : Arg} {b : Nat} {fA : Option Addr} {fn fc : Nat} {fld : Nat → Fld} (h0 : kind ≠ 0) (hx : Ask kf dk w x) (hB : Blk w b 69 x.arr) (hf : FldsOk kf w fA fn fld) (hn : fn ≤ 1000) (hs : x.sz + fn ≤ 10000) : Ask kf (dk + 1) w (oneArg kind lev x (some ⟨b, 0, none⟩) fA fn fc fld) :=
  ⟨one_at hx.at_ hB hf hn, by rw [one_cnt h0]; exact hx.cnt, by rw [one_sz]; exact hs⟩
theorem Let.ask {kf dk : Nat} {w : World} {a : Arg} (h : Let kf dk w a) : Ask kf dk w a := ⟨h.at_, by have := h.cnt; omega, by have := h.sz; omega⟩
theorem ArgAt.up {kf : Nat} {w : World} : ∀ {k : Nat} {a : Arg}, ArgAt kf k w a → ArgAt kf (k + 1) w a
  | 0, _, h => h.elim
  | _ + 1, .nil, h => h.elim
  | k + 1, .mk _ _ _ _ _ _ _ _ _ _, ⟨h1, h2, h3, h4, h5⟩ => ⟨h1, h2, fun i hi => ArgAt.up (h3 i hi), h4, h5⟩
theorem Ask.up {kf dk : Nat} {w : World} {a : Arg} (h : Ask kf dk w a) : Ask kf (dk + 1) w a := ⟨h.at_.up, h.cnt, h.sz⟩
abbrev Good (w : World) (e : Ending) (w' : World) : Prop := e = .returned (.bool true) ∧ Below w.heap.size w w'
section
variable {kf dk : Nat} {w : World} {a b c : Arg} {A1 A2 : Option Addr} {n1 n2 : Nat} {es : Nat → Ent} {fs : Nat → FRow}
theorem inc_call {low high : Int} {b1 b2 b3 : Nat} (c1 c2 : Nat) (ha : Let kf dk w a) (he : Env kf w A1 n1 es A2 n2 fs) (h1 : -1 ≤ low) (h2 : low ≤ high) (h3 : high ≤ 5) (hn : ((oneArg 2 low a (some ⟨b1, 0, none⟩) none 0 0 (fun _ => default)).build 0).2 ≠ none)
    (B1 : Blk w b1 69 a.arr) (B2 : Blk w b2 69 #[.int .i64 2, .int .i64 low, .slice (some ⟨b1, 0, none⟩) 1 1, .slice none 0 0]) (B3 : Blk w b3 69 a.arr) :
    Calls Tryz.prog 38 #[.agg #[.int .i64 2, .int .i64 high, .slice (some ⟨b2, 0, none⟩) 1 1, .slice none 0 0], .agg #[.int .i64 2, .int .i64 high, .slice (some ⟨b3, 0, none⟩) 1 1, .slice none 0 0], .slice A1 n1 c1, .slice A2 n2 c2] w (Good w) := by
  have hs := ha.sz
  have q1 : Ask kf (dk + 1) w (oneArg 2 low a (some ⟨b1, 0, none⟩) none 0 0 (fun _ => default)) := one_ask (by decide) ha.ask B1 flds_none (by omega) (by omega)
  have q2 : Ask kf (dk + 2) w (oneArg 2 high (oneArg 2 low a (some ⟨b1, 0, none⟩) none 0 0 (fun _ => default)) (some ⟨b2, 0, none⟩) none 0 0 (fun _ => default)) := one_ask (by decide) q1 B2 flds_none (by omega) (by rw [one_sz]; omega)
  have q3 : Ask kf (dk + 1) w (oneArg 2 high a (some ⟨b3, 0, none⟩) none 0 0 (fun _ => default)) := one_ask (by decide) ha.ask B3 flds_none (by omega) (by omega)
  have q4 := inc_inc (A2 := some ⟨b2, 0, none⟩) (A3 := some ⟨b3, 0, none⟩) (f2 := none) (f3 := none) (n2 := 0) (n3 := 0) (c2 := 0) (c3 := 0) (g2 := fun _ => default) (g3 := fun _ => default) h1 h2 h3 hn
  have q5 := same_written kf (dk + 2) w (oneArg 2 high (oneArg 2 low a (some ⟨b1, 0, none⟩) none 0 0 (fun _ => default)) (some ⟨b2, 0, none⟩) none 0 0 (fun _ => default)) (oneArg 2 high a (some ⟨b3, 0, none⟩) none 0 0 (fun _ => default)) A1 A2 n1 c1 n2 c2 es fs q2 q3.up q4 he.inp he.tab
  exact q5
/-- Fields upon fields. -/
theorem twice_call {k : Int} {fA1 fA2 fA3 : Option Addr} {m1 m2 m3 k1 k2 k3 b1 b2 b3 : Nat} {g1 g2 g3 : Nat → Fld} (c1 c2 : Nat) (hk : k = 3 ∨ k = 4) (ha : Let kf dk w a) (he : Env kf w A1 n1 es A2 n2 fs) (hl : (List.range m3).map g3 = (List.range m1).map g1 ++ (List.range m2).map g2)
    (F1 : FldsOk kf w fA1 m1 g1) (F2 : FldsOk kf w fA2 m2 g2) (F3 : FldsOk kf w fA3 m3 g3) (M1 : m1 ≤ 300) (M2 : m2 ≤ 300) (B1 : Blk w b1 69 a.arr) (B2 : Blk w b2 69 #[.int .i64 3, .int .i64 0, .slice (some ⟨b1, 0, none⟩) 1 1, .slice fA1 m1 k1]) (B3 : Blk w b3 69 a.arr) :
    Calls Tryz.prog 38 #[.agg #[.int .i64 k, .int .i64 0, .slice (some ⟨b2, 0, none⟩) 1 1, .slice fA2 m2 k2], .agg #[.int .i64 3, .int .i64 0, .slice (some ⟨b3, 0, none⟩) 1 1, .slice fA3 m3 k3], .slice A1 n1 c1, .slice A2 n2 c2] w (Good w) := by
  have hs := ha.sz
  have hm : m3 = m1 + m2 := by have := congrArg List.length hl; simpa using this
  have q1 : Ask kf (dk + 1) w (oneArg 3 0 a (some ⟨b1, 0, none⟩) fA1 m1 k1 g1) := one_ask (by decide) ha.ask B1 F1 (by omega) (by omega)
  have q2 : Ask kf (dk + 2) w (oneArg k 0 (oneArg 3 0 a (some ⟨b1, 0, none⟩) fA1 m1 k1 g1) (some ⟨b2, 0, none⟩) fA2 m2 k2 g2) := one_ask (by omega) q1 B2 F2 (by omega) (by rw [one_sz]; omega)
  have q3 : Ask kf (dk + 1) w (oneArg 3 0 a (some ⟨b3, 0, none⟩) fA3 m3 k3 g3) := one_ask (by decide) ha.ask B3 F3 (by omega) (by omega)
  have q4 : Alike ((oneArg k 0 (oneArg 3 0 a (some ⟨b1, 0, none⟩) fA1 m1 k1 g1) (some ⟨b2, 0, none⟩) fA2 m2 k2 g2).build 0).2 ((oneArg 3 0 a (some ⟨b3, 0, none⟩) fA3 m3 k3 g3).build 0).2 := by
    rcases hk with rfl | rfl
    · exact with_with hl
    · exact lazy_with hl
  have q5 := same_written kf (dk + 2) w (oneArg k 0 (oneArg 3 0 a (some ⟨b1, 0, none⟩) fA1 m1 k1 g1) (some ⟨b2, 0, none⟩) fA2 m2 k2 g2) (oneArg 3 0 a (some ⟨b3, 0, none⟩) fA3 m3 k3 g3) A1 A2 n1 c1 n2 c2 es fs q2 q3.up q4 he.inp he.tab
  exact q5
theorem lazy_call {fA1 fA3 : Option Addr} {m1 m3 k1 k3 b1 b3 : Nat} {g1 g3 : Nat → Fld} (c1 c2 : Nat) (ha : Let kf dk w a) (he : Env kf w A1 n1 es A2 n2 fs) (hl : (List.range m3).map g3 = (List.range m1).map g1) (F1 : FldsOk kf w fA1 m1 g1) (F3 : FldsOk kf w fA3 m3 g3) (M1 : m1 ≤ 600) (B1 : Blk w b1 69 a.arr) (B3 : Blk w b3 69 a.arr) :
    Calls Tryz.prog 38 #[.agg #[.int .i64 4, .int .i64 0, .slice (some ⟨b1, 0, none⟩) 1 1, .slice fA1 m1 k1], .agg #[.int .i64 3, .int .i64 0, .slice (some ⟨b3, 0, none⟩) 1 1, .slice fA3 m3 k3], .slice A1 n1 c1, .slice A2 n2 c2] w (Good w) := by
  have hs := ha.sz
  have hm : m3 = m1 := by have := congrArg List.length hl; simpa using this
  have q1 : Ask kf (dk + 1) w (oneArg 4 0 a (some ⟨b1, 0, none⟩) fA1 m1 k1 g1) := one_ask (by decide) ha.ask B1 F1 (by omega) (by omega)
  have q3 : Ask kf (dk + 1) w (oneArg 3 0 a (some ⟨b3, 0, none⟩) fA3 m3 k3 g3) := one_ask (by decide) ha.ask B3 F3 (by omega) (by omega)
  have q5 := same_written kf (dk + 1) w (oneArg 4 0 a (some ⟨b1, 0, none⟩) fA1 m1 k1 g1) (oneArg 3 0 a (some ⟨b3, 0, none⟩) fA3 m3 k3 g3) A1 A2 n1 c1 n2 c2 es fs q1 q3 (lazy_alone hl) he.inp he.tab
  exact q5
end
end Go.Proofs.YtieidjlmgalihaaGreatDoor
