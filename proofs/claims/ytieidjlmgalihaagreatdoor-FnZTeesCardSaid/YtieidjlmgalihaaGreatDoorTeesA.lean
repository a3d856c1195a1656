/- Tees that are asked for. -/
import Derived.Test.YtieidjlmgalihaaGreatDoorCoAm
set_option linter.all false
namespace Go.Proofs.YtieidjlmgalihaaGreatDoor
open Go.RowKit
set_option maxRecDepth 100000
theorem flat_four (f : Arg → List Value) (hf : ∀ x, (f x).length = 4) : ∀ (l : List Arg) (i j : Nat) (x : Arg), l[i]? = some x → j < 4 → (l.flatMap f)[i * 4 + j]? = (f x)[j]?
  | [], _, _, _, h, _ => by simp at h
  | y :: l, 0, j, x, h, hj => by
    simp at h
    subst h
    rw [List.flatMap_cons, List.getElem?_append_left (by rw [hf]; omega), Nat.zero_mul, Nat.zero_add]
  | y :: l, i + 1, j, x, h, hj => by
    simp only [List.getElem?_cons_succ] at h
    rw [List.flatMap_cons, List.getElem?_append_right (by rw [hf]; omega), hf]
    have e : (i + 1) * 4 + j - 4 = i * 4 + j := by omega
    rw [e]
    exact flat_four f hf l i j x h hj
theorem tee_at {kf dk : Nat} {w : World} {l : List Arg} {b : Nat} {cs : Array Value} (hl : l.length ≤ 1000) (hx : ∀ (i : Nat) (x : Arg), l[i]? = some x → ArgAt kf dk w x) (hB : Blk w b 69 cs) (hcs : cs.toList = l.flatMap fun x => x.arr.toList) : ArgAt kf (dk + 1) w (teeArg l (some ⟨b, 0, none⟩)) := by
  refine ⟨hl, fun i hi => ⟨b, 0, rfl, ?_, fun j hj => ?_⟩, fun i hi => ?_, flds_none, by omega⟩
  · show (l.getD i Arg.nil).arr.size = 4
    cases l.getD i Arg.nil <;> rfl
  · have e : l[i]? = some (l.getD i .nil) := by simp [List.getD, List.getElem?_eq_getElem hi]
    have h1 := flat_four (fun x => x.arr.toList) (fun x => by cases x <;> rfl) l i j _ e hj
    rw [← hcs] at h1
    rw [hB.cell]
    simpa using h1
  · have e : l[i]? = some (l.getD i .nil) := by simp [List.getD, List.getElem?_eq_getElem hi]
    exact hx i _ e
section
variable {kf dk : Nat} {w : World} {a b c : Arg} {A1 A2 : Option Addr} {n1 n2 : Nat} {es : Nat → Ent} {fs : Nat → FRow}
theorem tee1_ask {b1 : Nat} {cs : Array Value} (ha : Let kf dk w a) (B : Blk w b1 69 cs) (hcs : cs.toList = a.arr.toList) : Ask kf (dk + 1) w (teeArg [a] (some ⟨b1, 0, none⟩)) := by
  refine ⟨tee_at (by simp) (fun i x h => ?_) B (by simpa using hcs), ?_, ?_⟩
  · match i, h with
    | 0, h => simp at h; subst h; exact ha.at_
  · have := ha.cnt
    simp [Arg.cnt, sumN]
    omega
  · have := ha.sz
    simp [Arg.sz, supN]
    omega
theorem tee2_ask {b1 : Nat} {cs : Array Value} (ha : Ask kf dk w a) (hb : Ask kf dk w b) (hc : a.cnt + b.cnt ≤ 25000) (B : Blk w b1 69 cs) (hcs : cs.toList = a.arr.toList ++ b.arr.toList) : Ask kf (dk + 1) w (teeArg [a, b] (some ⟨b1, 0, none⟩)) := by
  refine ⟨tee_at (by simp) (fun i x h => ?_) B (by simpa using hcs), ?_, ?_⟩
  · match i, h with
    | 0, h => simp at h; subst h; exact ha.at_
    | 1, h => simp at h; subst h; exact hb.at_
  · simp [Arg.cnt, sumN]
    omega
  · have h1 := ha.sz
    have h2 := hb.sz
    simp [Arg.sz, supN]
    omega
theorem tee3_ask {b1 : Nat} {cs : Array Value} (ha : Let kf dk w a) (hb : Let kf dk w b) (hc : Let kf dk w c) (B : Blk w b1 69 cs) (hcs : cs.toList = a.arr.toList ++ (b.arr.toList ++ c.arr.toList)) : Ask kf (dk + 1) w (teeArg [a, b, c] (some ⟨b1, 0, none⟩)) := by
  refine ⟨tee_at (by simp) (fun i x h => ?_) B (by simpa using hcs), ?_, ?_⟩
  · match i, h with
    | 0, h => simp at h; subst h; exact ha.at_
    | 1, h => simp at h; subst h; exact hb.at_
    | 2, h => simp at h; subst h; exact hc.at_
  · have h1 := ha.cnt
    have h2 := hb.cnt
    have h3 := hc.cnt
    simp [Arg.cnt, sumN]
    omega
  · have h1 := ha.sz
    have h2 := hb.sz
    have h3 := hc.sz
    simp [Arg.sz, supN]
    omega
abbrev teeV (b n : Nat) : Array Value := #[.int .i64 1, .int .i64 0, .slice (some ⟨b, 0, none⟩) n n, .slice none 0 0]
theorem tee_call1 {b1 : Nat} {cs : Array Value} (c1 c2 : Nat) (ha : Let kf dk w a) (he : Env kf w A1 n1 es A2 n2 fs) (B : Blk w b1 69 cs) (hcs : cs.toList = a.arr.toList) :
    Calls Tryz.prog 38 #[.agg (teeV b1 1), .agg a.arr, .slice A1 n1 c1, .slice A2 n2 c2] w (Good w) :=
  same_written kf (dk + 1) w (teeArg [a] (some ⟨b1, 0, none⟩)) a A1 A2 n1 c1 n2 c2 es fs (tee1_ask ha B hcs) ha.ask.up (tee_alone a _) he.inp he.tab
theorem tee_call2 {b1 b2 b3 : Nat} {cs1 cs2 cs3 : Array Value} (c1 c2 : Nat) (ha : Let kf dk w a) (hb : Let kf dk w b) (hc : Let kf dk w c) (he : Env kf w A1 n1 es A2 n2 fs) (B1 : Blk w b1 69 cs1) (e1 : cs1.toList = a.arr.toList ++ b.arr.toList) (B2 : Blk w b2 69 cs2) (e2 : cs2.toList = (teeV b1 2).toList ++ c.arr.toList) (B3 : Blk w b3 69 cs3) (e3 : cs3.toList = a.arr.toList ++ (b.arr.toList ++ c.arr.toList)) :
    Calls Tryz.prog 38 #[.agg (teeV b2 2), .agg (teeV b3 3), .slice A1 n1 c1, .slice A2 n2 c2] w (Good w) := by
  have k1 := ha.cnt
  have k2 := hb.cnt
  have k3 := hc.cnt
  have q1 : Ask kf (dk + 1) w (teeArg [a, b] (some ⟨b1, 0, none⟩)) := tee2_ask ha.ask hb.ask (by omega) B1 e1
  have q2 : Ask kf (dk + 2) w (teeArg [teeArg [a, b] (some ⟨b1, 0, none⟩), c] (some ⟨b2, 0, none⟩)) := tee2_ask q1 hc.ask.up (by simp [Arg.cnt, sumN]; omega) B2 e2
  exact same_written kf (dk + 2) w (teeArg [teeArg [a, b] (some ⟨b1, 0, none⟩), c] (some ⟨b2, 0, none⟩)) (teeArg [a, b, c] (some ⟨b3, 0, none⟩)) A1 A2 n1 c1 n2 c2 es fs q2 (tee3_ask ha hb hc B3 e3).up (tees_left a b c _ _ _) he.inp he.tab
theorem tee_call3 {b1 b2 b3 : Nat} {cs1 cs2 cs3 : Array Value} (c1 c2 : Nat) (ha : Let kf dk w a) (hb : Let kf dk w b) (hc : Let kf dk w c) (he : Env kf w A1 n1 es A2 n2 fs) (B1 : Blk w b1 69 cs1) (e1 : cs1.toList = b.arr.toList ++ c.arr.toList) (B2 : Blk w b2 69 cs2) (e2 : cs2.toList = a.arr.toList ++ (teeV b1 2).toList) (B3 : Blk w b3 69 cs3) (e3 : cs3.toList = a.arr.toList ++ (b.arr.toList ++ c.arr.toList)) :
    Calls Tryz.prog 38 #[.agg (teeV b2 2), .agg (teeV b3 3), .slice A1 n1 c1, .slice A2 n2 c2] w (Good w) := by
  have k1 := ha.cnt
  have k2 := hb.cnt
  have k3 := hc.cnt
  have q1 : Ask kf (dk + 1) w (teeArg [b, c] (some ⟨b1, 0, none⟩)) := tee2_ask hb.ask hc.ask (by omega) B1 e1
  have q2 : Ask kf (dk + 2) w (teeArg [a, teeArg [b, c] (some ⟨b1, 0, none⟩)] (some ⟨b2, 0, none⟩)) := tee2_ask ha.ask.up q1 (by simp [Arg.cnt, sumN]; omega) B2 e2
  exact same_written kf (dk + 2) w (teeArg [a, teeArg [b, c] (some ⟨b1, 0, none⟩)] (some ⟨b2, 0, none⟩)) (teeArg [a, b, c] (some ⟨b3, 0, none⟩)) A1 A2 n1 c1 n2 c2 es fs q2 (tee3_ask ha hb hc B3 e3).up (tees_right a b c _ _ _) he.inp he.tab
end
end Go.Proofs.YtieidjlmgalihaaGreatDoor
