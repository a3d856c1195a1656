/- The three laws on cores, with no program in sight. -/
import Derived.Test.YtieidjlmgalihaaGreatDoorCoAf
import Derived.Test.YtieidjlmgalihaaGreatDoorCoAb
set_option linter.all false
namespace Go.Proofs.YtieidjlmgalihaaGreatDoor
open Go.RowKit
set_option maxRecDepth 100000
/-- A tee as the laws ask for it. -/
abbrev teeArg (l : List Arg) (A : Option Addr) : Arg := .mk 1 0 A l.length l.length none 0 0 (fun i => l.getD i .nil) (fun _ => default)
/-- A core of one kid as the laws ask for it. -/
abbrev oneArg (kind lev : Int) (x : Arg) (A fA : Option Addr) (fn fc : Nat) (fld : Nat → Fld) : Arg := .mk kind lev A 1 1 fA fn fc (fun _ => x) fld
theorem tee_alone (a : Arg) (A : Option Addr) : Alike ((teeArg [a] A).build 0).2 (a.build 0).2 := by
  have : (teeArg [a] A).build 0 = a.build 0 := tee_one 0
  rw [this]
  exact Alike.refl _
theorem tees_left (a b c : Arg) (A1 A2 A3 : Option Addr) : Alike ((teeArg [teeArg [a, b] A1, c] A2).build 0).2 ((teeArg [a, b, c] A3).build 0).2 := by
  have h2 : ∀ m, (teeArg [a, b] A1).build m = _ := fun m => tee_build m
  simp only [List.length_cons, List.length_nil] at h2
  have e1 := tee_build (lev := 0) (kA := A2) (fA := none) (kn := 2) (kc := 2) (fn := 0) (fc := 0) (kid := fun i => [teeArg [a, b] A1, c].getD i .nil) (fld := fun _ => default) 0
  have e2 := tee_build (lev := 0) (kA := A3) (fA := none) (kn := 3) (kc := 3) (fn := 0) (fc := 0) (kid := fun i => [a, b, c].getD i .nil) (fld := fun _ => default) 0
  show Alike ((Arg.mk 1 0 A2 2 2 none 0 0 (fun i => [teeArg [a, b] A1, c].getD i .nil) (fun _ => default)).build 0).2 ((Arg.mk 1 0 A3 3 3 none 0 0 (fun i => [a, b, c].getD i .nil) (fun _ => default)).build 0).2
  rw [e1, e2]
  simp only [buildAll, List.getD_cons_zero, List.getD_cons_succ, h2]
  cases ha : a.build 0 with
  | mk m1 ra =>
    cases ra with
    | none => exact .inl ⟨rfl, rfl⟩
    | some ca =>
      simp only
      cases hb : b.build m1 with
      | mk m2 rb =>
        cases rb with
        | none => exact .inl ⟨rfl, rfl⟩
        | some cb =>
          simp only
          cases hc : c.build m2 with
          | mk m3 rc =>
            cases rc with
            | none => exact .inl ⟨rfl, rfl⟩
            | some cc => exact .inr ⟨_, _, rfl, rfl, fun l => by simp [teeOf_hits]⟩
theorem tees_right (a b c : Arg) (A1 A2 A3 : Option Addr) : Alike ((teeArg [a, teeArg [b, c] A1] A2).build 0).2 ((teeArg [a, b, c] A3).build 0).2 := by
  have h2 : ∀ m, (teeArg [b, c] A1).build m = _ := fun m => tee_build m
  simp only [List.length_cons, List.length_nil] at h2
  have e1 := tee_build (lev := 0) (kA := A2) (fA := none) (kn := 2) (kc := 2) (fn := 0) (fc := 0) (kid := fun i => [a, teeArg [b, c] A1].getD i .nil) (fld := fun _ => default) 0
  have e2 := tee_build (lev := 0) (kA := A3) (fA := none) (kn := 3) (kc := 3) (fn := 0) (fc := 0) (kid := fun i => [a, b, c].getD i .nil) (fld := fun _ => default) 0
  show Alike ((Arg.mk 1 0 A2 2 2 none 0 0 (fun i => [a, teeArg [b, c] A1].getD i .nil) (fun _ => default)).build 0).2 ((Arg.mk 1 0 A3 3 3 none 0 0 (fun i => [a, b, c].getD i .nil) (fun _ => default)).build 0).2
  rw [e1, e2]
  simp only [buildAll, List.getD_cons_zero, List.getD_cons_succ, h2]
  cases ha : a.build 0 with
  | mk m1 ra =>
    cases ra with
    | none => exact .inl ⟨rfl, rfl⟩
    | some ca =>
      simp only
      cases hb : b.build m1 with
      | mk m2 rb =>
        cases rb with
        | none => exact .inl ⟨rfl, rfl⟩
        | some cb =>
          simp only
          cases hc : c.build m2 with
          | mk m3 rc =>
            cases rc with
            | none => exact .inl ⟨rfl, rfl⟩
            | some cc => exact .inr ⟨_, _, rfl, rfl, fun l => by simp [teeOf_hits]⟩
/-- What a core of one kid becomes. -/
theorem one_build {kind lev : Int} {x : Arg} {A fA : Option Addr} {fn fc : Nat} {fld : Nat → Fld} (h0 : kind ≠ 0) (h5 : kind ≠ 5) (h1 : kind ≠ 1) (m : Nat) : (oneArg kind lev x A fA fn fc fld).build m = match x.build m with | (m1, none) => (m1, none) | (m1, some c) => restOf kind lev fn fld m1 [c] := by
  cases h : x.build m with
  | mk m1 r =>
    cases r with
    | none => exact build_fail h0 h5 (by simp only [buildAll, h])
    | some c => exact build_rest h0 h5 h1 (by simp only [buildAll, h]; rfl)
theorem with_build {x : Arg} {A fA : Option Addr} {fn fc : Nat} {fld : Nat → Fld} (m : Nat) : (oneArg 3 0 x A fA fn fc fld).build m = ((x.build m).1, (x.build m).2.map fun c => c.wth ((List.range fn).map fld)) := by
  rw [one_build (by decide) (by decide) (by decide)]
  cases h : x.build m with
  | mk m1 r =>
    cases r with
    | none => rfl
    | some c => simp [restOf]
theorem lazy_build {x : Arg} {A fA : Option Addr} {fn fc : Nat} {fld : Nat → Fld} (m : Nat) : (oneArg 4 0 x A fA fn fc fld).build m = ((x.build m).1, (x.build m).2.map fun c => .lazy c ((List.range fn).map fld)) := by
  rw [one_build (by decide) (by decide) (by decide)]
  cases h : x.build m with
  | mk m1 r =>
    cases r with
    | none => rfl
    | some c => simp [restOf]
theorem inc_build {x : Arg} {A fA : Option Addr} {fn fc : Nat} {fld : Nat → Fld} {lev : Int} (m : Nat) : (oneArg 2 lev x A fA fn fc fld).build m = ((x.build m).1, (x.build m).2.bind fun c => if incOk c (IntKind.i8.wrap lev) then some (.inc (IntKind.i8.wrap lev) c) else none) := by
  rw [one_build (by decide) (by decide) (by decide)]
  cases h : x.build m with
  | mk m1 r =>
    cases r with
    | none => rfl
    | some c => simp [restOf]
section
variable {x : Arg} {A1 A2 A3 f1 f2 f3 : Option Addr} {n1 n2 n3 c1 c2 c3 : Nat} {g1 g2 g3 : Nat → Fld}
theorem with_with (hl : (List.range n3).map g3 = (List.range n1).map g1 ++ (List.range n2).map g2) : Alike ((oneArg 3 0 (oneArg 3 0 x A1 f1 n1 c1 g1) A2 f2 n2 c2 g2).build 0).2 ((oneArg 3 0 x A3 f3 n3 c3 g3).build 0).2 := by
  rw [with_build, with_build, with_build, hl]
  cases (x.build 0).2 with
  | none => exact .inl ⟨rfl, rfl⟩
  | some c => exact .inr ⟨_, _, rfl, rfl, fun l => by show ((c.wth _).wth _).hits l = (c.wth _).hits l; rw [Cor.wth_wth]⟩
theorem lazy_with (hl : (List.range n3).map g3 = (List.range n1).map g1 ++ (List.range n2).map g2) : Alike ((oneArg 4 0 (oneArg 3 0 x A1 f1 n1 c1 g1) A2 f2 n2 c2 g2).build 0).2 ((oneArg 3 0 x A3 f3 n3 c3 g3).build 0).2 := by
  rw [lazy_build, with_build, with_build, hl]
  cases (x.build 0).2 with
  | none => exact .inl ⟨rfl, rfl⟩
  | some c => exact .inr ⟨_, _, rfl, rfl, fun l => by show (Cor.lazy (c.wth _) _).hits l = (c.wth _).hits l; rw [← Cor.wth_wth, Cor.hits_wth (c.wth _)]; rfl⟩
theorem lazy_alone (hl : (List.range n3).map g3 = (List.range n1).map g1) : Alike ((oneArg 4 0 x A1 f1 n1 c1 g1).build 0).2 ((oneArg 3 0 x A3 f3 n3 c3 g3).build 0).2 := by
  rw [lazy_build, with_build, hl]
  cases (x.build 0).2 with
  | none => exact .inl ⟨rfl, rfl⟩
  | some c => exact .inr ⟨_, _, rfl, rfl, fun l => by show (Cor.lazy c _).hits l = (c.wth _).hits l; rw [Cor.hits_wth]; rfl⟩
end
theorem wrap8_low {l : Int} (h1 : -1 ≤ l) (h2 : l ≤ 5) : IntKind.i8.wrap l = l := by
  simp [IntKind.wrap, IntKind.bits, IntKind.signed]
  split <;> omega
theorem incOk_up {c : Cor} {low high : Int} (h : low ≤ high) (hl : incOk c low = true) : incOk c high = true := by
  unfold incOk at hl ⊢
  simp only [List.all_eq_true, List.mem_range, Bool.or_eq_true, decide_eq_true_eq] at hl ⊢
  intro i hi
  rcases hl i hi with h1 | h1
  · exact .inl h1
  · exact .inr (by omega)
theorem incOk_inc {c : Cor} {low high : Int} (h : low ≤ high) : incOk (.inc low c) high = true := by
  unfold incOk
  simp only [List.all_eq_true, List.mem_range, Bool.or_eq_true, decide_eq_true_eq, Cor.en]
  intro i hi
  omega
theorem inc_inc {x : Arg} {A1 A2 A3 f1 f2 f3 : Option Addr} {n1 n2 n3 c1 c2 c3 : Nat} {g1 g2 g3 : Nat → Fld} {low high : Int} (h1 : -1 ≤ low) (h2 : low ≤ high) (h3 : high ≤ 5) (hi : ((oneArg 2 low x A1 f1 n1 c1 g1).build 0).2 ≠ none) : Alike ((oneArg 2 high (oneArg 2 low x A1 f1 n1 c1 g1) A2 f2 n2 c2 g2).build 0).2 ((oneArg 2 high x A3 f3 n3 c3 g3).build 0).2 := by
  rw [inc_build] at hi
  rw [inc_build, inc_build, inc_build]
  rw [wrap8_low h1 (by omega)] at hi ⊢
  rw [wrap8_low (by omega) h3]
  cases h : (x.build 0).2 with
  | none => exact .inl ⟨rfl, rfl⟩
  | some c =>
    rw [h] at hi
    simp only [Option.bind_some] at hi ⊢
    by_cases hk : incOk c low = true
    · rw [if_pos hk, if_pos (incOk_up h2 hk)]
      simp only [Option.bind_some]
      rw [if_pos (incOk_inc h2)]
      refine .inr ⟨_, _, rfl, rfl, fun l => ?_⟩
      simp only [Cor.hits]
      by_cases hl : high ≤ l
      · rw [if_pos hl, if_pos hl, if_pos (by omega)]
      · rw [if_neg hl, if_neg hl]
    · rw [if_neg hk] at hi
      exact absurd rfl hi
end Go.Proofs.YtieidjlmgalihaaGreatDoor
