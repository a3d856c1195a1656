/- Cores as trees: what With, Enabled and Check make of them. -/
import Derived.Test.YtieidjlmgalihaaGreatDoorBas
set_option linter.all false
namespace Go.Proofs.YtieidjlmgalihaaGreatDoor
open Go.RowKit
/-- A core: a leaf (its number, level, fields), none, a tee, one that is increased, one with lazy fields. -/
inductive Cor where
  | leaf (num : Nat) (lev : Int) (F : List Fld)
  | nop
  | tee (n : Nat) (kid : Nat → Cor)
  | inc (lev : Int) (c : Cor)
  | lazy (c : Cor) (F : List Fld)
/-- A core with fields. -/
def Cor.wth : Cor → List Fld → Cor
  | .leaf m l F, fs => .leaf m l (F ++ fs)
  | .nop, _ => .nop
  | .tee n k, fs => .tee n (fun i => (k i).wth fs)
  | .inc l c, fs => .inc l (c.wth fs)
  | .lazy c F, fs => c.wth (F ++ fs)
theorem Cor.wth_wth : ∀ (c : Cor) (f g : List Fld), (c.wth f).wth g = c.wth (f ++ g)
  | .leaf m l F, f, g => by simp [Cor.wth]
  | .nop, _, _ => rfl
  | .tee n k, f, g => by simp only [Cor.wth]; congr 1; funext i; exact Cor.wth_wth (k i) f g
  | .inc l c, f, g => by simp only [Cor.wth]; rw [Cor.wth_wth c f g]
  | .lazy c F, f, g => by simp only [Cor.wth]; rw [Cor.wth_wth c (F ++ f) g, List.append_assoc]
/-- Whether a core enables a level. -/
def Cor.en : Cor → Int → Bool
  | .leaf _ l _, x => decide (l ≤ x)
  | .nop, _ => false
  | .tee n k, x => (List.range n).any fun i => (k i).en x
  | .inc l _, x => decide (l ≤ x)
  | .lazy c _, x => c.en x
theorem Cor.en_wth : ∀ (c : Cor) (f : List Fld) (x : Int), (c.wth f).en x = c.en x
  | .leaf m l F, f, x => rfl
  | .nop, _, _ => rfl
  | .tee n k, f, x => by simp only [Cor.wth, Cor.en]; congr 1; funext i; exact Cor.en_wth (k i) f x
  | .inc l c, f, x => rfl
  | .lazy c F, f, x => by simp only [Cor.wth, Cor.en]; exact Cor.en_wth c (F ++ f) x
/-- A leaf. -/
structure Lf where
  num : Nat
  lev : Int
  F : List Fld
abbrev Lf.add (l : Lf) (fs : List Fld) : Lf := ⟨l.num, l.lev, l.F ++ fs⟩
/-- The leaves that take an entry of a level. -/
def Cor.hits : Cor → Int → List Lf
  | .leaf m l F, x => if l ≤ x then [⟨m, l, F⟩] else []
  | .nop, _ => []
  | .tee n k, x => (List.range n).flatMap fun i => (k i).hits x
  | .inc l c, x => if l ≤ x then c.hits x else []
  | .lazy c F, x => (c.hits x).map fun l => l.add F
theorem Cor.hits_wth : ∀ (c : Cor) (f : List Fld) (x : Int), (c.wth f).hits x = (c.hits x).map fun l => l.add f
  | .leaf m l F, f, x => by simp only [Cor.wth, Cor.hits]; split <;> simp
  | .nop, _, _ => rfl
  | .tee n k, f, x => by
    simp only [Cor.wth, Cor.hits, List.map_flatMap]
    congr 1; funext i; exact Cor.hits_wth (k i) f x
  | .inc l c, f, x => by simp only [Cor.wth, Cor.hits]; split <;> simp [Cor.hits_wth c f x]
  | .lazy c F, f, x => by
    simp only [Cor.wth, Cor.hits]
    rw [Cor.hits_wth c (F ++ f) x, List.map_map]
    congr 1; funext l; simp
theorem Cor.hits_none : ∀ (c : Cor) (x : Int), c.en x = false → c.hits x = []
  | .leaf m l F, x, h => by simp [Cor.en] at h; simp [Cor.hits]; omega
  | .nop, _, _ => rfl
  | .tee n k, x, h => by
    simp only [Cor.en, List.any_eq_false] at h
    simp only [Cor.hits, List.flatMap_eq_nil_iff]
    intro i hi
    exact Cor.hits_none (k i) x (by have := h i hi; simpa using this)
  | .inc l c, x, h => by simp [Cor.en] at h; simp only [Cor.hits]; rw [if_neg (by omega)]
  | .lazy c F, x, h => by simp only [Cor.hits]; rw [Cor.hits_none c x h]; rfl
/-- How deep a core is at most. -/
def Cor.Deep : Nat → Cor → Prop
  | 0, _ => False
  | _ + 1, .leaf _ _ _ => True
  | _ + 1, .nop => True
  | k + 1, .tee n kid => ∀ i, i < n → Cor.Deep k (kid i)
  | k + 1, .inc _ c => Cor.Deep k c
  | k + 1, .lazy c _ => Cor.Deep k c
theorem Cor.Deep.up : ∀ {k : Nat} {c : Cor}, Cor.Deep k c → Cor.Deep (k + 1) c
  | 0, _, h => h.elim
  | _ + 1, .leaf _ _ _, _ => trivial
  | _ + 1, .nop, _ => trivial
  | _ + 1, .tee _ _, h => fun i hi => Cor.Deep.up (h i hi)
  | k + 1, .inc _ c, h => Cor.Deep.up (k := k) (c := c) h
  | k + 1, .lazy c _, h => Cor.Deep.up (k := k) (c := c) h
theorem Cor.Deep.wth : ∀ {k : Nat} {c : Cor} (f : List Fld), Cor.Deep k c → Cor.Deep k (c.wth f)
  | 0, _, _, h => h.elim
  | _ + 1, .leaf _ _ _, _, _ => trivial
  | _ + 1, .nop, _, _ => trivial
  | _ + 1, .tee _ _, f, h => fun i hi => Cor.Deep.wth f (h i hi)
  | k + 1, .inc _ c, f, h => Cor.Deep.wth (k := k) (c := c) f h
  | k + 1, .lazy c F, f, h => Cor.Deep.up (Cor.Deep.wth (k := k) (c := c) (F ++ f) h)
/-- A list's fields as cores carry them, and bare. -/
def carL (l : List Fld) : List Value := l.flatMap Fld.car
def barL (l : List Fld) : List Value := l.flatMap fun f => f.arr.toList
theorem carL_append (a b : List Fld) : carL (a ++ b) = carL a ++ carL b := by simp [carL]
theorem barL_append (a b : List Fld) : barL (a ++ b) = barL a ++ barL b := by simp [barL]
theorem carL_of (g : Nat → Fld) : ∀ n, carL ((List.range n).map g) = carr g n
  | 0 => rfl
  | n + 1 => by rw [List.range_succ, List.map_append, carL_append, carL_of g n, carr]; simp [carL]
theorem barL_of (g : Nat → Fld) : ∀ n, barL ((List.range n).map g) = bare g n
  | 0 => rfl
  | n + 1 => by rw [List.range_succ, List.map_append, barL_append, barL_of g n, bare]; simp [barL]
theorem carL_length (l : List Fld) : (carL l).length = l.length * 5 := by
  induction l with
  | nil => rfl
  | cons f l ih => simp only [carL, List.flatMap_cons, List.length_append] at ih ⊢; rw [ih]; simp; omega
theorem barL_length (l : List Fld) : (barL l).length = l.length * 15 := by
  induction l with
  | nil => rfl
  | cons f l ih => simp only [barL, List.flatMap_cons, List.length_append] at ih ⊢; rw [ih]; simp; omega
end Go.Proofs.YtieidjlmgalihaaGreatDoor
namespace Go.Proofs.YtieidjlmgalihaaGreatDoor
open Go.RowKit
/-- A core that is asked for. -/
inductive Arg where
  | nil
  | mk (kind lev : Int) (kA : Option Addr) (kn kc : Nat) (fA : Option Addr) (fn fc : Nat) (kid : Nat → Arg) (fld : Nat → Fld)
instance : Inhabited Arg := ⟨.nil⟩
def Arg.arr : Arg → Array Value
  | .nil => #[.int .i64 5, .int .i64 0, .slice none 0 0, .slice none 0 0]
  | .mk kind lev kA kn kc fA fn fc _ _ => #[.int .i64 kind, .int .i64 lev, .slice kA kn kc, .slice fA fn fc]
/-- All kids, one behind the other. -/
def buildAll (f : Nat → Nat → Nat × Option Cor) : Nat → Nat → Nat × Option (List Cor)
  | 0, m => (m, some [])
  | n + 1, m =>
    match buildAll f n m with
    | (m1, none) => (m1, none)
    | (m1, some l) =>
      match f n m1 with
      | (m2, none) => (m2, none)
      | (m2, some c) => (m2, some (l ++ [c]))
/-- NewTee. -/
def teeOf : List Cor → Cor
  | [] => .nop
  | [c] => c
  | a :: b :: l => .tee (l.length + 2) (fun i => (a :: b :: l).getD i .nop)
/-- Whether NewIncreaseLevelCore takes a core. -/
def incOk (c : Cor) (l : Int) : Bool := (List.range 7).all fun i => (c.en ((i : Int) - 1)) || decide ((i : Int) - 1 < l)
def Arg.build : Arg → Nat → Nat × Option Cor
  | .nil, m => (m, none)
  | .mk kind lev _ kn _ _ fn _ kid fld, m =>
    if kind = 0 then (m + 1, some (.leaf m (IntKind.i8.wrap lev) []))
    else if kind = 5 then (m, some .nop)
    else match buildAll (fun i => (kid i).build) kn m with
      | (m1, none) => (m1, none)
      | (m1, some l) =>
        if kind = 1 then (m1, some (teeOf l))
        else match l with
          | [] => (m1, none)
          | c :: _ =>
            if kind = 2 then (m1, if incOk c (IntKind.i8.wrap lev) then some (.inc (IntKind.i8.wrap lev) c) else none)
            else if kind = 3 then (m1, some (c.wth ((List.range fn).map fld)))
            else if kind = 4 then (m1, some (.lazy c ((List.range fn).map fld)))
            else (m1, none)
/-- Two ways to ask that write the same: both are none, or the same leaves take each level. -/
def Alike (x y : Option Cor) : Prop := (x = none ∧ y = none) ∨ ∃ a b, x = some a ∧ y = some b ∧ ∀ l, a.hits l = b.hits l
theorem buildAll_len (f : Nat → Nat → Nat × Option Cor) : ∀ n m l m1, buildAll f n m = (m1, some l) → l.length = n
  | 0, m, l, m1, h => by simp [buildAll] at h; rw [h.2]; rfl
  | n + 1, m, l, m1, h => by
    simp only [buildAll] at h
    split at h
    · simp at h
    · rename_i m2 l2 h2
      split at h
      · simp at h
      · simp at h
        rw [← h.2, List.length_append, buildAll_len f n m l2 m2 h2]
        rfl
theorem teeOf_hits : ∀ (l : List Cor) (x : Int), (teeOf l).hits x = l.flatMap fun c => c.hits x
  | [], x => rfl
  | [c], x => by simp [teeOf]
  | a :: b :: l, x => by
    simp only [teeOf, Cor.hits]
    have h : ∀ (q : List Cor), ((List.range q.length).flatMap fun i => (q.getD i .nop).hits x) = q.flatMap fun c => c.hits x := by
      intro q
      induction q with
      | nil => rfl
      | cons c q ih =>
        rw [List.length_cons, List.range_succ_eq_map, List.flatMap_cons, List.flatMap_map, List.flatMap_cons]
        simp only [List.getD_cons_zero, List.getD_cons_succ]
        rw [← ih]
    exact h (a :: b :: l)
theorem teeOf_en : ∀ (l : List Cor) (x : Int), (teeOf l).en x = l.any fun c => c.en x
  | [], x => rfl
  | [c], x => by simp [teeOf]
  | a :: b :: l, x => by
    simp only [teeOf, Cor.en]
    have h : ∀ (q : List Cor), ((List.range q.length).any fun i => (q.getD i .nop).en x) = q.any fun c => c.en x := by
      intro q
      induction q with
      | nil => rfl
      | cons c q ih =>
        rw [List.length_cons, List.range_succ_eq_map, List.any_cons, List.any_map, List.any_cons]
        rw [← ih]
        rfl
    exact h (a :: b :: l)
/-- A tee of kids. -/
theorem tee_build {lev : Int} {kA fA : Option Addr} {kn kc fn fc : Nat} {kid : Nat → Arg} {fld : Nat → Fld} (m : Nat) : (Arg.mk 1 lev kA kn kc fA fn fc kid fld).build m = match buildAll (fun i => (kid i).build) kn m with | (m1, none) => (m1, none) | (m1, some l) => (m1, some (teeOf l)) := by
  simp only [Arg.build]
  rw [if_neg (by decide), if_neg (by decide)]
  split <;> simp
/-- A tee of one is that one. -/
theorem tee_one {lev : Int} {kA fA : Option Addr} {kc fn fc : Nat} {kid : Nat → Arg} {fld : Nat → Fld} (m : Nat) : (Arg.mk 1 lev kA 1 kc fA fn fc kid fld).build m = (kid 0).build m := by
  rw [tee_build]
  simp only [buildAll]
  cases h : (kid 0).build m with
  | mk m2 x => cases x <;> simp [h, teeOf]
end Go.Proofs.YtieidjlmgalihaaGreatDoor
