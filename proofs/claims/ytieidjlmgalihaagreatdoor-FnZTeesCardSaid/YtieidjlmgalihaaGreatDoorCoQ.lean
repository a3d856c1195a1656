/- Write of a checked entry with leaves. -/
import Derived.Test.YtieidjlmgalihaaGreatDoorCoP
set_option linter.all false
namespace Go.Proofs.YtieidjlmgalihaaGreatDoor
open Go.RowKit
set_option maxRecDepth 100000
/-- A thing that is noted: the leaf's number, the entry's, the fields. -/
abbrev Seen := Nat × Nat × List Fld
/-- The cells of what is noted, the fields' slices given. -/
def seenVals (L : List Seen) (Vs : List Value) : List Value := (L.zip Vs).flatMap fun p => [.int .i64 p.1.1, .int .i64 p.1.2.1, p.2]
def SeenOf (B : Nat) (W : World) (ys : List Value) (L : List Seen) : Prop :=
  ∃ Vs : List Value, Vs.length = L.length ∧ ys = seenVals L Vs ∧ ∀ (i : Nat) (l : Seen) (v : Value), L[i]? = some l → Vs[i]? = some v → W.ownsRow B 39 15 v l.2.2.length (barL l.2.2)
theorem SeenOf.nil {B : Nat} {W : World} : SeenOf B W [] [] := ⟨[], rfl, rfl, fun i l v h => by simp at h⟩
theorem SeenOf.snoc {B : Nat} {W : World} {ys : List Value} {L : List Seen} (h : SeenOf B W ys L) (s : Seen) (v : Value) (hv : W.ownsRow B 39 15 v s.2.2.length (barL s.2.2)) : SeenOf B W (ys ++ [.int .i64 s.1, .int .i64 s.2.1, v]) (L ++ [s]) := by
  obtain ⟨Vs, h1, h2, h3⟩ := h
  refine ⟨Vs ++ [v], by simp [h1], ?_, fun i l u hl hu => ?_⟩
  · rw [h2]
    unfold seenVals
    rw [List.zip_append h1.symm, List.flatMap_append]
    simp
  · by_cases hi : i < L.length
    · rw [List.getElem?_append_left hi] at hl
      rw [List.getElem?_append_left (by omega)] at hu
      exact h3 i l u hl hu
    · rw [List.getElem?_append_right (by omega)] at hl
      rw [List.getElem?_append_right (by omega), h1] at hu
      cases e : i - L.length with
      | zero =>
        rw [e] at hl hu
        simp at hl hu
        subst hl hu
        exact hv
      | succ q => rw [e] at hl; simp at hl
theorem SeenOf.keep {B : Nat} {W W' : World} {ys : List Value} {L : List Seen} {X : Nat → Prop} (h : SeenOf B W ys L) (ho : Only X W W') (hX : ∀ b cs fz, W.heap[b]? = some (Obj.cells cs 39 fz) → ¬ X b) : SeenOf B W' ys L := by
  obtain ⟨Vs, h1, h2, h3⟩ := h
  refine ⟨Vs, h1, h2, fun i l v hl hv => ?_⟩
  have hw := h3 i l v hl hv
  refine own_only hw ho (fun g hg hx => ?_)
  rcases hw.2 with ⟨hv', _⟩ | ⟨g', cap', cur, hv', _, hk, _⟩
  · rw [hv'] at hg; simp [Value.ownBlock] at hg
  · rw [hv'] at hg
    have : g' = g := by simpa [Value.ownBlock] using hg
    subst this
    exact hX _ _ _ hk hx
/-- The blocks that Write may turn: checked entries, notes, rows of what is noted. -/
def TyW (W : World) (b : Nat) : Prop := ∃ cs T fz, W.heap[b]? = some (Obj.cells cs T fz) ∧ (T = 250 ∨ T = 145 ∨ T = 196)
theorem tyW_then {B : Nat} {W W1 W2 : World} (h : Only (fun b => B ≤ b ∧ TyW W b) W W1) (k : Only (fun b => B ≤ b ∧ TyW W1 b) W1 W2) : Only (fun b => B ≤ b ∧ TyW W b) W W2 :=
  h.then k (fun i hi ⟨hB, cs, T, fz, hk, hT⟩ => by
    refine Classical.byContradiction fun hn => hn ?_
    rw [h.block i hi hn] at hk
    exact ⟨hB, cs, T, fz, hk, hT⟩)
theorem tyW_not {W : World} {b : Nat} {cs : Array Value} {T : TypeId} {fz : Nat × Nat} (hk : W.heap[b]? = some (Obj.cells cs T fz)) (h1 : T ≠ 250) (h2 : T ≠ 145) (h3 : T ≠ 196) : ¬ TyW W b := fun ⟨cs', T', fz', hk', hT⟩ => by
  rw [hk] at hk'
  injection hk' with hk'
  injection hk' with _ e
  subst e
  rcases hT with hT | hT | hT
  · exact h1 hT
  · exact h2 hT
  · exact h3 hT
theorem tyW_blk {B : Nat} {W W' : World} (h : Only (fun b => B ≤ b ∧ TyW W b) W W') {b : Nat} {T : TypeId} {cs : Array Value} (hb : Blk W b T cs) (h1 : T ≠ 250) (h2 : T ≠ 145) (h3 : T ≠ 196) : Blk W' b T cs := hb.only h (fun ⟨_, hx⟩ => tyW_not hb h1 h2 h3 hx)
theorem tyW_own {B : Nat} {W W' : World} (h : Only (fun b => B ≤ b ∧ TyW W b) W W') {B' : Nat} {e : TypeId} {size n : Nat} {v : Value} {xs : List Value} (ho : W.ownsRow B' e size v n xs) (h1 : e ≠ 250) (h2 : e ≠ 145) (h3 : e ≠ 196) : W'.ownsRow B' e size v n xs :=
  own_only ho h (fun g hg ⟨_, cs', T', fz, hk, hT⟩ => by
    rcases hT with hT | hT | hT
    · exact own_tag ho hk (by rw [hT]; exact h1) hg
    · exact own_tag ho hk (by rw [hT]; exact h2) hg
    · exact own_tag ho hk (by rw [hT]; exact h3) hg)
theorem tyW_src {B : Nat} {W W' : World} (h : Only (fun b => B ≤ b ∧ TyW W b) W W') {V : Value} {n : Nat} {xs : List Value} (hs : SrcF W V n xs) : SrcF W' V n xs :=
  hs.only h (fun b cs fz hk ⟨_, hx⟩ => tyW_not hk (by decide) (by decide) (by decide) hx)
theorem tyW_hp {S : Typ} {N B B' : Nat} {W W' : World} (hp : Hp S N B W) (h : Only (fun b => B' ≤ b ∧ TyW W b) W W') : Hp S N B W' :=
  hp.only h (fun b ⟨_, cs, T, fz, hk, hT⟩ => by
    cases e : S b with
    | none => rfl
    | some t =>
      exfalso
      have hh := (hp.holds b t e).2
      have key : ∀ T' cs', Blk W b T' cs' → T' = T := fun T' cs' q => blk_tag q hk
      cases t with
      | leaf m l F => obtain ⟨V, q, _⟩ := hh; have := key _ _ q; subst this; rcases hT with hT | hT | hT <;> exact absurd hT (by decide)
      | nop => exact hh
      | tee n k => obtain ⟨_, cs, q, _⟩ := hh; have := key _ _ q; subst this; rcases hT with hT | hT | hT <;> exact absurd hT (by decide)
      | inc l c => obtain ⟨v, q, _⟩ := hh; have := key _ _ q; subst this; rcases hT with hT | hT | hT <;> exact absurd hT (by decide)
      | lazy c F =>
        obtain ⟨v, V, _, _, q⟩ := hh
        rcases q with q | ⟨u, q, _⟩ <;> (have := key _ _ q; subst this; rcases hT with hT | hT | hT <;> exact absurd hT (by decide))) (fun b cs fz hk ⟨_, hx⟩ => tyW_not hk (by decide) (by decide) (by decide) hx)
/-- The notes hold what is noted. -/
def NotesAt (B N : Nat) (ent lv : Int) (W : World) (L : List Seen) : Prop := ∃ seenV xs, B ≤ N ∧ Blk W N 145 #[.int .i64 ent, .int .i64 lv, seenV] ∧ W.ownsRow B 196 3 seenV L.length xs ∧ SeenOf B W xs L
end Go.Proofs.YtieidjlmgalihaaGreatDoor
namespace Go.Proofs.YtieidjlmgalihaaGreatDoor
open Go.RowKit
set_option maxRecDepth 100000
/-- A core that is asked for can be read, to a depth; its fields to another. -/
def ArgAt (kf : Nat) : Nat → World → Arg → Prop
  | 0, _, _ => False
  | _ + 1, _, .nil => False
  | k + 1, w, .mk _ _ kA kn _ fA fn _ kid fld => kn ≤ 1000 ∧ RowAt w kA kn 4 (fun i => (kid i).arr) ∧ (∀ i, i < kn → ArgAt kf k w (kid i)) ∧ FldsOk kf w fA fn fld ∧ fn ≤ 1000
theorem ArgAt.below {kf : Nat} : ∀ {k : Nat} {w w' : World} {a : Arg}, ArgAt kf k w a → Below w.heap.size w w' → ArgAt kf k w' a
  | 0, _, _, _, h, _ => h.elim
  | _ + 1, _, _, .nil, h, _ => h.elim
  | _ + 1, _, _, .mk _ _ _ _ _ _ _ _ _ _, ⟨h1, h2, h3, h4, h5⟩, hb => ⟨h1, h2.below hb, fun i hi => (h3 i hi).below hb, h4.below hb, h5⟩
/-- The leaves, the height and the fields that a core asked for may come to. -/
def Arg.cnt : Arg → Nat
  | .nil => 0
  | .mk kind _ _ kn _ _ _ _ kid _ => if kind = 0 then 1 else sumN (fun i => (kid i).cnt) kn
def Arg.ht : Arg → Nat
  | .nil => 1
  | .mk _ _ _ kn _ _ _ _ kid _ => supN (fun i => (kid i).ht) kn + 1
def Arg.sz : Arg → Nat
  | .nil => 0
  | .mk _ _ _ kn _ _ fn _ kid _ => supN (fun i => (kid i).sz) kn + fn
/-- The cores of all kids are no greater than they. -/
theorem buildAll_le (f : Nat → Nat → Nat × Option Cor) (p : Cor → Nat → Prop) (h : ∀ i m m1 c, f i m = (m1, some c) → p c i) : ∀ n m m1 l, buildAll f n m = (m1, some l) → l.length = n ∧ ∀ (i : Nat) (c : Cor), l[i]? = some c → p c i
  | 0, m, m1, l, hb => by
    simp [buildAll] at hb
    rw [hb.2]
    exact ⟨rfl, fun i c hc => by simp at hc⟩
  | n + 1, m, m1, l, hb => by
    simp only [buildAll] at hb
    split at hb
    · simp at hb
    · rename_i m2 l2 h2
      split at hb
      · simp at hb
      · rename_i m3 c3 h3
        simp at hb
        obtain ⟨q1, q2⟩ := buildAll_le f p h n m m2 l2 h2
        rw [← hb.2]
        refine ⟨by simp [q1], fun i c hc => ?_⟩
        by_cases hi : i < l2.length
        · rw [List.getElem?_append_left hi] at hc
          exact q2 i c hc
        · rw [List.getElem?_append_right (by omega)] at hc
          cases e : i - l2.length with
          | zero =>
            rw [e] at hc
            simp at hc
            have : i = n := by omega
            subst this hc
            exact h _ _ _ _ h3
          | succ q => rw [e] at hc; simp at hc
end Go.Proofs.YtieidjlmgalihaaGreatDoor
