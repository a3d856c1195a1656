/- Cores in memory: which blocks stand for which trees. -/
import Derived.Test.YtieidjlmgalihaaGreatDoorCoB
import Derived.Test.YtieidjlmgalihaaGreatDoorBas
set_option linter.all false
namespace Go.Proofs.YtieidjlmgalihaaGreatDoor
open Go.RowKit
set_option maxRecDepth 100000
/-- Which blocks stand for which cores. -/
abbrev Typ := Nat → Option Cor
/-- A value stands for a core. -/
def RepC (S : Typ) (v : Value) : Cor → Prop
  | .leaf m l F => ∃ b, v = .iface 141 (.pointer (some ⟨b, 0, none⟩)) ∧ S b = some (.leaf m l F)
  | .nop => v = .iface 303 (.agg #[])
  | .tee n k => ∃ b cap, v = .iface 304 (.slice (some ⟨b, 0, none⟩) n cap) ∧ S b = some (.tee n k)
  | .inc l c => ∃ b, v = .iface 306 (.pointer (some ⟨b, 0, none⟩)) ∧ S b = some (.inc l c)
  | .lazy c F => ∃ b, v = .iface 309 (.pointer (some ⟨b, 0, none⟩)) ∧ S b = some (.lazy c F)
/-- A block holds what a core of its kind holds. -/
def HoldC (S : Typ) (N : Nat) (W : World) (b : Nat) : Cor → Prop
  | .leaf m l F => ∃ V, Blk W b 150 (leafArr l m V N) ∧ SrcF W V F.length (carL F)
  | .nop => False
  | .tee n k => n ≤ 1000 ∧ ∃ cs, Blk W b 139 cs ∧ ∀ i, i < n → ∃ v, cs[i]? = some v ∧ RepC S v (k i)
  | .inc l c => ∃ v, Blk W b 308 #[v, .iface 142 (.int .i8 l)] ∧ RepC S v c
  | .lazy c F => ∃ v V, SrcF W V F.length (carL F) ∧ RepC S v c ∧ (Blk W b 311 #[.nilIface, v, .bool false, V] ∨ ∃ u, Blk W b 311 #[u, v, .bool true, V] ∧ RepC S u (c.wth F))
abbrev Upw (S S' : Typ) : Prop := ∀ b t, S b = some t → S' b = some t
theorem RepC.up {S S' : Typ} {v : Value} (h : Upw S S') : ∀ {t : Cor}, RepC S v t → RepC S' v t
  | .leaf _ _ _, ⟨b, h1, h2⟩ => ⟨b, h1, h _ _ h2⟩
  | .nop, h1 => h1
  | .tee _ _, ⟨b, c, h1, h2⟩ => ⟨b, c, h1, h _ _ h2⟩
  | .inc _ _, ⟨b, h1, h2⟩ => ⟨b, h1, h _ _ h2⟩
  | .lazy _ _, ⟨b, h1, h2⟩ => ⟨b, h1, h _ _ h2⟩
theorem HoldC.up {S S' : Typ} {N : Nat} {W : World} {b : Nat} (h : Upw S S') : ∀ {t : Cor}, HoldC S N W b t → HoldC S' N W b t
  | .leaf _ _ _, h1 => h1
  | .nop, h1 => h1
  | .tee _ _, ⟨hn, cs, h1, h2⟩ => ⟨hn, cs, h1, fun i hi => by obtain ⟨v, e, r⟩ := h2 i hi; exact ⟨v, e, r.up h⟩⟩
  | .inc _ _, ⟨v, h1, h2⟩ => ⟨v, h1, h2.up h⟩
  | .lazy _ _, ⟨v, V, h1, h2, h3⟩ => ⟨v, V, h1, h2.up h, by
    rcases h3 with h3 | ⟨u, h3, h4⟩
    · exact .inl h3
    · exact .inr ⟨u, h3, h4.up h⟩⟩
theorem HoldC.lt {S : Typ} {N : Nat} {W : World} {b : Nat} : ∀ {t : Cor}, HoldC S N W b t → b < W.heap.size
  | .leaf _ _ _, ⟨_, h1, _⟩ => h1.lt
  | .nop, h1 => h1.elim
  | .tee _ _, ⟨_, _, h1, _⟩ => h1.lt
  | .inc _ _, ⟨_, h1, _⟩ => h1.lt
  | .lazy _ _, ⟨_, _, _, _, h3⟩ => by
    rcases h3 with h3 | ⟨_, h3, _⟩
    · exact h3.lt
    · exact h3.lt
/-- What turned is neither the block nor a row of fields. -/
theorem HoldC.only {S : Typ} {N : Nat} {W W' : World} {b : Nat} {X : Nat → Prop} (ho : Only X W W') (hb : ¬ X b) (h131 : ∀ b cs fz, W.heap[b]? = some (Obj.cells cs 131 fz) → ¬ X b) : ∀ {t : Cor}, HoldC S N W b t → HoldC S N W' b t
  | .leaf _ _ _, ⟨V, h1, h2⟩ => ⟨V, h1.only ho hb, h2.only ho h131⟩
  | .nop, h1 => h1
  | .tee _ _, ⟨hn, cs, h1, h2⟩ => ⟨hn, cs, h1.only ho hb, h2⟩
  | .inc _ _, ⟨v, h1, h2⟩ => ⟨v, h1.only ho hb, h2⟩
  | .lazy _ _, ⟨v, V, h1, h2, h3⟩ => ⟨v, V, h1.only ho h131, h2, by
    rcases h3 with h3 | ⟨u, h3, h4⟩
    · exact .inl (h3.only ho hb)
    · exact .inr ⟨u, h3.only ho hb, h4⟩⟩
/-- All cores hold. -/
structure Hp (S : Typ) (N B : Nat) (W : World) : Prop where
  base : B ≤ W.heap.size
  holds : ∀ b t, S b = some t → B ≤ b ∧ HoldC S N W b t
theorem Hp.only {S : Typ} {N B : Nat} {W W' : World} {X : Nat → Prop} (h : Hp S N B W) (ho : Only X W W') (hX : ∀ b, X b → S b = none) (h131 : ∀ b cs fz, W.heap[b]? = some (Obj.cells cs 131 fz) → ¬ X b) : Hp S N B W' :=
  ⟨Nat.le_trans h.base ho.size, fun b t hb => ⟨(h.holds b t hb).1, (h.holds b t hb).2.only ho (fun hx => by rw [hX b hx] at hb; cases hb) h131⟩⟩
theorem Hp.here {S : Typ} {N B : Nat} {W W' : World} (h : Hp S N B W) (hb : Below W.heap.size W W') : Hp S N B W' :=
  h.only (X := fun _ => False) (Only.none_of_below hb) (fun _ h => h.elim) (fun _ _ _ _ h => h)
theorem Hp.lt {S : Typ} {N B : Nat} {W : World} (h : Hp S N B W) {b : Nat} {t : Cor} (hb : S b = some t) : b < W.heap.size := (h.holds b t hb).2.lt
theorem Hp.off {S : Typ} {N B : Nat} {W : World} (h : Hp S N B W) {b : Nat} (hb : W.heap.size ≤ b) : S b = none := by
  cases e : S b with
  | none => rfl
  | some t => have := h.lt e; omega
/-- A block that is no core's. -/
theorem Hp.apart {S : Typ} {N B : Nat} {W : World} (h : Hp S N B W) {b : Nat} {T : TypeId} {cs : Array Value} (hb : Blk W b T cs) (h1 : T ≠ 150) (h2 : T ≠ 139) (h3 : T ≠ 308) (h4 : T ≠ 311) : S b = none := by
  cases e : S b with
  | none => rfl
  | some t =>
    exfalso
    have hh := (h.holds b t e).2
    cases t with
    | leaf m l F => obtain ⟨V, k, _⟩ := hh; exact hb.ne_ k h1 rfl
    | nop => exact hh
    | tee n k => obtain ⟨_, cs, k, _⟩ := hh; exact hb.ne_ k h2 rfl
    | inc l c => obtain ⟨v, k, _⟩ := hh; exact hb.ne_ k h3 rfl
    | lazy c F =>
      obtain ⟨v, V, _, _, k⟩ := hh
      rcases k with k | ⟨u, k, _⟩
      · exact hb.ne_ k h4 rfl
      · exact hb.ne_ k h4 rfl
/-- A block is one that a call on cores may turn. -/
abbrev Lzy (S : Typ) (b : Nat) : Prop := ∃ c F, S b = some (.lazy c F)
theorem Hp.lzy {S : Typ} {N B : Nat} {W : World} (h : Hp S N B W) {b : Nat} (hl : Lzy S b) : ∃ cs, Blk W b 311 cs := by
  obtain ⟨c, F, e⟩ := hl
  obtain ⟨v, V, _, _, k⟩ := (h.holds b _ e).2
  rcases k with k | ⟨u, k, _⟩
  · exact ⟨_, k⟩
  · exact ⟨_, k⟩
/-- With one core more. -/
def Typ.add (S : Typ) (b : Nat) (t : Cor) : Typ := fun i => if i = b then some t else S i
theorem Typ.add_up {S : Typ} {b : Nat} {t : Cor} (hb : S b = none) : Upw S (S.add b t) := fun i u h => by
  unfold Typ.add
  by_cases e : i = b
  · subst e; rw [hb] at h; cases h
  · rw [if_neg e]; exact h
theorem Typ.add_at {S : Typ} {b : Nat} {t : Cor} : S.add b t b = some t := by simp [Typ.add]
theorem Hp.add {S : Typ} {N B : Nat} {W : World} (h : Hp S N B W) {b : Nat} {t : Cor} (hn : S b = none) (hB : B ≤ b) (ht : HoldC S N W b t) : Hp (S.add b t) N B W :=
  ⟨h.base, fun i u hi => by
    by_cases e : i = b
    · subst e
      rw [Typ.add_at] at hi
      injection hi with hi
      subst hi
      exact ⟨hB, ht.up (Typ.add_up hn)⟩
    · have : S i = some u := by unfold Typ.add at hi; rw [if_neg e] at hi; exact hi
      exact ⟨(h.holds i u this).1, (h.holds i u this).2.up (Typ.add_up hn)⟩⟩
/-- What a call on cores does. -/
structure Stp (S : Typ) (N B : Nat) (W : World) (S' : Typ) (W' : World) : Prop where
  up : Upw S S'
  new : ∀ b, b < W.heap.size → S b = none → S' b = none
  hp : Hp S' N B W'
  only : Only (Lzy S) W W'
theorem Stp.refl {S : Typ} {N B : Nat} {W : World} (h : Hp S N B W) : Stp S N B W S W := ⟨fun _ _ h => h, fun _ _ h => h, h, Only.refl _ _⟩
theorem Stp.trans {S S1 S2 : Typ} {N B : Nat} {W W1 W2 : World} (h : Stp S N B W S1 W1) (k : Stp S1 N B W1 S2 W2) : Stp S N B W S2 W2 :=
  ⟨fun b t e => k.up b t (h.up b t e), fun b hb e => k.new b (Nat.lt_of_lt_of_le hb h.only.size) (h.new b hb e), k.hp, h.only.then k.only (fun i hi ⟨c, F, e⟩ => by
    cases e2 : S i with
    | none => rw [h.new i hi e2] at e; cases e
    | some t => rw [h.up i t e2] at e; injection e with e; exact ⟨c, F, by rw [e2, e]⟩)⟩
/-- A call that leaves what was there, ahead. -/
theorem Stp.of_below {S : Typ} {N B : Nat} {W W' : World} (h : Hp S N B W) (hb : Below W.heap.size W W') : Stp S N B W S W' := ⟨fun _ _ h => h, fun _ _ h => h, h.here hb, Only.none_of_below hb⟩
theorem Stp.add {S S' : Typ} {N B : Nat} {W W' : World} (h : Stp S N B W S' W') {b : Nat} {t : Cor} (hn : S' b = none) (hb : W.heap.size ≤ b) (hB : B ≤ b) (ht : HoldC S' N W' b t) : Stp S N B W (S'.add b t) W' :=
  ⟨fun i u e => Typ.add_up hn i u (h.up i u e), fun i hi e => by
    have : i ≠ b := by omega
    unfold Typ.add
    rw [if_neg this]
    exact h.new i hi e, h.hp.add hn hB ht, h.only⟩
section
variable {S S' : Typ} {N B : Nat} {W W' : World}
theorem Stp.blk (s : Stp S N B W S' W') (h : Hp S N B W) {b : Nat} {T : TypeId} {cs : Array Value} (hb : Blk W b T cs) (hT : T ≠ 311) : Blk W' b T cs :=
  hb.only s.only (fun hl => by obtain ⟨cs', k⟩ := h.lzy hl; exact hb.ne_ k hT rfl)
theorem Stp.own (s : Stp S N B W S' W') (h : Hp S N B W) {B' : Nat} {e : TypeId} {size n : Nat} {v : Value} {xs : List Value} (ho : W.ownsRow B' e size v n xs) (he : e ≠ 311) : W'.ownsRow B' e size v n xs :=
  own_only ho s.only (fun g hg hl => by obtain ⟨cs', k⟩ := h.lzy hl; exact own_ne ho k he hg)
theorem Stp.src (s : Stp S N B W S' W') (h : Hp S N B W) {V : Value} {n : Nat} {xs : List Value} (hs : SrcF W V n xs) : SrcF W' V n xs :=
  hs.only s.only (fun b cs fz hk hl => by obtain ⟨cs', k⟩ := h.lzy hl; exact absurd (blk_tag k hk) (by decide))
theorem Stp.below (s : Stp S N B W S' W') (h : Hp S N B W) : Below B W W' := s.only.below h.base (fun k hk ⟨c, F, e⟩ => by have := (h.holds k _ e).1; omega)
end
/-- What With leaves. -/
def WithPost (S : Typ) (N B : Nat) (W : World) (t : Cor) (fs : List Fld) (e : Ending) (w' : World) : Prop := ∃ v S', e = .returned v ∧ Stp S N B W S' w' ∧ RepC S' v (t.wth fs)
end Go.Proofs.YtieidjlmgalihaaGreatDoor
