/- What a call may have written; append of one element. -/
import Derived.Test.YtieidjlmgalihaaGreatDoorKit2
import Derived.Deep.RegionLaw
import Derived.Deep.RegionLawGrows
namespace Go.Proofs.YtieidjlmgalihaaGreatDoor
open Go.RowKit
/-- Of the blocks that were there, at most those of S have turned. -/
structure Only (S : Nat → Prop) (w w' : World) : Prop where
  os : w'.os = w.os
  tape : w'.tape = w.tape
  output : w'.output = w.output
  size : w.heap.size ≤ w'.heap.size
  block : ∀ k, k < w.heap.size → ¬ S k → w'.heap[k]? = w.heap[k]?
theorem Only.refl (S : Nat → Prop) (w : World) : Only S w w := ⟨rfl, rfl, rfl, Nat.le_refl _, fun _ _ _ => rfl⟩
theorem Only.trans {S : Nat → Prop} {a b c : World} (h : Only S a b) (k : Only S b c) : Only S a c :=
  ⟨k.os.trans h.os, k.tape.trans h.tape, k.output.trans h.output, Nat.le_trans h.size k.size, fun i hi hn => (k.block i (Nat.lt_of_lt_of_le hi h.size) hn).trans (h.block i hi hn)⟩
/-- What the second call wrote is of S or was not there at the first one's begin. -/
theorem Only.then {S S' : Nat → Prop} {a b c : World} (h : Only S a b) (k : Only S' b c) (hS : ∀ i, i < a.heap.size → S' i → S i) : Only S a c :=
  ⟨k.os.trans h.os, k.tape.trans h.tape, k.output.trans h.output, Nat.le_trans h.size k.size, fun i hi hn => (k.block i (Nat.lt_of_lt_of_le hi h.size) (fun h' => hn (hS i hi h'))).trans (h.block i hi hn)⟩
theorem Only.mono {S S' : Nat → Prop} {w w' : World} (h : Only S w w') (hS : ∀ i, i < w.heap.size → S i → S' i) : Only S' w w' :=
  ⟨h.os, h.tape, h.output, h.size, fun i hi hn => h.block i hi (fun h' => hn (hS i hi h'))⟩
theorem Only.of_below {B : Nat} {w w' : World} (h : Below B w w') : Only (fun k => B ≤ k) w w' := ⟨h.os, h.tape, h.output, h.size, fun i _ hn => h.block i (by omega)⟩
theorem Only.none_of_below {S : Nat → Prop} {w w' : World} (h : Below w.heap.size w w') : Only S w w' := ⟨h.os, h.tape, h.output, h.size, fun i hi _ => h.block i hi⟩
theorem Only.below {S : Nat → Prop} {B : Nat} {w w' : World} (h : Only S w w') (hB : B ≤ w.heap.size) (hS : ∀ k, k < B → ¬ S k) : Below B w w' := ⟨h.os, h.tape, h.output, h.size, fun k hk => h.block k (by omega) (hS k hk)⟩
theorem Only.alloc {S : Nat → Prop} {a w : World} (h : Only S a w) (o : Obj) : Only S a (w.alloc o) :=
  ⟨h.os, h.tape, h.output, Nat.le_trans h.size (by simp), fun k hk hn => (Below.heap_alloc w o k (Nat.lt_of_lt_of_le hk h.size)).trans (h.block k hk hn)⟩
theorem Only.drew {S : Nat → Prop} {a w : World} (h : Only S a w) : Only S a w.drew := ⟨h.os, h.tape, h.output, h.size, h.block⟩
theorem Only.setCell {S : Nat → Prop} {a w : World} (h : Only S a w) {p : Addr} (hp : S p.block ∨ a.heap.size ≤ p.block) (u : Value) : Only S a (w.setCell p u) :=
  ⟨h.os, h.tape, h.output, by have := h.size; simp [World.setCell]; exact this, fun k hk hn => (Below.heap_setCell w p u k (by
    rcases hp with hp | hp
    · intro e; subst e; exact hn hp
    · omega)).trans (h.block k hk hn)⟩
theorem Only.grown {S : Nat → Prop} {a w w' : World} {row : Option Nat} (h : Only S a w) (hg : w.grownBy w' row) (hr : ∀ k, row = some k → S k ∨ a.heap.size ≤ k) : Only S a w' :=
  ⟨hg.os.trans h.os, hg.tape.trans h.tape, hg.output.trans h.output, Nat.le_trans h.size hg.size, fun k hk hn => (hg.block k (Nat.lt_of_lt_of_le hk h.size) (fun e => by
    rcases hr k e.symm with h' | h'
    · exact hn h'
    · omega)).trans (h.block k hk hn)⟩
theorem Blk.only {S : Nat → Prop} {w w' : World} {b : Nat} {T : TypeId} {cs : Array Value} (h : Blk w b T cs) (ho : Only S w w') (hn : ¬ S b) : Blk w' b T cs := (ho.block b h.lt hn).trans h
theorem own_only {S : Nat → Prop} {w w' : World} {base : Nat} {e : TypeId} {size n : Nat} {v : Value} {xs : List Value} (h : w.ownsRow base e size v n xs) (ho : Only S w w') (hn : ∀ g, v.ownBlock = some g → ¬ S g) : w'.ownsRow base e size v n xs := by
  refine ⟨h.1, ?_⟩
  rcases h.2 with h2 | ⟨g, cap, cur, rfl, hb, hg, rest⟩
  · exact .inl h2
  · exact .inr ⟨g, cap, cur, rfl, hb, (ho.block g (Array.getElem?_eq_some_iff.1 hg).1 (hn g rfl)).trans hg, rest⟩
/-- Rows and blocks of different element types are different blocks. -/
theorem own_ne {w : World} {base b : Nat} {e T : TypeId} {size n : Nat} {v : Value} {xs : List Value} {cs : Array Value} (h : w.ownsRow base e size v n xs) (hb : Blk w b T cs) (hne : e ≠ T) : v.ownBlock ≠ some b := by
  rcases h.2 with ⟨rfl, _⟩ | ⟨g, cap, cur, rfl, _, hg, _⟩
  · simp [Value.ownBlock]
  · intro he
    have : g = b := by simpa [Value.ownBlock] using he
    subst this
    unfold Blk at hb
    rw [hg] at hb
    injection hb with hb
    injection hb with _ h2
    exact hne h2
theorem own_ne_own {w : World} {base base' : Nat} {e e' : TypeId} {size n size' n' : Nat} {v v' : Value} {xs xs' : List Value} (h : w.ownsRow base e size v n xs) (h' : w.ownsRow base' e' size' v' n' xs') (hne : e ≠ e') : ∀ g, v.ownBlock = some g → v'.ownBlock ≠ some g := by
  intro g hg
  rcases h.2 with ⟨rfl, _⟩ | ⟨g1, cap, cur, rfl, _, hg1, _⟩
  · simp [Value.ownBlock] at hg
  · have : g1 = g := by simpa [Value.ownBlock] using hg
    subst this
    exact own_ne h' (cs := cur) hg1 (fun e => hne e.symm)
theorem Blk.new_at (w : World) (T : TypeId) (cs : Array Value) (n : Nat) (h : w.heap.size = n) : Blk (w.alloc (.cells cs T)) n T cs := by subst h; exact Blk.new w T cs
/-- append(x, v): one element, laid in a block of its own first. -/
theorem wpList_append1 {P : Program} {ops : Array Oper} {rest : List Oper} {o : Oper} {a : Act} {Q : Exit → Act → World → Prop} (hgd : o.guard = none) (s x : Operand) (t : TypeId)
    (ho : o.op = .call { callee := .builtin .append, args := #[s, x], argTypes := #[t, t] })
    (base : Nat) (e : TypeId) (z : Value) (size bytes : Nat) (hinfo : (P.info? e).map (fun i => (i.zero, i.size, i.bytes)) = some (some z, size, bytes)) (ht : P.underlying t = some (.slice e)) (hzs : z.cells.size = size) (hsz : 0 < size)
    (v : Value) (n : Nat) (xs : List Value) (w0 : World) (hs : a.eval s = v) (hown : w0.ownsRow base e size v n xs)
    (news : Array Value) (H : Nat) (hx : a.eval x = .slice (some ⟨H, 0, none⟩) 1 1) (hH : w0.heap.size = H) (hl : news.size = size) (h1 : ∀ u ∈ news.toList, u.oneCell' = true)
    (h63 : n + 1 ≤ maxLen) (hbytes : (n + 1) * bytes ≤ 140737488355328) (hbase : base ≤ w0.heap.size)
    (h : ∀ g cap w', w'.ownsRow base e size (.slice (some ⟨g, 0, none⟩) (n + 1) cap) (n + 1) (xs ++ news.toList) → Only (fun k => v.ownBlock = some k) w0 w' → (v.ownBlock = some g ∨ w0.heap.size ≤ g) → g < w'.heap.size →
      wpList P ops Q rest (a.put o.dst (.slice (some ⟨g, 0, none⟩) (n + 1) cap)) w') : wpList P ops Q (o :: rest) a (w0.alloc (.cells news e)) := by
  subst hH
  obtain ⟨i, hi, hz0, hz1, hz2⟩ := info_parts hinfo
  refine wpList_append_lies (w0.alloc (.cells news e)) hgd s x t ho base e i z size bytes ht hi hz0 hz1 hz2 hzs hsz v n xs hs (hown.alloc _) ⟨w0.heap.size, 0, none⟩ 1 1 news.toList hx (by simpa using hl) ?_ h1 (by omega) h63 hbytes (by simp; omega) (w0.heap.size + 1) (by simp) ?_
  · intro j u hj
    have hadd : (⟨w0.heap.size, 0, none⟩ : Addr).add j = ⟨w0.heap.size, j, none⟩ := by unfold Addr.add; split <;> simp_all
    rw [hadd, World.cell?_alloc_new]
    simpa using hj
  · intro g cap w' ho' hg' hlies hlt
    refine h g cap w' ho' (((Only.refl _ w0).alloc _).grown hg' (fun k hk => .inl hk)) ?_ hlt
    rcases hlies with h' | h'
    · exact .inl h'
    · exact .inr (by omega)
/-- The same inside a region that draws its order. -/
theorem step_append1 {P : Program} {ops : Array Oper} {o : Oper} {a : Act} {K : Act → World → Prop} {Q : Exit → Act → World → Prop} {E : Prop} (hgd : o.guard = none) (s x : Operand) (t : TypeId)
    (ho : o.op = .call { callee := .builtin .append, args := #[s, x], argTypes := #[t, t] })
    (base : Nat) (e : TypeId) (z : Value) (size bytes : Nat) (hinfo : (P.info? e).map (fun i => (i.zero, i.size, i.bytes)) = some (some z, size, bytes)) (ht : P.underlying t = some (.slice e)) (hzs : z.cells.size = size) (hsz : 0 < size)
    (v : Value) (n : Nat) (xs : List Value) (w0 : World) (hs : a.eval s = v) (hown : w0.ownsRow base e size v n xs)
    (news : Array Value) (H : Nat) (hx : a.eval x = .slice (some ⟨H, 0, none⟩) 1 1) (hH : w0.heap.size = H) (hl : news.size = size) (h1 : ∀ u ∈ news.toList, u.oneCell' = true)
    (h63 : n + 1 ≤ maxLen) (hbytes : (n + 1) * bytes ≤ 140737488355328) (hbase : base ≤ w0.heap.size)
    (h : ∀ g cap w', w'.ownsRow base e size (.slice (some ⟨g, 0, none⟩) (n + 1) cap) (n + 1) (xs ++ news.toList) → Only (fun k => v.ownBlock = some k) w0 w' → (v.ownBlock = some g ∨ w0.heap.size ≤ g) → g < w'.heap.size →
      K (a.put o.dst (.slice (some ⟨g, 0, none⟩) (n + 1) cap)) w') :
    if Region.wanted o (yielded ops a.tmps) = true then Oper.wp P o a (w0.alloc (.cells news e)).drew K Q else E := by
  subst hH
  obtain ⟨i, hi, hz0, hz1, hz2⟩ := info_parts hinfo
  refine step_append_lies (w0.alloc (.cells news e)).drew hgd s x t ho base e i z size bytes ht hi hz0 hz1 hz2 hzs hsz v n xs hs (hown.alloc _) ⟨w0.heap.size, 0, none⟩ 1 1 news.toList hx (by simpa using hl) ?_ h1 (by omega) h63 hbytes (by simp; omega) (w0.heap.size + 1) (by simp) ?_
  · intro j u hj
    have hadd : (⟨w0.heap.size, 0, none⟩ : Addr).add j = ⟨w0.heap.size, j, none⟩ := by unfold Addr.add; split <;> simp_all
    rw [hadd]
    show (w0.alloc (.cells news e)).cell? _ = _
    rw [World.cell?_alloc_new]
    simpa using hj
  · intro g cap w' ho' hg' hlies hlt
    refine h g cap w' ho' ((((Only.refl _ w0).alloc _).drew).grown hg' (fun k hk => .inl hk)) ?_ hlt
    rcases hlies with h' | h'
    · exact .inl h'
    · exact .inr (by omega)
end Go.Proofs.YtieidjlmgalihaaGreatDoor
