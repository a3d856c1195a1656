/- Words for memory. -/
import Derived.Test.YtieidjlmgalihaaGreatDoorProg
import Derived.WalkKit
import Derived.Handy
import Derived.WalkLawsBesides
import Derived.WalkSpells
import Derived.ProofKit
import Derived.Deep.RegionWith
import Derived.Deep.RegionHeld3
import Derived.StillTailTactics
import Derived.Laws.EntriesVeiled
import Derived.Deep.LoopGhost
import Derived.Deep.QuietTactic
import Derived.BigQuiet
import Derived.Deep.AppendLies
import Derived.Maps.AppendAt
import Derived.Deep.Draws
import Derived.Lib.Hide
import Derived.Lib.AppendIntMem
import Derived.Deep.RegionLaw
import Derived.Deep.RegionLawGrows
set_option linter.all false
namespace Go.Proofs.YtieidjlmgalihaaGreatDoor
open Go.RowKit
theorem bcell {W w1 : World} (hb : Below W.heap.size W w1) : (∀ b o, b < W.heap.size → w1.cell? ⟨b, o, none⟩ = W.cell? ⟨b, o, none⟩) ∧ (∀ b o, b < W.heap.size → w1.frozen? ⟨b, o, none⟩ = W.frozen? ⟨b, o, none⟩) :=
  ⟨fun b o h => hb.cell (p := ⟨b, o, none⟩) h, fun b o h => hb.frozen (p := ⟨b, o, none⟩) h⟩
theorem ups {b n : Nat} (h : b < n) : b < n + 1 ∧ b < n + 1 + 1 ∧ b < n + 1 + 1 + 1 ∧ b < n + 1 + 1 + 1 + 1 ∧ b < n + 1 + 1 + 1 + 1 + 1 := by omega
/-- Block b is just the cells cs of type T, none frozen. -/
def Blk (w : World) (b : Nat) (T : TypeId) (cs : Array Value) : Prop := w.heap[b]? = some (.cells cs T (0, 0))
section
variable {w w' : World} {b : Nat} {T : TypeId} {cs : Array Value}
theorem Blk.lt (h : Blk w b T cs) : b < w.heap.size := (Array.getElem?_eq_some_iff.1 h).1
theorem Blk.cell (h : Blk w b T cs) : ∀ i, w.cell? ⟨b, i, none⟩ = cs[i]? := fun i => cell_of_row w b i cs T (0, 0) h
theorem Blk.frozen (h : Blk w b T cs) : ∀ i, w.frozen? ⟨b, i, none⟩ = false := fun i => by unfold Blk at h; simp [World.frozen?, h]
theorem Blk.new (w : World) (T : TypeId) (cs : Array Value) : Blk (w.alloc (.cells cs T)) w.heap.size T cs := heap_alloc_new w _
theorem Blk.drew (h : Blk w b T cs) : Blk w.drew b T cs := h
theorem Blk.drewN (h : Blk w b T cs) (n : Nat) : Blk (w.drewN n) b T cs := h
theorem Blk.alloc (h : Blk w b T cs) (o : Obj) : Blk (w.alloc o) b T cs := (Below.heap_alloc w o b h.lt).trans h
theorem Blk.set_ (h : Blk w b T cs) (i : Nat) (u : Value) : Blk (w.setCell ⟨b, i, none⟩ u) b T (cs.setIfInBounds i u) := by
  unfold Blk at h ⊢
  simp [World.setCell, Array.getElem?_modify, h]
theorem Blk.far (h : Blk w b T cs) {p : Addr} (hp : b ≠ p.block) (u : Value) : Blk (w.setCell p u) b T cs := (Below.heap_setCell w p u b hp).trans h
theorem Blk.below {B : Nat} (h : Blk w b T cs) (hb : Below B w w') (hg : b < B) : Blk w' b T cs := (hb.block b hg).trans h
theorem Blk.here (h : Blk w b T cs) (hb : Below w.heap.size w w') : Blk w' b T cs := h.below hb h.lt
theorem Blk.grown {row : Option Nat} (h : Blk w b T cs) (hb : w.grownBy w' row) (hg : some b ≠ row) : Blk w' b T cs := (hb.block b h.lt hg).trans h
theorem Blk.ne_ {b' : Nat} {T' : TypeId} {cs' : Array Value} (h : Blk w b T cs) (h' : Blk w b' T' cs') (hne : T ≠ T') : b ≠ b' := by
  rintro rfl
  unfold Blk at h h'
  rw [h] at h'
  injection h' with h'
  injection h' with _ ht
  exact hne ht
/-- What a walk asks of a block behind a call. -/
theorem Blk.use (h : Blk w b T cs) : (∀ i, w.cell? ⟨b, i, none⟩ = cs[i]?) ∧ (∀ i, w.frozen? ⟨b, i, none⟩ = false) ∧ b < w.heap.size := ⟨h.cell, h.frozen, h.lt⟩
end
/-- A parameter's box, behind a call that leaves what was there. -/
theorem boxed {w w1 : World} {cs : Array Value} {T : TypeId} (hb : Below (w.alloc (.cells cs T)).heap.size (w.alloc (.cells cs T)) w1) :
    (∀ i, w1.cell? ⟨w.heap.size, i, none⟩ = cs[i]?) ∧ (∀ i, w1.frozen? ⟨w.heap.size, i, none⟩ = false) ∧ w.heap.size < w1.heap.size ∧ Below w.heap.size w w1 := by
  obtain ⟨h1, h2, h3⟩ := ((Blk.new w T cs).here hb).use
  exact ⟨h1, h2, h3, ((Below.refl _ _).alloc (Nat.le_refl _) _).trans (hb.mono (by simp))⟩
/-- Cells known of a block, behind a call that leaves what was there. -/
theorem keepC {W w1 : World} {b : Nat} {cs : Array Value} (hb : Below W.heap.size W w1) (h : ∀ i, W.cell? ⟨b, i, none⟩ = cs[i]?) (hne : 0 < cs.size) : ∀ i, w1.cell? ⟨b, i, none⟩ = cs[i]? := by
  have h0 := h 0
  rw [Array.getElem?_eq_getElem hne] at h0
  have hlt := World.block_lt_of_cell? W _ h0
  exact fun i => (hb.cell (p := ⟨b, i, none⟩) hlt).trans (h i)
theorem keepF {W w1 : World} {b : Nat} {cs : Array Value} (hb : Below W.heap.size W w1) (h : ∀ i, W.cell? ⟨b, i, none⟩ = cs[i]?) (hne : 0 < cs.size) (hf : ∀ i, W.frozen? ⟨b, i, none⟩ = false) : ∀ i, w1.frozen? ⟨b, i, none⟩ = false := by
  have h0 := h 0
  rw [Array.getElem?_eq_getElem hne] at h0
  have hlt := World.block_lt_of_cell? W _ h0
  exact fun i => (hb.frozen (p := ⟨b, i, none⟩) hlt).trans (hf i)
theorem keepB {W0 W w1 : World} (h0 : Below W0.heap.size W0 W) (hb : Below W.heap.size W w1) : Below W0.heap.size W0 w1 := h0.trans (hb.mono h0.size)
/-- A known block with one cell written. -/
theorem setC {w : World} {b : Nat} {cs : Array Value} (h : ∀ i, w.cell? ⟨b, i, none⟩ = cs[i]?) (j : Nat) (v : Value) : ∀ i, (w.setCell ⟨b, j, none⟩ v).cell? ⟨b, i, none⟩ = (cs.setIfInBounds j v)[i]? := by
  intro i
  by_cases hij : j = i
  · subst hij
    cases hc : cs[j]? with
    | none =>
      have h1 : w.cell? ⟨b, j, none⟩ = none := (h j).trans hc
      have hj : cs.size ≤ j := by simpa using hc
      rw [Array.getElem?_eq_none (by simpa using hj)]
      unfold World.cell? at h1 ⊢
      simp only [World.setCell, Array.getElem?_modify, if_true]
      cases hb : w.heap[b]? with
      | none => simp
      | some o =>
        rw [hb] at h1
        cases o <;> simp at h1 ⊢ <;> exact h1
    | some u =>
      have hj : j < cs.size := (Array.getElem?_eq_some_iff.1 hc).1
      rw [World.cell?_setCell_same w _ _ ((h j).trans hc)]
      simp [hj]
  · rw [World.cell?_setCell_other w _ _ _ (fun e => hij (Addr.mk.inj e).2.1), h i, Array.getElem?_setIfInBounds_ne hij]
/-- What a region holds: a box that is read, a box that is written, nothing old turned. -/
theorem keep2 {W0 W w1 : World} {b1 b2 : Nat} {c1 c2 : Array Value} (h : (∀ i, W.cell? ⟨b1, i, none⟩ = c1[i]?) ∧ (∀ i, W.cell? ⟨b2, i, none⟩ = c2[i]?) ∧ (∀ i, W.frozen? ⟨b2, i, none⟩ = false) ∧ Below W0.heap.size W0 W)
    (hb : Below W.heap.size W w1) (h1 : 0 < c1.size) (h2 : 0 < c2.size) :
    (∀ i, w1.cell? ⟨b1, i, none⟩ = c1[i]?) ∧ (∀ i, w1.cell? ⟨b2, i, none⟩ = c2[i]?) ∧ (∀ i, w1.frozen? ⟨b2, i, none⟩ = false) ∧ Below W0.heap.size W0 w1 :=
  ⟨keepC hb h.1 h1, keepC hb h.2.1 h2, keepF hb h.2.1 h2 h.2.2.1, keepB h.2.2.2 hb⟩
/-- A slice's elements, each 'size' cells, element i being (f i)'s cells. -/
def RowAt (w : World) (A : Option Addr) (n size : Nat) (f : Nat → Array Value) : Prop :=
  ∀ i, i < n → ∃ b off, A = some ⟨b, off, none⟩ ∧ (f i).size = size ∧ ∀ j, j < size → w.cell? ⟨b, off + i * size + j, none⟩ = (f i)[j]?
theorem RowAt.below {w w' : World} {A : Option Addr} {n size : Nat} {f : Nat → Array Value} (h : RowAt w A n size f) (hb : Below w.heap.size w w') : RowAt w' A n size f := by
  intro i hi
  obtain ⟨b, off, hA, hs, hc⟩ := h i hi
  refine ⟨b, off, hA, hs, fun j hj => ?_⟩
  have h1 := hc j hj
  rw [← h1]
  rw [Array.getElem?_eq_getElem (by omega)] at h1
  exact hb.cell (p := ⟨b, off + i * size + j, none⟩) (World.block_lt_of_cell? w _ h1)
/-- Some bool comes back; nothing that was there has turned. -/
def SomeBool (w : World) (e : Ending) (w' : World) : Prop := ∃ b, e = .returned (.bool b) ∧ Below w.heap.size w w'
abbrev Tab10 (B : Nat) (w : World) : Prop := Lib.TabBelow Tryz.prog B w "internal/strconv.uint64pow10" .u64 Lib.pow10Tab
theorem tabUp {B B' : Nat} {w W : World} {s : String} {k : IntKind} {zs : List Int} (h : Lib.TabBelow Tryz.prog B w s k zs) (hb : Below B w W) (hB : B ≤ B') : Lib.TabBelow Tryz.prog B' W s k zs :=
  fun w' h' => h w' (hb.trans (h'.mono hB))
end Go.Proofs.YtieidjlmgalihaaGreatDoor
namespace Go.Proofs.YtieidjlmgalihaaGreatDoor
open Go.RowKit
theorem set4 {w : World} {b : Nat} {a0 a1 a2 a3 : Value} (h : ∀ i, w.cell? ⟨b, i, none⟩ = (#[a0, a1, a2, a3] : Array Value)[i]?) (v0 v1 v2 v3 : Value) : ∀ i, (((((w).setCell ⟨b, 0, none⟩ v0).setCell ⟨b, 1, none⟩ v1).setCell ⟨b, 2, none⟩ v2).setCell ⟨b, 3, none⟩ v3).cell? ⟨b, i, none⟩ = (#[v0, v1, v2, v3] : Array Value)[i]? := by
  have hc := setC (setC (setC (setC (h) 0 v0) 1 v1) 2 v2) 3 v3
  simp only [List.setIfInBounds_toArray, List.set_cons_zero, List.set_cons_succ] at hc
  exact hc
theorem belowSet4 {B : Nat} {w0 w : World} {b : Nat} (hb : Below B w0 w) (hB : B ≤ b) (v0 v1 v2 v3 : Value) : Below B w0 (((((w).setCell ⟨b, 0, none⟩ v0).setCell ⟨b, 1, none⟩ v1).setCell ⟨b, 2, none⟩ v2).setCell ⟨b, 3, none⟩ v3) :=
  ((((hb).setCell (p := ⟨b, 0, none⟩) hB v0).setCell (p := ⟨b, 1, none⟩) hB v1).setCell (p := ⟨b, 2, none⟩) hB v2).setCell (p := ⟨b, 3, none⟩) hB v3

theorem set13 {w : World} {b : Nat} {a0 a1 a2 a3 a4 a5 a6 a7 a8 a9 a10 a11 a12 : Value} (h : ∀ i, w.cell? ⟨b, i, none⟩ = (#[a0, a1, a2, a3, a4, a5, a6, a7, a8, a9, a10, a11, a12] : Array Value)[i]?) (v0 v1 v2 v3 v4 v5 v6 v7 v8 v9 v10 v11 v12 : Value) : ∀ i, ((((((((((((((w).setCell ⟨b, 0, none⟩ v0).setCell ⟨b, 1, none⟩ v1).setCell ⟨b, 2, none⟩ v2).setCell ⟨b, 3, none⟩ v3).setCell ⟨b, 4, none⟩ v4).setCell ⟨b, 5, none⟩ v5).setCell ⟨b, 6, none⟩ v6).setCell ⟨b, 7, none⟩ v7).setCell ⟨b, 8, none⟩ v8).setCell ⟨b, 9, none⟩ v9).setCell ⟨b, 10, none⟩ v10).setCell ⟨b, 11, none⟩ v11).setCell ⟨b, 12, none⟩ v12).cell? ⟨b, i, none⟩ = (#[v0, v1, v2, v3, v4, v5, v6, v7, v8, v9, v10, v11, v12] : Array Value)[i]? := by
  have hc := setC (setC (setC (setC (setC (setC (setC (setC (setC (setC (setC (setC (setC (h) 0 v0) 1 v1) 2 v2) 3 v3) 4 v4) 5 v5) 6 v6) 7 v7) 8 v8) 9 v9) 10 v10) 11 v11) 12 v12
  simp only [List.setIfInBounds_toArray, List.set_cons_zero, List.set_cons_succ] at hc
  exact hc
theorem belowSet13 {B : Nat} {w0 w : World} {b : Nat} (hb : Below B w0 w) (hB : B ≤ b) (v0 v1 v2 v3 v4 v5 v6 v7 v8 v9 v10 v11 v12 : Value) : Below B w0 ((((((((((((((w).setCell ⟨b, 0, none⟩ v0).setCell ⟨b, 1, none⟩ v1).setCell ⟨b, 2, none⟩ v2).setCell ⟨b, 3, none⟩ v3).setCell ⟨b, 4, none⟩ v4).setCell ⟨b, 5, none⟩ v5).setCell ⟨b, 6, none⟩ v6).setCell ⟨b, 7, none⟩ v7).setCell ⟨b, 8, none⟩ v8).setCell ⟨b, 9, none⟩ v9).setCell ⟨b, 10, none⟩ v10).setCell ⟨b, 11, none⟩ v11).setCell ⟨b, 12, none⟩ v12) :=
  (((((((((((((hb).setCell (p := ⟨b, 0, none⟩) hB v0).setCell (p := ⟨b, 1, none⟩) hB v1).setCell (p := ⟨b, 2, none⟩) hB v2).setCell (p := ⟨b, 3, none⟩) hB v3).setCell (p := ⟨b, 4, none⟩) hB v4).setCell (p := ⟨b, 5, none⟩) hB v5).setCell (p := ⟨b, 6, none⟩) hB v6).setCell (p := ⟨b, 7, none⟩) hB v7).setCell (p := ⟨b, 8, none⟩) hB v8).setCell (p := ⟨b, 9, none⟩) hB v9).setCell (p := ⟨b, 10, none⟩) hB v10).setCell (p := ⟨b, 11, none⟩) hB v11).setCell (p := ⟨b, 12, none⟩) hB v12
end Go.Proofs.YtieidjlmgalihaaGreatDoor
namespace Go.Proofs.YtieidjlmgalihaaGreatDoor
open Go.RowKit
/-- Of the blocks that were there, at most those of S have turned. -/
structure Only (S : Nat → Prop) (w w' : World) : Prop where
  os : w'.os = w.os
  tape : w'.tape = w.tape
  output : w'.output = w.output
  size : w.heap.size ≤ w'.heap.size
  block : ∀ k, k < w.heap.size → ¬ S k → w'.heap[k]? = w.heap[k]?
theorem Only.refl (S : Nat → Prop) (w : World) : Only S w w := ⟨rfl, rfl, rfl, Nat.le_refl _, fun _ _ _ => rfl⟩
theorem Only.trans {S : Nat → Prop} {a b c : World} (h : Only S a b) (k : Only S b c) : Only S a c :=
  ⟨k.os.trans h.os, k.tape.trans h.tape, k.output.trans h.output, Nat.le_trans h.size k.size, fun i hi hn => (k.block i (Nat.lt_of_lt_of_le hi h.size) hn).trans (h.block i hi hn)⟩
/-- What the second call wrote is of S or was not there at the first one's begin. -/
theorem Only.then {S S' : Nat → Prop} {a b c : World} (h : Only S a b) (k : Only S' b c) (hS : ∀ i, i < a.heap.size → S' i → S i) : Only S a c :=
  ⟨k.os.trans h.os, k.tape.trans h.tape, k.output.trans h.output, Nat.le_trans h.size k.size, fun i hi hn => (k.block i (Nat.lt_of_lt_of_le hi h.size) (fun h' => hn (hS i hi h'))).trans (h.block i hi hn)⟩
theorem Only.mono {S S' : Nat → Prop} {w w' : World} (h : Only S w w') (hS : ∀ i, i < w.heap.size → S i → S' i) : Only S' w w' :=
  ⟨h.os, h.tape, h.output, h.size, fun i hi hn => h.block i hi (fun h' => hn (hS i hi h'))⟩
theorem Only.of_below {B : Nat} {w w' : World} (h : Below B w w') : Only (fun k => B ≤ k) w w' := ⟨h.os, h.tape, h.output, h.size, fun i _ hn => h.block i (by omega)⟩
theorem Only.none_of_below {S : Nat → Prop} {w w' : World} (h : Below w.heap.size w w') : Only S w w' := ⟨h.os, h.tape, h.output, h.size, fun i hi _ => h.block i hi⟩
theorem Only.below {S : Nat → Prop} {B : Nat} {w w' : World} (h : Only S w w') (hB : B ≤ w.heap.size) (hS : ∀ k, k < B → ¬ S k) : Below B w w' := ⟨h.os, h.tape, h.output, h.size, fun k hk => h.block k (by omega) (hS k hk)⟩
theorem Only.alloc {S : Nat → Prop} {a w : World} (h : Only S a w) (o : Obj) : Only S a (w.alloc o) :=
  ⟨h.os, h.tape, h.output, Nat.le_trans h.size (by simp), fun k hk hn => (Below.heap_alloc w o k (Nat.lt_of_lt_of_le hk h.size)).trans (h.block k hk hn)⟩
theorem Only.drew {S : Nat → Prop} {a w : World} (h : Only S a w) : Only S a w.drew := ⟨h.os, h.tape, h.output, h.size, h.block⟩
theorem Only.setCell {S : Nat → Prop} {a w : World} (h : Only S a w) {p : Addr} (hp : S p.block ∨ a.heap.size ≤ p.block) (u : Value) : Only S a (w.setCell p u) :=
  ⟨h.os, h.tape, h.output, by have := h.size; simp [World.setCell]; exact this, fun k hk hn => (Below.heap_setCell w p u k (by
    rcases hp with hp | hp
    · intro e; subst e; exact hn hp
    · omega)).trans (h.block k hk hn)⟩
theorem Only.grown {S : Nat → Prop} {a w w' : World} {row : Option Nat} (h : Only S a w) (hg : w.grownBy w' row) (hr : ∀ k, row = some k → S k ∨ a.heap.size ≤ k) : Only S a w' :=
  ⟨hg.os.trans h.os, hg.tape.trans h.tape, hg.output.trans h.output, Nat.le_trans h.size hg.size, fun k hk hn => (hg.block k (Nat.lt_of_lt_of_le hk h.size) (fun e => by
    rcases hr k e.symm with h' | h'
    · exact hn h'
    · omega)).trans (h.block k hk hn)⟩
theorem Blk.only {S : Nat → Prop} {w w' : World} {b : Nat} {T : TypeId} {cs : Array Value} (h : Blk w b T cs) (ho : Only S w w') (hn : ¬ S b) : Blk w' b T cs := (ho.block b h.lt hn).trans h
theorem own_only {S : Nat → Prop} {w w' : World} {base : Nat} {e : TypeId} {size n : Nat} {v : Value} {xs : List Value} (h : w.ownsRow base e size v n xs) (ho : Only S w w') (hn : ∀ g, v.ownBlock = some g → ¬ S g) : w'.ownsRow base e size v n xs := by
  refine ⟨h.1, ?_⟩
  rcases h.2 with h2 | ⟨g, cap, cur, rfl, hb, hg, rest⟩
  · exact .inl h2
  · exact .inr ⟨g, cap, cur, rfl, hb, (ho.block g (Array.getElem?_eq_some_iff.1 hg).1 (hn g rfl)).trans hg, rest⟩
/-- Rows and blocks of different element types are different blocks. -/
theorem own_ne {w : World} {base b : Nat} {e T : TypeId} {size n : Nat} {v : Value} {xs : List Value} {cs : Array Value} (h : w.ownsRow base e size v n xs) (hb : Blk w b T cs) (hne : e ≠ T) : v.ownBlock ≠ some b := by
  rcases h.2 with ⟨rfl, _⟩ | ⟨g, cap, cur, rfl, _, hg, _⟩
  · simp [Value.ownBlock]
  · intro he
    have : g = b := by simpa [Value.ownBlock] using he
    subst this
    unfold Blk at hb
    rw [hg] at hb
    injection hb with hb
    injection hb with _ h2
    exact hne h2
theorem own_ne_own {w : World} {base base' : Nat} {e e' : TypeId} {size n size' n' : Nat} {v v' : Value} {xs xs' : List Value} (h : w.ownsRow base e size v n xs) (h' : w.ownsRow base' e' size' v' n' xs') (hne : e ≠ e') : ∀ g, v.ownBlock = some g → v'.ownBlock ≠ some g := by
  intro g hg
  rcases h.2 with ⟨rfl, _⟩ | ⟨g1, cap, cur, rfl, _, hg1, _⟩
  · simp [Value.ownBlock] at hg
  · have : g1 = g := by simpa [Value.ownBlock] using hg
    subst this
    exact own_ne h' (cs := cur) hg1 (fun e => hne e.symm)
theorem Blk.new_at (w : World) (T : TypeId) (cs : Array Value) (n : Nat) (h : w.heap.size = n) : Blk (w.alloc (.cells cs T)) n T cs := by subst h; exact Blk.new w T cs
/-- append(x, v): one element, laid in a block of its own first. -/
theorem wpList_append1 {P : Program} {ops : Array Oper} {rest : List Oper} {o : Oper} {a : Act} {Q : Exit → Act → World → Prop} (hgd : o.guard = none) (s x : Operand) (t : TypeId)
    (ho : o.op = .call { callee := .builtin .append, args := #[s, x], argTypes := #[t, t] })
    (base : Nat) (e : TypeId) (z : Value) (size bytes : Nat) (hinfo : (P.info? e).map (fun i => (i.zero, i.size, i.bytes)) = some (some z, size, bytes)) (ht : P.underlying t = some (.slice e)) (hzs : z.cells.size = size) (hsz : 0 < size)
    (v : Value) (n : Nat) (xs : List Value) (w0 : World) (hs : a.eval s = v) (hown : w0.ownsRow base e size v n xs)
    (news : Array Value) (H : Nat) (hx : a.eval x = .slice (some ⟨H, 0, none⟩) 1 1) (hH : w0.heap.size = H) (hl : news.size = size) (h1 : ∀ u ∈ news.toList, u.oneCell' = true)
    (h63 : n + 1 ≤ maxLen) (hbytes : (n + 1) * bytes ≤ 140737488355328) (hbase : base ≤ w0.heap.size)
    (h : ∀ g cap w', w'.ownsRow base e size (.slice (some ⟨g, 0, none⟩) (n + 1) cap) (n + 1) (xs ++ news.toList) → Only (fun k => v.ownBlock = some k) w0 w' → (v.ownBlock = some g ∨ w0.heap.size ≤ g) → g < w'.heap.size →
      wpList P ops Q rest (a.put o.dst (.slice (some ⟨g, 0, none⟩) (n + 1) cap)) w') : wpList P ops Q (o :: rest) a (w0.alloc (.cells news e)) := by
  subst hH
  obtain ⟨i, hi, hz0, hz1, hz2⟩ := info_parts hinfo
  refine wpList_append_lies (w0.alloc (.cells news e)) hgd s x t ho base e i z size bytes ht hi hz0 hz1 hz2 hzs hsz v n xs hs (hown.alloc _) ⟨w0.heap.size, 0, none⟩ 1 1 news.toList hx (by simpa using hl) ?_ h1 (by omega) h63 hbytes (by simp; omega) (w0.heap.size + 1) (by simp) ?_
  · intro j u hj
    have hadd : (⟨w0.heap.size, 0, none⟩ : Addr).add j = ⟨w0.heap.size, j, none⟩ := by unfold Addr.add; split <;> simp_all
    rw [hadd, World.cell?_alloc_new]
    simpa using hj
  · intro g cap w' ho' hg' hlies hlt
    refine h g cap w' ho' (((Only.refl _ w0).alloc _).grown hg' (fun k hk => .inl hk)) ?_ hlt
    rcases hlies with h' | h'
    · exact .inl h'
    · exact .inr (by omega)
/-- The same inside a region that draws its order. -/
theorem step_append1 {P : Program} {ops : Array Oper} {o : Oper} {a : Act} {K : Act → World → Prop} {Q : Exit → Act → World → Prop} {E : Prop} (hgd : o.guard = none) (s x : Operand) (t : TypeId)
    (ho : o.op = .call { callee := .builtin .append, args := #[s, x], argTypes := #[t, t] })
    (base : Nat) (e : TypeId) (z : Value) (size bytes : Nat) (hinfo : (P.info? e).map (fun i => (i.zero, i.size, i.bytes)) = some (some z, size, bytes)) (ht : P.underlying t = some (.slice e)) (hzs : z.cells.size = size) (hsz : 0 < size)
    (v : Value) (n : Nat) (xs : List Value) (w0 : World) (hs : a.eval s = v) (hown : w0.ownsRow base e size v n xs)
    (news : Array Value) (H : Nat) (hx : a.eval x = .slice (some ⟨H, 0, none⟩) 1 1) (hH : w0.heap.size = H) (hl : news.size = size) (h1 : ∀ u ∈ news.toList, u.oneCell' = true)
    (h63 : n + 1 ≤ maxLen) (hbytes : (n + 1) * bytes ≤ 140737488355328) (hbase : base ≤ w0.heap.size)
    (h : ∀ g cap w', w'.ownsRow base e size (.slice (some ⟨g, 0, none⟩) (n + 1) cap) (n + 1) (xs ++ news.toList) → Only (fun k => v.ownBlock = some k) w0 w' → (v.ownBlock = some g ∨ w0.heap.size ≤ g) → g < w'.heap.size →
      K (a.put o.dst (.slice (some ⟨g, 0, none⟩) (n + 1) cap)) w') :
    if Region.wanted o (yielded ops a.tmps) = true then Oper.wp P o a (w0.alloc (.cells news e)).drew K Q else E := by
  subst hH
  obtain ⟨i, hi, hz0, hz1, hz2⟩ := info_parts hinfo
  refine step_append_lies (w0.alloc (.cells news e)).drew hgd s x t ho base e i z size bytes ht hi hz0 hz1 hz2 hzs hsz v n xs hs (hown.alloc _) ⟨w0.heap.size, 0, none⟩ 1 1 news.toList hx (by simpa using hl) ?_ h1 (by omega) h63 hbytes (by simp; omega) (w0.heap.size + 1) (by simp) ?_
  · intro j u hj
    have hadd : (⟨w0.heap.size, 0, none⟩ : Addr).add j = ⟨w0.heap.size, j, none⟩ := by unfold Addr.add; split <;> simp_all
    rw [hadd]
    show (w0.alloc (.cells news e)).cell? _ = _
    rw [World.cell?_alloc_new]
    simpa using hj
  · intro g cap w' ho' hg' hlies hlt
    refine h g cap w' ho' ((((Only.refl _ w0).alloc _).drew).grown hg' (fun k hk => .inl hk)) ?_ hlt
    rcases hlies with h' | h'
    · exact .inl h'
    · exact .inr (by omega)
end Go.Proofs.YtieidjlmgalihaaGreatDoor
