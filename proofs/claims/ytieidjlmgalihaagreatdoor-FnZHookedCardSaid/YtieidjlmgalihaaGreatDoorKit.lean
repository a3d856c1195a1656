/- Words for memory. -/
import Derived.Test.YtieidjlmgalihaaGreatDoorProg
import Derived.WalkKit
import Derived.Handy
import Derived.WalkLawsBesides
import Derived.WalkSpells
import Derived.ProofKit
import Derived.Deep.RegionWith
import Derived.Deep.RegionHeld3
import Derived.StillTailTactics
import Derived.Laws.EntriesVeiled
import Derived.Deep.LoopGhost
import Derived.Deep.QuietTactic
import Derived.BigQuiet
import Derived.Deep.AppendLies
import Derived.Maps.AppendAt
import Derived.Deep.Draws
import Derived.Lib.Hide
import Derived.Lib.AppendIntMem
namespace Go.Proofs.YtieidjlmgalihaaGreatDoor
open Go.RowKit
theorem bcell {W w1 : World} (hb : Below W.heap.size W w1) : (∀ b o, b < W.heap.size → w1.cell? ⟨b, o, none⟩ = W.cell? ⟨b, o, none⟩) ∧ (∀ b o, b < W.heap.size → w1.frozen? ⟨b, o, none⟩ = W.frozen? ⟨b, o, none⟩) :=
  ⟨fun b o h => hb.cell (p := ⟨b, o, none⟩) h, fun b o h => hb.frozen (p := ⟨b, o, none⟩) h⟩
theorem ups {b n : Nat} (h : b < n) : b < n + 1 ∧ b < n + 1 + 1 ∧ b < n + 1 + 1 + 1 ∧ b < n + 1 + 1 + 1 + 1 ∧ b < n + 1 + 1 + 1 + 1 + 1 := by omega
/-- Block b is just the cells cs of type T, none frozen. -/
def Blk (w : World) (b : Nat) (T : TypeId) (cs : Array Value) : Prop := w.heap[b]? = some (.cells cs T (0, 0))
section
variable {w w' : World} {b : Nat} {T : TypeId} {cs : Array Value}
theorem Blk.lt (h : Blk w b T cs) : b < w.heap.size := (Array.getElem?_eq_some_iff.1 h).1
theorem Blk.cell (h : Blk w b T cs) : ∀ i, w.cell? ⟨b, i, none⟩ = cs[i]? := fun i => cell_of_row w b i cs T (0, 0) h
theorem Blk.frozen (h : Blk w b T cs) : ∀ i, w.frozen? ⟨b, i, none⟩ = false := fun i => by unfold Blk at h; simp [World.frozen?, h]
theorem Blk.new (w : World) (T : TypeId) (cs : Array Value) : Blk (w.alloc (.cells cs T)) w.heap.size T cs := heap_alloc_new w _
theorem Blk.drew (h : Blk w b T cs) : Blk w.drew b T cs := h
theorem Blk.drewN (h : Blk w b T cs) (n : Nat) : Blk (w.drewN n) b T cs := h
theorem Blk.alloc (h : Blk w b T cs) (o : Obj) : Blk (w.alloc o) b T cs := (Below.heap_alloc w o b h.lt).trans h
theorem Blk.set_ (h : Blk w b T cs) (i : Nat) (u : Value) : Blk (w.setCell ⟨b, i, none⟩ u) b T (cs.setIfInBounds i u) := by
  unfold Blk at h ⊢
  simp [World.setCell, Array.getElem?_modify, h]
theorem Blk.far (h : Blk w b T cs) {p : Addr} (hp : b ≠ p.block) (u : Value) : Blk (w.setCell p u) b T cs := (Below.heap_setCell w p u b hp).trans h
theorem Blk.below {B : Nat} (h : Blk w b T cs) (hb : Below B w w') (hg : b < B) : Blk w' b T cs := (hb.block b hg).trans h
theorem Blk.here (h : Blk w b T cs) (hb : Below w.heap.size w w') : Blk w' b T cs := h.below hb h.lt
theorem Blk.grown {row : Option Nat} (h : Blk w b T cs) (hb : w.grownBy w' row) (hg : some b ≠ row) : Blk w' b T cs := (hb.block b h.lt hg).trans h
theorem Blk.ne_ {b' : Nat} {T' : TypeId} {cs' : Array Value} (h : Blk w b T cs) (h' : Blk w b' T' cs') (hne : T ≠ T') : b ≠ b' := by
  rintro rfl
  unfold Blk at h h'
  rw [h] at h'
  injection h' with h'
  injection h' with _ ht
  exact hne ht
/-- What a walk asks of a block behind a call. -/
theorem Blk.use (h : Blk w b T cs) : (∀ i, w.cell? ⟨b, i, none⟩ = cs[i]?) ∧ (∀ i, w.frozen? ⟨b, i, none⟩ = false) ∧ b < w.heap.size := ⟨h.cell, h.frozen, h.lt⟩
end
/-- A parameter's box, behind a call that leaves what was there. -/
theorem boxed {w w1 : World} {cs : Array Value} {T : TypeId} (hb : Below (w.alloc (.cells cs T)).heap.size (w.alloc (.cells cs T)) w1) :
    (∀ i, w1.cell? ⟨w.heap.size, i, none⟩ = cs[i]?) ∧ (∀ i, w1.frozen? ⟨w.heap.size, i, none⟩ = false) ∧ w.heap.size < w1.heap.size ∧ Below w.heap.size w w1 := by
  obtain ⟨h1, h2, h3⟩ := ((Blk.new w T cs).here hb).use
  exact ⟨h1, h2, h3, ((Below.refl _ _).alloc (Nat.le_refl _) _).trans (hb.mono (by simp))⟩
/-- Cells known of a block, behind a call that leaves what was there. -/
theorem keepC {W w1 : World} {b : Nat} {cs : Array Value} (hb : Below W.heap.size W w1) (h : ∀ i, W.cell? ⟨b, i, none⟩ = cs[i]?) (hne : 0 < cs.size) : ∀ i, w1.cell? ⟨b, i, none⟩ = cs[i]? := by
  have h0 := h 0
  rw [Array.getElem?_eq_getElem hne] at h0
  have hlt := World.block_lt_of_cell? W _ h0
  exact fun i => (hb.cell (p := ⟨b, i, none⟩) hlt).trans (h i)
theorem keepF {W w1 : World} {b : Nat} {cs : Array Value} (hb : Below W.heap.size W w1) (h : ∀ i, W.cell? ⟨b, i, none⟩ = cs[i]?) (hne : 0 < cs.size) (hf : ∀ i, W.frozen? ⟨b, i, none⟩ = false) : ∀ i, w1.frozen? ⟨b, i, none⟩ = false := by
  have h0 := h 0
  rw [Array.getElem?_eq_getElem hne] at h0
  have hlt := World.block_lt_of_cell? W _ h0
  exact fun i => (hb.frozen (p := ⟨b, i, none⟩) hlt).trans (hf i)
theorem keepB {W0 W w1 : World} (h0 : Below W0.heap.size W0 W) (hb : Below W.heap.size W w1) : Below W0.heap.size W0 w1 := h0.trans (hb.mono h0.size)
/-- A known block with one cell written. -/
theorem setC {w : World} {b : Nat} {cs : Array Value} (h : ∀ i, w.cell? ⟨b, i, none⟩ = cs[i]?) (j : Nat) (v : Value) : ∀ i, (w.setCell ⟨b, j, none⟩ v).cell? ⟨b, i, none⟩ = (cs.setIfInBounds j v)[i]? := by
  intro i
  by_cases hij : j = i
  · subst hij
    cases hc : cs[j]? with
    | none =>
      have h1 : w.cell? ⟨b, j, none⟩ = none := (h j).trans hc
      have hj : cs.size ≤ j := by simpa using hc
      rw [Array.getElem?_eq_none (by simpa using hj)]
      unfold World.cell? at h1 ⊢
      simp only [World.setCell, Array.getElem?_modify, if_true]
      cases hb : w.heap[b]? with
      | none => simp
      | some o =>
        rw [hb] at h1
        cases o <;> simp at h1 ⊢ <;> exact h1
    | some u =>
      have hj : j < cs.size := (Array.getElem?_eq_some_iff.1 hc).1
      rw [World.cell?_setCell_same w _ _ ((h j).trans hc)]
      simp [hj]
  · rw [World.cell?_setCell_other w _ _ _ (fun e => hij (Addr.mk.inj e).2.1), h i, Array.getElem?_setIfInBounds_ne hij]
/-- What a region holds: a box that is read, a box that is written, nothing old turned. -/
theorem keep2 {W0 W w1 : World} {b1 b2 : Nat} {c1 c2 : Array Value} (h : (∀ i, W.cell? ⟨b1, i, none⟩ = c1[i]?) ∧ (∀ i, W.cell? ⟨b2, i, none⟩ = c2[i]?) ∧ (∀ i, W.frozen? ⟨b2, i, none⟩ = false) ∧ Below W0.heap.size W0 W)
    (hb : Below W.heap.size W w1) (h1 : 0 < c1.size) (h2 : 0 < c2.size) :
    (∀ i, w1.cell? ⟨b1, i, none⟩ = c1[i]?) ∧ (∀ i, w1.cell? ⟨b2, i, none⟩ = c2[i]?) ∧ (∀ i, w1.frozen? ⟨b2, i, none⟩ = false) ∧ Below W0.heap.size W0 w1 :=
  ⟨keepC hb h.1 h1, keepC hb h.2.1 h2, keepF hb h.2.1 h2 h.2.2.1, keepB h.2.2.2 hb⟩
/-- A slice's elements, each 'size' cells, element i being (f i)'s cells. -/
def RowAt (w : World) (A : Option Addr) (n size : Nat) (f : Nat → Array Value) : Prop :=
  ∀ i, i < n → ∃ b off, A = some ⟨b, off, none⟩ ∧ (f i).size = size ∧ ∀ j, j < size → w.cell? ⟨b, off + i * size + j, none⟩ = (f i)[j]?
theorem RowAt.below {w w' : World} {A : Option Addr} {n size : Nat} {f : Nat → Array Value} (h : RowAt w A n size f) (hb : Below w.heap.size w w') : RowAt w' A n size f := by
  intro i hi
  obtain ⟨b, off, hA, hs, hc⟩ := h i hi
  refine ⟨b, off, hA, hs, fun j hj => ?_⟩
  have h1 := hc j hj
  rw [← h1]
  rw [Array.getElem?_eq_getElem (by omega)] at h1
  exact hb.cell (p := ⟨b, off + i * size + j, none⟩) (World.block_lt_of_cell? w _ h1)
/-- Some bool comes back; nothing that was there has turned. -/
def SomeBool (w : World) (e : Ending) (w' : World) : Prop := ∃ b, e = .returned (.bool b) ∧ Below w.heap.size w w'
abbrev Tab10 (B : Nat) (w : World) : Prop := Lib.TabBelow Tryz.prog B w "internal/strconv.uint64pow10" .u64 Lib.pow10Tab
theorem tabUp {B B' : Nat} {w W : World} {s : String} {k : IntKind} {zs : List Int} (h : Lib.TabBelow Tryz.prog B w s k zs) (hb : Below B w W) (hB : B ≤ B') : Lib.TabBelow Tryz.prog B' W s k zs :=
  fun w' h' => h w' (hb.trans (h'.mono hB))
end Go.Proofs.YtieidjlmgalihaaGreatDoor
