/- A writer of lines over an observer: what memory holds. -/
import Derived.Test.YtieidjlmgalihaaGreatDoorWk21
import Derived.Test.YtieidjlmgalihaaGreatDoorBuf1
import Derived.Laws.IdiomStrings
namespace Go.Proofs.YtieidjlmgalihaaGreatDoor
open Go.RowKit
set_option maxRecDepth 100000
abbrev bvals (l : List UInt8) : List Value := l.map fun (c : UInt8) => Value.int .u8 (c.toNat : Int)
/-- A slice that reads as the bytes l. -/
def ReadsB (w : World) (A : Option Addr) (l : List UInt8) : Prop := ∀ j (hj : j < l.length), ∃ b o, A = some ⟨b, o, none⟩ ∧ w.cell? ⟨b, o + j, none⟩ = some (.int .u8 (l[j].toNat : Int))
theorem ReadsB.drew {w : World} {A : Option Addr} {l : List UInt8} (h : ReadsB w A l) : ReadsB w.drew A l := h
theorem ReadsB.below {w w' : World} {A : Option Addr} {l : List UInt8} (h : ReadsB w A l) (hb : Below w.heap.size w w') : ReadsB w' A l := fun j hj => by
  obtain ⟨b, o, hA, hc⟩ := h j hj
  exact ⟨b, o, hA, (hb.cell (p := ⟨b, o + j, none⟩) (World.block_lt_of_cell? w _ hc)).trans hc⟩
/-- string(b). -/
theorem conv_read {w : World} {A : Option Addr} {l : List UInt8} (h : ReadsB w A l) (c : Nat) : (convert 36 9 (.slice A l.length c)).run Tryz.prog w = .ok (.string ⟨l.toArray⟩) w := by
  cases l with
  | nil =>
    have := run_convert_bytes_string (P := Tryz.prog) w 36 9 5 A 0 c Tryz.underlying36 Tryz.underlying5 Tryz.underlying9
    show (convert 36 9 (.slice A 0 c)).run Tryz.prog w = _
    rw [this]
    cases A <;> simp [Conv.bytesToString, loadCells]
    all_goals rfl
  | cons x l =>
    obtain ⟨b, o, rfl, _⟩ := h 0 (by simp)
    refine run_convert_bytes_back w 36 9 5 ⟨b, o, none⟩ c (x :: l) Tryz.underlying36 Tryz.underlying5 Tryz.underlying9 (fun j hj => ?_)
    obtain ⟨b', o', hA, hc⟩ := h j hj
    obtain ⟨rfl, rfl⟩ : b = b' ∧ o = o' := by injection hA with hA; injection hA with h1 h2; exact ⟨h1, h2⟩
    rw [Go.WideShapes.add_plain]
    exact hc
/-- The logs' cells bear these messages. -/
def Logs (msgs : List (List UInt8)) (xs : List Value) : Prop := ∀ i m, msgs[i]? = some m → xs[i * 14 + 6]? = some (.string ⟨m.toArray⟩)
theorem Logs.snoc {msgs : List (List UInt8)} {xs news : List Value} (h : Logs msgs xs) (hl : xs.length = msgs.length * 14) {m : List UInt8} (hn : news[6]? = some (.string ⟨m.toArray⟩)) : Logs (msgs ++ [m]) (xs ++ news) := by
  intro i m' hi
  by_cases hlt : i < msgs.length
  · rw [List.getElem?_append_left hlt] at hi
    rw [List.getElem?_append_left (by omega)]
    exact h i m' hi
  · have h1 := (List.getElem?_eq_some_iff.1 hi).1
    simp at h1
    obtain rfl : i = msgs.length := by omega
    simp at hi
    subst hi
    rw [List.getElem?_append_right (by omega), hl]
    have : msgs.length * 14 + 6 - msgs.length * 14 = 6 := by omega
    rw [this]
    exact hn
/-- The writer's other cells. -/
def Rw (O : Nat) : Nat → Option Value := fun i => if i = 0 then some (.iface 168 (.agg #[.iface 257 (.pointer (some ⟨O, 0, none⟩))])) else if i = 1 then some (.int .i8 0) else none
/-- A writer b over an observer O with logs OL: what was logged, what waits. -/
structure IoSt (B O OL b : Nat) (msgs : List (List UInt8)) (wait : List UInt8) (w : World) : Prop where
  base : B ≤ w.heap.size
  bases : B ≤ O ∧ B ≤ OL
  core : Blk w O 259 (obsArr (-1) OL)
  logs : ∃ V xs, Blk w OL 256 #[V] ∧ w.ownsRow B 182 14 V msgs.length xs ∧ Logs msgs xs
  buf : LibA.IsBuffer 175 (Rw O) 5 B b 2 (bvals wait) w
/-- Rows of bytes that bear the mark of a conversion are as they were. -/
def Marked (w w' : World) : Prop := ∀ (k : Nat) (cs : Array Value) (fz : Nat × Nat), w.heap[k]? = some (Obj.cells cs 5 fz) → fz ≠ (0, 0) → w'.heap[k]? = some (Obj.cells cs 5 fz)
theorem Marked.refl (w : World) : Marked w w := fun _ _ _ h _ => h
theorem Marked.trans {a b c : World} (h : Marked a b) (k : Marked b c) : Marked a c := fun i cs fz hi hf => k i cs fz (h i cs fz hi hf) hf
theorem Marked.of_below {w w' : World} (h : Below w.heap.size w w') : Marked w w' := fun k cs fz hk _ => (h.block k (Array.getElem?_eq_some_iff.1 hk).1).trans hk
theorem Marked.of_only {S : Nat → Prop} {w w' : World} (h : Only S w w') (hn : ∀ (k : Nat) (cs : Array Value) (fz : Nat × Nat), w.heap[k]? = some (Obj.cells cs 5 fz) → fz ≠ (0, 0) → ¬ S k) : Marked w w' := fun k cs fz hk hf => (h.block k (Array.getElem?_eq_some_iff.1 hk).1 (hn k cs fz hk hf)).trans hk
theorem buf_only {S : Nat → Prop} {w w' : World} {T : TypeId} {R : Nat → Option Value} {B b q : Nat} {bs : List Value} (h : LibA.IsBuffer T R 5 B b q bs w) (ho : Only S w w') (hb : ¬ S b) (hg : ∀ g cur, w.heap[g]? = some (.cells cur 5 (0, 0)) → ¬ S g) : LibA.IsBuffer T R 5 B b q bs w' := by
  have hlt := h.lt
  obtain ⟨hB, v, lr, hbk, hown, hne⟩ := h
  refine ⟨hB, v, lr, hbk.of_heap (ho.block b hlt hb), own_only hown ho (fun g hg' => ?_), hne⟩
  rcases hown.2 with ⟨rfl, _⟩ | ⟨g1, cap, cur, rfl, _, hg1, _⟩
  · simp [Value.ownBlock] at hg'
  · have : g1 = g := by simpa [Value.ownBlock] using hg'
    subst this
    exact hg _ _ hg1
theorem IoSt.here {B O OL b : Nat} {msgs : List (List UInt8)} {wait : List UInt8} {w w' : World} (h : IoSt B O OL b msgs wait w) (hb : Below w.heap.size w w') : IoSt B O OL b msgs wait w' := by
  obtain ⟨h0, h1, h2, ⟨V, xs, h3, h4, h5⟩, h6⟩ := h
  exact ⟨Nat.le_trans h0 hb.size, h1, h2.here hb, ⟨V, xs, h3.here hb, own_only h4 (Only.none_of_below (S := fun _ => False) hb) (fun _ _ h => h), h5⟩, h6.old hb⟩
end Go.Proofs.YtieidjlmgalihaaGreatDoor
