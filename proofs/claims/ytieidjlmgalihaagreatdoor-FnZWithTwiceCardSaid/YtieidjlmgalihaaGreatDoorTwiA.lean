/- Two lists of fields in one; what FnZWithTwice has made. -/
import Derived.Test.YtieidjlmgalihaaGreatDoorCoAm
set_option linter.all false
namespace Go.Proofs.YtieidjlmgalihaaGreatDoor
open Go.RowKit
set_option maxRecDepth 100000
def two (a b : FRow) : Nat → FRow := fun i => if i = 0 then a else b
theorem two_both (a b : FRow) : bothL (two a b) 2 = a.l ++ b.l := by simp [bothL, two, List.range_succ]
/-- The two lists' own row. -/
structure TwoAt (kf : Nat) (w0 : World) (B : Nat) (a b : FRow) (A : Option Addr) (n : Nat) (g : Nat → Fld) (W : World) : Prop where
  row : RowAt W A n 15 (fun i => (g i).arr)
  far : ∀ c off, A = some ⟨c, off, none⟩ → B ≤ c
  ok : ∀ i, i < n → FldOk kf w0 (g i)
  list : (List.range n).map g = a.l ++ b.l
  le : n ≤ 600
theorem TwoAt.flds {kf : Nat} {w0 : World} {B : Nat} {a b : FRow} {A : Option Addr} {n : Nat} {g : Nat → Fld} {W : World} (h : TwoAt kf w0 B a b A n g W) (hb : Below w0.heap.size w0 W) : FldsOk kf W A n g := ⟨by have := h.le; unfold maxLen; omega, h.row, fun i hi => (h.ok i hi).below hb⟩
theorem TwoAt.here {kf : Nat} {w0 : World} {B : Nat} {a b : FRow} {A : Option Addr} {n : Nat} {g : Nat → Fld} {W W' : World} (h : TwoAt kf w0 B a b A n g W) (hb : Below W.heap.size W W') : TwoAt kf w0 B a b A n g W' := ⟨h.row.below hb, h.far, h.ok, h.list, h.le⟩
theorem TwoAt.only {kf : Nat} {w0 : World} {B : Nat} {a b : FRow} {A : Option Addr} {n : Nat} {g : Nat → Fld} {W W' : World} {q : Nat} (h : TwoAt kf w0 B a b A n g W) (ho : Only (fun b => b = q) W W') (hq : q < B) : TwoAt kf w0 B a b A n g W' :=
  ⟨fun i hi => by
    obtain ⟨c, off, hA, hs, hc⟩ := h.row i hi
    refine ⟨c, off, hA, hs, fun j hj => ?_⟩
    have h1 := hc j hj
    have hl : c < W.heap.size := by
      have h2 : (g i).arr.size = 15 := hs
      rw [Array.getElem?_eq_getElem (by omega)] at h1
      exact World.block_lt_of_cell? W _ h1
    have h3 := ho.block c hl (by have := h.far c off hA; omega)
    rw [← h1]
    simp only [World.cell?]
    rw [h3], h.far, h.ok, h.list, h.le⟩
def TwoPost (kf : Nat) (w0 : World) (a b : FRow) (W : World) (e : Ending) (w' : World) : Prop := ∃ A n k g, e = .returned (.slice A n k) ∧ TwoAt kf w0 W.heap.size a b A n g w' ∧ Below W.heap.size W w'
theorem both_two {kf : Nat} {w0 W : World} {q : Nat} (a b : FRow) (B : Blk W q 37 #[.slice a.A a.n a.c, .slice b.A b.n b.c]) (hb : Below w0.heap.size w0 W) (Fa : FldsOk kf w0 a.A a.n a.g) (Fb : FldsOk kf w0 b.A b.n b.g) (na : a.n ≤ 300) (nb : b.n ≤ 300) :
    Calls Tryz.prog 41 #[.slice (some ⟨q, 0, none⟩) 2 2] W (TwoPost kf w0 a b W) := by
  refine (both_any W (some ⟨q, 0, none⟩) 2 2 (two a b) (by omega) (fun i hi => ⟨q, 0, rfl, rfl, fun j hj => ?_⟩) (fun i hi => ?_)).mono ?_
  · obtain rfl : j = 0 := by omega
    rw [B.cell]
    rcases (by omega : i = 0 ∨ i = 1) with rfl | rfl <;> simp [two, FRow.arr]
  · rcases (by omega : i = 0 ∨ i = 1) with rfl | rfl
    · exact ⟨(Fa.below hb).2.1, by simp only [two, if_true]; omega⟩
    · exact ⟨(Fb.below hb).2.1, by show b.n ≤ 1000; omega⟩
  · rintro e w' ⟨A, c, rfl, hr, hfar, hb'⟩
    have hl : (bothL (two a b) 2).length ≤ 600 := by
      rw [two_both, List.length_append]
      simp only [FRow.l, List.length_map, List.length_range]
      omega
    refine ⟨A, _, c, fun i => (bothL (two a b) 2).getD i default, rfl, ⟨hr, hfar, fun i hi => ?_, ?_, hl⟩, hb'⟩
    · show FldOk kf w0 ((bothL (two a b) 2).getD i default)
      have e : (bothL (two a b) 2).getD i default = (bothL (two a b) 2)[i] := by simp [List.getD, List.getElem?_eq_getElem hi]
      rw [e]
      have hm := List.getElem_mem hi
      generalize (bothL (two a b) 2)[i] = f at hm
      rw [two_both] at hm
      rcases List.mem_append.1 hm with h | h
      · obtain ⟨j, hj, rfl⟩ := List.mem_map.1 h
        exact Fa.2.2 j (List.mem_range.1 hj)
      · obtain ⟨j, hj, rfl⟩ := List.mem_map.1 h
        exact Fb.2.2 j (List.mem_range.1 hj)
    · rw [list_get, two_both]
theorem with_fn2 (w : World) (k kind lev : Int) (kA fA gA : Option Addr) (kn kc fn fc gn gc : Nat) : Calls Tryz.prog 40 #[.int .i64 k, .agg #[.int .i64 kind, .int .i64 lev, .slice kA kn kc, .slice fA fn fc], .slice gA gn gc] w fun e w' => ∃ b, e = .returned (.agg #[.int .i64 k, .int .i64 0, .slice (some ⟨b, 0, none⟩) 1 1, .slice gA gn gc]) ∧ w.heap.size ≤ b ∧ Blk w' b 69 #[.int .i64 kind, .int .i64 lev, .slice kA kn kc, .slice fA fn fc] ∧ Below w.heap.size w w' := by
  have h1 := ((Blk.new_at (w.alloc (.cells #[.int .i64 kind, .int .i64 lev, .slice kA kn kc, .slice fA fn fc] 69)) 69 #[.int .i64 k, .int .i64 0, .slice (some ⟨w.heap.size + 1 + 1, 0, none⟩) 1 1, .slice gA gn gc] (w.heap.size + 1) (by simp)).alloc (.cells #[.int .i64 kind, .int .i64 lev, .slice kA kn kc, .slice fA fn fc] 69)).cell
  go_enter Tryz.func40, Tryz.ntmps40
  go_wp2
  refine bodyPost_ret (v := .agg #[.int .i64 k, .int .i64 0, .slice (some ⟨w.heap.size + 1 + 1, 0, none⟩) 1 1, .slice gA gn gc]) (by simp [results, Tryz.results40, go_sem, h1]) rfl ?_
  exact ⟨_, rfl, by omega, Blk.new_at _ 69 _ _ (by simp), by go_grown⟩
/-- What lies in memory when cores are compared. -/
structure Tw (w : World) (arr : Array Value) (q bp kf : Nat) (A : Option Addr) (n k : Nat) (g : Nat → Fld) (W : World) : Prop where
  box : Bx w arr W
  t12 : Blk W q 69 #[.int .i64 3, .int .i64 0, .slice (some ⟨bp, 0, none⟩) 1 1, .slice A n k]
  kid : Blk W bp 69 arr
  fx : FldsOk kf W A n g
theorem Tw.up {w : World} {arr : Array Value} {q bp kf : Nat} {A : Option Addr} {n k : Nat} {g : Nat → Fld} {W W' : World} (h : Tw w arr q bp kf A n k g W) (hb : Below W.heap.size W W') : Tw w arr q bp kf A n k g W' := ⟨h.box.up hb, h.t12.here hb, h.kid.here hb, h.fx.below hb⟩
theorem Tw.cells {w W : World} {a0 a1 a2 a3 : Value} {q bp kf : Nat} {A : Option Addr} {n k : Nat} {g : Nat → Fld} (h : Tw w #[a0, a1, a2, a3] q bp kf A n k g W) : (W.cell? ⟨w.heap.size, 0, none⟩ = some a0 ∧ W.cell? ⟨w.heap.size, 1, none⟩ = some a1 ∧ W.cell? ⟨w.heap.size, 2, none⟩ = some a2 ∧ W.cell? ⟨w.heap.size, 3, none⟩ = some a3 ∧ w.heap.size < W.heap.size) ∧ (W.cell? ⟨q, 0, none⟩ = some (.int .i64 3) ∧ W.cell? ⟨q, 1, none⟩ = some (.int .i64 0) ∧ W.cell? ⟨q, 2, none⟩ = some (.slice (some ⟨bp, 0, none⟩) 1 1) ∧ W.cell? ⟨q, 3, none⟩ = some (.slice A n k) ∧ q < W.heap.size) :=
  ⟨h.box.cells, h.t12.cell 0, h.t12.cell 1, h.t12.cell 2, h.t12.cell 3, h.t12.lt⟩
theorem only_q {W : World} {q bp n k : Nat} {A : Option Addr} : Only (fun b => b = q) W ((((W.setCell ⟨q, 0, none⟩ (.int .i64 3)).setCell ⟨q, 1, none⟩ (.int .i64 0)).setCell ⟨q, 2, none⟩ (.slice (some ⟨bp, 0, none⟩) 1 1)).setCell ⟨q, 3, none⟩ (.slice A n k)) :=
  ((((Only.refl (fun b => b = q) W).setCell (p := ⟨q, 0, none⟩) (.inl rfl) _).setCell (p := ⟨q, 1, none⟩) (.inl rfl) _).setCell (p := ⟨q, 2, none⟩) (.inl rfl) _).setCell (p := ⟨q, 3, none⟩) (.inl rfl) _
theorem below_q {V W : World} {q bp n k : Nat} {A : Option Addr} (h : Below V.heap.size V W) (hq : V.heap.size ≤ q) : Below V.heap.size V ((((W.setCell ⟨q, 0, none⟩ (.int .i64 3)).setCell ⟨q, 1, none⟩ (.int .i64 0)).setCell ⟨q, 2, none⟩ (.slice (some ⟨bp, 0, none⟩) 1 1)).setCell ⟨q, 3, none⟩ (.slice A n k)) := h.trans (only_q.below h.size (fun i hi e => by omega))
theorem tw_store {w W : World} {arr : Array Value} {q bp kf B : Nat} {a b : FRow} {A : Option Addr} {n k : Nat} {g : Nat → Fld} {z0 z1 z2 z3 : Value} (hQ : Bx w arr W) (hk : Blk W bp 69 arr) (hq : Blk W q 69 #[z0, z1, z2, z3]) (h1 : w.heap.size < q) (h2 : q < bp) (hf : TwoAt kf w B a b A n g ((((W.setCell ⟨q, 0, none⟩ (.int .i64 3)).setCell ⟨q, 1, none⟩ (.int .i64 0)).setCell ⟨q, 2, none⟩ (.slice (some ⟨bp, 0, none⟩) 1 1)).setCell ⟨q, 3, none⟩ (.slice A n k))) :
    Tw w arr q bp kf A n k g ((((W.setCell ⟨q, 0, none⟩ (.int .i64 3)).setCell ⟨q, 1, none⟩ (.int .i64 0)).setCell ⟨q, 2, none⟩ (.slice (some ⟨bp, 0, none⟩) 1 1)).setCell ⟨q, 3, none⟩ (.slice A n k)) := by
  have ho := only_q (W := W) (q := q) (bp := bp) (n := n) (k := k) (A := A)
  have hbel := hQ.below.trans (ho.below hQ.below.size (fun i hi e => by omega))
  refine ⟨⟨hQ.blk.only ho (by omega), hbel⟩, ?_, hk.only ho (by omega), hf.flds hbel⟩
  simpa using (((hq.set_ 0 (.int .i64 3)).set_ 1 (.int .i64 0)).set_ 2 (.slice (some ⟨bp, 0, none⟩) 1 1)).set_ 3 (.slice A n k)
end Go.Proofs.YtieidjlmgalihaaGreatDoor
