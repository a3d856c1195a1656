/- The arguments, opened: entries. -/
import Derived.Test.YtieidjlmgalihaaGreatDoorWk6
import Derived.ProofKit
import Derived.OpenShut
import Derived.Deep.Slices
set_option linter.all false
namespace Go.Proofs.YtieidjlmgalihaaGreatDoor
open Go.ChangeShapes Go.WideShapes Go.ChangeAt Go.RowKit
set_option maxRecDepth 100000
theorem cells2 : Tryz.prog.cellsOf 2 = 1 := by kernel_rfl
theorem cells3' : Tryz.prog.cellsOf 3 = 1 := by kernel_rfl
theorem cells4 : Tryz.prog.cellsOf 4 = 1 := by kernel_rfl
theorem cells9 : Tryz.prog.cellsOf 9 = 1 := by kernel_rfl
theorem cells23 : Tryz.prog.cellsOf 23 = 4 := by kernel_rfl
theorem cells50 : Tryz.prog.cellsOf 50 = 12 := by kernel_rfl
section
variable {H : Type} {enc : TypeId × Value → H} {W : World} {spare : Nat → Bool} {fuel : Nat}
/-- A time's cells. -/
theorem openMom {cs : List Value} {x : DataW H × List MemPlace} (h : DataW.trod enc Tryz.prog W 0 spare true fuel 23 cs = some x) :
    ∃ z n o s, cs = [.bool z, .int .i64 n, .int .i64 o, .string s] ∧ -9223372036854775808 ≤ n ∧ n ≤ 9223372036854775807 := by
  obtain ⟨xs, m, rfl, rfl, hl, hn, hel⟩ := DataW.trod_struct Tryz.underlying23 h
  rw [cells23] at hl
  have hn4 : xs.length = 4 := hn
  match cs, hl with
  | [c0, c1, c2, c3], _ =>
    have h0 : DataW.trod enc Tryz.prog W 0 spare true m 4 (List.take (Tryz.prog.cellsOf 4) (List.drop 0 [c0, c1, c2, c3])) = xs[0]? := hel 0 _ rfl
    have h1 : DataW.trod enc Tryz.prog W 0 spare true m 2 (List.take (Tryz.prog.cellsOf 2) (List.drop 1 [c0, c1, c2, c3])) = xs[1]? := hel 1 _ rfl
    have h2 : DataW.trod enc Tryz.prog W 0 spare true m 3 (List.take (Tryz.prog.cellsOf 3) (List.drop 2 [c0, c1, c2, c3])) = xs[2]? := hel 2 _ rfl
    have h3 : DataW.trod enc Tryz.prog W 0 spare true m 9 (List.take (Tryz.prog.cellsOf 9) (List.drop 3 [c0, c1, c2, c3])) = xs[3]? := hel 3 _ rfl
    rw [List.getElem?_eq_getElem (by omega)] at h0 h1 h2 h3
    simp only [cells2, cells3', cells4, cells9, List.drop_zero, List.drop_succ_cons, List.take_succ_cons, List.take_zero] at h0 h1 h2 h3
    obtain ⟨z, e0, _⟩ := DataW.trod_bool Tryz.underlying4 h0
    obtain ⟨n, e1, _, wn⟩ := DataW.trod_int Tryz.underlying2 h1
    obtain ⟨o, e2, _⟩ := DataW.trod_int Tryz.underlying3 h2
    obtain ⟨s, e3, _⟩ := DataW.trod_string Tryz.underlying9 h3
    simp only [List.cons.injEq, and_true] at e0 e1 e2 e3
    subst e0 e1 e2 e3
    have := bounds_i64 wn
    exact ⟨z, n, o, s, rfl, this.1, this.2⟩
/-- An entry's cells. -/
theorem openEnt {cs : List Value} {x : DataW H × List MemPlace} (h : DataW.trod enc Tryz.prog W 0 spare true fuel 50 cs = some x) :
    ∃ e : Ent, cs = e.arr.toList ∧ -9223372036854775808 ≤ e.nanos ∧ e.nanos ≤ 9223372036854775807 := by
  obtain ⟨xs, m, rfl, rfl, hl, hn, hel⟩ := DataW.trod_struct Tryz.underlying50 h
  rw [cells50] at hl
  have hn9 : xs.length = 9 := hn
  match cs, hl with
  | [c0, c1, c2, c3, c4, c5, c6, c7, c8, c9, c10, c11], _ =>
    have h0 : DataW.trod enc Tryz.prog W 0 spare true m 3 (List.take (Tryz.prog.cellsOf 3) (List.drop 0 [c0, c1, c2, c3, c4, c5, c6, c7, c8, c9, c10, c11])) = xs[0]? := hel 0 _ rfl
    have h1 : DataW.trod enc Tryz.prog W 0 spare true m 23 (List.take (Tryz.prog.cellsOf 23) (List.drop 1 [c0, c1, c2, c3, c4, c5, c6, c7, c8, c9, c10, c11])) = xs[1]? := hel 1 _ rfl
    have h2 : DataW.trod enc Tryz.prog W 0 spare true m 9 (List.take (Tryz.prog.cellsOf 9) (List.drop 5 [c0, c1, c2, c3, c4, c5, c6, c7, c8, c9, c10, c11])) = xs[2]? := hel 2 _ rfl
    have h3 : DataW.trod enc Tryz.prog W 0 spare true m 9 (List.take (Tryz.prog.cellsOf 9) (List.drop 6 [c0, c1, c2, c3, c4, c5, c6, c7, c8, c9, c10, c11])) = xs[3]? := hel 3 _ rfl
    have h4 : DataW.trod enc Tryz.prog W 0 spare true m 4 (List.take (Tryz.prog.cellsOf 4) (List.drop 7 [c0, c1, c2, c3, c4, c5, c6, c7, c8, c9, c10, c11])) = xs[4]? := hel 4 _ rfl
    have h5 : DataW.trod enc Tryz.prog W 0 spare true m 9 (List.take (Tryz.prog.cellsOf 9) (List.drop 8 [c0, c1, c2, c3, c4, c5, c6, c7, c8, c9, c10, c11])) = xs[5]? := hel 5 _ rfl
    have h6 : DataW.trod enc Tryz.prog W 0 spare true m 3 (List.take (Tryz.prog.cellsOf 3) (List.drop 9 [c0, c1, c2, c3, c4, c5, c6, c7, c8, c9, c10, c11])) = xs[6]? := hel 6 _ rfl
    have h7 : DataW.trod enc Tryz.prog W 0 spare true m 9 (List.take (Tryz.prog.cellsOf 9) (List.drop 10 [c0, c1, c2, c3, c4, c5, c6, c7, c8, c9, c10, c11])) = xs[7]? := hel 7 _ rfl
    have h8 : DataW.trod enc Tryz.prog W 0 spare true m 9 (List.take (Tryz.prog.cellsOf 9) (List.drop 11 [c0, c1, c2, c3, c4, c5, c6, c7, c8, c9, c10, c11])) = xs[8]? := hel 8 _ rfl
    rw [List.getElem?_eq_getElem (by omega)] at h0 h1 h2 h3 h4 h5 h6 h7 h8
    simp only [cells3', cells4, cells9, cells23, List.drop_zero, List.drop_succ_cons, List.take_succ_cons, List.take_zero] at h0 h1 h2 h3 h4 h5 h6 h7 h8
    obtain ⟨lv, e0, _⟩ := DataW.trod_int Tryz.underlying3 h0
    obtain ⟨z, n, o, s, e1, k1, k2⟩ := openMom h1
    obtain ⟨lg, e2, _⟩ := DataW.trod_string Tryz.underlying9 h2
    obtain ⟨ms, e3, _⟩ := DataW.trod_string Tryz.underlying9 h3
    obtain ⟨df, e4, _⟩ := DataW.trod_bool Tryz.underlying4 h4
    obtain ⟨fl, e5, _⟩ := DataW.trod_string Tryz.underlying9 h5
    obtain ⟨ln, e6, _⟩ := DataW.trod_int Tryz.underlying3 h6
    obtain ⟨fn, e7, _⟩ := DataW.trod_string Tryz.underlying9 h7
    obtain ⟨st, e8, _⟩ := DataW.trod_string Tryz.underlying9 h8
    simp only [List.cons.injEq, and_true] at e0 e1 e2 e3 e4 e5 e6 e7 e8
    obtain ⟨rfl, rfl, rfl, rfl⟩ := e1
    subst e0 e2 e3 e4 e5 e6 e7 e8
    exact ⟨⟨lv, z, n, o, s, lg, ms, df, fl, ln, fn, st⟩, rfl, k1, k2⟩
/-- A slice of integers, for the walks. -/
theorem openInts {v : Value} {d : DataW H} {ps : List MemPlace} {base : Nat} (hv : Value.okWide Tryz.prog W .any base 43 v) (h : DataW.Trod enc Tryz.prog W 0 (fun _ => true) true 43 v d ps) :
    ∃ (a : Option Addr) (n c : Nat) (lv : Nat → Int), v = .slice a n c ∧ n ≤ maxLen ∧ RowAt W a n 1 fun i => #[.int .i64 (lv i)] := by
  obtain ⟨a, n, c, rfl⟩ := okWide_slice Tryz.underlying43 hv
  obtain ⟨fuel, hf⟩ := h
  rcases open_ints Tryz.underlying43 Tryz.underlying3 cells3' hf with ⟨hcs, _⟩ | ⟨x, l, cc, zs, hcs, _, hl, hm, hz, _, hcell, hwz⟩
  · simp [Value.cells] at hcs
    obtain ⟨rfl, rfl, rfl⟩ := hcs
    exact ⟨_, _, _, fun _ => 0, rfl, by simp [maxLen], fun i hi => by omega⟩
  · simp [Value.cells] at hcs
    obtain ⟨rfl, rfl, rfl⟩ := hcs
    refine ⟨_, _, _, fun i => zs.getD i 0, rfl, by omega, fun i hi => ?_⟩
    have hz' : zs.length = c := by simpa using hz
    obtain ⟨b, off, rfl, hc⟩ := ints_at hcell (by omega)
    refine ⟨b, off, rfl, rfl, fun j hj => ?_⟩
    obtain rfl : j = 0 := by omega
    simpa using hc i (by omega)
/-- A slice of entries, for the walks. -/
theorem openEnts {v : Value} {d : DataW H} {ps : List MemPlace} {base : Nat} (hv : Value.okWide Tryz.prog W .any base 44 v) (h : DataW.Trod enc Tryz.prog W 0 (fun _ => true) true 44 v d ps) :
    ∃ (a : Option Addr) (n c : Nat) (es : Nat → Ent), v = .slice a n c ∧ n ≤ maxLen ∧ (RowAt W a n 12 fun i => (es i : Ent).arr) ∧ ∀ i, i < n → -9223372036854775808 ≤ (es i).nanos ∧ (es i).nanos ≤ 9223372036854775807 := by
  obtain ⟨a, n, c, rfl⟩ := okWide_slice Tryz.underlying44 hv
  obtain ⟨fuel, hf⟩ := h
  rcases Deep.open_slice Tryz.underlying44 hf with ⟨hcs, _⟩ | ⟨x, l, cc, m, n', D, Pl, hcs, _, hl, hm, hmm, _, hx⟩
  · simp [Value.cells] at hcs
    obtain ⟨rfl, rfl, rfl⟩ := hcs
    exact ⟨_, _, _, fun _ => default, rfl, by simp [maxLen], (fun i hi => by omega), fun i hi => by omega⟩
  · simp [Value.cells] at hcs
    obtain ⟨rfl, rfl, rfl⟩ := hcs
    simp only [if_true] at hmm
    subst hmm
    rw [cells50] at hx
    have hone : ∀ i, i < m → ∃ e : Ent, (∀ j, j < 12 → W.cell? (x.add (i * 12 + j)) = e.arr[j]?) ∧ -9223372036854775808 ≤ e.nanos ∧ e.nanos ≤ 9223372036854775807 := fun i hi => by
      obtain ⟨cs', h1, h2⟩ := hx i hi
      obtain ⟨e, rfl, k1, k2⟩ := openEnt h2
      obtain ⟨_, _, hc⟩ := World.cells?_some h1
      refine ⟨e, fun j hj => ?_, k1, k2⟩
      rw [← Deep.add_add, hc j hj]
      simp
    obtain ⟨es, hes⟩ := Deep.choose_lt hone
    refine ⟨_, _, _, es, rfl, by omega, fun i hi => ?_, fun i hi => (hes i (by omega)).2⟩
    obtain ⟨b, off, spot⟩ := x
    have h0 : W.cell? ((⟨b, off, spot⟩ : Addr).add (0 * 12 + 0)) = some (.int .i64 (es 0).level) := (hes 0 (by omega)).1 0 (by omega)
    have hspot : spot = none := by simpa [Addr.add] using World.cell?_spot h0
    subst hspot
    refine ⟨b, off, rfl, rfl, fun j hj => ?_⟩
    have := (hes i (by omega)).1 j hj
    rw [Go.WideShapes.add_plain] at this
    rw [Nat.add_assoc]
    exact this
end
end Go.Proofs.YtieidjlmgalihaaGreatDoor
