/- The arguments, opened: fields, hooks. -/
import Derived.Test.YtieidjlmgalihaaGreatDoorOpn
import Derived.Test.YtieidjlmgalihaaGreatDoorSam
set_option linter.all false
namespace Go.Proofs.YtieidjlmgalihaaGreatDoor
open Go.ChangeShapes Go.WideShapes Go.ChangeAt Go.RowKit
set_option maxRecDepth 100000
theorem cells5 : Tryz.prog.cellsOf 5 = 1 := by kernel_rfl
theorem cells35 : Tryz.prog.cellsOf 35 = 1 := by kernel_rfl
theorem cells36 : Tryz.prog.cellsOf 36 = 1 := by kernel_rfl
theorem cells37 : Tryz.prog.cellsOf 37 = 1 := by kernel_rfl
theorem cells39 : Tryz.prog.cellsOf 39 = 15 := by kernel_rfl
theorem cells62 : Tryz.prog.cellsOf 62 = 5 := by kernel_rfl
section
variable {H : Type} {enc : TypeId × Value → H} {W : World} {spare : Nat → Bool}
/-- A slice, opened: its elements' cells, each read with less. -/
theorem openRow {t e sz fuel : Nat} {cs : List Value} {x : DataW H × List MemPlace} (ht : Tryz.prog.underlying t = some (.slice e)) (hsz : Tryz.prog.cellsOf e = sz) (h0 : 0 < sz) (h : DataW.trod enc Tryz.prog W 0 spare true fuel t cs = some x) :
    ∃ (A : Option Addr) (n c : Nat), cs = [.slice A n c] ∧ n ≤ maxLen ∧ ∀ i, i < n → ∃ m cs' y b off, fuel = m + 1 ∧ A = some ⟨b, off, none⟩ ∧ cs'.length = sz ∧ (∀ j, j < sz → W.cell? ⟨b, off + i * sz + j, none⟩ = cs'[j]?) ∧ DataW.trod enc Tryz.prog W 0 spare true m e cs' = some y := by
  subst hsz
  rcases DataW.trod_slice ht h with ⟨hcs, _⟩ | ⟨a, len, cap, elems, rest, n, hfu, hcs, _, _, hl, hm, hlen, hel, _⟩
  · exact ⟨_, _, _, hcs, by unfold maxLen; omega, fun i hi => by omega⟩
  · have hone : ∀ i, i < len → ∃ cs' y, cs'.length = Tryz.prog.cellsOf e ∧ (∀ j, j < Tryz.prog.cellsOf e → W.cell? (a.add (i * Tryz.prog.cellsOf e + j)) = cs'[j]?) ∧ DataW.trod enc Tryz.prog W 0 spare true n e cs' = some y := fun i hi => by
      have h1 := hel i hi
      rw [List.getElem?_eq_getElem (by omega)] at h1
      cases h2 : W.cells? 0 (a.add (i * Tryz.prog.cellsOf e)) (Tryz.prog.cellsOf e) with
      | none => rw [h2] at h1; simp at h1
      | some cs' =>
        rw [h2] at h1
        obtain ⟨_, hlen', hc⟩ := World.cells?_some h2
        refine ⟨cs', _, hlen', fun j hj => ?_, h1⟩
        rw [← Deep.add_add, hc j hj]
    refine ⟨_, _, _, hcs, by omega, fun i hi => ?_⟩
    obtain ⟨cs', y, h1, h2, h3⟩ := hone i hi
    obtain ⟨cs0, _, k1, k2, _⟩ := hone 0 (by omega)
    obtain ⟨b, off, spot⟩ := a
    have hz := k2 0 h0
    rw [List.getElem?_eq_getElem (by omega)] at hz
    have hspot : spot = none := by simpa [Addr.add] using World.cell?_spot hz
    subst hspot
    refine ⟨n, cs', y, b, off, hfu, rfl, h1, fun j hj => ?_, h3⟩
    have := h2 j hj
    rw [Go.WideShapes.add_plain] at this
    rw [Nat.add_assoc]
    exact this
/-- A slice of bytes, opened. -/
theorem openBytes {fuel : Nat} {cs : List Value} {x : DataW H × List MemPlace} (h : DataW.trod enc Tryz.prog W 0 spare true fuel 36 cs = some x) :
    ∃ (A : Option Addr) (n c : Nat), cs = [.slice A n c] ∧ n ≤ maxLen ∧ ∃ l : List UInt8, l.length = n ∧ ReadsB W A l := by
  obtain ⟨A, n, c, hcs, hn, hel⟩ := openRow Tryz.underlying36 cells5 (by decide) h
  have hone : ∀ i, i < n → ∃ u : UInt8, ∃ b off, A = some ⟨b, off, none⟩ ∧ W.cell? ⟨b, off + i, none⟩ = some (.int .u8 (u.toNat : Int)) := fun i hi => by
    obtain ⟨m, cs', y, b, off, _, hA, hl, hc, ht⟩ := hel i hi
    obtain ⟨z, e1, _, wz⟩ := DataW.trod_int Tryz.underlying5 ht
    subst e1
    have hb : 0 ≤ z ∧ z ≤ 255 := by
      simpa [Lit.wf, IntKind.min, IntKind.max, IntKind.signed, IntKind.bits] using wz
    refine ⟨UInt8.ofNat z.toNat, b, off, hA, ?_⟩
    have := hc 0 (by omega)
    rw [Nat.mul_one, Nat.add_zero] at this
    rw [this]
    have e2 : ((UInt8.ofNat z.toNat).toNat : Int) = z := by
      have := UInt8.toNat_ofNat' (n := z.toNat)
      omega
    rw [e2]
    rfl
  obtain ⟨u, hu⟩ := Deep.choose_lt (α := UInt8) hone
  refine ⟨A, n, c, hcs, hn, (List.range n).map u, by simp, fun j hj => ?_⟩
  have hj' : j < n := by simpa using hj
  obtain ⟨b, off, h1, h2⟩ := hu j hj'
  exact ⟨b, off, h1, by simpa using h2⟩
/-- A field's cells. -/
theorem openFld : ∀ (fuel : Nat) (cs : List Value) (x : DataW H × List MemPlace), DataW.trod enc Tryz.prog W 0 spare true fuel 39 cs = some x → ∃ f : Fld, cs = f.arr.toList ∧ FldOk fuel W f := by
  intro fuel
  induction fuel using Nat.strongRecOn with
  | _ fuel ih =>
  intro cs x h
  obtain ⟨xs, m, rfl, rfl, hl, hn, hel⟩ := DataW.trod_struct Tryz.underlying39 h
  rw [cells39] at hl
  have hn12 : xs.length = 12 := hn
  match cs, hl with
  | [c0, c1, c2, c3, c4, c5, c6, c7, c8, c9, c10, c11, c12, c13, c14], _ =>
    have h0 : DataW.trod enc Tryz.prog W 0 spare true m 3 (List.take (Tryz.prog.cellsOf 3) (List.drop 0 [c0, c1, c2, c3, c4, c5, c6, c7, c8, c9, c10, c11, c12, c13, c14])) = xs[0]? := hel 0 _ rfl
    have h1 : DataW.trod enc Tryz.prog W 0 spare true m 9 (List.take (Tryz.prog.cellsOf 9) (List.drop 1 [c0, c1, c2, c3, c4, c5, c6, c7, c8, c9, c10, c11, c12, c13, c14])) = xs[1]? := hel 1 _ rfl
    have h2 : DataW.trod enc Tryz.prog W 0 spare true m 3 (List.take (Tryz.prog.cellsOf 3) (List.drop 2 [c0, c1, c2, c3, c4, c5, c6, c7, c8, c9, c10, c11, c12, c13, c14])) = xs[2]? := hel 2 _ rfl
    have h3 : DataW.trod enc Tryz.prog W 0 spare true m 2 (List.take (Tryz.prog.cellsOf 2) (List.drop 3 [c0, c1, c2, c3, c4, c5, c6, c7, c8, c9, c10, c11, c12, c13, c14])) = xs[3]? := hel 3 _ rfl
    have h4 : DataW.trod enc Tryz.prog W 0 spare true m 35 (List.take (Tryz.prog.cellsOf 35) (List.drop 4 [c0, c1, c2, c3, c4, c5, c6, c7, c8, c9, c10, c11, c12, c13, c14])) = xs[4]? := hel 4 _ rfl
    have h5 : DataW.trod enc Tryz.prog W 0 spare true m 35 (List.take (Tryz.prog.cellsOf 35) (List.drop 5 [c0, c1, c2, c3, c4, c5, c6, c7, c8, c9, c10, c11, c12, c13, c14])) = xs[5]? := hel 5 _ rfl
    have h6 : DataW.trod enc Tryz.prog W 0 spare true m 35 (List.take (Tryz.prog.cellsOf 35) (List.drop 6 [c0, c1, c2, c3, c4, c5, c6, c7, c8, c9, c10, c11, c12, c13, c14])) = xs[6]? := hel 6 _ rfl
    have h7 : DataW.trod enc Tryz.prog W 0 spare true m 9 (List.take (Tryz.prog.cellsOf 9) (List.drop 7 [c0, c1, c2, c3, c4, c5, c6, c7, c8, c9, c10, c11, c12, c13, c14])) = xs[7]? := hel 7 _ rfl
    have h8 : DataW.trod enc Tryz.prog W 0 spare true m 36 (List.take (Tryz.prog.cellsOf 36) (List.drop 8 [c0, c1, c2, c3, c4, c5, c6, c7, c8, c9, c10, c11, c12, c13, c14])) = xs[8]? := hel 8 _ rfl
    have h9 : DataW.trod enc Tryz.prog W 0 spare true m 23 (List.take (Tryz.prog.cellsOf 23) (List.drop 9 [c0, c1, c2, c3, c4, c5, c6, c7, c8, c9, c10, c11, c12, c13, c14])) = xs[9]? := hel 9 _ rfl
    have h10 : DataW.trod enc Tryz.prog W 0 spare true m 37 (List.take (Tryz.prog.cellsOf 37) (List.drop 13 [c0, c1, c2, c3, c4, c5, c6, c7, c8, c9, c10, c11, c12, c13, c14])) = xs[10]? := hel 10 _ rfl
    have h11 : DataW.trod enc Tryz.prog W 0 spare true m 9 (List.take (Tryz.prog.cellsOf 9) (List.drop 14 [c0, c1, c2, c3, c4, c5, c6, c7, c8, c9, c10, c11, c12, c13, c14])) = xs[11]? := hel 11 _ rfl
    rw [List.getElem?_eq_getElem (by omega)] at h0 h1 h2 h3 h4 h5 h6 h7 h8 h9 h10 h11
    simp only [cells2, cells3', cells9, cells35, cells36, cells37, cells23, List.drop_zero, List.drop_succ_cons, List.take_succ_cons, List.take_zero] at h0 h1 h2 h3 h4 h5 h6 h7 h8 h9 h10 h11
    obtain ⟨kind, e0, _⟩ := DataW.trod_int Tryz.underlying3 h0
    obtain ⟨key, e1, _⟩ := DataW.trod_string Tryz.underlying9 h1
    obtain ⟨width, e2, _⟩ := DataW.trod_int Tryz.underlying3 h2
    obtain ⟨int, e3, _⟩ := DataW.trod_int Tryz.underlying2 h3
    obtain ⟨uint, e4, _⟩ := DataW.trod_int Tryz.underlying35 h4
    obtain ⟨re, e5, _⟩ := DataW.trod_int Tryz.underlying35 h5
    obtain ⟨im, e6, _⟩ := DataW.trod_int Tryz.underlying35 h6
    obtain ⟨text, e7, _⟩ := DataW.trod_string Tryz.underlying9 h7
    obtain ⟨bA, bn, bc, e8, hbn, hbl⟩ := openBytes h8
    obtain ⟨z, nn, oo, ss, e9, k1, k2⟩ := openMom h9
    obtain ⟨iA, il, ic, e10, hin, hit⟩ := openRow Tryz.underlying37 cells39 (by decide) h10
    obtain ⟨fail, e11, _⟩ := DataW.trod_string Tryz.underlying9 h11
    simp only [List.cons.injEq, and_true] at e0 e1 e2 e3 e4 e5 e6 e7 e8 e9 e10 e11
    obtain ⟨rfl, rfl, rfl, rfl⟩ := e9
    subst e0 e1 e2 e3 e4 e5 e6 e7 e8 e10 e11
    have hone : ∀ i, i < il → ∃ g : Fld, (∃ b off, iA = some ⟨b, off, none⟩ ∧ g.arr.size = 15 ∧ ∀ j, j < 15 → W.cell? ⟨b, off + i * 15 + j, none⟩ = g.arr[j]?) ∧ FldOk m W g := fun i hi => by
      obtain ⟨m', cs', y, b, off, hm, hA, hl', hc, ht⟩ := hit i hi
      subst hm
      obtain ⟨g, hg, hok⟩ := ih m' (by omega) cs' y ht
      subst hg
      exact ⟨g, ⟨b, off, hA, rfl, fun j hj => by rw [hc j hj]; exact Array.getElem?_toList⟩, hok.up⟩
    obtain ⟨g, hg⟩ := Deep.choose_lt (α := Fld) hone
    exact ⟨⟨kind, key, width, int, uint, re, im, text, bA, bn, bc, z, nn, oo, ss, iA, il, ic, fail⟩, rfl, hbn, hbl, hin, g, fun i hi => (hg i hi).1, fun i hi => (hg i hi).2⟩
/-- A slice of fields, opened. -/
theorem openFldsAt {fuel : Nat} {cs : List Value} {x : DataW H × List MemPlace} (h : DataW.trod enc Tryz.prog W 0 spare true fuel 37 cs = some x) : ∃ (A : Option Addr) (n c : Nat) (g : Nat → Fld), cs = [.slice A n c] ∧ FldsOk fuel W A n g := by
  obtain ⟨A, n, c, hcs, hn, hel⟩ := openRow Tryz.underlying37 cells39 (by decide) h
  have hone : ∀ i, i < n → ∃ g : Fld, (∃ b off, A = some ⟨b, off, none⟩ ∧ g.arr.size = 15 ∧ ∀ j, j < 15 → W.cell? ⟨b, off + i * 15 + j, none⟩ = g.arr[j]?) ∧ FldOk fuel W g := fun i hi => by
    obtain ⟨m', cs', y, b, off, hm, hA, hl', hc, ht⟩ := hel i hi
    subst hm
    obtain ⟨g, hg, hok⟩ := openFld m' cs' y ht
    subst hg
    exact ⟨g, ⟨b, off, hA, rfl, fun j hj => by rw [hc j hj]; exact Array.getElem?_toList⟩, hok.up⟩
  obtain ⟨g, hg⟩ := Deep.choose_lt (α := Fld) hone
  exact ⟨A, n, c, g, hcs, hn, fun i hi => (hg i hi).1, fun i hi => (hg i hi).2⟩
theorem openFlds {v : Value} {d : DataW H} {ps : List MemPlace} {base : Nat} (hv : Value.okWide Tryz.prog W .any base 37 v) (h : DataW.Trod enc Tryz.prog W 0 (fun _ => true) true 37 v d ps) :
    ∃ (k : Nat) (A : Option Addr) (n c : Nat) (g : Nat → Fld), v = .slice A n c ∧ FldsOk k W A n g := by
  obtain ⟨a, n, c, rfl⟩ := okWide_slice Tryz.underlying37 hv
  obtain ⟨fuel, hf⟩ := h
  obtain ⟨A, n', c', g, hcs, hok⟩ := openFldsAt hf
  simp [Value.cells] at hcs
  obtain ⟨rfl, rfl, rfl⟩ := hcs
  exact ⟨fuel, _, _, _, g, rfl, hok⟩
theorem openEntry {v : Value} {d : DataW H} {ps : List MemPlace} {base : Nat} (hv : Value.okWide Tryz.prog W .any base 50 v) (h : DataW.Trod enc Tryz.prog W 0 (fun _ => true) true 50 v d ps) :
    ∃ e : Ent, v = .agg e.arr ∧ -9223372036854775808 ≤ e.nanos ∧ e.nanos ≤ 9223372036854775807 := by
  obtain ⟨cs, rfl, _⟩ := okWide_struct Tryz.underlying50 hv
  obtain ⟨fuel, hf⟩ := h
  obtain ⟨e, hcs, k1, k2⟩ := openEnt hf
  refine ⟨e, ?_, k1, k2⟩
  congr 1
  exact Array.toList_inj.1 hcs
end
end Go.Proofs.YtieidjlmgalihaaGreatDoor
