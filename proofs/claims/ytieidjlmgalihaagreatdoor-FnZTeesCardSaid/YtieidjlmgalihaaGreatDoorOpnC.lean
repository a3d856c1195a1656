/- The arguments, opened: cores, lists of lists of fields. -/
import Derived.Test.YtieidjlmgalihaaGreatDoorOpnF
import Derived.Test.YtieidjlmgalihaaGreatDoorCoAf
set_option linter.all false
namespace Go.Proofs.YtieidjlmgalihaaGreatDoor
open Go.ChangeShapes Go.WideShapes Go.ChangeAt Go.RowKit
set_option maxRecDepth 100000
theorem cells67 : Tryz.prog.cellsOf 67 = 1 := by kernel_rfl
theorem cells69 : Tryz.prog.cellsOf 69 = 4 := by kernel_rfl
theorem FldsOk.le {k K : Nat} {w : World} {A : Option Addr} {n : Nat} {g : Nat → Fld} (h : FldsOk k w A n g) (hK : k ≤ K) : FldsOk K w A n g := by
  obtain ⟨j, rfl⟩ : ∃ j, K = k + j := ⟨K - k, by omega⟩
  clear hK
  induction j with
  | zero => exact h
  | succ j ih => exact ⟨ih.1, ih.2.1, fun i hi => (ih.2.2 i hi).up⟩
section
variable {H : Type} {enc : TypeId × Value → H} {W : World} {spare : Nat → Bool}
/-- A core's cells. -/
theorem openCor {K : Nat} : ∀ (fuel : Nat), fuel ≤ K → ∀ (cs : List Value) (x : DataW H × List MemPlace), DataW.trod enc Tryz.prog W 0 spare true fuel 69 cs = some x → ∃ a : Arg, cs = a.arr.toList ∧ CorAt K fuel W a := by
  intro fuel
  induction fuel using Nat.strongRecOn with
  | _ fuel ih =>
  intro hK cs x h
  obtain ⟨xs, m, rfl, rfl, hl, hn, hel⟩ := DataW.trod_struct Tryz.underlying69 h
  rw [cells69] at hl
  have hn4 : xs.length = 4 := hn
  match cs, hl with
  | [c0, c1, c2, c3], _ =>
    have h0 : DataW.trod enc Tryz.prog W 0 spare true m 3 (List.take (Tryz.prog.cellsOf 3) (List.drop 0 [c0, c1, c2, c3])) = xs[0]? := hel 0 _ rfl
    have h1 : DataW.trod enc Tryz.prog W 0 spare true m 3 (List.take (Tryz.prog.cellsOf 3) (List.drop 1 [c0, c1, c2, c3])) = xs[1]? := hel 1 _ rfl
    have h2 : DataW.trod enc Tryz.prog W 0 spare true m 67 (List.take (Tryz.prog.cellsOf 67) (List.drop 2 [c0, c1, c2, c3])) = xs[2]? := hel 2 _ rfl
    have h3 : DataW.trod enc Tryz.prog W 0 spare true m 37 (List.take (Tryz.prog.cellsOf 37) (List.drop 3 [c0, c1, c2, c3])) = xs[3]? := hel 3 _ rfl
    rw [List.getElem?_eq_getElem (by omega)] at h0 h1 h2 h3
    simp only [cells3', cells37, cells67, List.drop_zero, List.drop_succ_cons, List.take_succ_cons, List.take_zero] at h0 h1 h2 h3
    obtain ⟨kind, e0, _⟩ := DataW.trod_int Tryz.underlying3 h0
    obtain ⟨lev, e1, _⟩ := DataW.trod_int Tryz.underlying3 h1
    obtain ⟨kA, kn, kc, e2, hkn, hkt⟩ := openRow Tryz.underlying67 cells69 (by decide) h2
    obtain ⟨fA, fn, fc, fld, e3, hok⟩ := openFldsAt h3
    simp only [List.cons.injEq, and_true] at e0 e1 e2 e3
    subst e0 e1 e2 e3
    have hone : ∀ i, i < kn → ∃ a : Arg, (∃ b off, kA = some ⟨b, off, none⟩ ∧ a.arr.size = 4 ∧ ∀ j, j < 4 → W.cell? ⟨b, off + i * 4 + j, none⟩ = a.arr[j]?) ∧ CorAt K m W a := fun i hi => by
      obtain ⟨m', cs', y, b, off, hm, hA, hl', hc, ht⟩ := hkt i hi
      subst hm
      obtain ⟨a, hg, hok⟩ := ih m' (by omega) (by omega) cs' y ht
      subst hg
      exact ⟨a, ⟨b, off, hA, by cases a <;> rfl, fun j hj => by rw [hc j hj]; exact Array.getElem?_toList⟩, hok.up⟩
    obtain ⟨kid, hg⟩ := Deep.choose_lt (α := Arg) hone
    exact ⟨.mk kind lev kA kn kc fA fn fc kid fld, rfl, hkn, fun i hi => (hg i hi).1, fun i hi => (hg i hi).2, hok.le (by omega)⟩
theorem openCore {v : Value} {d : DataW H} {ps : List MemPlace} {base : Nat} (hv : Value.okWide Tryz.prog W .any base 69 v) (h : DataW.Trod enc Tryz.prog W 0 (fun _ => true) true 69 v d ps) :
    ∃ k0 : Nat, ∀ K, k0 ≤ K → ∃ a : Arg, v = .agg a.arr ∧ CorAt K k0 W a := by
  obtain ⟨cs, rfl, _⟩ := okWide_struct Tryz.underlying69 hv
  obtain ⟨fuel, hf⟩ := h
  refine ⟨fuel, fun K hK => ?_⟩
  obtain ⟨a, hcs, hok⟩ := openCor fuel hK _ _ hf
  refine ⟨a, ?_, hok⟩
  congr 1
  exact Array.toList_inj.1 hcs
theorem CorAt.le {K k k' : Nat} {w : World} {a : Arg} (h : CorAt K k w a) (hk : k ≤ k') : CorAt K k' w a := by
  obtain ⟨j, rfl⟩ : ∃ j, k' = k + j := ⟨k' - k, by omega⟩
  clear hk
  induction j with
  | zero => exact h
  | succ j ih => exact ih.up
/-- A slice of slices of fields, opened. -/
theorem openFF {v : Value} {d : DataW H} {ps : List MemPlace} {base : Nat} (hv : Value.okWide Tryz.prog W .any base 70 v) (h : DataW.Trod enc Tryz.prog W 0 (fun _ => true) true 70 v d ps) :
    ∃ (k : Nat) (A : Option Addr) (n c : Nat) (fs : Nat → FRow), v = .slice A n c ∧ n ≤ maxLen ∧ (RowAt W A n 1 fun i => (fs i).arr) ∧ ∀ i, i < n → FldsOk k W (fs i).A (fs i).n (fs i).g := by
  obtain ⟨a, n, c, rfl⟩ := okWide_slice Tryz.underlying70 hv
  obtain ⟨fuel, hf⟩ := h
  obtain ⟨A, n', c', hcs, hn, hel⟩ := openRow Tryz.underlying70 cells37 (by decide) hf
  simp [Value.cells] at hcs
  obtain ⟨rfl, rfl, rfl⟩ := hcs
  have hone : ∀ i, i < n → ∃ p : FRow, (∃ b off, a = some ⟨b, off, none⟩ ∧ p.arr.size = 1 ∧ ∀ j, j < 1 → W.cell? ⟨b, off + i * 1 + j, none⟩ = p.arr[j]?) ∧ FldsOk fuel W p.A p.n p.g := fun i hi => by
    obtain ⟨m', cs', y, b, off, hm, hA, hl', hc, ht⟩ := hel i hi
    subst hm
    obtain ⟨A1, n1, c1, g, hg, hok⟩ := openFldsAt ht
    subst hg
    exact ⟨⟨A1, n1, c1, g⟩, ⟨b, off, hA, rfl, fun j hj => by rw [hc j hj]; simp [FRow.arr]⟩, hok.le (by omega)⟩
  obtain ⟨p, hp⟩ := Deep.choose_lt (α := FRow) hone
  exact ⟨fuel, a, n, c, p, rfl, hn, fun i hi => (hp i hi).1, fun i hi => (hp i hi).2⟩
theorem trodAll_five {P : Program} {w : World} {base : Nat} {held : Bool} {t0 t1 t2 t3 t4 : TypeId} {args : Array Value} {ds : List (DataW H)} {ps : List MemPlace} (h : DataW.TrodAll enc P w base spare held [t0, t1, t2, t3, t4] args.toList ds ps) :
    ∃ v0 v1 v2 v3 v4 d0 d1 d2 d3 d4 p0 p1 p2 p3 p4, args = #[v0, v1, v2, v3, v4] ∧ ds = [d0, d1, d2, d3, d4] ∧ ps = p0 ++ p1 ++ p2 ++ p3 ++ p4 ∧ DataW.Trod enc P w base spare held t0 v0 d0 p0 ∧ DataW.Trod enc P w base spare held t1 v1 d1 p1 ∧ DataW.Trod enc P w base spare held t2 v2 d2 p2 ∧ DataW.Trod enc P w base spare held t3 v3 d3 p3 ∧ DataW.Trod enc P w base spare held t4 v4 d4 p4 := by
  obtain ⟨v0, vs0, d0, ds0, p0, q0, hargs, rfl, rfl, hd0, hr0⟩ := trodAll_cons h
  obtain ⟨v1, vs1, d1, ds1, p1, q1, rfl, rfl, rfl, hd1, hr1⟩ := trodAll_cons hr0
  obtain ⟨v2, vs2, d2, ds2, p2, q2, rfl, rfl, rfl, hd2, hr2⟩ := trodAll_cons hr1
  obtain ⟨v3, vs3, d3, ds3, p3, q3, rfl, rfl, rfl, hd3, hr3⟩ := trodAll_cons hr2
  obtain ⟨v4, vs4, d4, ds4, p4, q4, rfl, rfl, rfl, hd4, hr4⟩ := trodAll_cons hr3
  obtain ⟨rfl, rfl, rfl⟩ := trodAll_nil hr4
  exact ⟨v0, v1, v2, v3, v4, d0, d1, d2, d3, d4, p0, p1, p2, p3, p4, by cases args; simp_all, rfl, by simp, hd0, hd1, hd2, hd3, hd4⟩
theorem trodAll_mk5 {P : Program} {w : World} {base : Nat} {held : Bool} {t0 t1 t2 t3 t4 : TypeId} {v0 v1 v2 v3 v4 : Value} {d0 d1 d2 d3 d4 : DataW H} {p0 p1 p2 p3 p4 : List MemPlace} (h0 : DataW.Trod enc P w base spare held t0 v0 d0 p0) (h1 : DataW.Trod enc P w base spare held t1 v1 d1 p1)
    (h2 : DataW.Trod enc P w base spare held t2 v2 d2 p2) (h3 : DataW.Trod enc P w base spare held t3 v3 d3 p3) (h4 : DataW.Trod enc P w base spare held t4 v4 d4 p4) : DataW.TrodAll enc P w base spare held [t0, t1, t2, t3, t4] [v0, v1, v2, v3, v4] [d0, d1, d2, d3, d4] (p0 ++ (p1 ++ (p2 ++ (p3 ++ p4)))) :=
  ⟨p0, p1 ++ (p2 ++ (p3 ++ p4)), h0, ⟨p1, p2 ++ (p3 ++ p4), h1, trodAll_mk3 h2 h3 h4, rfl⟩, rfl⟩
end
end Go.Proofs.YtieidjlmgalihaaGreatDoor
