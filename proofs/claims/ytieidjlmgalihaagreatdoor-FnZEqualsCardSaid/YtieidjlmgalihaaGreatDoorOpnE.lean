/- A field opened for a row, with its numbers' bounds. -/
import Derived.Test.YtieidjlmgalihaaGreatDoorOpnF
import Derived.OpenShut
set_option linter.all false
namespace Go.Proofs.YtieidjlmgalihaaGreatDoor
open Go.ChangeShapes Go.WideShapes Go.ChangeAt Go.RowKit
set_option maxRecDepth 100000
theorem bounds_u64' {n : Int} (h : (Lit.int .u64 n).wf = true) : 0 ≤ n ∧ n < 18446744073709551616 := by
  have := bounds_u64 h
  omega
section
variable {H : Type} {enc : TypeId × Value → H} {W : World} {spare : Nat → Bool}
/-- The bounds of a field's numbers. -/
def FldB (f : Fld) : Prop := (0 ≤ f.uint ∧ f.uint < 18446744073709551616) ∧ (0 ≤ f.re ∧ f.re < 18446744073709551616) ∧ (0 ≤ f.im ∧ f.im < 18446744073709551616) ∧ -9223372036854775808 ≤ f.nanos ∧ f.nanos ≤ 9223372036854775807
theorem fld_bounds {fuel : Nat} {f : Fld} {x : DataW H × List MemPlace} (h : DataW.trod enc Tryz.prog W 0 spare true fuel 39 f.arr.toList = some x) : FldB f := by
  obtain ⟨kind, key, width, int, uint, re, im, text, bA, bn, bc, zero, nanos, offset, zone, iA, ilen, ic, fail⟩ := f
  obtain ⟨xs, m, rfl, rfl, hl, hn, hel⟩ := DataW.trod_struct Tryz.underlying39 h
  have hn12 : xs.length = 12 := hn
  have h4 := hel 4 _ rfl
  have h5 := hel 5 _ rfl
  have h6 := hel 6 _ rfl
  have h9 := hel 9 _ rfl
  rw [List.getElem?_eq_getElem (by omega)] at h4 h5 h6 h9
  have h4' : DataW.trod enc Tryz.prog W 0 spare true m 35 (List.take (Tryz.prog.cellsOf 35) [.int .u64 uint, .int .u64 re, .int .u64 im, .string text, .slice bA bn bc, .bool zero, .int .i64 nanos, .int .i64 offset, .string zone, .slice iA ilen ic, .string fail]) = some xs[4] := h4
  have h5' : DataW.trod enc Tryz.prog W 0 spare true m 35 (List.take (Tryz.prog.cellsOf 35) [.int .u64 re, .int .u64 im, .string text, .slice bA bn bc, .bool zero, .int .i64 nanos, .int .i64 offset, .string zone, .slice iA ilen ic, .string fail]) = some xs[5] := h5
  have h6' : DataW.trod enc Tryz.prog W 0 spare true m 35 (List.take (Tryz.prog.cellsOf 35) [.int .u64 im, .string text, .slice bA bn bc, .bool zero, .int .i64 nanos, .int .i64 offset, .string zone, .slice iA ilen ic, .string fail]) = some xs[6] := h6
  have h9' : DataW.trod enc Tryz.prog W 0 spare true m 23 (List.take (Tryz.prog.cellsOf 23) [.bool zero, .int .i64 nanos, .int .i64 offset, .string zone, .slice iA ilen ic, .string fail]) = some xs[9] := h9
  simp only [cells35, cells23, List.take_succ_cons, List.take_zero] at h4' h5' h6' h9'
  obtain ⟨u, e4, _, w4⟩ := DataW.trod_int Tryz.underlying35 h4'
  obtain ⟨r, e5, _, w5⟩ := DataW.trod_int Tryz.underlying35 h5'
  obtain ⟨i, e6, _, w6⟩ := DataW.trod_int Tryz.underlying35 h6'
  obtain ⟨z, n, o, s, e9, k1, k2⟩ := openMom h9'
  simp only [List.cons.injEq, Value.int.injEq, and_true, true_and] at e4 e5 e6 e9
  subst e4 e5 e6
  obtain ⟨_, rfl, _⟩ := e9
  exact ⟨bounds_u64' w4, bounds_u64' w5, bounds_u64' w6, k1, k2⟩
/-- A field, opened. -/
theorem openField {v : Value} {d : DataW H} {ps : List MemPlace} {base : Nat} (hv : Value.okWide Tryz.prog W .any base 39 v) (h : DataW.Trod enc Tryz.prog W 0 (fun _ => true) true 39 v d ps) :
    ∃ (k : Nat) (f : Fld), v = .agg f.arr ∧ FldOk k W f ∧ FldB f := by
  obtain ⟨cs, rfl, _⟩ := okWide_struct Tryz.underlying39 hv
  obtain ⟨fuel, hf⟩ := h
  obtain ⟨f, hcs, hok⟩ := openFld _ _ _ hf
  have hcs' : cs = f.arr := Array.toList_inj.1 hcs
  subst hcs'
  exact ⟨fuel, f, rfl, hok, fld_bounds hf⟩
end
end Go.Proofs.YtieidjlmgalihaaGreatDoor
