/- Fields as the package has them: the kinds of fieldOver. -/
import Derived.Test.YtieidjlmgalihaaGreatDoorEqA
set_option linter.all false
namespace Go.Proofs.YtieidjlmgalihaaGreatDoor
open Go.RowKit
set_option maxRecDepth 100000
/-- A field as the package has it. -/
abbrev pubArr (k : ByteArray) (T n : Int) (s : ByteArray) (V : Value) : Array Value := #[.string k, .int .u8 T, .int .i64 n, .string s, V]
/-- What a call that makes a field leaves. -/
def FieldIs (w : World) (k : ByteArray) (T n : Int) (s : ByteArray) (V : Value) (e : Ending) (w' : World) : Prop := e = .returned (.agg (pubArr k T n s V)) ∧ Below w.heap.size w w'
set_option maxHeartbeats 2000000 in
theorem over_skip (w : World) (k : ByteArray) (f : Fld) (hk : f.kind = 0) : Calls Tryz.prog 109 #[.agg (pubArr k 27 0 ⟨#[]⟩ .nilIface), .agg f.arr] w (FieldIs w k 27 0 ⟨#[]⟩ (.nilIface)) := by
  obtain ⟨kind, key, width, int, uint, re, im, text, bA, bn, bc, zero, nanos, offset, zone, iA, ilen, ic, fail⟩ := f
  simp only at hk
  subst hk
  go_enter Tryz.func109, Tryz.ntmps109
  go_wp2_with fail
  all_goals exact bodyPost_ret (v := .agg (pubArr k 27 0 ⟨#[]⟩ (.nilIface))) (by simp [results, Tryz.results109, go_sem, pubArr]) rfl ⟨rfl, by go_grown⟩
set_option maxHeartbeats 2000000 in
theorem over_err (w : World) (k : ByteArray) (f : Fld) (hk : f.kind = 12) : Calls Tryz.prog 109 #[.agg (pubArr k 27 0 ⟨#[]⟩ .nilIface), .agg f.arr] w (FieldIs w k 26 0 ⟨#[]⟩ (.iface 293 (.string f.text))) := by
  obtain ⟨kind, key, width, int, uint, re, im, text, bA, bn, bc, zero, nanos, offset, zone, iA, ilen, ic, fail⟩ := f
  simp only at hk
  subst hk
  go_enter Tryz.func109, Tryz.ntmps109
  go_wp2_with fail
  go_region_held3 (fun w' => w'.cell? ⟨w.heap.size + 1, 7, none⟩ = some (.string text) ∧ w'.cell? ⟨w.heap.size + 1, 13, none⟩ = some (.slice iA ilen ic) ∧ w'.cell? ⟨w.heap.size + 1, 14, none⟩ = some (.string fail)) (go_keep) (fail)
  all_goals go_wp2_with fail
  all_goals exact bodyPost_ret (v := .agg (pubArr k 26 0 ⟨#[]⟩ (.iface 293 (.string text)))) (by simp [results, Tryz.results109, go_sem, pubArr]) rfl ⟨rfl, by go_grown⟩
set_option maxHeartbeats 2000000 in
theorem over_strg (w : World) (k : ByteArray) (f : Fld) (hk : f.kind = 13) : Calls Tryz.prog 109 #[.agg (pubArr k 27 0 ⟨#[]⟩ .nilIface), .agg f.arr] w (FieldIs w k 25 0 ⟨#[]⟩ (.iface 293 (.string f.text))) := by
  obtain ⟨kind, key, width, int, uint, re, im, text, bA, bn, bc, zero, nanos, offset, zone, iA, ilen, ic, fail⟩ := f
  simp only at hk
  subst hk
  go_enter Tryz.func109, Tryz.ntmps109
  go_wp2_with fail
  go_region_held3 (fun w' => w'.cell? ⟨w.heap.size + 1, 7, none⟩ = some (.string text) ∧ w'.cell? ⟨w.heap.size + 1, 13, none⟩ = some (.slice iA ilen ic) ∧ w'.cell? ⟨w.heap.size + 1, 14, none⟩ = some (.string fail)) (go_keep) (fail)
  all_goals go_wp2_with fail
  all_goals exact bodyPost_ret (v := .agg (pubArr k 25 0 ⟨#[]⟩ (.iface 293 (.string text)))) (by simp [results, Tryz.results109, go_sem, pubArr]) rfl ⟨rfl, by go_grown⟩
set_option maxHeartbeats 2000000 in
theorem over_ns (w : World) (k : ByteArray) (f : Fld) (hk : f.kind = 14) : Calls Tryz.prog 109 #[.agg (pubArr k 27 0 ⟨#[]⟩ .nilIface), .agg f.arr] w (FieldIs w k 24 0 ⟨#[]⟩ (.nilIface)) := by
  obtain ⟨kind, key, width, int, uint, re, im, text, bA, bn, bc, zero, nanos, offset, zone, iA, ilen, ic, fail⟩ := f
  simp only at hk
  subst hk
  go_enter Tryz.func109, Tryz.ntmps109
  go_wp2_with fail
  all_goals exact bodyPost_ret (v := .agg (pubArr k 24 0 ⟨#[]⟩ (.nilIface))) (by simp [results, Tryz.results109, go_sem, pubArr]) rfl ⟨rfl, by go_grown⟩
set_option maxHeartbeats 2000000 in
theorem over_arr (w : World) (k : ByteArray) (f : Fld) (hk : f.kind = 15) : Calls Tryz.prog 109 #[.agg (pubArr k 27 0 ⟨#[]⟩ .nilIface), .agg f.arr] w (FieldIs w k 1 0 ⟨#[]⟩ (.iface 221 (.agg #[.slice f.iA f.ilen f.ic, .string f.fail]))) := by
  obtain ⟨kind, key, width, int, uint, re, im, text, bA, bn, bc, zero, nanos, offset, zone, iA, ilen, ic, fail⟩ := f
  simp only at hk
  subst hk
  go_enter Tryz.func109, Tryz.ntmps109
  go_wp2_with fail
  go_region_held3 (fun w' => w'.cell? ⟨w.heap.size + 1, 7, none⟩ = some (.string text) ∧ w'.cell? ⟨w.heap.size + 1, 13, none⟩ = some (.slice iA ilen ic) ∧ w'.cell? ⟨w.heap.size + 1, 14, none⟩ = some (.string fail)) (go_keep) (fail)
  all_goals go_wp2_with fail
  all_goals exact bodyPost_ret (v := .agg (pubArr k 1 0 ⟨#[]⟩ (.iface 221 (.agg #[.slice iA ilen ic, .string fail])))) (by simp [results, Tryz.results109, go_sem, pubArr]) rfl ⟨rfl, by go_grown⟩
set_option maxHeartbeats 2000000 in
theorem over_obj (w : World) (k : ByteArray) (f : Fld) (hk : f.kind = 16) : Calls Tryz.prog 109 #[.agg (pubArr k 27 0 ⟨#[]⟩ .nilIface), .agg f.arr] w (FieldIs w k 2 0 ⟨#[]⟩ (.iface 221 (.agg #[.slice f.iA f.ilen f.ic, .string f.fail]))) := by
  obtain ⟨kind, key, width, int, uint, re, im, text, bA, bn, bc, zero, nanos, offset, zone, iA, ilen, ic, fail⟩ := f
  simp only at hk
  subst hk
  go_enter Tryz.func109, Tryz.ntmps109
  go_wp2_with fail
  go_region_held3 (fun w' => w'.cell? ⟨w.heap.size + 1, 7, none⟩ = some (.string text) ∧ w'.cell? ⟨w.heap.size + 1, 13, none⟩ = some (.slice iA ilen ic) ∧ w'.cell? ⟨w.heap.size + 1, 14, none⟩ = some (.string fail)) (go_keep) (fail)
  all_goals go_wp2_with fail
  all_goals exact bodyPost_ret (v := .agg (pubArr k 2 0 ⟨#[]⟩ (.iface 221 (.agg #[.slice iA ilen ic, .string fail])))) (by simp [results, Tryz.results109, go_sem, pubArr]) rfl ⟨rfl, by go_grown⟩
set_option maxHeartbeats 2000000 in
theorem over_inl (w : World) (k : ByteArray) (f : Fld) (hk : f.kind = 17) : Calls Tryz.prog 109 #[.agg (pubArr k 27 0 ⟨#[]⟩ .nilIface), .agg f.arr] w (FieldIs w k 28 0 ⟨#[]⟩ (.iface 221 (.agg #[.slice f.iA f.ilen f.ic, .string f.fail]))) := by
  obtain ⟨kind, key, width, int, uint, re, im, text, bA, bn, bc, zero, nanos, offset, zone, iA, ilen, ic, fail⟩ := f
  simp only at hk
  subst hk
  go_enter Tryz.func109, Tryz.ntmps109
  go_wp2_with fail
  go_region_held3 (fun w' => w'.cell? ⟨w.heap.size + 1, 7, none⟩ = some (.string text) ∧ w'.cell? ⟨w.heap.size + 1, 13, none⟩ = some (.slice iA ilen ic) ∧ w'.cell? ⟨w.heap.size + 1, 14, none⟩ = some (.string fail)) (go_keep) (fail)
  all_goals go_wp2_with fail
  all_goals exact bodyPost_ret (v := .agg (pubArr k 28 0 ⟨#[]⟩ (.iface 221 (.agg #[.slice iA ilen ic, .string fail])))) (by simp [results, Tryz.results109, go_sem, pubArr]) rfl ⟨rfl, by go_grown⟩
/-- A moment, as the package has it. -/
abbrev momPub (f : Fld) : Value := .agg #[.int .i64 (momExt f.zero f.nanos), .int .i32 (momNs f.zero f.nanos), .string (momZone f.zero f.zone), .int .i64 (momOff f.zero f.offset)]
set_option maxHeartbeats 2000000 in
theorem over_time (w : World) (k : ByteArray) (f : Fld) (hk : f.kind = 11) (h0 : -9223372036854775808 ≤ f.nanos) (h1 : f.nanos ≤ 9223372036854775807) : Calls Tryz.prog 109 #[.agg (pubArr k 27 0 ⟨#[]⟩ .nilIface), .agg f.arr] w (FieldIs w k 17 0 ⟨#[]⟩ (.iface 117 (momPub f))) := by
  obtain ⟨kind, key, width, int, uint, re, im, text, bA, bn, bc, zero, nanos, offset, zone, iA, ilen, ic, fail⟩ := f
  simp only at hk h0 h1
  subst hk
  have M := fun W => moment_four W zero nanos offset zone h0 h1
  have HM := Lib.hid M
  clear M h0 h1
  go_enter Tryz.func109, Tryz.ntmps109
  go_wp2_with (go_at_call 52; go_must (refine (HM.out _).mono ?_; rintro e w1 ⟨rfl, hb1⟩; have B0 := (((Blk.new w 131 (pubArr k 27 0 ⟨#[]⟩ .nilIface)).alloc _).alloc _).here hb1; have B2 := (Blk.new_at _ 131 (pubArr ⟨#[]⟩ 0 0 ⟨#[]⟩ .nilIface) (w.heap.size + 1 + 1) (by simp)).here hb1; have p0 := B0.cell 0; have p1 := B0.cell 1; have p2 := B0.cell 2; have p3 := B0.cell 3; have p4 := B0.cell 4; have q0 := B2.cell 0; have q1 := B2.cell 1; have q2 := B2.cell 2; have q3 := B2.cell 3; have q4 := B2.cell 4; simp only [pubArr, List.getElem?_toArray, List.getElem?_cons_zero, List.getElem?_cons_succ] at p0 p1 p2 p3 p4 q0 q1 q2 q3 q4; have f0 := B0.frozen; have f2 := B2.frozen; have hB : Below w.heap.size w w1 := Below.trans (by go_grown) (hb1.mono (by simp; omega)); have hlt := B0.lt; clear B0 B2 hb1))
  exact bodyPost_ret (v := .agg (pubArr k 17 0 ⟨#[]⟩ (.iface 117 (.agg #[.int .i64 (momExt zero nanos), .int .i32 (momNs zero nanos), .string (momZone zero zone), .int .i64 (momOff zero offset)])))) (by simp [results, Tryz.results109, go_sem, pubArr, p0, p1, p2, p3, p4, q0, q1, q2, q3, q4]) rfl ⟨rfl, by go_grown⟩
/-- What a list of errors leaves. -/
def ErrsIs (w : World) (k : ByteArray) (e : Ending) (w' : World) : Prop := ∃ A n c, e = .returned (.agg (pubArr k 1 0 ⟨#[]⟩ (.iface 323 (.slice A n c)))) ∧ Below w.heap.size w w'
set_option maxHeartbeats 2000000 in
theorem over_errs (w : World) (k : ByteArray) (t : FT) (hk : t.f.kind = 18) (ht : t.ok w) (hn : t.f.ilen ≤ 2147483647) : Calls Tryz.prog 109 #[.agg (pubArr k 27 0 ⟨#[]⟩ .nilIface), .agg t.f.arr] w (ErrsIs w k) := by
  have hkids := FT.ok_kids ht
  clear ht
  generalize t.kids = l at *
  generalize t.f = f at *
  obtain ⟨kind, key, width, int, uint, re, im, text, bA, bn, bc, zero, nanos, offset, zone, iA, ilen, ic, fail⟩ := f
  simp only at hk hn hkids
  subst hk
  have HK := Lib.hid hkids
  clear hkids
  go_enter Tryz.func109, Tryz.ntmps109
  go_wp2_with (first
    | (go_at_call 155; go_must (refine (errorsOf_any _ iA ilen ic l (HK.out.below (by go_grown)) hn).mono ?_; rintro e w1 ⟨A, n, c, rfl, hb1⟩; have B0 := (((Blk.new w 131 (pubArr k 27 0 ⟨#[]⟩ .nilIface)).alloc _).alloc _).here hb1; have B2 := (Blk.new_at _ 131 (pubArr ⟨#[]⟩ 0 0 ⟨#[]⟩ .nilIface) (w.heap.size + 1 + 1) (by simp)).here hb1; have p0 := B0.cell 0; have p1 := B0.cell 1; have p2 := B0.cell 2; have p3 := B0.cell 3; have p4 := B0.cell 4; have q0 := B2.cell 0; have q1 := B2.cell 1; have q2 := B2.cell 2; have q3 := B2.cell 3; have q4 := B2.cell 4; simp only [pubArr, List.getElem?_toArray, List.getElem?_cons_zero, List.getElem?_cons_succ] at p0 p1 p2 p3 p4 q0 q1 q2 q3 q4; have f0 := B0.frozen; have f2 := B2.frozen; have hB : Below w.heap.size w w1 := Below.trans (by go_grown) (hb1.mono (by simp; omega)); have hlt := B0.lt; clear B0 B2 hb1))
    | (go_at_call 154; go_must (refine (errorArray_any _ _ _ _).mono ?_; rintro e w2 ⟨rfl, rfl⟩)))
  exact bodyPost_ret (v := .agg (pubArr k 1 0 ⟨#[]⟩ (.iface 323 (.slice A n c)))) (by simp [results, Tryz.results109, go_sem, pubArr, p0, p1, p2, p3, p4, q0, q1, q2, q3, q4]) rfl ⟨_, _, _, rfl, by go_grown⟩
end Go.Proofs.YtieidjlmgalihaaGreatDoor
