/- Fields as the package has them: fieldOf, the other kinds. -/
import Derived.Test.YtieidjlmgalihaaGreatDoorEqB
set_option linter.all false
namespace Go.Proofs.YtieidjlmgalihaaGreatDoor
open Go.RowKit
set_option maxRecDepth 100000
set_option maxHeartbeats 4000000 in
theorem of_float64 (w : World) (f : Fld) (hk : f.kind = 5) (hw : (f.width == 32) = false) : Calls Tryz.prog 60 #[.agg f.arr] w (FieldIs w f.key 9 (wrap64 f.re) ⟨#[]⟩ .nilIface) := by
  obtain ⟨kind, key, width, int, uint, re, im, text, bA, bn, bc, zero, nanos, offset, zone, iA, ilen, ic, fail⟩ := f
  simp only at hk hw
  subst hk
  go_enter Tryz.func60, Tryz.ntmps60
  go_wp2_with fail
  go_region_held3 (fun w' => w'.cell? ⟨w.heap.size, 5, none⟩ = some (.int .u64 re)) (go_keep) (fail)
  all_goals go_wp2_with fail
  all_goals exact bodyPost_ret (v := .agg (pubArr key 9 (wrap64 re) ⟨#[]⟩ .nilIface)) (by simp [results, Tryz.results60, go_sem, pubArr]) rfl ⟨rfl, by go_grown⟩
set_option maxHeartbeats 4000000 in
theorem of_float32 (w : World) (f : Fld) (hk : f.kind = 5) (hw : f.width = 32) (h0 : 0 ≤ f.re) (h1 : f.re < 4294967296) : Calls Tryz.prog 60 #[.agg f.arr] w (FieldIs w f.key 10 f.re ⟨#[]⟩ .nilIface) := by
  obtain ⟨kind, key, width, int, uint, re, im, text, bA, bn, bc, zero, nanos, offset, zone, iA, ilen, ic, fail⟩ := f
  simp only at hk hw h0 h1
  subst hk hw
  go_enter Tryz.func60, Tryz.ntmps60
  go_wp2_with fail
  go_region_held3 (fun w' => w'.cell? ⟨w.heap.size, 5, none⟩ = some (.int .u64 re) ∧ w'.cell? ⟨w.heap.size, 2, none⟩ = some (.int .i64 32)) (go_keep) (fail)
  all_goals go_wp2_with fail
  all_goals go_region_held3 (fun w' => w'.cell? ⟨w.heap.size, 5, none⟩ = some (.int .u64 re) ∧ w'.cell? ⟨w.heap.size, 2, none⟩ = some (.int .i64 32)) (go_keep) (fail)
  all_goals go_wp2_with fail
  all_goals exact bodyPost_ret (v := .agg (pubArr key 10 re ⟨#[]⟩ .nilIface)) (by simp [results, Tryz.results60, go_sem, pubArr]) rfl ⟨rfl, by go_grown⟩
/-- Bytes of their own. -/
def BytesIs (w : World) (k : ByteArray) (T : Int) (x : List UInt8) (e : Ending) (w' : World) : Prop := ∃ A c, e = .returned (.agg (pubArr k T 0 ⟨#[]⟩ (.iface 36 (.slice A x.length c)))) ∧ ReadsB w' A x ∧ Below w.heap.size w w' ∧ ∀ a, A = some a → w.heap.size ≤ a.block
set_option maxHeartbeats 4000000 in
theorem of_bstr (w : World) (t : FT) (hk : t.f.kind = 8) (ht : t.ok w) (hn : t.f.bn ≤ 2147483647) : Calls Tryz.prog 60 #[.agg t.f.arr] w (BytesIs w t.f.key 5 t.bs) := by
  obtain ⟨hb0, hlen, hrd⟩ := FT.ok_bytes ht
  clear ht hb0
  generalize t.bs = x at *
  generalize t.f = f at *
  obtain ⟨kind, key, width, int, uint, re, im, text, bA, bn, bc, zero, nanos, offset, zone, iA, ilen, ic, fail⟩ := f
  simp only at hk hn hlen hrd
  subst hk hlen
  have HR := Lib.hid hrd
  clear hrd
  go_enter Tryz.func60, Tryz.ntmps60
  go_wp2_with (go_at_call 108; go_must (refine (clone_any _ bA x x.length bc rfl (HR.out.below (by go_grown)) hn).mono ?_; rintro e w1 ⟨A, c, rfl, hrd, hb1, hfar⟩; have HD := Lib.hid hrd; have HF := Lib.hid hfar; clear hrd hfar; have B0 := ((Blk.new_at _ 131 (pubArr ⟨#[]⟩ 0 0 ⟨#[]⟩ .nilIface) (w.heap.size + 1) (by simp)).alloc _).here hb1; have B2 := (Blk.new_at _ 131 (pubArr key 27 0 ⟨#[]⟩ .nilIface) (w.heap.size + 1 + 1) (by simp)).here hb1; have p0 := B0.cell 0; have p1 := B0.cell 1; have p2 := B0.cell 2; have p3 := B0.cell 3; have p4 := B0.cell 4; have q0 := B2.cell 0; have q1 := B2.cell 1; have q2 := B2.cell 2; have q3 := B2.cell 3; have q4 := B2.cell 4; simp only [pubArr, List.getElem?_toArray, List.getElem?_cons_zero, List.getElem?_cons_succ] at p0 p1 p2 p3 p4 q0 q1 q2 q3 q4; have f0 := B0.frozen; have f2 := B2.frozen; have hB : Below w.heap.size w w1 := Below.trans (by go_grown) (hb1.mono (by simp; omega)); have hlt := B0.lt; clear B0 B2; clear hb1))
  exact bodyPost_ret (v := .agg (pubArr key 5 0 ⟨#[]⟩ (.iface 36 (.slice A x.length c)))) (by simp [results, Tryz.results60, go_sem, pubArr, p0, p1, p2, p3, p4, q0, q1, q2, q3, q4]) rfl ⟨_, _, rfl, by (repeat (with_reducible refine ReadsB.far ?_ (fun a ha => by have := HF.out a ha; simp at this ⊢; omega) _)); exact HD.out, by go_grown, fun a ha => by have := HF.out a ha; simp at this; omega⟩
set_option maxHeartbeats 4000000 in
theorem of_bin (w : World) (t : FT) (hk : t.f.kind = 9) (ht : t.ok w) (hn : t.f.bn ≤ 2147483647) : Calls Tryz.prog 60 #[.agg t.f.arr] w (BytesIs w t.f.key 3 t.bs) := by
  obtain ⟨hb0, hlen, hrd⟩ := FT.ok_bytes ht
  clear ht hb0
  generalize t.bs = x at *
  generalize t.f = f at *
  obtain ⟨kind, key, width, int, uint, re, im, text, bA, bn, bc, zero, nanos, offset, zone, iA, ilen, ic, fail⟩ := f
  simp only at hk hn hlen hrd
  subst hk hlen
  have HR := Lib.hid hrd
  clear hrd
  go_enter Tryz.func60, Tryz.ntmps60
  go_wp2_with (go_at_call 108; go_must (refine (clone_any _ bA x x.length bc rfl (HR.out.below (by go_grown)) hn).mono ?_; rintro e w1 ⟨A, c, rfl, hrd, hb1, hfar⟩; have HD := Lib.hid hrd; have HF := Lib.hid hfar; clear hrd hfar; have B0 := ((Blk.new_at _ 131 (pubArr ⟨#[]⟩ 0 0 ⟨#[]⟩ .nilIface) (w.heap.size + 1) (by simp)).alloc _).here hb1; have B2 := (Blk.new_at _ 131 (pubArr key 27 0 ⟨#[]⟩ .nilIface) (w.heap.size + 1 + 1) (by simp)).here hb1; have p0 := B0.cell 0; have p1 := B0.cell 1; have p2 := B0.cell 2; have p3 := B0.cell 3; have p4 := B0.cell 4; have q0 := B2.cell 0; have q1 := B2.cell 1; have q2 := B2.cell 2; have q3 := B2.cell 3; have q4 := B2.cell 4; simp only [pubArr, List.getElem?_toArray, List.getElem?_cons_zero, List.getElem?_cons_succ] at p0 p1 p2 p3 p4 q0 q1 q2 q3 q4; have f0 := B0.frozen; have f2 := B2.frozen; have hB : Below w.heap.size w w1 := Below.trans (by go_grown) (hb1.mono (by simp; omega)); have hlt := B0.lt; clear B0 B2; clear hb1))
  exact bodyPost_ret (v := .agg (pubArr key 3 0 ⟨#[]⟩ (.iface 36 (.slice A x.length c)))) (by simp [results, Tryz.results60, go_sem, pubArr, p0, p1, p2, p3, p4, q0, q1, q2, q3, q4]) rfl ⟨_, _, rfl, by (repeat (with_reducible refine ReadsB.far ?_ (fun a ha => by have := HF.out a ha; simp at this ⊢; omega) _)); exact HD.out, by go_grown, fun a ha => by have := HF.out a ha; simp at this; omega⟩
set_option maxHeartbeats 4000000 in
/-- The kinds that fieldOver makes. -/
theorem of_over (w : World) (f : Fld) (hk : f.kind = 0 ∨ 11 ≤ f.kind) (T : Int) (ty : TypeId) (x : Value) (H : ∀ W, Below w.heap.size w W → Calls Tryz.prog 109 #[.agg (pubArr f.key 27 0 ⟨#[]⟩ .nilIface), .agg f.arr] W (FieldIs W f.key T 0 ⟨#[]⟩ (.iface ty x))) : Calls Tryz.prog 60 #[.agg f.arr] w (FieldIs w f.key T 0 ⟨#[]⟩ (.iface ty x)) := by
  have b1 : (f.kind == 1) = false := by simp; omega
  have b2 : (f.kind == 2) = false := by simp; omega
  have b3 : (f.kind == 3) = false := by simp; omega
  have b4 : (f.kind == 4) = false := by simp; omega
  have b5 : (f.kind == 5) = false := by simp; omega
  have b6 : (f.kind == 6) = false := by simp; omega
  have b7 : (f.kind == 7) = false := by simp; omega
  have b8 : (f.kind == 8) = false := by simp; omega
  have b9 : (f.kind == 9) = false := by simp; omega
  have b10 : (f.kind == 10) = false := by simp; omega
  clear hk
  have HH := Lib.hid H
  clear H
  obtain ⟨kind, key, width, int, uint, re, im, text, bA, bn, bc, zero, nanos, offset, zone, iA, ilen, ic, fail⟩ := f
  simp only at b1 b2 b3 b4 b5 b6 b7 b8 b9 b10 HH
  go_enter Tryz.func60, Tryz.ntmps60
  go_wp2_with (go_at_call 109; go_must (refine (HH.out _ (by go_grown)).mono ?_; rintro e w1 ⟨rfl, hb1⟩; have B0 := ((Blk.new_at _ 131 (pubArr ⟨#[]⟩ 0 0 ⟨#[]⟩ .nilIface) (w.heap.size + 1) (by simp)).alloc _).here hb1; have B2 := (Blk.new_at _ 131 (pubArr key 27 0 ⟨#[]⟩ .nilIface) (w.heap.size + 1 + 1) (by simp)).here hb1; have p0 := B0.cell 0; have p1 := B0.cell 1; have p2 := B0.cell 2; have p3 := B0.cell 3; have p4 := B0.cell 4; have q0 := B2.cell 0; have q1 := B2.cell 1; have q2 := B2.cell 2; have q3 := B2.cell 3; have q4 := B2.cell 4; simp only [pubArr, List.getElem?_toArray, List.getElem?_cons_zero, List.getElem?_cons_succ] at p0 p1 p2 p3 p4 q0 q1 q2 q3 q4; have f0 := B0.frozen; have f2 := B2.frozen; have hB : Below w.heap.size w w1 := Below.trans (by go_grown) (hb1.mono (by simp; omega)); have hlt := B0.lt; clear B0 B2; clear hb1))
  exact bodyPost_ret (v := .agg (pubArr key T 0 ⟨#[]⟩ (.iface ty x))) (by simp [results, Tryz.results60, go_sem, pubArr, p0, p1, p2, p3, p4]) rfl ⟨rfl, by go_grown⟩
set_option maxHeartbeats 4000000 in
/-- The kinds that fieldOver makes. -/
theorem of_over_nil (w : World) (f : Fld) (hk : f.kind = 0 ∨ 11 ≤ f.kind) (T : Int) (H : ∀ W, Below w.heap.size w W → Calls Tryz.prog 109 #[.agg (pubArr f.key 27 0 ⟨#[]⟩ .nilIface), .agg f.arr] W (FieldIs W f.key T 0 ⟨#[]⟩ .nilIface)) : Calls Tryz.prog 60 #[.agg f.arr] w (FieldIs w f.key T 0 ⟨#[]⟩ .nilIface) := by
  have b1 : (f.kind == 1) = false := by simp; omega
  have b2 : (f.kind == 2) = false := by simp; omega
  have b3 : (f.kind == 3) = false := by simp; omega
  have b4 : (f.kind == 4) = false := by simp; omega
  have b5 : (f.kind == 5) = false := by simp; omega
  have b6 : (f.kind == 6) = false := by simp; omega
  have b7 : (f.kind == 7) = false := by simp; omega
  have b8 : (f.kind == 8) = false := by simp; omega
  have b9 : (f.kind == 9) = false := by simp; omega
  have b10 : (f.kind == 10) = false := by simp; omega
  clear hk
  have HH := Lib.hid H
  clear H
  obtain ⟨kind, key, width, int, uint, re, im, text, bA, bn, bc, zero, nanos, offset, zone, iA, ilen, ic, fail⟩ := f
  simp only at b1 b2 b3 b4 b5 b6 b7 b8 b9 b10 HH
  go_enter Tryz.func60, Tryz.ntmps60
  go_wp2_with (go_at_call 109; go_must (refine (HH.out _ (by go_grown)).mono ?_; rintro e w1 ⟨rfl, hb1⟩; have B0 := ((Blk.new_at _ 131 (pubArr ⟨#[]⟩ 0 0 ⟨#[]⟩ .nilIface) (w.heap.size + 1) (by simp)).alloc _).here hb1; have B2 := (Blk.new_at _ 131 (pubArr key 27 0 ⟨#[]⟩ .nilIface) (w.heap.size + 1 + 1) (by simp)).here hb1; have p0 := B0.cell 0; have p1 := B0.cell 1; have p2 := B0.cell 2; have p3 := B0.cell 3; have p4 := B0.cell 4; have q0 := B2.cell 0; have q1 := B2.cell 1; have q2 := B2.cell 2; have q3 := B2.cell 3; have q4 := B2.cell 4; simp only [pubArr, List.getElem?_toArray, List.getElem?_cons_zero, List.getElem?_cons_succ] at p0 p1 p2 p3 p4 q0 q1 q2 q3 q4; have f0 := B0.frozen; have f2 := B2.frozen; have hB : Below w.heap.size w w1 := Below.trans (by go_grown) (hb1.mono (by simp; omega)); have hlt := B0.lt; clear B0 B2; clear hb1))
  exact bodyPost_ret (v := .agg (pubArr key T 0 ⟨#[]⟩ .nilIface)) (by simp [results, Tryz.results60, go_sem, pubArr, p0, p1, p2, p3, p4]) rfl ⟨rfl, by go_grown⟩
set_option maxHeartbeats 4000000 in
theorem of_errs (w : World) (t : FT) (hk : t.f.kind = 18) (ht : t.ok w) (hn : t.f.ilen ≤ 2147483647) : Calls Tryz.prog 60 #[.agg t.f.arr] w (ErrsIs w t.f.key) := by
  have H := fun W (h : Below w.heap.size w W) => over_errs W t.f.key t hk (FT.ok_below h t ht) hn
  have HH := Lib.hid H
  clear H ht hn
  generalize t.f = f at *
  obtain ⟨kind, key, width, int, uint, re, im, text, bA, bn, bc, zero, nanos, offset, zone, iA, ilen, ic, fail⟩ := f
  simp only at hk HH
  subst hk
  go_enter Tryz.func60, Tryz.ntmps60
  go_wp2_with (go_at_call 109; go_must (refine (HH.out _ (by go_grown)).mono ?_; rintro e w1 ⟨A, n, c, rfl, hb1⟩; have B0 := ((Blk.new_at _ 131 (pubArr ⟨#[]⟩ 0 0 ⟨#[]⟩ .nilIface) (w.heap.size + 1) (by simp)).alloc _).here hb1; have B2 := (Blk.new_at _ 131 (pubArr key 27 0 ⟨#[]⟩ .nilIface) (w.heap.size + 1 + 1) (by simp)).here hb1; have p0 := B0.cell 0; have p1 := B0.cell 1; have p2 := B0.cell 2; have p3 := B0.cell 3; have p4 := B0.cell 4; have q0 := B2.cell 0; have q1 := B2.cell 1; have q2 := B2.cell 2; have q3 := B2.cell 3; have q4 := B2.cell 4; simp only [pubArr, List.getElem?_toArray, List.getElem?_cons_zero, List.getElem?_cons_succ] at p0 p1 p2 p3 p4 q0 q1 q2 q3 q4; have f0 := B0.frozen; have f2 := B2.frozen; have hB : Below w.heap.size w w1 := Below.trans (by go_grown) (hb1.mono (by simp; omega)); have hlt := B0.lt; clear B0 B2; clear hb1))
  exact bodyPost_ret (v := .agg (pubArr key 1 0 ⟨#[]⟩ (.iface 323 (.slice A n c)))) (by simp [results, Tryz.results60, go_sem, pubArr, p0, p1, p2, p3, p4]) rfl ⟨_, _, _, rfl, by go_grown⟩
end Go.Proofs.YtieidjlmgalihaaGreatDoor
