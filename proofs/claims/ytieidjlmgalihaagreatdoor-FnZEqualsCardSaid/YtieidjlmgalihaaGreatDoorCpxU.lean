/- A complex number as a field. -/
import Derived.Test.YtieidjlmgalihaaGreatDoorCpxT
import Derived.Test.YtieidjlmgalihaaGreatDoorEqB
set_option linter.all false
namespace Go.Proofs.YtieidjlmgalihaaGreatDoor
open Go.RowKit
set_option maxRecDepth 100000
set_option maxHeartbeats 4000000 in
theorem of_c128 (w : World) (f : Fld) (hk : f.kind = 6) (hw : f.width = 64) (h0 : 0 ≤ f.re) (h1 : 0 ≤ f.im) : Calls Tryz.prog 60 #[.agg f.arr] w (FieldIs w f.key 6 0 ⟨#[]⟩ (.iface 231 (.complex .f64 f.re.toNat f.im.toNat))) := by
  have H := Lib.hid (fun W => complex64 W f (by rw [hw]; rfl) h0 h1)
  obtain ⟨kind, key, width, int, uint, re, im, text, bA, bn, bc, zero, nanos, offset, zone, iA, ilen, ic, fail⟩ := f
  simp only at hk hw h0 h1
  subst hk hw
  go_enter Tryz.func60, Tryz.ntmps60
  go_wp2_with (go_at_call 107; go_must (refine (H.out _).mono ?_; rintro e w1 ⟨rfl, hb1⟩; have Bf := (((Blk.new w 39 _).alloc _).alloc _).here hb1; have B0 := ((Blk.new_at _ 131 (pubArr ⟨#[]⟩ 0 0 ⟨#[]⟩ .nilIface) (w.heap.size + 1) (by simp)).alloc _).here hb1; have B2 := (Blk.new_at _ 131 (pubArr key 27 0 ⟨#[]⟩ .nilIface) (w.heap.size + 1 + 1) (by simp)).here hb1; have g2 := Bf.cell 2; have p0 := B0.cell 0; have p1 := B0.cell 1; have p2 := B0.cell 2; have p3 := B0.cell 3; have p4 := B0.cell 4; have q0 := B2.cell 0; have q1 := B2.cell 1; have q2 := B2.cell 2; have q3 := B2.cell 3; have q4 := B2.cell 4; simp only [Fld.arr, pubArr, List.getElem?_toArray, List.getElem?_cons_zero, List.getElem?_cons_succ] at g2 p0 p1 p2 p3 p4 q0 q1 q2 q3 q4; have f0 := B0.frozen; have f2 := B2.frozen; have hB : Below w.heap.size w w1 := Below.trans (by go_grown) (hb1.mono (by simp; omega)); have hlt := B2.lt; clear Bf B0 B2 hb1))
  exact bodyPost_ret (v := .agg (pubArr key 6 0 ⟨#[]⟩ (.iface 231 (.complex .f64 re.toNat im.toNat)))) (by simp [results, Tryz.results60, go_sem, pubArr, p0, p1, p2, p3, p4, q0, q1, q2, q3, q4]) rfl ⟨rfl, by go_grown⟩
set_option maxHeartbeats 4000000 in
theorem of_c64 (w : World) (f : Fld) (hk : f.kind = 6) (hw : f.width = 32) (h0 : 0 ≤ f.re) (h1 : 0 ≤ f.im) (k0 : f.re < 4294967296) (k1 : f.im < 4294967296) : Calls Tryz.prog 60 #[.agg f.arr] w (fun e w' => ∃ r i, Nar f.re.toNat r ∧ Nar f.im.toNat i ∧ FieldIs w f.key 7 0 ⟨#[]⟩ (.iface 233 (.complex .f32 r i)) e w') := by
  have H := Lib.hid (fun W => complex32 W f hw h0 h1 k0 k1)
  obtain ⟨kind, key, width, int, uint, re, im, text, bA, bn, bc, zero, nanos, offset, zone, iA, ilen, ic, fail⟩ := f
  simp only at hk hw h0 h1 k0 k1
  subst hk hw
  go_enter Tryz.func60, Tryz.ntmps60
  go_wp2_with fail
  go_at_call 107
  refine (H.out _).mono ?_
  rintro e w1 ⟨r1, i1, rfl, kr1, ki1, hb1⟩
  have Bf := (((Blk.new w 39 _).alloc _).alloc _).here hb1
  have B0 := ((Blk.new_at _ 131 (pubArr ⟨#[]⟩ 0 0 ⟨#[]⟩ .nilIface) (w.heap.size + 1) (by simp)).alloc _).here hb1
  have B2 := (Blk.new_at _ 131 (pubArr key 27 0 ⟨#[]⟩ .nilIface) (w.heap.size + 1 + 1) (by simp)).here hb1
  have hB : Below w.heap.size w w1 := Below.trans (by go_grown) (hb1.mono (by simp; omega))
  have g0 := Bf.cell 0
  have g1 := Bf.cell 1
  have g2 := Bf.cell 2
  have g3 := Bf.cell 3
  have g4 := Bf.cell 4
  have g5 := Bf.cell 5
  have g6 := Bf.cell 6
  have g7 := Bf.cell 7
  have g8 := Bf.cell 8
  have g9 := Bf.cell 9
  have g10 := Bf.cell 10
  have g11 := Bf.cell 11
  have g12 := Bf.cell 12
  have g13 := Bf.cell 13
  have g14 := Bf.cell 14
  simp only [Fld.arr, List.getElem?_toArray, List.getElem?_cons_zero, List.getElem?_cons_succ] at g0 g1 g2 g3 g4 g5 g6 g7 g8 g9 g10 g11 g12 g13 g14
  have f2 := B2.frozen
  have q1 := B2.cell 1
  have q4 := B2.cell 4
  simp only [pubArr, List.getElem?_toArray, List.getElem?_cons_zero, List.getElem?_cons_succ] at q1 q4
  have hlt := B2.lt
  have hlf := Bf.lt
  have HB0 := Lib.hid B0
  have HB2 := Lib.hid B2
  have HBf := Lib.hid Bf
  clear kr1 ki1 hb1 B0 B2 Bf
  go_wp2_with fail
  go_at_call 107
  refine (H.out _).mono ?_
  rintro e w2 ⟨r2, i2, rfl, kr2, ki2, hb2⟩
  obtain ⟨r', i', d, hc, nr, ni⟩ := cc_back _ _ r2 i2 kr2 ki2 w2
  have B2' := ((((HB2.out).set_ 1 (.int .u8 6)).set_ 4 (.iface 231 (.complex .f64 r1 i1))).here hb2).drewN d
  have B0' := ((((HB0.out).far (p := ⟨w.heap.size + 1 + 1, 1, none⟩) (by simp) (.int .u8 6)).far (p := ⟨w.heap.size + 1 + 1, 4, none⟩) (by simp) (.iface 231 (.complex .f64 r1 i1))).here hb2).drewN d
  have hB2 : Below w.heap.size w w2 := Below.trans ((hB.setCell (p := ⟨w.heap.size + 1 + 1, 1, none⟩) (by simp; omega) (.int .u8 6)).setCell (p := ⟨w.heap.size + 1 + 1, 4, none⟩) (by simp; omega) (.iface 231 (.complex .f64 r1 i1))) (hb2.mono (by simp; omega))
  have hB3 : Below w.heap.size w (w2.drewN d) := by apply below_drewN; exact hB2
  have p0 := B0'.cell 0
  have p1 := B0'.cell 1
  have p2 := B0'.cell 2
  have p3 := B0'.cell 3
  have p4 := B0'.cell 4
  have s0 := B2'.cell 0
  have s1 := B2'.cell 1
  have s2 := B2'.cell 2
  have s3 := B2'.cell 3
  have s4 := B2'.cell 4
  simp only [pubArr, List.setIfInBounds_toArray, List.set_cons_zero, List.set_cons_succ, List.getElem?_toArray, List.getElem?_cons_zero, List.getElem?_cons_succ] at p0 p1 p2 p3 p4 s0 s1 s2 s3 s4
  have z0 := B0'.frozen
  have z2 := B2'.frozen
  have hl2 := B2'.lt
  clear B0' B2' hb2 HB0 HB2 HBf g0 g1 g2 g3 g4 g5 g6 g7 g8 g9 g10 g11 g12 g13 g14 q1 q4 f2 hlf hlt hB hB2 kr2 ki2 H
  go_wp2_with fail
  exact bodyPost_ret (v := .agg (pubArr key 7 0 ⟨#[]⟩ (.iface 233 (.complex .f32 r' i')))) (by simp [results, Tryz.results60, go_sem, pubArr, p0, p1, p2, p3, p4, s0, s1, s2, s3, s4]) rfl ⟨r', i', nr, ni, rfl, by go_grown⟩
end Go.Proofs.YtieidjlmgalihaaGreatDoor
