/- FnZEquals is true. -/
import Derived.Test.YtieidjlmgalihaaGreatDoorEqV
import Derived.Test.YtieidjlmgalihaaGreatDoorEqP
import Derived.Test.YtieidjlmgalihaaGreatDoorOpnE
import Derived.Test.YtieidjlmgalihaaGreatDoorWk3
import Derived.Test.YtieidjlmgalihaaGreatDoorGrt
import Derived.Test.YtieidjlmgalihaaGreatDoorEqN
import Derived.Test.YtieidjlmgalihaaGreatDoorEqW
set_option linter.all false
namespace Go.Proofs.YtieidjlmgalihaaGreatDoor
open Go.RowKit
set_option maxRecDepth 100000
/-- A slice of two fields, just made. -/
theorem two_row (W : World) (a b : Fld) : RowAt (W.alloc (.cells #[.int .i64 a.kind, .string a.key, .int .i64 a.width, .int .i64 a.int, .int .u64 a.uint, .int .u64 a.re, .int .u64 a.im, .string a.text, .slice a.bA a.bn a.bc, .bool a.zero, .int .i64 a.nanos, .int .i64 a.offset, .string a.zone, .slice a.iA a.ilen a.ic, .string a.fail, .int .i64 b.kind, .string b.key, .int .i64 b.width, .int .i64 b.int, .int .u64 b.uint, .int .u64 b.re, .int .u64 b.im, .string b.text, .slice b.bA b.bn b.bc, .bool b.zero, .int .i64 b.nanos, .int .i64 b.offset, .string b.zone, .slice b.iA b.ilen b.ic, .string b.fail] 39)) (some ⟨W.heap.size, 0, none⟩) 2 15 (fun i => (if i = 0 then a else b).arr) := by
  intro i hi
  refine ⟨W.heap.size, 0, rfl, rfl, fun j hj => ?_⟩
  rw [(Blk.new W 39 _).cell]
  obtain rfl | rfl : i = 0 ∨ i = 1 := by omega
  · rcases j with _ | _ | _ | _ | _ | _ | _ | _ | _ | _ | _ | _ | _ | _ | _ | j <;> first | rfl | omega
  · rcases j with _ | _ | _ | _ | _ | _ | _ | _ | _ | _ | _ | _ | _ | _ | _ | j <;> first | rfl | omega
theorem two_fts (W : World) (ta tb : FT) (ha : ta.ok W) (hb : tb.ok W) (cs : Array Value) (h : RowAt (W.alloc (.cells cs 39)) (some ⟨W.heap.size, 0, none⟩) 2 15 (fun i => (if i = 0 then ta.f else tb.f).arr)) : FtsOk (W.alloc (.cells cs 39)) (some ⟨W.heap.size, 0, none⟩) 2 [ta, tb] := by
  have hu : Below W.heap.size W (W.alloc (.cells cs 39)) := (Below.refl _ _).alloc (Nat.le_refl _) _
  refine ⟨by unfold maxLen; omega, rfl, fun i hi => ?_, ?_⟩
  · obtain ⟨b, off, h1, h2, h3⟩ := h i hi
    refine ⟨b, off, h1, ?_, fun j hj => (h3 j hj).trans ?_⟩
    · obtain rfl | rfl : i = 0 ∨ i = 1 := by omega
      · exact h2
      · exact h2
    · obtain rfl | rfl : i = 0 ∨ i = 1 := by omega
      · rfl
      · rfl
  · simp only [okL]
    exact ⟨FT.ok_below hu ta ha, FT.ok_below hu tb hb, trivial⟩
theorem two_flds {k : Nat} (W : World) (a b : Fld) (ha : FldOk k W a) (hb : FldOk k W b) (cs : Array Value) (h : RowAt (W.alloc (.cells cs 39)) (some ⟨W.heap.size, 0, none⟩) 2 15 (fun i => (if i = 0 then a else b).arr)) : FldsOk k (W.alloc (.cells cs 39)) (some ⟨W.heap.size, 0, none⟩) 2 (fun i => if i = 0 then a else b) := by
  have hu : Below W.heap.size W (W.alloc (.cells cs 39)) := (Below.refl _ _).alloc (Nat.le_refl _) _
  refine ⟨by unfold maxLen; omega, h, fun i hi => ?_⟩
  simp only
  split
  · exact ha.below hu
  · exact hb.below hu
/-- The field that FnZEquals compares last. -/
def t0 : FT := .mk ⟨1, ⟨#[]⟩, 0, 0, 0, 0, 0, ⟨#[]⟩, none, 0, 0, false, 0, 0, ⟨#[]⟩, none, 0, 0, ⟨#[]⟩⟩ [] []
theorem t0_ok (W : World) : t0.ok W := by
  simp only [t0, FT.ok, okL]
  exact ⟨by decide, rfl, fun j hj => by simp at hj, by decide, rfl, fun i hi => by omega, trivial⟩
theorem t0_fine : Fine1 t0.f := ⟨by decide, by decide, by decide, by decide, by decide⟩
theorem t0_rng : Rng t0.f := ⟨by decide, by decide, by decide, by decide, by decide, by decide, by decide, by decide, by decide, by decide⟩
theorem t0_eq : zeq t0 t0 = true := by simp [zeq, zeqV, t0, FT.f]
set_option maxHeartbeats 8000000 in
theorem eql_true (k : Nat) (w : World) (a b : Fld) (ha : FldOk k w a) (hb : FldOk k w b) (Ba : FldB a) (Bb : FldB b) (htab : Tab10 w.heap.size w) : Calls Tryz.prog 4 #[.agg a.arr, .agg b.arr] w (fun e w' => e = .returned (.bool true) ∧ Below w.heap.size w w') := by
  obtain ⟨ta, hta, oka⟩ := tree_of ha
  obtain ⟨tb, htb, okb⟩ := tree_of hb
  have la : a.bn ≤ maxLen ∧ a.ilen ≤ maxLen := by
    have h1 := (FT.ok_bytes oka).1
    have h2 := (FT.ok_kids oka).1
    rw [hta] at h1 h2
    exact ⟨h1, h2⟩
  have lb : b.bn ≤ maxLen ∧ b.ilen ≤ maxLen := by
    have h1 := (FT.ok_bytes okb).1
    have h2 := (FT.ok_kids okb).1
    rw [htb] at h1 h2
    exact ⟨h1, h2⟩
  have F1 := Lib.hid (fun W => fits11_any W a la.1 la.2)
  have F2 := Lib.hid (fun W => fits11_any W b lb.1 lb.2)
  have HF := Lib.hid (fun W (h : Below w.heap.size w W) => fine_any (SizeOf.sizeOf [ta, tb] + 1) (W.alloc (.cells #[.int .i64 a.kind, .string a.key, .int .i64 a.width, .int .i64 a.int, .int .u64 a.uint, .int .u64 a.re, .int .u64 a.im, .string a.text, .slice a.bA a.bn a.bc, .bool a.zero, .int .i64 a.nanos, .int .i64 a.offset, .string a.zone, .slice a.iA a.ilen a.ic, .string a.fail, .int .i64 b.kind, .string b.key, .int .i64 b.width, .int .i64 b.int, .int .u64 b.uint, .int .u64 b.re, .int .u64 b.im, .string b.text, .slice b.bA b.bn b.bc, .bool b.zero, .int .i64 b.nanos, .int .i64 b.offset, .string b.zone, .slice b.iA b.ilen b.ic, .string b.fail] 39)) _ 2 2 [ta, tb] (by omega) (two_fts W ta tb (FT.ok_below h ta oka) (FT.ok_below h tb okb) _ (by rw [hta, htb]; exact two_row W a b)))
  have HG := Lib.hid (fun W (h : Below w.heap.size w W) => great_any (W.alloc (.cells #[.int .i64 a.kind, .string a.key, .int .i64 a.width, .int .i64 a.int, .int .u64 a.uint, .int .u64 a.re, .int .u64 a.im, .string a.text, .slice a.bA a.bn a.bc, .bool a.zero, .int .i64 a.nanos, .int .i64 a.offset, .string a.zone, .slice a.iA a.ilen a.ic, .string a.fail, .int .i64 b.kind, .string b.key, .int .i64 b.width, .int .i64 b.int, .int .u64 b.uint, .int .u64 b.re, .int .u64 b.im, .string b.text, .slice b.bA b.bn b.bc, .bool b.zero, .int .i64 b.nanos, .int .i64 b.offset, .string b.zone, .slice b.iA b.ilen b.ic, .string b.fail] 39)) _ 2 2 k _ (two_flds W a b (ha.below h) (hb.below h) _ (two_row W a b)))
  have HAW := Lib.hid (fun W (h : Below w.heap.size w W) => awake_any W (tabUp htab h h.size))
  have HR : Hid (a.bn ≤ 2147483647 ∧ a.ilen ≤ 2147483647 → Rng a) := Lib.hid (fun h => ⟨Ba.1.1, Ba.1.2, Ba.2.1.1, Ba.2.1.2, Ba.2.2.1.1, Ba.2.2.1.2, Ba.2.2.2.1, Ba.2.2.2.2, h.1, h.2⟩)
  have HS : Hid (b.bn ≤ 2147483647 ∧ b.ilen ≤ 2147483647 → Rng b) := Lib.hid (fun h => ⟨Bb.1.1, Bb.1.2, Bb.2.1.1, Bb.2.1.2, Bb.2.2.1.1, Bb.2.2.1.2, Bb.2.2.2.1, Bb.2.2.2.2, h.1, h.2⟩)
  have HE := Lib.hid (fun W (h : Below w.heap.size w W) (F : Fine1 ta.f) (G : Fine1 tb.f) (R : Rng ta.f) (S : Rng tb.f) => (And.intro (And.intro (zequals_pair W ta tb (FT.ok_below h ta oka) (FT.ok_below h tb okb) F G R S) (zsf_pair W ta tb (FT.ok_below h ta oka) (FT.ok_below h tb okb) F G R S)) (zequals_pair W tb ta (FT.ok_below h tb okb) (FT.ok_below h ta oka) G F S R)))
  have HTA := Lib.hid hta
  have HTB := Lib.hid htb
  clear ha hb Ba Bb htab la lb oka okb hta htb
  obtain ⟨kind, key, width, int, uint, re, im, text, bA, bn, bc, zero, nanos, offset, zone, iA, ilen, ic, fail⟩ := a
  obtain ⟨kind', key', width', int', uint', re', im', text', bA', bn', bc', zero', nanos', offset', zone', iA', ilen', ic', fail'⟩ := b
  go_enter Tryz.func4, Tryz.ntmps4
  go_wp2_with fail
  go_at_call 19
  refine (F1.out _).mono ?_
  rintro e w1 ⟨bo1, rfl, hb1, g1⟩
  have BA := ((Blk.new w 39 (Fld.arr ⟨kind, key, width, int, uint, re, im, text, bA, bn, bc, zero, nanos, offset, zone, iA, ilen, ic, fail⟩)).alloc _).here hb1
  have BB := (Blk.new_at _ 39 (Fld.arr ⟨kind', key', width', int', uint', re', im', text', bA', bn', bc', zero', nanos', offset', zone', iA', ilen', ic', fail'⟩) (w.heap.size + 1) (by simp)).here hb1
  have hB : Below w.heap.size w w1 := Below.trans (by go_grown) (hb1.mono (by simp; omega))
  have p0 := BA.cell 0
  have q0 := BB.cell 0
  have p1 := BA.cell 1
  have q1 := BB.cell 1
  have p2 := BA.cell 2
  have q2 := BB.cell 2
  have p3 := BA.cell 3
  have q3 := BB.cell 3
  have p4 := BA.cell 4
  have q4 := BB.cell 4
  have p5 := BA.cell 5
  have q5 := BB.cell 5
  have p6 := BA.cell 6
  have q6 := BB.cell 6
  have p7 := BA.cell 7
  have q7 := BB.cell 7
  have p8 := BA.cell 8
  have q8 := BB.cell 8
  have p9 := BA.cell 9
  have q9 := BB.cell 9
  have p10 := BA.cell 10
  have q10 := BB.cell 10
  have p11 := BA.cell 11
  have q11 := BB.cell 11
  have p12 := BA.cell 12
  have q12 := BB.cell 12
  have p13 := BA.cell 13
  have q13 := BB.cell 13
  have p14 := BA.cell 14
  have q14 := BB.cell 14
  simp only [Fld.arr, List.getElem?_toArray, List.getElem?_cons_zero, List.getElem?_cons_succ] at p0 q0 p1 q1 p2 q2 p3 q3 p4 q4 p5 q5 p6 q6 p7 q7 p8 q8 p9 q9 p10 q10 p11 q11 p12 q12 p13 q13 p14 q14
  have hlt := BB.lt
  have HBA := Lib.hid BA
  have HBB := Lib.hid BB
  clear BA BB hb1
  cases bo1
  · go_wp2_with fail
    go_ret
    exact ⟨rfl, hB⟩
  have G1 := Lib.hid (g1 rfl)
  clear g1
  go_wp2_with fail
  go_at_call 19
  refine (F2.out _).mono ?_
  rintro e w2 ⟨bo2, rfl, hb2, g2⟩
  clear p0 q0 p1 q1 p2 q2 p3 q3 p4 q4 p5 q5 p6 q6 p7 q7 p8 q8 p9 q9 p10 q10 p11 q11 p12 q12 p13 q13 p14 q14
  have BA := HBA.out.here hb2
  have BB := HBB.out.here hb2
  have hB2 : Below w.heap.size w w2 := hB.trans (hb2.mono hB.size)
  have p0 := BA.cell 0
  have q0 := BB.cell 0
  have p1 := BA.cell 1
  have q1 := BB.cell 1
  have p2 := BA.cell 2
  have q2 := BB.cell 2
  have p3 := BA.cell 3
  have q3 := BB.cell 3
  have p4 := BA.cell 4
  have q4 := BB.cell 4
  have p5 := BA.cell 5
  have q5 := BB.cell 5
  have p6 := BA.cell 6
  have q6 := BB.cell 6
  have p7 := BA.cell 7
  have q7 := BB.cell 7
  have p8 := BA.cell 8
  have q8 := BB.cell 8
  have p9 := BA.cell 9
  have q9 := BB.cell 9
  have p10 := BA.cell 10
  have q10 := BB.cell 10
  have p11 := BA.cell 11
  have q11 := BB.cell 11
  have p12 := BA.cell 12
  have q12 := BB.cell 12
  have p13 := BA.cell 13
  have q13 := BB.cell 13
  have p14 := BA.cell 14
  have q14 := BB.cell 14
  simp only [Fld.arr, List.getElem?_toArray, List.getElem?_cons_zero, List.getElem?_cons_succ] at p0 q0 p1 q1 p2 q2 p3 q3 p4 q4 p5 q5 p6 q6 p7 q7 p8 q8 p9 q9 p10 q10 p11 q11 p12 q12 p13 q13 p14 q14
  have hlt2 := BB.lt
  clear HBA HBB hlt hB hb2
  have HBA := Lib.hid BA
  have HBB := Lib.hid BB
  clear BA BB
  cases bo2
  · go_wp2_with fail
    go_ret
    exact ⟨rfl, hB2⟩
  have G2 := Lib.hid (g2 rfl)
  clear g2
  go_wp2_with fail
  go_at_call 20
  refine (HF.out _ hB2).mono ?_
  rintro e w3 ⟨bo3, rfl, hb3, g3⟩
  clear p0 q0 p1 q1 p2 q2 p3 q3 p4 q4 p5 q5 p6 q6 p7 q7 p8 q8 p9 q9 p10 q10 p11 q11 p12 q12 p13 q13 p14 q14
  have BA := (HBA.out.alloc _).here hb3
  have BB := (HBB.out.alloc _).here hb3
  have hB3 : Below w.heap.size w w3 := (hB2.alloc hB2.size _).trans (hb3.mono (by simp; have := hB2.size; omega))
  have p0 := BA.cell 0
  have q0 := BB.cell 0
  have p1 := BA.cell 1
  have q1 := BB.cell 1
  have p2 := BA.cell 2
  have q2 := BB.cell 2
  have p3 := BA.cell 3
  have q3 := BB.cell 3
  have p4 := BA.cell 4
  have q4 := BB.cell 4
  have p5 := BA.cell 5
  have q5 := BB.cell 5
  have p6 := BA.cell 6
  have q6 := BB.cell 6
  have p7 := BA.cell 7
  have q7 := BB.cell 7
  have p8 := BA.cell 8
  have q8 := BB.cell 8
  have p9 := BA.cell 9
  have q9 := BB.cell 9
  have p10 := BA.cell 10
  have q10 := BB.cell 10
  have p11 := BA.cell 11
  have q11 := BB.cell 11
  have p12 := BA.cell 12
  have q12 := BB.cell 12
  have p13 := BA.cell 13
  have q13 := BB.cell 13
  have p14 := BA.cell 14
  have q14 := BB.cell 14
  simp only [Fld.arr, List.getElem?_toArray, List.getElem?_cons_zero, List.getElem?_cons_succ] at p0 q0 p1 q1 p2 q2 p3 q3 p4 q4 p5 q5 p6 q6 p7 q7 p8 q8 p9 q9 p10 q10 p11 q11 p12 q12 p13 q13 p14 q14
  have hlt3 := BB.lt
  clear HBA HBB hlt2 hB2 hb3
  have HBA := Lib.hid BA
  have HBB := Lib.hid BB
  clear BA BB
  cases bo3
  · go_wp2_with (go_at_call 15; go_must (refine (HAW.out _ hB3).mono ?_; rintro e w4 ⟨rfl, hb4⟩))
    go_ret
    exact ⟨rfl, hB3.trans (hb4.mono hB3.size)⟩
  have G3 := Lib.hid (g3 rfl)
  clear g3
  go_wp2_with fail
  go_at_call 21
  refine (HG.out _ hB3).mono ?_
  rintro e w4 ⟨bo4, rfl, hb4⟩
  clear p0 q0 p1 q1 p2 q2 p3 q3 p4 q4 p5 q5 p6 q6 p7 q7 p8 q8 p9 q9 p10 q10 p11 q11 p12 q12 p13 q13 p14 q14
  have BA := (HBA.out.alloc _).here hb4
  have BB := (HBB.out.alloc _).here hb4
  have hB4 : Below w.heap.size w w4 := (hB3.alloc hB3.size _).trans (hb4.mono (by simp; have := hB3.size; omega))
  have hlt4 := BB.lt
  clear HBA HBB hlt3 hB3 hb4
  cases bo4
  case true =>
    go_wp2_with (go_at_call 15; go_must (refine (HAW.out _ hB4).mono ?_; rintro e w5 ⟨rfl, hb5⟩))
    go_ret
    exact ⟨rfl, hB4.trans (hb5.mono hB4.size)⟩
  have Fa : Fine1 ta.f := G3.out 0 (by simp)
  have Fb : Fine1 tb.f := G3.out 1 (by simp)
  have Ra : Rng ta.f := by rw [HTA.out]; exact HR.out G1.out
  have Rb : Rng tb.f := by rw [HTB.out]; exact HS.out G2.out
  have H1 : Hid (∀ W, Below w.heap.size w W → Calls Tryz.prog 22 #[.agg (Fld.arr ⟨kind, key, width, int, uint, re, im, text, bA, bn, bc, zero, nanos, offset, zone, iA, ilen, ic, fail⟩), .agg (Fld.arr ⟨kind', key', width', int', uint', re', im', text', bA', bn', bc', zero', nanos', offset', zone', iA', ilen', ic', fail'⟩)] W (BoolIs (zeq ta tb) W)) := Lib.hid (fun W h => by have := (HE.out W h Fa Fb Ra Rb).1.1; rw [HTA.out, HTB.out] at this; exact this)
  have H2 : Hid (∀ W, Below w.heap.size w W → Calls Tryz.prog 23 #[.agg (Fld.arr ⟨kind, key, width, int, uint, re, im, text, bA, bn, bc, zero, nanos, offset, zone, iA, ilen, ic, fail⟩), .agg (Fld.arr ⟨kind', key', width', int', uint', re', im', text', bA', bn', bc', zero', nanos', offset', zone', iA', ilen', ic', fail'⟩)] W (BoolIs (zeq ta tb) W)) := Lib.hid (fun W h => by have := (HE.out W h Fa Fb Ra Rb).1.2; rw [HTA.out, HTB.out] at this; exact this)
  have H3 : Hid (∀ W, Below w.heap.size w W → Calls Tryz.prog 22 #[.agg (Fld.arr ⟨kind', key', width', int', uint', re', im', text', bA', bn', bc', zero', nanos', offset', zone', iA', ilen', ic', fail'⟩), .agg (Fld.arr ⟨kind, key, width, int, uint, re, im, text, bA, bn, bc, zero, nanos, offset, zone, iA, ilen, ic, fail⟩)] W (BoolIs (zeq ta tb) W)) := Lib.hid (fun W h => by have := (HE.out W h Fa Fb Ra Rb).2; rw [HTA.out, HTB.out, zeq_symm tb ta] at this; exact this)
  have H4 : Hid (∀ W, Calls Tryz.prog 22 #[.agg t0.f.arr, .agg t0.f.arr] W (BoolIs true W)) := Lib.hid (fun W => by have := zequals_pair W t0 t0 (t0_ok W) (t0_ok W) t0_fine t0_fine t0_rng t0_rng; rw [t0_eq] at this; exact this)
  clear HE HTA HTB HR HS G1 G2 G3 F1 F2 HF HG HAW Fa Fb Ra Rb
  generalize zeq ta tb = z at *
  clear ta tb
  have BAB := And.intro BA BB
  clear BA BB
  obtain ⟨va, hva⟩ : ∃ va, Value.agg #[.int .i64 kind, .string key, .int .i64 width, .int .i64 int, .int .u64 uint, .int .u64 re, .int .u64 im, .string text, .slice bA bn bc, .bool zero, .int .i64 nanos, .int .i64 offset, .string zone, .slice iA ilen ic, .string fail] = va := ⟨_, rfl⟩
  obtain ⟨vb, hvb⟩ : ∃ vb, Value.agg #[.int .i64 kind', .string key', .int .i64 width', .int .i64 int', .int .u64 uint', .int .u64 re', .int .u64 im', .string text', .slice bA' bn' bc', .bool zero', .int .i64 nanos', .int .i64 offset', .string zone', .slice iA' ilen' ic', .string fail'] = vb := ⟨_, rfl⟩
  have hva2 : Value.agg (Fld.arr ⟨kind, key, width, int, uint, re, im, text, bA, bn, bc, zero, nanos, offset, zone, iA, ilen, ic, fail⟩) = va := hva
  have hvb2 : Value.agg (Fld.arr ⟨kind', key', width', int', uint', re', im', text', bA', bn', bc', zero', nanos', offset', zone', iA', ilen', ic', fail'⟩) = vb := hvb
  have J1 : Hid (∀ W, Below w.heap.size w W → Calls Tryz.prog 22 #[va, vb] W (BoolIs z W)) := by rw [← hva2, ← hvb2]; exact H1
  have J2 : Hid (∀ W, Below w.heap.size w W → Calls Tryz.prog 23 #[va, vb] W (BoolIs z W)) := by rw [← hva2, ← hvb2]; exact H2
  have J3 : Hid (∀ W, Below w.heap.size w W → Calls Tryz.prog 22 #[vb, va] W (BoolIs z W)) := by rw [← hva2, ← hvb2]; exact H3
  clear H1 H2 H3
  go_wp2_with fail
  try simp only [hva, hvb, hva2, hvb2]
  clear hva2 hvb2
  as_aux_lemma =>
    refine wp_region_noPanic ?_
    refine wp_region_held_drew (S := fun W => Blk W w.heap.size 39 (Fld.arr ⟨kind, key, width, int, uint, re, im, text, bA, bn, bc, zero, nanos, offset, zone, iA, ilen, ic, fail⟩) ∧ Blk W (w.heap.size + 1) 39 (Fld.arr ⟨kind', key', width', int', uint', re', im', text', bA', bn', bc', zero', nanos', offset', zone', iA', ilen', ic', fail'⟩)) (by kernel_rfl) ⟨BAB.1.drew, BAB.2.drew⟩ (fun hHeld => ?_)
    refine wpAnyH_take (i := 0) (oi := ⟨some 25, .load 39 (.tmp 2), _, _, _, _⟩) (v := va) rfl (by kernel_rfl) (by kernel_rfl) (by kernel_rfl) (fun _ _ _ h => h) (Or.inl ⟨by rfl, ?yv1⟩) (by assumption) ?rv1
    case yv1 => (intro W hSw; have p0 := hSw.1.cell 0; have p1 := hSw.1.cell 1; have p2 := hSw.1.cell 2; have p3 := hSw.1.cell 3; have p4 := hSw.1.cell 4; have p5 := hSw.1.cell 5; have p6 := hSw.1.cell 6; have p7 := hSw.1.cell 7; have p8 := hSw.1.cell 8; have p9 := hSw.1.cell 9; have p10 := hSw.1.cell 10; have p11 := hSw.1.cell 11; have p12 := hSw.1.cell 12; have p13 := hSw.1.cell 13; have p14 := hSw.1.cell 14; simp only [Fld.arr, List.getElem?_toArray, List.getElem?_cons_zero, List.getElem?_cons_succ] at p0 p1 p2 p3 p4 p5 p6 p7 p8 p9 p10 p11 p12 p13 p14; clear hSw; go_simp;  first | done | exact hva | exact hvb | with_reducible rfl)
    try simp only [Act.put, List.setIfInBounds_toArray, List.set_cons_zero, List.set_cons_succ]
    refine wpAnyH_take (i := 1) (oi := ⟨some 26, .load 39 (.tmp 3), _, _, _, _⟩) (v := vb) rfl (by kernel_rfl) (by kernel_rfl) (by kernel_rfl) (fun _ _ _ h => h) (Or.inl ⟨by rfl, ?yv2⟩) (by assumption) ?rv2
    case yv2 => (intro W hSw; have p0 := hSw.2.cell 0; have p1 := hSw.2.cell 1; have p2 := hSw.2.cell 2; have p3 := hSw.2.cell 3; have p4 := hSw.2.cell 4; have p5 := hSw.2.cell 5; have p6 := hSw.2.cell 6; have p7 := hSw.2.cell 7; have p8 := hSw.2.cell 8; have p9 := hSw.2.cell 9; have p10 := hSw.2.cell 10; have p11 := hSw.2.cell 11; have p12 := hSw.2.cell 12; have p13 := hSw.2.cell 13; have p14 := hSw.2.cell 14; simp only [Fld.arr, List.getElem?_toArray, List.getElem?_cons_zero, List.getElem?_cons_succ] at p0 p1 p2 p3 p4 p5 p6 p7 p8 p9 p10 p11 p12 p13 p14; clear hSw; go_simp;  first | done | exact hva | exact hvb | with_reducible rfl)
    try simp only [Act.put, List.setIfInBounds_toArray, List.set_cons_zero, List.set_cons_succ]
    refine wpAnyH_take (i := 3) (oi := ⟨some 28, .load 39 (.tmp 2), _, _, _, _⟩) (v := va) rfl (by kernel_rfl) (by kernel_rfl) (by kernel_rfl) (fun _ _ _ h => h) (Or.inl ⟨by rfl, ?yv3⟩) (by assumption) ?rv3
    case yv3 => (intro W hSw; have p0 := hSw.1.cell 0; have p1 := hSw.1.cell 1; have p2 := hSw.1.cell 2; have p3 := hSw.1.cell 3; have p4 := hSw.1.cell 4; have p5 := hSw.1.cell 5; have p6 := hSw.1.cell 6; have p7 := hSw.1.cell 7; have p8 := hSw.1.cell 8; have p9 := hSw.1.cell 9; have p10 := hSw.1.cell 10; have p11 := hSw.1.cell 11; have p12 := hSw.1.cell 12; have p13 := hSw.1.cell 13; have p14 := hSw.1.cell 14; simp only [Fld.arr, List.getElem?_toArray, List.getElem?_cons_zero, List.getElem?_cons_succ] at p0 p1 p2 p3 p4 p5 p6 p7 p8 p9 p10 p11 p12 p13 p14; clear hSw; go_simp;  first | done | exact hva | exact hvb | with_reducible rfl)
    try simp only [Act.put, List.setIfInBounds_toArray, List.set_cons_zero, List.set_cons_succ]
    refine wpAnyH_take (i := 4) (oi := ⟨some 29, .load 39 (.tmp 3), _, _, _, _⟩) (v := vb) rfl (by kernel_rfl) (by kernel_rfl) (by kernel_rfl) (fun _ _ _ h => h) (Or.inl ⟨by rfl, ?yv4⟩) (by assumption) ?rv4
    case yv4 => (intro W hSw; have p0 := hSw.2.cell 0; have p1 := hSw.2.cell 1; have p2 := hSw.2.cell 2; have p3 := hSw.2.cell 3; have p4 := hSw.2.cell 4; have p5 := hSw.2.cell 5; have p6 := hSw.2.cell 6; have p7 := hSw.2.cell 7; have p8 := hSw.2.cell 8; have p9 := hSw.2.cell 9; have p10 := hSw.2.cell 10; have p11 := hSw.2.cell 11; have p12 := hSw.2.cell 12; have p13 := hSw.2.cell 13; have p14 := hSw.2.cell 14; simp only [Fld.arr, List.getElem?_toArray, List.getElem?_cons_zero, List.getElem?_cons_succ] at p0 p1 p2 p3 p4 p5 p6 p7 p8 p9 p10 p11 p12 p13 p14; clear hSw; go_simp;  first | done | exact hva | exact hvb | with_reducible rfl)
    try simp only [Act.put, List.setIfInBounds_toArray, List.set_cons_zero, List.set_cons_succ]
    refine wpAnyH_ready (rs := [2]) (by kernel_rfl) (by simp) ?_
    refine AllReadyH.cons (o := ⟨some 27, .call { callee := .value (.func 22), args := #[.tmp 25, .tmp 26], argTypes := #[39, 39] }, _, _, _, _⟩) rfl (fun Kx hKx => ?_) AllReadyH.nil
    (go_simp; go_at_call 22; refine (J1.out _ hB4.drew).mono ?_; rintro e u1 ⟨rfl, hbL⟩; have hC1 : Below w.heap.size w u1 := (hB4.drew).trans (hbL.mono (hB4.drew).size))
    refine hKx.out _ _ (by (try dsimp only); (exact ⟨hHeld.1.here hbL, hHeld.2.here hbL⟩)) (fun hNew => ?_)
    clear hKx Kx hHeld
    have hHeld := hNew
    clear hNew
    try simp only [Act.put, List.setIfInBounds_toArray, List.set_cons_zero, List.set_cons_succ]
    refine wpAnyH_ready (rs := [5]) (by kernel_rfl) (by simp) ?_
    refine AllReadyH.cons (o := ⟨some 30, .call { callee := .value (.func 23), args := #[.tmp 28, .tmp 29], argTypes := #[39, 39] }, _, _, _, _⟩) rfl (fun Kx hKx => ?_) AllReadyH.nil
    (go_simp; go_at_call 23; refine (J2.out _ hC1).mono ?_; rintro e u2 ⟨rfl, hbL⟩; have hC2 : Below w.heap.size w u2 := (hC1).trans (hbL.mono (hC1).size))
    refine hKx.out _ _ (by (try dsimp only); (exact ⟨hHeld.1.here hbL, hHeld.2.here hbL⟩)) (fun hNew => ?_)
    clear hKx Kx hHeld
    have hHeld := hNew
    clear hNew
    try simp only [Act.put, List.setIfInBounds_toArray, List.set_cons_zero, List.set_cons_succ]
    refine wpAnyH_take (i := 6) (oi := ⟨some 31, .binOp .eql 4 (.tmp 27) (.tmp 30) 4, _, _, _, _⟩) (v := ?vv5) rfl (by kernel_rfl) (by kernel_rfl) (by kernel_rfl) (fun _ _ _ h => h) (Or.inl ⟨by rfl, ?yv5⟩) (by assumption) ?rv5
    case yv5 => (intro W hSw; clear hSw; go_simp; first | done | exact hva | exact hvb | with_reducible rfl)
    try simp only [Act.put, List.setIfInBounds_toArray, List.set_cons_zero, List.set_cons_succ]
    refine wpAnyH_take (i := 7) (oi := ⟨some 32, .move (.tmp 31), _, _, _, _⟩) (v := ?vv6) rfl (by kernel_rfl) (by kernel_rfl) (by kernel_rfl) (fun _ _ _ h => h) (Or.inl ⟨by rfl, ?yv6⟩) (by assumption) ?rv6
    case yv6 => (intro W hSw; clear hSw; go_simp; first | done | exact hva | exact hvb | with_reducible rfl)
    try simp only [Act.put, List.setIfInBounds_toArray, List.set_cons_zero, List.set_cons_succ]
    refine wpAnyH_take (i := 8) (oi := ⟨some 33, .load 39 (.tmp 3), _, _, _, _⟩) (v := vb) rfl (by kernel_rfl) (by kernel_rfl) (by kernel_rfl) (fun _ _ _ h => h) (Or.inl ⟨by rfl, ?yv7⟩) (by assumption) ?rv7
    case yv7 => (intro W hSw; have p0 := hSw.2.cell 0; have p1 := hSw.2.cell 1; have p2 := hSw.2.cell 2; have p3 := hSw.2.cell 3; have p4 := hSw.2.cell 4; have p5 := hSw.2.cell 5; have p6 := hSw.2.cell 6; have p7 := hSw.2.cell 7; have p8 := hSw.2.cell 8; have p9 := hSw.2.cell 9; have p10 := hSw.2.cell 10; have p11 := hSw.2.cell 11; have p12 := hSw.2.cell 12; have p13 := hSw.2.cell 13; have p14 := hSw.2.cell 14; simp only [Fld.arr, List.getElem?_toArray, List.getElem?_cons_zero, List.getElem?_cons_succ] at p0 p1 p2 p3 p4 p5 p6 p7 p8 p9 p10 p11 p12 p13 p14; clear hSw; go_simp;  first | done | exact hva | exact hvb | with_reducible rfl)
    try simp only [Act.put, List.setIfInBounds_toArray, List.set_cons_zero, List.set_cons_succ]
    refine wpAnyH_take (i := 9) (oi := ⟨some 34, .load 39 (.tmp 2), _, _, _, _⟩) (v := va) rfl (by kernel_rfl) (by kernel_rfl) (by kernel_rfl) (fun _ _ _ h => h) (Or.inl ⟨by rfl, ?yv8⟩) (by assumption) ?rv8
    case yv8 => (intro W hSw; have p0 := hSw.1.cell 0; have p1 := hSw.1.cell 1; have p2 := hSw.1.cell 2; have p3 := hSw.1.cell 3; have p4 := hSw.1.cell 4; have p5 := hSw.1.cell 5; have p6 := hSw.1.cell 6; have p7 := hSw.1.cell 7; have p8 := hSw.1.cell 8; have p9 := hSw.1.cell 9; have p10 := hSw.1.cell 10; have p11 := hSw.1.cell 11; have p12 := hSw.1.cell 12; have p13 := hSw.1.cell 13; have p14 := hSw.1.cell 14; simp only [Fld.arr, List.getElem?_toArray, List.getElem?_cons_zero, List.getElem?_cons_succ] at p0 p1 p2 p3 p4 p5 p6 p7 p8 p9 p10 p11 p12 p13 p14; clear hSw; go_simp;  first | done | exact hva | exact hvb | with_reducible rfl)
    try simp only [Act.put, List.setIfInBounds_toArray, List.set_cons_zero, List.set_cons_succ]
    refine wpAnyH_take (i := 11) (oi := ⟨some 36, .load 39 (.tmp 2), _, _, _, _⟩) (v := va) rfl (by kernel_rfl) (by kernel_rfl) (by kernel_rfl) (fun _ _ _ h => h) (Or.inl ⟨by rfl, ?yv9⟩) (by assumption) ?rv9
    case yv9 => (intro W hSw; have p0 := hSw.1.cell 0; have p1 := hSw.1.cell 1; have p2 := hSw.1.cell 2; have p3 := hSw.1.cell 3; have p4 := hSw.1.cell 4; have p5 := hSw.1.cell 5; have p6 := hSw.1.cell 6; have p7 := hSw.1.cell 7; have p8 := hSw.1.cell 8; have p9 := hSw.1.cell 9; have p10 := hSw.1.cell 10; have p11 := hSw.1.cell 11; have p12 := hSw.1.cell 12; have p13 := hSw.1.cell 13; have p14 := hSw.1.cell 14; simp only [Fld.arr, List.getElem?_toArray, List.getElem?_cons_zero, List.getElem?_cons_succ] at p0 p1 p2 p3 p4 p5 p6 p7 p8 p9 p10 p11 p12 p13 p14; clear hSw; go_simp;  first | done | exact hva | exact hvb | with_reducible rfl)
    try simp only [Act.put, List.setIfInBounds_toArray, List.set_cons_zero, List.set_cons_succ]
    refine wpAnyH_take (i := 12) (oi := ⟨some 37, .load 39 (.tmp 3), _, _, _, _⟩) (v := vb) rfl (by kernel_rfl) (by kernel_rfl) (by kernel_rfl) (fun _ _ _ h => h) (Or.inl ⟨by rfl, ?yv10⟩) (by assumption) ?rv10
    case yv10 => (intro W hSw; have p0 := hSw.2.cell 0; have p1 := hSw.2.cell 1; have p2 := hSw.2.cell 2; have p3 := hSw.2.cell 3; have p4 := hSw.2.cell 4; have p5 := hSw.2.cell 5; have p6 := hSw.2.cell 6; have p7 := hSw.2.cell 7; have p8 := hSw.2.cell 8; have p9 := hSw.2.cell 9; have p10 := hSw.2.cell 10; have p11 := hSw.2.cell 11; have p12 := hSw.2.cell 12; have p13 := hSw.2.cell 13; have p14 := hSw.2.cell 14; simp only [Fld.arr, List.getElem?_toArray, List.getElem?_cons_zero, List.getElem?_cons_succ] at p0 p1 p2 p3 p4 p5 p6 p7 p8 p9 p10 p11 p12 p13 p14; clear hSw; go_simp;  first | done | exact hva | exact hvb | with_reducible rfl)
    try simp only [Act.put, List.setIfInBounds_toArray, List.set_cons_zero, List.set_cons_succ]
    refine wpAnyH_ready (rs := [10]) (by kernel_rfl) (by simp) ?_
    refine AllReadyH.cons (o := ⟨some 35, .call { callee := .value (.func 22), args := #[.tmp 33, .tmp 34], argTypes := #[39, 39] }, _, _, _, _⟩) rfl (fun Kx hKx => ?_) AllReadyH.nil
    (go_simp; go_at_call 22; refine (J3.out _ hC2).mono ?_; rintro e u3 ⟨rfl, hbL⟩; have hC3 : Below w.heap.size w u3 := (hC2).trans (hbL.mono (hC2).size))
    refine hKx.out _ _ (by (try dsimp only); (exact ⟨hHeld.1.here hbL, hHeld.2.here hbL⟩)) (fun hNew => ?_)
    clear hKx Kx hHeld
    have hHeld := hNew
    clear hNew
    try simp only [Act.put, List.setIfInBounds_toArray, List.set_cons_zero, List.set_cons_succ]
    refine wpAnyH_ready (rs := [13]) (by kernel_rfl) (by simp) ?_
    refine AllReadyH.cons (o := ⟨some 38, .call { callee := .value (.func 22), args := #[.tmp 36, .tmp 37], argTypes := #[39, 39] }, _, _, _, _⟩) rfl (fun Kx hKx => ?_) AllReadyH.nil
    (go_simp; go_at_call 22; refine (J1.out _ hC3).mono ?_; rintro e u4 ⟨rfl, hbL⟩; have hC4 : Below w.heap.size w u4 := (hC3).trans (hbL.mono (hC3).size))
    refine hKx.out _ _ (by (try dsimp only); (exact ⟨hHeld.1.here hbL, hHeld.2.here hbL⟩)) (fun hNew => ?_)
    clear hKx Kx hHeld
    have hHeld := hNew
    clear hNew
    try simp only [Act.put, List.setIfInBounds_toArray, List.set_cons_zero, List.set_cons_succ]
    refine wpAnyH_take (i := 14) (oi := ⟨some 39, .binOp .eql 4 (.tmp 35) (.tmp 38) 4, _, _, _, _⟩) (v := ?vv11) rfl (by kernel_rfl) (by kernel_rfl) (by kernel_rfl) (fun _ _ _ h => h) (Or.inl ⟨by rfl, ?yv11⟩) (by assumption) ?rv11
    case yv11 => (intro W hSw; clear hSw; go_simp; first | done | exact hva | exact hvb | with_reducible rfl)
    try simp only [Act.put, List.setIfInBounds_toArray, List.set_cons_zero, List.set_cons_succ]
    refine wpAnyH_take (i := 15) (oi := ⟨some 40, .pick (.tmp 32) (.tmp 39) (.const (.bool false)), _, _, _, _⟩) (v := ?vv12) rfl (by kernel_rfl) (by kernel_rfl) (by kernel_rfl) (fun _ _ _ h => h) (Or.inl ⟨by rfl, ?yv12⟩) (by assumption) ?rv12
    case yv12 => (intro W hSw; clear hSw; go_simp; first | done | exact hva | exact hvb | with_reducible rfl)
    try simp only [Act.put, List.setIfInBounds_toArray, List.set_cons_zero, List.set_cons_succ]
    refine wpAnyH_take (i := 16) (oi := ⟨some 41, .move (.tmp 40), _, _, _, _⟩) (v := ?vv13) rfl (by kernel_rfl) (by kernel_rfl) (by kernel_rfl) (fun _ _ _ h => h) (Or.inl ⟨by rfl, ?yv13⟩) (by assumption) ?rv13
    case yv13 => (intro W hSw; clear hSw; go_simp; first | done | exact hva | exact hvb | with_reducible rfl)
    try simp only [Act.put, List.setIfInBounds_toArray, List.set_cons_zero, List.set_cons_succ]
    refine wpAnyH_take (i := 17) (oi := ⟨some 42, .build 39 #[(0, .const (.int .i64 1))], _, _, _, _⟩) (v := ?vv14) rfl (by kernel_rfl) (by kernel_rfl) (by kernel_rfl) (fun _ _ _ h => h) (Or.inl ⟨by rfl, ?yv14⟩) (by assumption) ?rv14
    case yv14 => (intro W hSw; clear hSw; go_simp; first | done | exact hva | exact hvb | with_reducible rfl)
    try simp only [Act.put, List.setIfInBounds_toArray, List.set_cons_zero, List.set_cons_succ]
    refine wpAnyH_take (i := 18) (oi := ⟨some 43, .build 39 #[(0, .const (.int .i64 1))], _, _, _, _⟩) (v := ?vv15) rfl (by kernel_rfl) (by kernel_rfl) (by kernel_rfl) (fun _ _ _ h => h) (Or.inl ⟨by rfl, ?yv15⟩) (by assumption) ?rv15
    case yv15 => (intro W hSw; clear hSw; go_simp; first | done | exact hva | exact hvb | with_reducible rfl)
    try simp only [Act.put, List.setIfInBounds_toArray, List.set_cons_zero, List.set_cons_succ]
    refine wpAnyH_ready (rs := [19]) (by kernel_rfl) (by simp) ?_
    refine AllReadyH.cons (o := ⟨some 44, .call { callee := .value (.func 22), args := #[.tmp 42, .tmp 43], argTypes := #[39, 39] }, _, _, _, _⟩) rfl (fun Kx hKx => ?_) AllReadyH.nil
    (go_simp; go_at_call 22; refine (H4.out _).mono ?_; rintro e u5 ⟨rfl, hbL⟩; have hC5 : Below w.heap.size w u5 := (hC4).trans (hbL.mono (hC4).size))
    refine hKx.out _ _ (by (try dsimp only); (exact ⟨hHeld.1.here hbL, hHeld.2.here hbL⟩)) (fun hNew => ?_)
    clear hKx Kx hHeld
    have hHeld := hNew
    clear hNew
    try simp only [Act.put, List.setIfInBounds_toArray, List.set_cons_zero, List.set_cons_succ]
    refine wpAnyH_take (i := 20) (oi := ⟨some 45, .pick (.tmp 41) (.tmp 44) (.const (.bool false)), _, _, _, _⟩) (v := ?vv16) rfl (by kernel_rfl) (by kernel_rfl) (by kernel_rfl) (fun _ _ _ h => h) (Or.inl ⟨by rfl, ?yv16⟩) (by assumption) ?rv16
    case yv16 => (intro W hSw; clear hSw; go_simp; first | done | exact hva | exact hvb | with_reducible rfl)
    try simp only [Act.put, List.setIfInBounds_toArray, List.set_cons_zero, List.set_cons_succ]
    refine wpAnyH_take (i := 21) (oi := ⟨some 4, .assign (.tmp 45), _, _, _, _⟩) (v := ?vv17) rfl (by kernel_rfl) (by kernel_rfl) (by kernel_rfl) (fun _ _ _ h => h) (Or.inl ⟨by rfl, ?yv17⟩) (by assumption) ?rv17
    case yv17 => (intro W hSw; clear hSw; go_simp; first | done | exact hva | exact hvb | with_reducible rfl)
    try simp only [Act.put, List.setIfInBounds_toArray, List.set_cons_zero, List.set_cons_succ]
    refine wpAnyH_done (by kernel_rfl) ?_ _
    refine NoPanic.normal ?_
    (go_wp2_with fail; go_ret; exact ⟨rfl, hC5⟩)
end Go.Proofs.YtieidjlmgalihaaGreatDoor
