/- sameItems' closure. -/
import Derived.Test.YtieidjlmgalihaaGreatDoorEqG
set_option linter.all false
namespace Go.Proofs.YtieidjlmgalihaaGreatDoor
open Go.RowKit
set_option maxRecDepth 100000
/-- What a comparison leaves. -/
def BoolIs (b : Bool) (w : World) (e : Ending) (w' : World) : Prop := e = .returned (.bool b) ∧ Below w.heap.size w w'
set_option maxHeartbeats 8000000 in
theorem same1_any (w : World) (t u : FT) (ht : t.ok w) (hu : u.ok w) (ih : ∀ W, Below w.heap.size w W → Calls Tryz.prog 352 #[.slice t.f.iA t.f.ilen t.f.ic, .slice u.f.iA u.f.ilen u.f.ic] W (BoolIs (alikeL t.kids u.kids) W)) :
    Calls Tryz.prog 354 #[.agg t.f.arr, .agg u.f.arr] w (BoolIs (t.alike u) w) := by
  have hs := fun W (h : Below w.heap.size w W) => sliceEq_any W t.f.bA u.f.bA t.bs u.bs t.f.bn u.f.bn t.f.bc u.f.bc (FT.ok_bytes ht).2.1 (FT.ok_bytes hu).2.1 ((FT.ok_bytes ht).2.2.below h) ((FT.ok_bytes hu).2.2.below h) (FT.ok_bytes ht).1 (FT.ok_bytes hu).1
  have HS := Lib.hid hs
  have HI := Lib.hid ih
  have HA := Lib.hid (FT.alike_eq t u)
  clear hs ih ht hu
  generalize t.bs = x at *
  generalize u.bs = y at *
  generalize alikeL t.kids u.kids = kb at *
  generalize t.alike u = res at *
  generalize t.f = f at *
  generalize u.f = g at *
  obtain ⟨kind, key, width, int, uint, re, im, text, bA, bn, bc, zero, nanos, offset, zone, iA, ilen, ic, fail⟩ := f
  obtain ⟨kind', key', width', int', uint', re', im', text', bA', bn', bc', zero', nanos', offset', zone', iA', ilen', ic', fail'⟩ := g
  simp only [alike1, momEq] at HA HS HI
  have h23 := fun W => eql23 W zero zero' nanos nanos' offset offset' zone zone'
  obtain ⟨mb, hmb⟩ : ∃ mb, mb = (zero == zero' && nanos == nanos' && offset == offset' && zone.toList == zone'.toList) := ⟨_, rfl⟩
  obtain ⟨xb, hxb⟩ : ∃ xb, xb = (x == y) := ⟨_, rfl⟩
  rw [← hmb] at h23
  rw [← hmb, ← hxb] at HA
  rw [← hxb] at HS
  clear hmb hxb
  go_enter Tryz.func354, Tryz.ntmps354
  go_wp2_with (first
    | (go_at_call 355; go_must (refine (HS.out _ (by go_grown)).mono ?_; rintro e w1 ⟨rfl, hb1⟩; have B0 := ((Blk.new w 39 _).alloc _).here hb1; have B1 := (Blk.new_at _ 39 _ (w.heap.size + 1) (by simp)).here hb1; have p9 := B0.cell 9; have p10 := B0.cell 10; have p11 := B0.cell 11; have p12 := B0.cell 12; have p13 := B0.cell 13; have p14 := B0.cell 14; have q9 := B1.cell 9; have q10 := B1.cell 10; have q11 := B1.cell 11; have q12 := B1.cell 12; have q13 := B1.cell 13; have q14 := B1.cell 14; simp only [Fld.arr, List.getElem?_toArray, List.getElem?_cons_zero, List.getElem?_cons_succ] at p9 p10 p11 p12 p13 p14 q9 q10 q11 q12 q13 q14; have hB : Below w.heap.size w w1 := Below.trans (by go_grown) (hb1.mono (by simp; omega)); clear B0 B1 hb1; cases xb <;> cases mb))
    | (go_at_call 352; go_must (refine (HI.out _ hB).mono ?_; rintro e w2 ⟨rfl, hb2⟩)))
  all_goals first
    | (obtain rfl : res = false := by rw [HA.out]; simp [*]
       go_ret
       exact ⟨rfl, by first | (go_grown; done) | exact hB⟩)
    | (obtain rfl : res = kb := by rw [HA.out]; simp [*]
       go_ret
       exact ⟨rfl, hB.trans (hb2.mono hB.size)⟩)
end Go.Proofs.YtieidjlmgalihaaGreatDoor
