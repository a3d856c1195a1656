/- ZSameField. -/
import Derived.Test.YtieidjlmgalihaaGreatDoorEqG
import Derived.Test.YtieidjlmgalihaaGreatDoorEqH
set_option linter.all false
namespace Go.Proofs.YtieidjlmgalihaaGreatDoor
open Go.RowKit
set_option maxRecDepth 100000
set_option maxHeartbeats 2000000 in
theorem zsf_kind (w : World) (f g : Fld) (h : (f.kind != g.kind) = true) : Calls Tryz.prog 23 #[.agg f.arr, .agg g.arr] w (BoolIs false w) := by
  obtain ⟨kind, key, width, int, uint, re, im, text, bA, bn, bc, zero, nanos, offset, zone, iA, ilen, ic, fail⟩ := f
  obtain ⟨kind', key', width', int', uint', re', im', text', bA', bn', bc', zero', nanos', offset', zone', iA', ilen', ic', fail'⟩ := g
  simp only at h
  go_enter Tryz.func23, Tryz.ntmps23
  go_wp2_with fail
  go_ret
  exact ⟨rfl, by go_grown⟩
set_option maxHeartbeats 2000000 in
theorem zsf_key (w : World) (f g : Fld) (h : f.kind = g.kind) (hk : (f.key.toList == g.key.toList) = false) : Calls Tryz.prog 23 #[.agg f.arr, .agg g.arr] w (BoolIs false w) := by
  obtain ⟨kind, key, width, int, uint, re, im, text, bA, bn, bc, zero, nanos, offset, zone, iA, ilen, ic, fail⟩ := f
  obtain ⟨kind', key', width', int', uint', re', im', text', bA', bn', bc', zero', nanos', offset', zone', iA', ilen', ic', fail'⟩ := g
  simp only at h hk
  subst h
  go_enter Tryz.func23, Tryz.ntmps23
  go_wp2_with fail
  go_ret
  exact ⟨rfl, by go_grown⟩
set_option maxHeartbeats 2000000 in
theorem zsf_skip (w : World) (f g : Fld) (h : f.kind = 0) (h' : g.kind = 0) (hk : (f.key.toList == g.key.toList) = true) : Calls Tryz.prog 23 #[.agg f.arr, .agg g.arr] w (BoolIs (true) w) := by
  obtain ⟨kind, key, width, int, uint, re, im, text, bA, bn, bc, zero, nanos, offset, zone, iA, ilen, ic, fail⟩ := f
  obtain ⟨kind', key', width', int', uint', re', im', text', bA', bn', bc', zero', nanos', offset', zone', iA', ilen', ic', fail'⟩ := g
  simp only at h h' hk 
  subst h h'
  go_enter Tryz.func23, Tryz.ntmps23
  go_wp2_with fail
  all_goals first
    | (exfalso; simp_all; done)
    | (go_ret; exact ⟨rfl, by go_grown⟩)
    | (go_ret; exact ⟨by simp [*], by go_grown⟩)
set_option maxHeartbeats 2000000 in
theorem zsf_ns (w : World) (f g : Fld) (h : f.kind = 14) (h' : g.kind = 14) (hk : (f.key.toList == g.key.toList) = true) : Calls Tryz.prog 23 #[.agg f.arr, .agg g.arr] w (BoolIs (true) w) := by
  obtain ⟨kind, key, width, int, uint, re, im, text, bA, bn, bc, zero, nanos, offset, zone, iA, ilen, ic, fail⟩ := f
  obtain ⟨kind', key', width', int', uint', re', im', text', bA', bn', bc', zero', nanos', offset', zone', iA', ilen', ic', fail'⟩ := g
  simp only at h h' hk 
  subst h h'
  go_enter Tryz.func23, Tryz.ntmps23
  go_wp2_with fail
  all_goals first
    | (exfalso; simp_all; done)
    | (go_ret; exact ⟨rfl, by go_grown⟩)
    | (go_ret; exact ⟨by simp [*], by go_grown⟩)
set_option maxHeartbeats 2000000 in
theorem zsf_inl (w : World) (f g : Fld) (h : f.kind = 17) (h' : g.kind = 17) (hk : (f.key.toList == g.key.toList) = true) : Calls Tryz.prog 23 #[.agg f.arr, .agg g.arr] w (BoolIs (false) w) := by
  obtain ⟨kind, key, width, int, uint, re, im, text, bA, bn, bc, zero, nanos, offset, zone, iA, ilen, ic, fail⟩ := f
  obtain ⟨kind', key', width', int', uint', re', im', text', bA', bn', bc', zero', nanos', offset', zone', iA', ilen', ic', fail'⟩ := g
  simp only at h h' hk 
  subst h h'
  go_enter Tryz.func23, Tryz.ntmps23
  go_wp2_with fail
  all_goals first
    | (exfalso; simp_all; done)
    | (go_ret; exact ⟨rfl, by go_grown⟩)
    | (go_ret; exact ⟨by simp [*], by go_grown⟩)
set_option maxHeartbeats 2000000 in
theorem zsf_errs (w : World) (f g : Fld) (h : f.kind = 18) (h' : g.kind = 18) (hk : (f.key.toList == g.key.toList) = true) : Calls Tryz.prog 23 #[.agg f.arr, .agg g.arr] w (BoolIs (false) w) := by
  obtain ⟨kind, key, width, int, uint, re, im, text, bA, bn, bc, zero, nanos, offset, zone, iA, ilen, ic, fail⟩ := f
  obtain ⟨kind', key', width', int', uint', re', im', text', bA', bn', bc', zero', nanos', offset', zone', iA', ilen', ic', fail'⟩ := g
  simp only at h h' hk 
  subst h h'
  go_enter Tryz.func23, Tryz.ntmps23
  go_wp2_with fail
  all_goals first
    | (exfalso; simp_all; done)
    | (go_ret; exact ⟨rfl, by go_grown⟩)
    | (go_ret; exact ⟨by simp [*], by go_grown⟩)
set_option maxHeartbeats 2000000 in
theorem zsf_err (w : World) (f g : Fld) (h : f.kind = 12) (h' : g.kind = 12) (hk : (f.key.toList == g.key.toList) = true) : Calls Tryz.prog 23 #[.agg f.arr, .agg g.arr] w (BoolIs (f.text.toList == g.text.toList) w) := by
  obtain ⟨kind, key, width, int, uint, re, im, text, bA, bn, bc, zero, nanos, offset, zone, iA, ilen, ic, fail⟩ := f
  obtain ⟨kind', key', width', int', uint', re', im', text', bA', bn', bc', zero', nanos', offset', zone', iA', ilen', ic', fail'⟩ := g
  simp only at h h' hk 
  subst h h'
  go_enter Tryz.func23, Tryz.ntmps23
  go_wp2_with fail
  all_goals first
    | (exfalso; simp_all; done)
    | (go_ret; exact ⟨rfl, by go_grown⟩)
    | (go_ret; exact ⟨by simp [*], by go_grown⟩)
set_option maxHeartbeats 2000000 in
theorem zsf_strg (w : World) (f g : Fld) (h : f.kind = 13) (h' : g.kind = 13) (hk : (f.key.toList == g.key.toList) = true) : Calls Tryz.prog 23 #[.agg f.arr, .agg g.arr] w (BoolIs (f.text.toList == g.text.toList) w) := by
  obtain ⟨kind, key, width, int, uint, re, im, text, bA, bn, bc, zero, nanos, offset, zone, iA, ilen, ic, fail⟩ := f
  obtain ⟨kind', key', width', int', uint', re', im', text', bA', bn', bc', zero', nanos', offset', zone', iA', ilen', ic', fail'⟩ := g
  simp only at h h' hk 
  subst h h'
  go_enter Tryz.func23, Tryz.ntmps23
  go_wp2_with fail
  all_goals first
    | (exfalso; simp_all; done)
    | (go_ret; exact ⟨rfl, by go_grown⟩)
    | (go_ret; exact ⟨by simp [*], by go_grown⟩)
set_option maxHeartbeats 2000000 in
theorem zsf_str (w : World) (f g : Fld) (h : f.kind = 7) (h' : g.kind = 7) (hk : (f.key.toList == g.key.toList) = true) : Calls Tryz.prog 23 #[.agg f.arr, .agg g.arr] w (BoolIs (f.text.toList == g.text.toList) w) := by
  obtain ⟨kind, key, width, int, uint, re, im, text, bA, bn, bc, zero, nanos, offset, zone, iA, ilen, ic, fail⟩ := f
  obtain ⟨kind', key', width', int', uint', re', im', text', bA', bn', bc', zero', nanos', offset', zone', iA', ilen', ic', fail'⟩ := g
  simp only at h h' hk 
  subst h h'
  go_enter Tryz.func23, Tryz.ntmps23
  go_wp2_with fail
  all_goals first
    | (exfalso; simp_all; done)
    | (go_ret; exact ⟨rfl, by go_grown⟩)
    | (go_ret; exact ⟨by simp [*], by go_grown⟩)
set_option maxHeartbeats 2000000 in
theorem zsf_bool (w : World) (f g : Fld) (h : f.kind = 1) (h' : g.kind = 1) (hk : (f.key.toList == g.key.toList) = true) : Calls Tryz.prog 23 #[.agg f.arr, .agg g.arr] w (BoolIs ((f.int != 0) == (g.int != 0)) w) := by
  obtain ⟨kind, key, width, int, uint, re, im, text, bA, bn, bc, zero, nanos, offset, zone, iA, ilen, ic, fail⟩ := f
  obtain ⟨kind', key', width', int', uint', re', im', text', bA', bn', bc', zero', nanos', offset', zone', iA', ilen', ic', fail'⟩ := g
  simp only at h h' hk 
  subst h h'
  go_enter Tryz.func23, Tryz.ntmps23
  go_wp2_with fail
  all_goals first
    | (exfalso; simp_all; done)
    | (go_ret; exact ⟨rfl, by go_grown⟩)
    | (go_ret; exact ⟨by simp [*], by go_grown⟩)
set_option maxHeartbeats 2000000 in
theorem zsf_int (w : World) (f g : Fld) (h : f.kind = 2) (h' : g.kind = 2) (hk : (f.key.toList == g.key.toList) = true) : Calls Tryz.prog 23 #[.agg f.arr, .agg g.arr] w (BoolIs (f.width == g.width && f.int == g.int) w) := by
  obtain ⟨kind, key, width, int, uint, re, im, text, bA, bn, bc, zero, nanos, offset, zone, iA, ilen, ic, fail⟩ := f
  obtain ⟨kind', key', width', int', uint', re', im', text', bA', bn', bc', zero', nanos', offset', zone', iA', ilen', ic', fail'⟩ := g
  simp only at h h' hk 
  subst h h'
  go_enter Tryz.func23, Tryz.ntmps23
  go_wp2_with fail
  all_goals first
    | (exfalso; simp_all; done)
    | (go_ret; exact ⟨rfl, by go_grown⟩)
    | (go_ret; exact ⟨by simp [*], by go_grown⟩)
set_option maxHeartbeats 2000000 in
theorem zsf_uint (w : World) (f g : Fld) (h : f.kind = 3) (h' : g.kind = 3) (hk : (f.key.toList == g.key.toList) = true) : Calls Tryz.prog 23 #[.agg f.arr, .agg g.arr] w (BoolIs (f.width == g.width && f.uint == g.uint) w) := by
  obtain ⟨kind, key, width, int, uint, re, im, text, bA, bn, bc, zero, nanos, offset, zone, iA, ilen, ic, fail⟩ := f
  obtain ⟨kind', key', width', int', uint', re', im', text', bA', bn', bc', zero', nanos', offset', zone', iA', ilen', ic', fail'⟩ := g
  simp only at h h' hk 
  subst h h'
  go_enter Tryz.func23, Tryz.ntmps23
  go_wp2_with fail
  all_goals first
    | (exfalso; simp_all; done)
    | (go_ret; exact ⟨rfl, by go_grown⟩)
    | (go_ret; exact ⟨by simp [*], by go_grown⟩)
set_option maxHeartbeats 2000000 in
theorem zsf_uptr (w : World) (f g : Fld) (h : f.kind = 4) (h' : g.kind = 4) (hk : (f.key.toList == g.key.toList) = true) : Calls Tryz.prog 23 #[.agg f.arr, .agg g.arr] w (BoolIs (f.uint == g.uint) w) := by
  obtain ⟨kind, key, width, int, uint, re, im, text, bA, bn, bc, zero, nanos, offset, zone, iA, ilen, ic, fail⟩ := f
  obtain ⟨kind', key', width', int', uint', re', im', text', bA', bn', bc', zero', nanos', offset', zone', iA', ilen', ic', fail'⟩ := g
  simp only at h h' hk 
  subst h h'
  go_enter Tryz.func23, Tryz.ntmps23
  go_wp2_with fail
  all_goals first
    | (exfalso; simp_all; done)
    | (go_ret; exact ⟨rfl, by go_grown⟩)
    | (go_ret; exact ⟨by simp [*], by go_grown⟩)
set_option maxHeartbeats 2000000 in
theorem zsf_dur (w : World) (f g : Fld) (h : f.kind = 10) (h' : g.kind = 10) (hk : (f.key.toList == g.key.toList) = true) : Calls Tryz.prog 23 #[.agg f.arr, .agg g.arr] w (BoolIs (f.int == g.int) w) := by
  obtain ⟨kind, key, width, int, uint, re, im, text, bA, bn, bc, zero, nanos, offset, zone, iA, ilen, ic, fail⟩ := f
  obtain ⟨kind', key', width', int', uint', re', im', text', bA', bn', bc', zero', nanos', offset', zone', iA', ilen', ic', fail'⟩ := g
  simp only at h h' hk 
  subst h h'
  go_enter Tryz.func23, Tryz.ntmps23
  go_wp2_with fail
  all_goals first
    | (exfalso; simp_all; done)
    | (go_ret; exact ⟨rfl, by go_grown⟩)
    | (go_ret; exact ⟨by simp [*], by go_grown⟩)
set_option maxHeartbeats 2000000 in
theorem zsf_float (w : World) (f g : Fld) (h : f.kind = 5) (h' : g.kind = 5) (hk : (f.key.toList == g.key.toList) = true) (h0 : 0 ≤ f.re) (h1 : f.width = 32 → f.re < 4294967296) (g0 : 0 ≤ g.re) (g1 : g.width = 32 → g.re < 4294967296) : Calls Tryz.prog 23 #[.agg f.arr, .agg g.arr] w (BoolIs (f.width == g.width && f.re == g.re) w) := by
  obtain ⟨kind, key, width, int, uint, re, im, text, bA, bn, bc, zero, nanos, offset, zone, iA, ilen, ic, fail⟩ := f
  obtain ⟨kind', key', width', int', uint', re', im', text', bA', bn', bc', zero', nanos', offset', zone', iA', ilen', ic', fail'⟩ := g
  simp only at h h' hk h0 h1 g0 g1
  subst h h'
  by_cases hw : width = 32
  · by_cases hw' : width' = 32
    · have m0 := h1 hw
      have m1 := g1 hw'
      subst hw hw'
      clear h1 g1
      have u0 : re % 4294967296 = re := by omega
      have u1 : re' % 4294967296 = re' := by omega
      go_enter Tryz.func23, Tryz.ntmps23
      go_wp2_with fail
      all_goals first
        | (go_ret; exact ⟨rfl, by go_grown⟩)
        | (go_ret; exact ⟨by simp [*], by go_grown⟩)
        | (exfalso; simp_all; done)
    · subst hw
      have e : ((32 : Int) == width') = false := by simp; omega
      clear h1 g1 hw'
      go_enter Tryz.func23, Tryz.ntmps23
      go_wp2_with fail
      all_goals first
        | (go_ret; exact ⟨rfl, by go_grown⟩)
        | (go_ret; exact ⟨by simp [*], by go_grown⟩)
        | (exfalso; simp_all; done)
  have e : (width == 32) = false := by simpa using hw
  clear h1 g1 hw
  go_enter Tryz.func23, Tryz.ntmps23
  go_wp2_with fail
  all_goals first
    | (exfalso; simp_all; done)
    | (go_ret; exact ⟨rfl, by go_grown⟩)
    | (go_ret; exact ⟨by simp [*], by go_grown⟩)
set_option maxHeartbeats 2000000 in
theorem zsf_time (w : World) (f g : Fld) (h : f.kind = 11) (h' : g.kind = 11) (hk : (f.key.toList == g.key.toList) = true) (hz : f.zero = false) : Calls Tryz.prog 23 #[.agg f.arr, .agg g.arr] w (BoolIs (momEq f g) w) := by
  obtain ⟨kind, key, width, int, uint, re, im, text, bA, bn, bc, zero, nanos, offset, zone, iA, ilen, ic, fail⟩ := f
  obtain ⟨kind', key', width', int', uint', re', im', text', bA', bn', bc', zero', nanos', offset', zone', iA', ilen', ic', fail'⟩ := g
  simp only at h h' hk hz
  subst h h'
  subst hz
  have h23 := fun W => eql23 W false zero' nanos nanos' offset offset' zone zone'
  simp only [momEq]
  go_enter Tryz.func23, Tryz.ntmps23
  go_wp2_with fail
  all_goals first
    | (exfalso; simp_all; done)
    | (go_ret; exact ⟨rfl, by go_grown⟩)
    | (go_ret; exact ⟨by simp [*], by go_grown⟩)
set_option maxHeartbeats 2000000 in
theorem zsf_bstr (w : World) (f g : Fld) (h : f.kind = 8) (h' : g.kind = 8) (hk : (f.key.toList == g.key.toList) = true) (x y : List UInt8) (hx : x.length = f.bn) (hy : y.length = g.bn) (rx : ReadsB w f.bA x) (ry : ReadsB w g.bA y) : Calls Tryz.prog 23 #[.agg f.arr, .agg g.arr] w (BoolIs (x == y) w) := by
  obtain ⟨kind, key, width, int, uint, re, im, text, bA, bn, bc, zero, nanos, offset, zone, iA, ilen, ic, fail⟩ := f
  obtain ⟨kind', key', width', int', uint', re', im', text', bA', bn', bc', zero', nanos', offset', zone', iA', ilen', ic', fail'⟩ := g
  simp only at h h' hk hx hy rx ry
  subst h h'
  have c1 := conv_read (rx.below (w' := (w.alloc (.cells (Fld.arr ⟨8, key, width, int, uint, re, im, text, bA, bn, bc, zero, nanos, offset, zone, iA, ilen, ic, fail⟩) 39)).alloc (.cells (Fld.arr ⟨8, key', width', int', uint', re', im', text', bA', bn', bc', zero', nanos', offset', zone', iA', ilen', ic', fail'⟩) 39)) (by go_grown)) bc
  have c2 := conv_read (ry.below (w' := (w.alloc (.cells (Fld.arr ⟨8, key, width, int, uint, re, im, text, bA, bn, bc, zero, nanos, offset, zone, iA, ilen, ic, fail⟩) 39)).alloc (.cells (Fld.arr ⟨8, key', width', int', uint', re', im', text', bA', bn', bc', zero', nanos', offset', zone', iA', ilen', ic', fail'⟩) 39)) (by go_grown)) bc'
  rw [hx] at c1
  rw [hy] at c2
  clear rx ry hx hy
  go_enter Tryz.func23, Tryz.ntmps23
  go_wp2_with fail
  all_goals first
    | (exfalso; simp_all; done)
    | (go_ret; exact ⟨rfl, by go_grown⟩)
    | (go_ret; exact ⟨by simp [*], by go_grown⟩)
set_option maxHeartbeats 2000000 in
theorem zsf_bin (w : World) (f g : Fld) (h : f.kind = 9) (h' : g.kind = 9) (hk : (f.key.toList == g.key.toList) = true) (x y : List UInt8) (hx : x.length = f.bn) (hy : y.length = g.bn) (rx : ReadsB w f.bA x) (ry : ReadsB w g.bA y) : Calls Tryz.prog 23 #[.agg f.arr, .agg g.arr] w (BoolIs (x == y) w) := by
  obtain ⟨kind, key, width, int, uint, re, im, text, bA, bn, bc, zero, nanos, offset, zone, iA, ilen, ic, fail⟩ := f
  obtain ⟨kind', key', width', int', uint', re', im', text', bA', bn', bc', zero', nanos', offset', zone', iA', ilen', ic', fail'⟩ := g
  simp only at h h' hk hx hy rx ry
  subst h h'
  have c1 := conv_read (rx.below (w' := (w.alloc (.cells (Fld.arr ⟨9, key, width, int, uint, re, im, text, bA, bn, bc, zero, nanos, offset, zone, iA, ilen, ic, fail⟩) 39)).alloc (.cells (Fld.arr ⟨9, key', width', int', uint', re', im', text', bA', bn', bc', zero', nanos', offset', zone', iA', ilen', ic', fail'⟩) 39)) (by go_grown)) bc
  have c2 := conv_read (ry.below (w' := (w.alloc (.cells (Fld.arr ⟨9, key, width, int, uint, re, im, text, bA, bn, bc, zero, nanos, offset, zone, iA, ilen, ic, fail⟩) 39)).alloc (.cells (Fld.arr ⟨9, key', width', int', uint', re', im', text', bA', bn', bc', zero', nanos', offset', zone', iA', ilen', ic', fail'⟩) 39)) (by go_grown)) bc'
  rw [hx] at c1
  rw [hy] at c2
  clear rx ry hx hy
  go_enter Tryz.func23, Tryz.ntmps23
  go_wp2_with fail
  all_goals first
    | (exfalso; simp_all; done)
    | (go_ret; exact ⟨rfl, by go_grown⟩)
    | (go_ret; exact ⟨by simp [*], by go_grown⟩)
set_option maxHeartbeats 2000000 in
theorem zsf_arr (w : World) (f g : Fld) (h : f.kind = 15) (h' : g.kind = 15) (hk : (f.key.toList == g.key.toList) = true) (kb : Bool) (ih : ∀ W, Below w.heap.size w W → Calls Tryz.prog 33 #[.slice f.iA f.ilen f.ic, .slice g.iA g.ilen g.ic] W (BoolIs kb W)) : Calls Tryz.prog 23 #[.agg f.arr, .agg g.arr] w (BoolIs (f.fail.toList == g.fail.toList && kb) w) := by
  obtain ⟨kind, key, width, int, uint, re, im, text, bA, bn, bc, zero, nanos, offset, zone, iA, ilen, ic, fail⟩ := f
  obtain ⟨kind', key', width', int', uint', re', im', text', bA', bn', bc', zero', nanos', offset', zone', iA', ilen', ic', fail'⟩ := g
  simp only at h h' hk ih
  subst h h'
  have HI := Lib.hid ih
  clear ih
  go_enter Tryz.func23, Tryz.ntmps23
  go_wp2_with (go_at_call 33; go_must (refine (HI.out _ (by go_grown)).mono ?_; rintro e w1 ⟨rfl, hb1⟩; have hB : Below w.heap.size w w1 := Below.trans (by go_grown) (hb1.mono (by simp; omega)); clear hb1))
  all_goals go_ret
  all_goals first
    | exact ⟨rfl, by first | exact hB | go_grown⟩
    | exact ⟨by simp [*], by first | exact hB | go_grown⟩
set_option maxHeartbeats 2000000 in
theorem zsf_obj (w : World) (f g : Fld) (h : f.kind = 16) (h' : g.kind = 16) (hk : (f.key.toList == g.key.toList) = true) (kb : Bool) (ih : ∀ W, Below w.heap.size w W → Calls Tryz.prog 33 #[.slice f.iA f.ilen f.ic, .slice g.iA g.ilen g.ic] W (BoolIs kb W)) : Calls Tryz.prog 23 #[.agg f.arr, .agg g.arr] w (BoolIs (f.fail.toList == g.fail.toList && kb) w) := by
  obtain ⟨kind, key, width, int, uint, re, im, text, bA, bn, bc, zero, nanos, offset, zone, iA, ilen, ic, fail⟩ := f
  obtain ⟨kind', key', width', int', uint', re', im', text', bA', bn', bc', zero', nanos', offset', zone', iA', ilen', ic', fail'⟩ := g
  simp only at h h' hk ih
  subst h h'
  have HI := Lib.hid ih
  clear ih
  go_enter Tryz.func23, Tryz.ntmps23
  go_wp2_with (go_at_call 33; go_must (refine (HI.out _ (by go_grown)).mono ?_; rintro e w1 ⟨rfl, hb1⟩; have hB : Below w.heap.size w w1 := Below.trans (by go_grown) (hb1.mono (by simp; omega)); clear hb1))
  all_goals go_ret
  all_goals first
    | exact ⟨rfl, by first | exact hB | go_grown⟩
    | exact ⟨by simp [*], by first | exact hB | go_grown⟩
end Go.Proofs.YtieidjlmgalihaaGreatDoor
