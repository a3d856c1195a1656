/- sameItems. -/
import Derived.Test.YtieidjlmgalihaaGreatDoorEqH
set_option linter.all false
namespace Go.Proofs.YtieidjlmgalihaaGreatDoor
open Go.RowKit
set_option maxRecDepth 100000
/-- The cells of an element, to read. -/
theorem elem_cells {w : World} {A : Option Addr} {n : Nat} {l : List FT} (h : FtsOk w A n l) (q : Nat) (hq : q < n) : ∃ b off, A = some ⟨b, off, none⟩ ∧ b < w.heap.size ∧ ∀ j, j < 15 → w.cell? ⟨b, off + q * 15 + j, none⟩ = (at_ l q).f.arr[j]? := by
  obtain ⟨b, off, hA, _, hc⟩ := h.2.2.1 q hq
  exact ⟨b, off, hA, World.block_lt_of_cell? w _ (hc 0 (by omega)), hc⟩
set_option maxHeartbeats 4000000 in
theorem equalFunc_any (w : World) (A A' : Option Addr) (n m c c' : Nat) (l k : List FT) (h : FtsOk w A n l) (h' : FtsOk w A' m k)
    (ih : ∀ q, q < n → q < m → ∀ W, Below w.heap.size w W → Calls Tryz.prog 354 #[.agg (at_ l q).f.arr, .agg (at_ k q).f.arr] W (BoolIs ((at_ l q).alike (at_ k q)) W)) :
    Calls Tryz.prog 353 #[.slice A n c, .slice A' m c', .func (.func 354) #[] #[]] w (BoolIs (alikeL l k) w) := by
  have hn := h.1
  have hm := h'.1
  unfold maxLen at hn hm
  by_cases he : n = m
  · subst he
    have HH := Lib.hid (And.intro h h')
    have HI := Lib.hid ih
    have HN := Lib.hid (And.intro h.2.1 h'.2.1)
    clear h h' ih
    go_enter Tryz.func353, Tryz.ntmps353
    go_wp2_with fail
    go_loopw [17] (fun i wr => ∃ q : Nat, q ≤ n ∧ i = .int .i64 q ∧ Below w.heap.size w wr ∧ Hid (alikeL (l.drop q) (k.drop q) = alikeL l k)) (fun i _ => n - (intOf i).toNat)
    case atStart => exact ⟨0, Nat.zero_le _, rfl, Below.refl _ _, Lib.hid rfl⟩
    case round =>
      obtain ⟨q, hq, rfl, hb, HD⟩ := hrel
      by_cases hlt : q < n
      · obtain ⟨b, o, rfl, hbl, hc⟩ := elem_cells (HH.out.1.below hb) q hlt
        obtain ⟨b', o', rfl, hbl', hc'⟩ := elem_cells (HH.out.2.below hb) q hlt
        have hcs := Fld.cells hc
        have hcs' := Fld.cells hc'
        have HC := Lib.hid (alikeL_drop l k q (by rw [HN.out.1]; exact hlt) (by rw [HN.out.2]; exact hlt))
        have HE := Lib.hid (HI.out q hlt hlt)
        clear hc hc'
        generalize (at_ l q).alike (at_ k q) = r at *
        generalize (at_ l q).f = f at *
        generalize (at_ k q).f = g at *
        obtain ⟨a0, a1, a2, a3, a4, a5, a6, a7, a8, a9, a10, a11, a12, a13, a14⟩ := hcs
        obtain ⟨b0, b1, b2, b3, b4, b5, b6, b7, b8, b9, b10, b11, b12, b13, b14⟩ := hcs'
        have i1 : (0 : Int) ≤ (q : Int) := by omega
        have i2 : (q : Int) < (n : Int) := by omega
        have hsz := hb.size
        go_wp2_with (go_at_call 354; go_must (refine (HE.out _ ((hb.alloc hsz _).alloc (by simp; omega) _)).mono ?_; rintro e w1 ⟨rfl, hb1⟩; have hB : Below w.heap.size w w1 := Below.trans ((hb.alloc hsz _).alloc (by simp; omega) _) (hb1.mono (by simp; omega)); cases r))
        · have e2 : alikeL l k = false := by rw [← HD.out, HC.out]; rfl
          rw [e2]
          go_ret
          exact ⟨rfl, hB⟩
        · go_roundw
          case rel => exact ⟨q + 1, by omega, by go_num, hB, Lib.hid (by rw [← HD.out, HC.out]; rfl)⟩
          case measure => simp [intOf]; omega
      · go_wp2_with fail
        go_ret
        have e1 : q = n := by omega
        subst e1
        refine ⟨?_, hb⟩
        rw [← HD.out, alikeL_end l k q HN.out.1 HN.out.2]
        rfl
  · have hr : alikeL l k = false := by
      rw [Bool.eq_false_iff]
      intro hx
      have := alikeL_len hx
      have e1 := h.2.1
      have e2 := h'.2.1
      omega
    rw [hr]
    clear h h' ih hr
    have hd : ((n : Int) != (m : Int)) = true := by simp; omega
    go_enter Tryz.func353, Tryz.ntmps353
    go_wp2_with fail
    go_ret
    exact ⟨rfl, Below.refl _ _⟩
/-- sameItems. -/
theorem sameItems_any : ∀ (N : Nat) (w : World) (A A' : Option Addr) (n m c c' : Nat) (l k : List FT), SizeOf.sizeOf l < N → FtsOk w A n l → FtsOk w A' m k → Calls Tryz.prog 352 #[.slice A n c, .slice A' m c'] w (BoolIs (alikeL l k) w)
  | 0, w, A, A', n, m, c, c', l, k, hN, h, h' => by omega
  | N + 1, w, A, A', n, m, c, c', l, k, hN, h, h' => by
    have HE := Lib.hid (equalFunc_any w A A' n m c c' l k h h' (fun q hq hq' W hb => same1_any W _ _ (FT.ok_below hb _ (okL_at h.2.2.2 q (by rw [h.2.1]; exact hq))) (FT.ok_below hb _ (okL_at h'.2.2.2 q (by rw [h'.2.1]; exact hq')))
      (fun V hv => sameItems_any N V _ _ _ _ _ _ _ _ (by have := kid_lt (l := l) (i := q) (by rw [h.2.1]; exact hq); omega) (FT.ok_kids (FT.ok_below hv _ (FT.ok_below hb _ (okL_at h.2.2.2 q (by rw [h.2.1]; exact hq))))) (FT.ok_kids (FT.ok_below hv _ (FT.ok_below hb _ (okL_at h'.2.2.2 q (by rw [h'.2.1]; exact hq'))))))))
    clear h h'
    go_enter Tryz.func352, Tryz.ntmps352
    go_wp2_with (go_at_call 353; go_must (refine HE.out.mono ?_; rintro e w1 ⟨rfl, hb1⟩))
    go_ret
    exact ⟨rfl, hb1⟩
end Go.Proofs.YtieidjlmgalihaaGreatDoor
