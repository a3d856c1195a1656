/- FnZHooked: the walk. -/
import Derived.Test.YtieidjlmgalihaaGreatDoorHkd
import Derived.Test.YtieidjlmgalihaaGreatDoorSam
import Derived.Test.YtieidjlmgalihaaGreatDoorWk3
namespace Go.Proofs.YtieidjlmgalihaaGreatDoor
open Go.RowKit
set_option maxRecDepth 100000
theorem wrap8_small {z : Int} (h0 : -1 ≤ z) (h1 : z ≤ 2) : IntKind.i8.wrap z = z := by
  simp [IntKind.wrap, IntKind.bits, IntKind.signed]
  split <;> omega
theorem hkLev (hs : Nat → Hook) (e : Ent) (h : ∀ k, -1 ≤ (hs k).level ∧ (hs k).level ≤ 2) (h0 : -1 ≤ e.level ∧ e.level ≤ 2) : ∀ k, -1 ≤ (hkEnt hs e k).level ∧ (hkEnt hs e k).level ≤ 2
  | 0 => h0
  | k + 1 => by
    simp only [hkEnt, Hook.on]
    split
    · exact h k
    · exact hkLev hs e h h0 k
theorem hkEnt_is (hs : Nat → Hook) (e : Ent) : ∀ k, hkEnt hs e k = { e with level := (hkEnt hs e k).level, message := (hkEnt hs e k).message }
  | 0 => rfl
  | k + 1 => by
    have h := hkEnt_is hs e k
    simp only [hkEnt, Hook.on]
    rw [h]
/-- An owned row of fields, to read. -/
theorem own_flds {w : World} {B n : Nat} {V : Value} {g : Nat → Fld} (h : w.ownsRow B 39 15 V n (bare g n)) : ∃ A c, V = .slice A n c ∧ RowAt w A n 15 fun i => (g i).arr := by
  rcases h.2 with ⟨rfl, hn⟩ | ⟨q, cap, cur, rfl, _, hg, _, _, _, htk⟩
  · have : n = 0 := by first | exact hn | exact hn.1 | simp_all
    subst this
    exact ⟨_, _, rfl, fun i hi => by omega⟩
  · refine ⟨_, _, rfl, fun i hi => ⟨q, 0, rfl, rfl, fun j hj => ?_⟩⟩
    rw [cell_of_row w q _ _ _ _ hg, ← bare_at g n i j hi hj, ← htk]
    simp only [Nat.zero_add, List.getElem?_take]
    rw [if_pos (by omega)]
    simp
/-- The fields behind hooks can be read as the ones given. -/
theorem hk_ok {w : World} {kf n m : Nat} {hs : Nat → Hook} {gs : Nat → Nat → Fld} {g : Nat → Fld} (h0 : ∀ i, i < n → FldOk kf w (g i)) (h1 : ∀ k, k < m → ∀ i, i < (hs k).an → FldOk kf w (gs k i)) : ∀ k, k ≤ m → ∀ i, i < hkLen hs n k → FldOk kf w (hkFld hs gs n g k i)
  | 0, _, i, hi => h0 i hi
  | k + 1, hk, i, hi => by
    simp only [hkFld]
    simp only [hkLen] at hi
    by_cases hlt : i < hkKept hs k (hkLen hs n k)
    · rw [if_pos hlt]
      refine hk_ok h0 h1 k (by omega) i ?_
      unfold hkKept at hlt
      split at hlt <;> omega
    · rw [if_neg hlt]
      exact h1 k (by omega) _ (by omega)
/-- The entry's box, and nothing else turned. -/
def Bq (w : World) (x : Ent) (W : World) : Prop := Blk W w.heap.size 50 x.arr ∧ Below w.heap.size w W
theorem Bq.up {w W W' : World} {x : Ent} (h : Bq w x W) (hb : Below W.heap.size W W') : Bq w x W' := ⟨h.1.here hb, h.2.trans (hb.mono h.2.size)⟩
theorem bq_first {w W : World} {x : Ent} (hb : Below (w.alloc (.cells x.arr 50)).heap.size (w.alloc (.cells x.arr 50)) W) : Bq w x W := ⟨(Blk.new w 50 _).here hb, ((Below.refl _ w).alloc (Nat.le_refl _) _).trans (hb.mono (by simp))⟩
/-- What the law reads of an entry. -/
theorem Bq.use {w W : World} {x : Ent} (h : Bq w x W) : W.cell? ⟨w.heap.size, 0, none⟩ = some (.int .i64 x.level) ∧ W.cell? ⟨w.heap.size, 6, none⟩ = some (.string x.message) := ⟨h.1.cell 0, h.1.cell 6⟩
theorem Hook.up {w w' : World} {b q : Nat} {h : Hook} (hc : ∀ j, j < 5 → w.cell? ⟨b, q + j, none⟩ = h.arr[j]?) (hb : Below w.heap.size w w') : ∀ j, j < 5 → w'.cell? ⟨b, q + j, none⟩ = h.arr[j]? := fun j hj =>
  (hb.cell (p := ⟨b, q + j, none⟩) (World.block_lt_of_cell? w _ ((hc j hj).trans (Array.getElem?_eq_getElem (show j < h.arr.size from hj))))).trans (hc j hj)
set_option maxHeartbeats 8000000 in
theorem hooked_true (w : World) (A1 A2 : Option Addr) (n c1 m c2 kf : Nat) (x : Ent) (g : Nat → Fld) (hs : Nat → Hook) (gs : Nat → Nat → Fld) (h0 : -9223372036854775808 ≤ x.nanos) (h1 : x.nanos ≤ 9223372036854775807)
    (hf : FldsOk kf w A1 n g) (hm : m ≤ maxLen) (hh : RowAt w A2 m 5 fun i => (hs i).arr) (ha : ∀ k, k < m → FldsOk kf w (hs k).aA (hs k).an (gs k)) (hdef : ∀ k, m ≤ k → hs k = default) (htab : Tab10 w.heap.size w) :
    Calls Tryz.prog 8 #[.agg x.arr, .slice A1 n c1, .slice A2 m c2] w fun e w' => e = .returned (.bool true) ∧ Below w.heap.size w w' := by
  have hn := hf.1
  unfold maxLen at hn hm
  have H := Lib.hid (And.intro hf (And.intro hh (And.intro ha (And.intro hdef htab))))
  clear hf hh ha hdef htab
  by_cases g1 : (2147483647 : Int) < (n : Int)
  · go_enter Tryz.func8, Tryz.ntmps8
    go_wp2_with (go_at_call 30; go_must (refine (fits9_any _ x).mono ?_; rintro en w1 ⟨ok, rfl, hb1⟩; have Q := Lib.hid (bq_first hb1); clear hb1; cases ok))
    all_goals (go_ret; exact ⟨rfl, Q.out.2⟩)
  by_cases g2 : (2147483647 : Int) < (m : Int)
  · go_enter Tryz.func8, Tryz.ntmps8
    go_wp2_with (go_at_call 30; go_must (refine (fits9_any _ x).mono ?_; rintro en w1 ⟨ok, rfl, hb1⟩; have Q := Lib.hid (bq_first hb1); clear hb1; cases ok))
    all_goals (go_ret; exact ⟨rfl, Q.out.2⟩)
  by_cases g3 : (20 : Int) < (m : Int)
  · go_enter Tryz.func8, Tryz.ntmps8
    go_wp2_with (first
      | (go_at_call 30; go_must (refine (fits9_any _ x).mono ?_; rintro en w1 ⟨ok, rfl, hb1⟩; have Q := Lib.hid (bq_first hb1); clear hb1; cases ok))
      | (go_at_call 15; go_must (refine (awake_any _ (tabUp H.out.2.2.2.2 Q.out.2 Q.out.2.size)).mono ?_; rintro en w2 ⟨rfl, hb2⟩; replace Q := Lib.hid (Q.out.up hb2); clear hb2)))
    all_goals (go_ret; exact ⟨rfl, Q.out.2⟩)
  by_cases g4 : (2000 : Int) < (x.message.size : Int)
  · go_enter Tryz.func8, Tryz.ntmps8
    go_wp2_with (first
      | (go_at_call 30; go_must (refine (fits9_any _ x).mono ?_; rintro en w1 ⟨ok, rfl, hb1⟩; have Q := Lib.hid (bq_first hb1); clear hb1; cases ok))
      | (go_at_call 21; go_must (refine (great_full _ A1 n c1 kf g (H.out.1.below Q.out.2)).mono ?_; rintro en w1 ⟨b, rfl, hb1, hgt⟩; replace Q := Lib.hid (Q.out.up hb1); clear hb1 hgt; obtain ⟨q0, q6⟩ := Q.out.use; cases b))
      | (go_at_call 15; go_must (refine (awake_any _ (tabUp H.out.2.2.2.2 Q.out.2 Q.out.2.size)).mono ?_; rintro en w2 ⟨rfl, hb2⟩; replace Q := Lib.hid (Q.out.up hb2); clear hb2)))
    all_goals (go_ret; exact ⟨rfl, Q.out.2⟩)
  go_enter Tryz.func8, Tryz.ntmps8
  go_wp2_with (first
    | (go_at_call 30; go_must (refine (fits9_any _ x).mono ?_; rintro en w1 ⟨ok, rfl, hb1⟩; have Q := Lib.hid (bq_first hb1); clear hb1; cases ok))
    | (go_at_call 21; go_must (refine (great_full _ A1 n c1 kf g (H.out.1.below Q.out.2)).mono ?_; rintro en w1 ⟨b, rfl, hb1, hgt⟩; replace Q := Lib.hid (And.intro (Q.out.up hb1) hgt); clear hb1 hgt; obtain ⟨q0, q6⟩ := Q.out.1.use; cases b))
    | (go_at_call 15; go_must (refine (awake_any _ (tabUp H.out.2.2.2.2 Q.out.1.2 Q.out.1.2.size)).mono ?_; rintro en w2 ⟨rfl, hb2⟩; replace Q := Lib.hid (Q.out.1.up hb2); clear hb2)))
  · go_ret
    first | exact ⟨rfl, Q.out.2⟩ | exact ⟨rfl, Q.out.1.2⟩
  · go_loopw [7] (fun i wr => ∃ k : Nat, k ≤ m ∧ i = .int .i64 k ∧ Bq w x wr ∧ ∀ j, j < k → (hs j).an ≤ 300 ∧ (hs j).before.size ≤ 200 ∧ -1 ≤ (hs j).level ∧ (hs j).level ≤ 2) (fun i _ => m - (intOf i).toNat)
    case atStart => exact ⟨0, Nat.zero_le _, rfl, Q.out.1, fun j hj => by omega⟩
    case round =>
      obtain ⟨k, hk, rfl, bq, hok⟩ := hrel
      have N1 : n ≤ 300 := Q.out.2 (by trivial)
      clear Q q0 q6
      have Q := Lib.hid bq
      have HOK := Lib.hid hok
      clear bq hok
      by_cases hlt : k < m
      · obtain ⟨b, off, rfl, hsz, hc⟩ := (H.out.2.1.below Q.out.2) k hlt
        have hcs := Hook.cells hc
        obtain ⟨h, hh⟩ : ∃ h, hs k = h := ⟨_, rfl⟩
        have hka := H.out.2.2.1 k hlt
        simp only [hh] at hcs hka hc
        obtain ⟨before, change, drop, level, aA, an, ac⟩ := h
        have HC := Lib.hid hc
        have HH := Lib.hid (And.intro hka hh)
        simp only at hcs
        clear hsz hc hka hh
        by_cases e1 : (200 : Int) < (before.size : Int)
        · go_wp2_with (first
            | (go_at_call 21; go_must (refine (great_full _ aA an ac kf (gs k) (HH.out.1.below Q.out.2)).mono ?_; rintro en w1 ⟨b, rfl, hb1, hgt⟩; have Q1 := Lib.hid (And.intro (Q.out.up hb1) hgt); have hcs1 := Hook.cells (Hook.up HC.out hb1); clear hb1 hgt; cases b))
            | (go_at_call 15; go_must (refine (awake_any _ (tabUp H.out.2.2.2.2 Q1.out.1.2 Q1.out.1.2.size)).mono ?_; rintro en w2 ⟨rfl, hb2⟩; replace Q1 := Lib.hid (Q1.out.1.up hb2); clear hb2)))
          all_goals (go_ret; first | exact ⟨rfl, Q1.out.2⟩ | exact ⟨rfl, Q1.out.1.2⟩)
        by_cases e2 : level < -1
        · go_wp2_with (first
            | (go_at_call 21; go_must (refine (great_full _ aA an ac kf (gs k) (HH.out.1.below Q.out.2)).mono ?_; rintro en w1 ⟨b, rfl, hb1, hgt⟩; have Q1 := Lib.hid (And.intro (Q.out.up hb1) hgt); have hcs1 := Hook.cells (Hook.up HC.out hb1); clear hb1 hgt; cases b))
            | (go_at_call 15; go_must (refine (awake_any _ (tabUp H.out.2.2.2.2 Q1.out.1.2 Q1.out.1.2.size)).mono ?_; rintro en w2 ⟨rfl, hb2⟩; replace Q1 := Lib.hid (Q1.out.1.up hb2); clear hb2)))
          all_goals (go_ret; first | exact ⟨rfl, Q1.out.2⟩ | exact ⟨rfl, Q1.out.1.2⟩)
        by_cases e3 : 2 < level
        · go_wp2_with (first
            | (go_at_call 21; go_must (refine (great_full _ aA an ac kf (gs k) (HH.out.1.below Q.out.2)).mono ?_; rintro en w1 ⟨b, rfl, hb1, hgt⟩; have Q1 := Lib.hid (And.intro (Q.out.up hb1) hgt); have hcs1 := Hook.cells (Hook.up HC.out hb1); clear hb1 hgt; cases b))
            | (go_at_call 15; go_must (refine (awake_any _ (tabUp H.out.2.2.2.2 Q1.out.1.2 Q1.out.1.2.size)).mono ?_; rintro en w2 ⟨rfl, hb2⟩; replace Q1 := Lib.hid (Q1.out.1.up hb2); clear hb2)))
          all_goals (go_ret; first | exact ⟨rfl, Q1.out.2⟩ | exact ⟨rfl, Q1.out.1.2⟩)
        go_wp2_with (first
          | (go_at_call 21; go_must (refine (great_full _ aA an ac kf (gs k) (HH.out.1.below Q.out.2)).mono ?_; rintro en w1 ⟨b, rfl, hb1, hgt⟩; have Q1 := Lib.hid (And.intro (Q.out.up hb1) hgt); have hcs1 := Hook.cells (Hook.up HC.out hb1); clear hb1 hgt; cases b))
          | (go_at_call 15; go_must (refine (awake_any _ (tabUp H.out.2.2.2.2 Q1.out.1.2 Q1.out.1.2.size)).mono ?_; rintro en w2 ⟨rfl, hb2⟩; replace Q1 := Lib.hid (Q1.out.1.up hb2); clear hb2)))
        · refine ⟨⟨k + 1, by omega, by go_num, Q1.out.1, fun j hj => ?_⟩, by simp [intOf]; omega⟩
          by_cases hjk : j < k
          · exact HOK.out j hjk
          · obtain rfl : j = k := by omega
            rw [HH.out.2]
            exact ⟨Q1.out.2 (by trivial), by simp only; omega, by simp only; omega, by simp only; omega⟩
        · go_ret
          exact ⟨rfl, Q1.out.2⟩
      · obtain rfl : k = m := by omega
        have bq := Q.out.use
        obtain ⟨q0, q6⟩ := bq
        by_cases e1 : x.level < -1
        · go_wp2_with (go_at_call 15; go_must (refine (awake_any _ (tabUp H.out.2.2.2.2 Q.out.2 Q.out.2.size)).mono ?_; rintro en w2 ⟨rfl, hb2⟩; replace Q := Lib.hid (Q.out.up hb2); clear hb2))
          go_ret
          exact ⟨rfl, Q.out.2⟩
        by_cases e2 : 2 < x.level
        · go_wp2_with (go_at_call 15; go_must (refine (awake_any _ (tabUp H.out.2.2.2.2 Q.out.2 Q.out.2.size)).mono ?_; rintro en w2 ⟨rfl, hb2⟩; replace Q := Lib.hid (Q.out.up hb2); clear hb2))
          go_ret
          exact ⟨rfl, Q.out.2⟩
        have hall : ∀ j, (hs j).an ≤ 300 ∧ (hs j).before.size ≤ 200 ∧ -1 ≤ (hs j).level ∧ (hs j).level ≤ 2 := fun j => by
          by_cases hj : j < k
          · exact HOK.out j hj
          · rw [H.out.2.2.2.1 j (by omega)]
            exact ⟨Nat.zero_le _, Nat.zero_le _, by decide, by decide⟩
        have hlv := hkLev hs x (fun j => (hall j).2.2) ⟨by omega, by omega⟩ k
        have hw8 := wrap8_small hlv.1 hlv.2
        have his := hkEnt_is hs x k
        have hout : hkOut hs x k = { x with level := (hkEnt hs x k).level, message := (hkEnt hs x k).message } := by simp only [hkOut]; rw [hw8]
        have hcall : ∀ W, Bq w x W → Calls Tryz.prog 31 #[.agg x.arr, .slice A1 n c1, .slice A2 k c2] W (BhdPost W { x with level := (hkEnt hs x k).level, message := (hkEnt hs x k).message } (hkLen hs n k) (hkFld hs gs n g k)) ∧ Calls Tryz.prog 32 #[.agg x.arr, .slice A1 n c1, .slice A2 k c2] W (BhdPost W { x with level := (hkEnt hs x k).level, message := (hkEnt hs x k).message } (hkLen hs n k) (hkFld hs gs n g k)) := fun W hq => by
          have hr := H.out.1.2.1.below hq.2
          have hhs : HooksAt W A2 k hs gs := ⟨H.out.2.1.below hq.2, fun i hi => (H.out.2.2.1 i hi).2.1.below hq.2⟩
          refine ⟨?_, ?_⟩
          · rw [← hout]
            exact zHooked_any W A1 A2 n c1 k c2 x g hs gs h0 h1 hr hhs (fun j => (hall j).1) (fun j => (hall j).2.1) (by omega) N1 (by omega)
          · rw [← his]
            exact behind_any W x A1 A2 n c1 k c2 g hs gs hr hhs N1 (by omega) (fun j => (hall j).1) (by omega) (fun j => (hall j).2.1)
        have hfo := hk_ok (kf := kf) (w := w) H.out.1.2.2 (fun j hj => (H.out.2.2.1 j hj).2.2) k (Nat.le_refl _)
        have hle := hkLen_le hs n (fun j => (hall j).1) k
        have hNm : hkLen hs n k ≤ maxLen := by unfold maxLen; omega
        generalize (hkEnt hs x k).level = L at *
        generalize (hkEnt hs x k).message = ms at *
        generalize hkLen hs n k = N at *
        generalize hkFld hs gs n g k = G at *
        have HC := Lib.hid (And.intro hcall (And.intro hfo hNm))
        have qc := Ent.cells12 Q.out.1
        clear hall hlv hw8 his hout hcall hfo hle hNm HOK q0 q6
        go_wp2_with (first
          | (go_at_call 31; go_must (refine (HC.out.1 _ Q.out).1.mono ?_; rintro en w2 ⟨V, rfl, p1, p2⟩; obtain ⟨A, c, rfl, p3⟩ := own_flds p1; have S1 := Lib.hid (And.intro p2 p3); have qc2 := Ent.cells12 (Q.out.up p2).1; have ql2 := (Q.out.up p2).1.lt; clear p1 p2 p3))
          | (go_at_call 32; go_must (refine (HC.out.1 _ ((Q.out.up S1.out.1).up ((Below.refl _ _).alloc (Nat.le_refl _) _))).2.mono ?_; rintro en w3 ⟨V, rfl, p1, p2⟩; obtain ⟨A', c', rfl, p3⟩ := own_flds p1; have S2 := Lib.hid (And.intro p2 p3); have qy := Ent.cells12 (e := { x with level := L, message := ms }) ((Blk.new w2 50 _).here p2); have qyl := ((Blk.new w2 50 (Ent.arr { x with level := L, message := ms })).here p2).lt; clear p1 p2 p3))
          | (go_at_call 33; go_must (refine (same_any kf _ A A' N c c' G ⟨HC.out.2.2, S1.out.2.below ((((Below.refl _ _).alloc (Nat.le_refl _) _).trans (S2.out.1.mono (by simp))).alloc (by have := S2.out.1.size; simp at this; omega) _), fun i hi => (HC.out.2.1 i hi).below (((((Q.out.up S1.out.1).up ((Below.refl _ _).alloc (Nat.le_refl _) _)).up S2.out.1).up ((Below.refl _ _).alloc (Nat.le_refl _) _)).2)⟩ ⟨HC.out.2.2, S2.out.2.below ((Below.refl _ _).alloc (Nat.le_refl _) _), fun i hi => (HC.out.2.1 i hi).below (((((Q.out.up S1.out.1).up ((Below.refl _ _).alloc (Nat.le_refl _) _)).up S2.out.1).up ((Below.refl _ _).alloc (Nat.le_refl _) _)).2)⟩).mono ?_; rintro en w4 ⟨rfl, p1⟩; have Q4 := Lib.hid ((((((Q.out.up S1.out.1).up ((Below.refl _ _).alloc (Nat.le_refl _) _)).up S2.out.1).up ((Below.refl _ _).alloc (Nat.le_refl _) _))).up p1); clear p1))
          | (go_at_call 15; go_must (refine (awake_any _ (tabUp H.out.2.2.2.2 Q4.out.2 Q4.out.2.size)).mono ?_; rintro en w5 ⟨rfl, hb5⟩; replace Q4 := Lib.hid (Q4.out.up hb5); clear hb5)))
        go_ret
        exact ⟨rfl, Q4.out.2⟩
  · go_ret
    first | exact ⟨rfl, Q.out.2⟩ | exact ⟨rfl, Q.out.1.2⟩
end Go.Proofs.YtieidjlmgalihaaGreatDoor
