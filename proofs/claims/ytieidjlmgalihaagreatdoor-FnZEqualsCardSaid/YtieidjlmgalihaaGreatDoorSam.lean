/- ZSameFields of lists that are the same. -/
import Derived.Test.YtieidjlmgalihaaGreatDoorFld
set_option linter.all false
namespace Go.Proofs.YtieidjlmgalihaaGreatDoor
open Go.RowKit
set_option maxRecDepth 100000
theorem neq23 (W : World) (z : Bool) (n o : Int) (s : ByteArray) : (binOp .neq 23 (.agg #[.bool z, .int .i64 n, .int .i64 o, .string s]) (.agg #[.bool z, .int .i64 n, .int .i64 o, .string s])).run Tryz.prog W = .ok (.bool false) W := by
  simp [go_sem]
/-- Two blocks more: the bytes read as before. -/
theorem conv_up2 {w : World} {A : Option Addr} {n : Nat} {l : List UInt8} (hl : l.length = n) (h : ReadsB w A l) (c : Nat) : ∀ o1 o2 : Obj, (convert 36 9 (.slice A n c)).run Tryz.prog (((w.alloc o1).alloc o2).drew) = .ok (.string ⟨l.toArray⟩) (((w.alloc o1).alloc o2).drew) := fun o1 o2 => by
  subst hl
  exact conv_read ((h.below (w' := ((w.alloc o1).alloc o2)) (((Below.refl _ _).alloc (Nat.le_refl _) _).alloc (by simp) _)).drew) c
set_option maxHeartbeats 4000000 in
theorem same_round (w : World) (k : Nat) (hk : ∀ (w : World) (A A' : Option Addr) (n c c' : Nat) (g : Nat → Fld), FldsOk k w A n g → FldsOk k w A' n g → Calls Tryz.prog 33 #[.slice A n c, .slice A' n c'] w fun e w' => e = .returned (.bool true) ∧ Below w.heap.size w w')
    (A A' : Option Addr) (n c c' : Nat) (g : Nat → Fld) (h : FldsOk (k + 1) w A n g) (h' : FldsOk (k + 1) w A' n g) : Calls Tryz.prog 33 #[.slice A n c, .slice A' n c'] w fun e w' => e = .returned (.bool true) ∧ Below w.heap.size w w' := by
  have hn := h.1
  unfold maxLen at hn
  go_enter Tryz.func33, Tryz.ntmps33
  go_wp2_with fail
  go_loopw [5] (fun i wr => ∃ q : Nat, q ≤ n ∧ i = .int .i64 q ∧ Below w.heap.size w wr) (fun i _ => n - (intOf i).toNat)
  case atStart => exact ⟨0, Nat.zero_le _, rfl, Below.refl _ _⟩
  case round =>
    obtain ⟨q, hq, rfl, hb⟩ := hrel
    by_cases hlt : q < n
    · have h1 := h.below hb
      have h2 := h'.below hb
      obtain ⟨b, off, rfl, hs, hc⟩ := h1.2.1 q hlt
      obtain ⟨b', off', rfl, hs', hc'⟩ := h2.2.1 q hlt
      have hcs := Fld.cells hc
      have hcs' := Fld.cells hc'
      have HI := Lib.hid (h1.2.2 q hlt)
      clear hc hs hc' hs' h h'
      generalize g q = f at *
      obtain ⟨a0, a1, a2, a3, a4, a5, a6, a7, a8, a9, a10, a11, a12, a13, a14⟩ := hcs
      obtain ⟨b0, b1, b2, b3, b4, b5, b6, b7, b8, b9, b10, b11, b12, b13, b14⟩ := hcs'
      obtain ⟨hbn, ⟨l, hll, hrl⟩, hin, g', hg1, hg2⟩ := HI.out
      have hcv := conv_up2 hll hrl f.bc
      have HR := Lib.hid (show FldsOk k wr f.iA f.ilen g' from ⟨hin, hg1, hg2⟩)
      have hneq := neq23
      clear hbn hrl hin hg1 hg2 HI h1 h2
      have i1 : (0 : Int) ≤ (q : Int) := by omega
      have i2 : (q : Int) < (n : Int) := by omega
      go_wp2_with fail
      go_region_held3 (fun w' => w'.cell? ⟨b, off + q * 15, none⟩ = some (.int .i64 f.kind) ∧ w'.cell? ⟨b, off + q * 15 + 1, none⟩ = some (.string f.key) ∧ w'.cell? ⟨b, off + q * 15 + 2, none⟩ = some (.int .i64 f.width) ∧ w'.cell? ⟨b, off + q * 15 + 3, none⟩ = some (.int .i64 f.int) ∧ w'.cell? ⟨b, off + q * 15 + 4, none⟩ = some (.int .u64 f.uint) ∧ w'.cell? ⟨b, off + q * 15 + 5, none⟩ = some (.int .u64 f.re) ∧ w'.cell? ⟨b, off + q * 15 + 6, none⟩ = some (.int .u64 f.im) ∧ w'.cell? ⟨b, off + q * 15 + 7, none⟩ = some (.string f.text) ∧ w'.cell? ⟨b, off + q * 15 + 8, none⟩ = some (.slice f.bA f.bn f.bc) ∧ w'.cell? ⟨b, off + q * 15 + 9, none⟩ = some (.bool f.zero) ∧ w'.cell? ⟨b, off + q * 15 + 10, none⟩ = some (.int .i64 f.nanos) ∧ w'.cell? ⟨b, off + q * 15 + 11, none⟩ = some (.int .i64 f.offset) ∧ w'.cell? ⟨b, off + q * 15 + 12, none⟩ = some (.string f.zone) ∧ w'.cell? ⟨b, off + q * 15 + 13, none⟩ = some (.slice f.iA f.ilen f.ic) ∧ w'.cell? ⟨b, off + q * 15 + 14, none⟩ = some (.string f.fail) ∧ w'.cell? ⟨b', off' + q * 15, none⟩ = some (.int .i64 f.kind) ∧ w'.cell? ⟨b', off' + q * 15 + 1, none⟩ = some (.string f.key) ∧ w'.cell? ⟨b', off' + q * 15 + 2, none⟩ = some (.int .i64 f.width) ∧ w'.cell? ⟨b', off' + q * 15 + 3, none⟩ = some (.int .i64 f.int) ∧ w'.cell? ⟨b', off' + q * 15 + 4, none⟩ = some (.int .u64 f.uint) ∧ w'.cell? ⟨b', off' + q * 15 + 5, none⟩ = some (.int .u64 f.re) ∧ w'.cell? ⟨b', off' + q * 15 + 6, none⟩ = some (.int .u64 f.im) ∧ w'.cell? ⟨b', off' + q * 15 + 7, none⟩ = some (.string f.text) ∧ w'.cell? ⟨b', off' + q * 15 + 8, none⟩ = some (.slice f.bA f.bn f.bc) ∧ w'.cell? ⟨b', off' + q * 15 + 9, none⟩ = some (.bool f.zero) ∧ w'.cell? ⟨b', off' + q * 15 + 10, none⟩ = some (.int .i64 f.nanos) ∧ w'.cell? ⟨b', off' + q * 15 + 11, none⟩ = some (.int .i64 f.offset) ∧ w'.cell? ⟨b', off' + q * 15 + 12, none⟩ = some (.string f.zone) ∧ w'.cell? ⟨b', off' + q * 15 + 13, none⟩ = some (.slice f.iA f.ilen f.ic) ∧ w'.cell? ⟨b', off' + q * 15 + 14, none⟩ = some (.string f.fail)) (go_keep) (fail)
      all_goals (go_wp2_with (go_at_call 33; go_must (refine (hk _ f.iA f.iA f.ilen f.ic f.ic g' (HR.out.below (by go_grown)) (HR.out.below (by go_grown))).mono ?_; rintro e w1 ⟨rfl, hb1⟩)))
      all_goals go_roundw
      all_goals first
        | exact ⟨q + 1, by omega, by go_num, hb.trans ((Below.trans (B := wr.heap.size) (by go_grown) (hb1.mono (by simp; omega))).mono hb.size)⟩
        | (simp [intOf]; omega)
    · go_wp2_with fail
      go_ret
      exact ⟨rfl, hb⟩
/-- Lists of fields that read the same are the same. -/
theorem same_any : ∀ (k : Nat) (w : World) (A A' : Option Addr) (n c c' : Nat) (g : Nat → Fld), FldsOk k w A n g → FldsOk k w A' n g → Calls Tryz.prog 33 #[.slice A n c, .slice A' n c'] w fun e w' => e = .returned (.bool true) ∧ Below w.heap.size w w'
  | 0, w, A, A', n, c, c', g, h, h' => by
    have hn := h.1
    have h0 : n = 0 := by
      rcases Nat.eq_zero_or_pos n with h1 | h1
      · exact h1
      · exact (h.2.2 0 h1).elim
    subst h0
    clear h h'
    go_enter Tryz.func33, Tryz.ntmps33
    go_wp2_with fail
    refine wp_loop_rounds 1 ?_
    rw [rounds_succ]
    go_wp2_with fail
    go_ret
    exact ⟨rfl, Below.refl _ _⟩
  | k + 1, w, A, A', n, c, c', g, h, h' => same_round w k (same_any k) A A' n c c' g h h'
end Go.Proofs.YtieidjlmgalihaaGreatDoor
