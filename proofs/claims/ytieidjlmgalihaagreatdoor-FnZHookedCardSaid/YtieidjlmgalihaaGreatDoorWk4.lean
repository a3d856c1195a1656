/- zzFits. -/
import Derived.Test.YtieidjlmgalihaaGreatDoorKit
namespace Go.Proofs.YtieidjlmgalihaaGreatDoor
open Go.RowKit
set_option maxRecDepth 100000
/-- What an entry holds. -/
structure Ent where
  level : Int
  zero : Bool
  nanos : Int
  offset : Int
  zone : ByteArray
  logger : ByteArray
  message : ByteArray
  defined : Bool
  file : ByteArray
  line : Int
  function : ByteArray
  stack : ByteArray
instance : Inhabited Ent := ⟨⟨0, false, 0, 0, .empty, .empty, .empty, false, .empty, 0, .empty, .empty⟩⟩
abbrev Ent.arr (e : Ent) : Array Value := #[.int .i64 e.level, .bool e.zero, .int .i64 e.nanos, .int .i64 e.offset, .string e.zone, .string e.logger, .string e.message, .bool e.defined, .string e.file, .int .i64 e.line, .string e.function, .string e.stack]
theorem fits10_any (w : World) (z : Bool) (n o : Int) (s : ByteArray) : Calls Tryz.prog 13 #[.agg #[.bool z, .int .i64 n, .int .i64 o, .string s]] w (SomeBool w) := by
  go_enter Tryz.func13, Tryz.ntmps13
  go_wp2
  all_goals (go_ret; exact ⟨_, rfl, (Below.refl _ _).alloc (Nat.le_refl _) _⟩)
set_option maxHeartbeats 400000 in
theorem fits9_any (w : World) (x : Ent) : Calls Tryz.prog 30 #[.agg x.arr] w (SomeBool w) := by
  go_enter Tryz.func30, Tryz.ntmps30
  go_wp2_with (go_at_call 13; refine (fits10_any _ _ _ _ _).mono ?_; rintro e w1 ⟨b, rfl, hb1⟩; obtain ⟨c1, f1, l1, n1⟩ := boxed hb1; clear hb1)
  all_goals (go_ret; exact ⟨_, rfl, n1⟩)
theorem Ent.cells {w : World} {b q : Nat} {e : Ent} (h : ∀ j, j < 12 → w.cell? ⟨b, q + j, none⟩ = e.arr[j]?) : w.cell? ⟨b, q, none⟩ = some (.int .i64 e.level) ∧ w.cell? ⟨b, q + 1, none⟩ = some (.bool e.zero) ∧ w.cell? ⟨b, q + 2, none⟩ = some (.int .i64 e.nanos) ∧ w.cell? ⟨b, q + 3, none⟩ = some (.int .i64 e.offset) ∧ w.cell? ⟨b, q + 4, none⟩ = some (.string e.zone) ∧ w.cell? ⟨b, q + 5, none⟩ = some (.string e.logger) ∧ w.cell? ⟨b, q + 6, none⟩ = some (.string e.message) ∧ w.cell? ⟨b, q + 7, none⟩ = some (.bool e.defined) ∧ w.cell? ⟨b, q + 8, none⟩ = some (.string e.file) ∧ w.cell? ⟨b, q + 9, none⟩ = some (.int .i64 e.line) ∧ w.cell? ⟨b, q + 10, none⟩ = some (.string e.function) ∧ w.cell? ⟨b, q + 11, none⟩ = some (.string e.stack) :=
  ⟨h 0 (by omega), h 1 (by omega), h 2 (by omega), h 3 (by omega), h 4 (by omega), h 5 (by omega), h 6 (by omega), h 7 (by omega), h 8 (by omega), h 9 (by omega), h 10 (by omega), h 11 (by omega)⟩
theorem fits8_any (w : World) (A : Option Addr) (n c : Nat) (es : Nat → Ent) (hn : n ≤ maxLen) (hr : RowAt w A n 12 fun i => (es i).arr) : Calls Tryz.prog 24 #[.slice A n c] w (SomeBool w) := by
  unfold maxLen at hn
  go_enter Tryz.func24, Tryz.ntmps24
  go_wp2_with fail
  · go_ret
    exact ⟨_, rfl, Below.refl _ _⟩
  · go_loopw [10] (fun i wr => ∃ k : Nat, k ≤ n ∧ i = .int .i64 k ∧ Below w.heap.size w wr) (fun i _ => n - (intOf i).toNat)
    case atStart => exact ⟨0, Nat.zero_le _, rfl, Below.refl _ _⟩
    case round =>
      obtain ⟨k, hk, rfl, hb⟩ := hrel
      by_cases hlt : k < n
      · obtain ⟨b, off, rfl, hs, hc⟩ := (hr.below hb) k hlt
        have hcs := Ent.cells hc
        clear hc hs hr
        go_wp2_with (go_at_call 30; refine (fits9_any _ (es k)).mono ?_; rintro e w1 ⟨ok, rfl, hb1⟩)
        · go_ret
          exact ⟨_, rfl, (hb.alloc hb.size _).trans (hb1.mono (by simp; have := hb.size; omega))⟩
        · go_roundw
          case rel => exact ⟨k + 1, by omega, by go_num, (hb.alloc hb.size _).trans (hb1.mono (by simp; have := hb.size; omega))⟩
          case measure => simp [intOf]; omega
      · go_wp2_with fail
        go_ret
        exact ⟨_, rfl, hb⟩
end Go.Proofs.YtieidjlmgalihaaGreatDoor
