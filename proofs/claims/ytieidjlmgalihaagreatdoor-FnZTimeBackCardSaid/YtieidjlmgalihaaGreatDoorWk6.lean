/- zzFits. -/
import Derived.Test.YtieidjlmgalihaaGreatDoorKit3
set_option linter.all false
namespace Go.Proofs.YtieidjlmgalihaaGreatDoor
open Go.RowKit
set_option maxRecDepth 100000
/-- What an entry holds. -/
structure Ent where
  level : Int
  zero : Bool
  nanos : Int
  offset : Int
  zone : ByteArray
  logger : ByteArray
  message : ByteArray
  defined : Bool
  file : ByteArray
  line : Int
  function : ByteArray
  stack : ByteArray
instance : Inhabited Ent := ⟨⟨0, false, 0, 0, .empty, .empty, .empty, false, .empty, 0, .empty, .empty⟩⟩
abbrev Ent.arr (e : Ent) : Array Value := #[.int .i64 e.level, .bool e.zero, .int .i64 e.nanos, .int .i64 e.offset, .string e.zone, .string e.logger, .string e.message, .bool e.defined, .string e.file, .int .i64 e.line, .string e.function, .string e.stack]
theorem fits10_any (w : World) (z : Bool) (n o : Int) (s : ByteArray) : Calls Tryz.prog 13 #[.agg #[.bool z, .int .i64 n, .int .i64 o, .string s]] w (SomeBool w) := by
  go_enter Tryz.func13, Tryz.ntmps13
  go_wp2
  all_goals (go_ret; exact ⟨_, rfl, (Below.refl _ _).alloc (Nat.le_refl _) _⟩)
set_option maxHeartbeats 400000 in
theorem fits9_any (w : World) (x : Ent) : Calls Tryz.prog 30 #[.agg x.arr] w (SomeBool w) := by
  go_enter Tryz.func30, Tryz.ntmps30
  go_wp2_with (go_at_call 13; refine (fits10_any _ _ _ _ _).mono ?_; rintro e w1 ⟨b, rfl, hb1⟩; obtain ⟨c1, f1, l1, n1⟩ := boxed hb1; clear hb1)
  all_goals (go_ret; exact ⟨_, rfl, n1⟩)
theorem Ent.cells {w : World} {b q : Nat} {e : Ent} (h : ∀ j, j < 12 → w.cell? ⟨b, q + j, none⟩ = e.arr[j]?) : w.cell? ⟨b, q, none⟩ = some (.int .i64 e.level) ∧ w.cell? ⟨b, q + 1, none⟩ = some (.bool e.zero) ∧ w.cell? ⟨b, q + 2, none⟩ = some (.int .i64 e.nanos) ∧ w.cell? ⟨b, q + 3, none⟩ = some (.int .i64 e.offset) ∧ w.cell? ⟨b, q + 4, none⟩ = some (.string e.zone) ∧ w.cell? ⟨b, q + 5, none⟩ = some (.string e.logger) ∧ w.cell? ⟨b, q + 6, none⟩ = some (.string e.message) ∧ w.cell? ⟨b, q + 7, none⟩ = some (.bool e.defined) ∧ w.cell? ⟨b, q + 8, none⟩ = some (.string e.file) ∧ w.cell? ⟨b, q + 9, none⟩ = some (.int .i64 e.line) ∧ w.cell? ⟨b, q + 10, none⟩ = some (.string e.function) ∧ w.cell? ⟨b, q + 11, none⟩ = some (.string e.stack) :=
  ⟨h 0 (by omega), h 1 (by omega), h 2 (by omega), h 3 (by omega), h 4 (by omega), h 5 (by omega), h 6 (by omega), h 7 (by omega), h 8 (by omega), h 9 (by omega), h 10 (by omega), h 11 (by omega)⟩
theorem fits8_any (w : World) (A : Option Addr) (n c : Nat) (es : Nat → Ent) (hn : n ≤ maxLen) (hr : RowAt w A n 12 fun i => (es i).arr) : Calls Tryz.prog 24 #[.slice A n c] w (SomeBool w) := by
  unfold maxLen at hn
  go_enter Tryz.func24, Tryz.ntmps24
  go_wp2_with fail
  · go_ret
    exact ⟨_, rfl, Below.refl _ _⟩
  · go_loopw [10] (fun i wr => ∃ k : Nat, k ≤ n ∧ i = .int .i64 k ∧ Below w.heap.size w wr) (fun i _ => n - (intOf i).toNat)
    case atStart => exact ⟨0, Nat.zero_le _, rfl, Below.refl _ _⟩
    case round =>
      obtain ⟨k, hk, rfl, hb⟩ := hrel
      by_cases hlt : k < n
      · obtain ⟨b, off, rfl, hs, hc⟩ := (hr.below hb) k hlt
        have hcs := Ent.cells hc
        clear hc hs hr
        go_wp2_with (go_at_call 30; refine (fits9_any _ (es k)).mono ?_; rintro e w1 ⟨ok, rfl, hb1⟩)
        · go_ret
          exact ⟨_, rfl, (hb.alloc hb.size _).trans (hb1.mono (by simp; have := hb.size; omega))⟩
        · go_roundw
          case rel => exact ⟨k + 1, by omega, by go_num, (hb.alloc hb.size _).trans (hb1.mono (by simp; have := hb.size; omega))⟩
          case measure => simp [intOf]; omega
      · go_wp2_with fail
        go_ret
        exact ⟨_, rfl, hb⟩
end Go.Proofs.YtieidjlmgalihaaGreatDoor
namespace Go.Proofs.YtieidjlmgalihaaGreatDoor
open Go.RowKit
set_option maxRecDepth 100000
abbrev utcS : ByteArray := ⟨#[85, 84, 67]⟩
theorem tdiv_neg (n : Int) (h : n < 0) (h0 : -9223372036854775808 ≤ n) : ∃ q, n.tdiv 1000000000 = q ∧ -9223372037 ≤ q ∧ q ≤ 0 ∧ -1000000000 < n - q * 1000000000 ∧ n - q * 1000000000 ≤ 0 := by
  refine ⟨n.tdiv 1000000000, rfl, ?_⟩
  have h1 : n.tdiv 1000000000 = -((-n) / 1000000000) := by
    rw [show n = -(-n) by omega, Int.neg_tdiv, Int.tdiv_eq_ediv_of_nonneg (by omega)]
    simp
  rw [h1]
  omega
theorem arr4 {a a' b b' : Int} (s : ByteArray) (h : a = a') (h' : b = b') : Ending.returned (.agg #[.int .i64 a, .int .i32 b, .string s, .int .i64 0]) = .returned (.agg #[.int .i64 a', .int .i32 b', .string s, .int .i64 0]) := by subst h; subst h'; rfl
theorem unix_any (w : World) (n : Int) (h0 : -9223372036854775808 ≤ n) (h1 : n ≤ 9223372036854775807) :
    Calls Tryz.prog 102 #[.int .i64 0, .int .i64 n] w fun e w' => e = .returned (.agg #[.int .i64 (n / 1000000000 + 62135596800), .int .i32 (n % 1000000000), .string utcS, .int .i64 0]) ∧ Below w.heap.size w w' := by
  by_cases ha : n < 0
  · obtain ⟨q, hq, q0, q1, q2, q3⟩ := tdiv_neg n ha h0
    by_cases hr : n - q * 1000000000 < 0
    all_goals
      go_enter Tryz.func102, Tryz.ntmps102
      go_wp2
      go_returns
      refine ⟨arr4 _ ?_ ?_, by go_grown⟩
      · omega
      · omega
  · by_cases hb : n < 1000000000
    all_goals
      go_enter Tryz.func102, Tryz.ntmps102
      go_wp2
      go_returns
      refine ⟨arr4 _ ?_ ?_, by go_grown⟩
      · omega
      · omega
theorem in_any (w : World) (a b o o' : Int) (s s' : ByteArray) :
    Calls Tryz.prog 103 #[.agg #[.int .i64 a, .int .i32 b, .string s, .int .i64 o], .string s', .int .i64 o'] w fun e w' => e = .returned (.agg #[.int .i64 a, .int .i32 b, .string s', .int .i64 o']) ∧ Below w.heap.size w w' := by
  go_enter Tryz.func103, Tryz.ntmps103
  go_wp2
  go_returns
  exact ⟨rfl, by go_grown⟩
/-- A moment's cells, as the package has it. -/
def momArr (z : Bool) (n o : Int) (s : ByteArray) : Array Value :=
  if z then #[.int .i64 0, .int .i32 0, .string ⟨#[]⟩, .int .i64 0] else #[.int .i64 (n / 1000000000 + 62135596800), .int .i32 (n % 1000000000), .string s, .int .i64 o]
theorem moment_zero (w : World) (n o : Int) (s : ByteArray) :
    Calls Tryz.prog 52 #[.agg #[.bool true, .int .i64 n, .int .i64 o, .string s]] w fun e w' => e = .returned (.agg (momArr true n o s)) ∧ Below w.heap.size w w' := by
  go_enter Tryz.func52, Tryz.ntmps52
  go_wp2
  go_returns
  exact ⟨rfl, by go_grown⟩
set_option maxHeartbeats 2000000 in
theorem moment_not (w : World) (n o : Int) (s : ByteArray) (h0 : -9223372036854775808 ≤ n) (h1 : n ≤ 9223372036854775807) :
    Calls Tryz.prog 52 #[.agg #[.bool false, .int .i64 n, .int .i64 o, .string s]] w fun e w' => e = .returned (.agg (momArr false n o s)) ∧ Below w.heap.size w w' := by
  go_enter Tryz.func52, Tryz.ntmps52
  go_wp2
  go_region_held3 (fun w' => (∀ i, w'.cell? ⟨w.heap.size, i, none⟩ = (#[.bool false, .int .i64 n, .int .i64 o, .string s] : Array Value)[i]?)) (first | assumption | (intro i; simp [go_sem, *]; done)) (first
    | (go_at_call 102; go_must (refine (unix_any _ n h0 h1).mono ?_; rintro e w' ⟨rfl, hb⟩; have hk := keep2 (b1 := w.heap.size) (b2 := w.heap.size + 1) (c1 := #[.bool false, .int .i64 n, .int .i64 o, .string s]) (c2 := #[.int .i64 0, .int .i32 0, .string ⟨#[]⟩, .int .i64 0]) (W0 := w) (by first | exact ⟨k1, k2, k3, k4⟩ | (refine ⟨?_, ?_, ?_, ?_⟩ <;> first | (go_grown; done) | (intro i; simp [go_sem]; done))) hb (by simp) (by simp); obtain ⟨k1, k2, k3, k4⟩ := hk))
    | (go_at_call 103; go_must (refine (in_any _ _ _ _ _ _ _).mono ?_; rintro e w' ⟨rfl, hb⟩; have hk := keep2 (b1 := w.heap.size) (b2 := w.heap.size + 1) (c1 := #[.bool false, .int .i64 n, .int .i64 o, .string s]) (c2 := #[.int .i64 0, .int .i32 0, .string ⟨#[]⟩, .int .i64 0]) (W0 := w) (by first | exact ⟨k1, k2, k3, k4⟩ | (refine ⟨?_, ?_, ?_, ?_⟩ <;> first | (go_grown; done) | (intro i; simp [go_sem]; done))) hb (by simp) (by simp); obtain ⟨k1, k2, k3, k4⟩ := hk)))
  have hc : ∀ i, _ = (#[.int .i64 (n / 1000000000 + 62135596800), .int .i32 (n % 1000000000), .string s, .int .i64 o] : Array Value)[i]? := setC (setC (setC (setC k2 0 (.int .i64 (n / 1000000000 + 62135596800))) 1 (.int .i32 (n % 1000000000))) 2 (.string s)) 3 (.int .i64 o)
  have hB : Below w.heap.size w _ := (((k4.setCell (p := ⟨w.heap.size + 1, 0, none⟩) (by simp) (.int .i64 (n / 1000000000 + 62135596800))).setCell (p := ⟨w.heap.size + 1, 1, none⟩) (by simp) (.int .i32 (n % 1000000000))).setCell (p := ⟨w.heap.size + 1, 2, none⟩) (by simp) (.string s)).setCell (p := ⟨w.heap.size + 1, 3, none⟩) (by simp) (.int .i64 o)
  clear k1 k2 k3
  generalize (((w'.setCell ⟨w.heap.size + 1, 0, none⟩ (.int .i64 (n / 1000000000 + 62135596800))).setCell ⟨w.heap.size + 1, 1, none⟩ (.int .i32 (n % 1000000000))).setCell ⟨w.heap.size + 1, 2, none⟩ (.string s)).setCell ⟨w.heap.size + 1, 3, none⟩ (.int .i64 o) = W at *
  go_wp2
  refine bodyPost_ret (v := .agg (momArr false n o s)) (by simp [results, Tryz.results52, go_sem, hc, momArr]) rfl ⟨rfl, hB⟩
theorem moment_any (w : World) (z : Bool) (n o : Int) (s : ByteArray) (h0 : -9223372036854775808 ≤ n) (h1 : n ≤ 9223372036854775807) :
    Calls Tryz.prog 52 #[.agg #[.bool z, .int .i64 n, .int .i64 o, .string s]] w fun e w' => e = .returned (.agg (momArr z n o s)) ∧ Below w.heap.size w w' := by
  cases z
  · exact moment_not w n o s h0 h1
  · exact moment_zero w n o s
/-- The four cells, each by itself. -/
def momExt (z : Bool) (n : Int) : Int := if z then 0 else n / 1000000000 + 62135596800
def momNs (z : Bool) (n : Int) : Int := if z then 0 else n % 1000000000
def momZone (z : Bool) (s : ByteArray) : ByteArray := if z then ⟨#[]⟩ else s
def momOff (z : Bool) (o : Int) : Int := if z then 0 else o
theorem moment_four (w : World) (z : Bool) (n o : Int) (s : ByteArray) (h0 : -9223372036854775808 ≤ n) (h1 : n ≤ 9223372036854775807) :
    Calls Tryz.prog 52 #[.agg #[.bool z, .int .i64 n, .int .i64 o, .string s]] w fun e w' => e = .returned (.agg #[.int .i64 (momExt z n), .int .i32 (momNs z n), .string (momZone z s), .int .i64 (momOff z o)]) ∧ Below w.heap.size w w' := by
  cases z
  · exact moment_not w n o s h0 h1
  · exact moment_zero w n o s
end Go.Proofs.YtieidjlmgalihaaGreatDoor
namespace Go.Proofs.YtieidjlmgalihaaGreatDoor
open Go.RowKit
set_option maxRecDepth 100000
set_option maxHeartbeats 4000000 in
theorem entry_cells (w : World) (lv : Int) (z : Bool) (n o : Int) (zn lg ms : ByteArray) (df : Bool) (fl : ByteArray) (ln : Int) (fn st : ByteArray) (h0 : -9223372036854775808 ≤ n) (h1 : n ≤ 9223372036854775807) :
    Calls Tryz.prog 65 #[.agg #[.int .i64 lv, .bool z, .int .i64 n, .int .i64 o, .string zn, .string lg, .string ms, .bool df, .string fl, .int .i64 ln, .string fn, .string st]] w fun e w' => e = .returned (.agg #[.int .i8 (IntKind.i8.wrap lv), .int .i64 (momExt z n), .int .i32 (momNs z n), .string (momZone z zn), .int .i64 (momOff z o), .string lg, .string ms, .bool df, .int .u64 0, .string fl, .int .i64 ln, .string fn, .string st]) ∧ Below w.heap.size w w' := by
  go_enter Tryz.func65, Tryz.ntmps65
  go_wp2
  go_region_held3 (fun w' => w'.cell? ⟨w.heap.size, 0, none⟩ = some (.int .i64 lv) ∧ w'.cell? ⟨w.heap.size, 1, none⟩ = some (.bool z) ∧ w'.cell? ⟨w.heap.size, 2, none⟩ = some (.int .i64 n) ∧ w'.cell? ⟨w.heap.size, 3, none⟩ = some (.int .i64 o) ∧ w'.cell? ⟨w.heap.size, 4, none⟩ = some (.string zn) ∧ w'.cell? ⟨w.heap.size, 5, none⟩ = some (.string lg) ∧ w'.cell? ⟨w.heap.size, 6, none⟩ = some (.string ms) ∧ w'.cell? ⟨w.heap.size, 7, none⟩ = some (.bool df) ∧ w'.cell? ⟨w.heap.size, 8, none⟩ = some (.string fl) ∧ w'.cell? ⟨w.heap.size, 9, none⟩ = some (.int .i64 ln) ∧ w'.cell? ⟨w.heap.size, 10, none⟩ = some (.string fn) ∧ w'.cell? ⟨w.heap.size, 11, none⟩ = some (.string st)) (go_keep) (first
    | (go_at_call 52; go_must (refine (moment_four _ z n o zn h0 h1).mono ?_; rintro e w1 ⟨rfl, hb⟩; have hk := keep2 (b1 := w.heap.size) (b2 := w.heap.size + 1) (c1 := #[.int .i64 lv, .bool z, .int .i64 n, .int .i64 o, .string zn, .string lg, .string ms, .bool df, .string fl, .int .i64 ln, .string fn, .string st]) (c2 := #[.int .i8 0, .int .i64 0, .int .i32 0, .string ⟨#[]⟩, .int .i64 0, .string ⟨#[]⟩, .string ⟨#[]⟩, .bool false, .int .u64 0, .string ⟨#[]⟩, .int .i64 0, .string ⟨#[]⟩, .string ⟨#[]⟩]) (W0 := w) (by (refine ⟨?_, ?_, ?_, ?_⟩ <;> first | (go_grown; done) | (intro i; simp [go_sem]; done))) hb (by simp) (by simp); obtain ⟨k1, k2, k3, k4⟩ := hk; have kk : w1.cell? ⟨w.heap.size, 0, none⟩ = some (.int .i64 lv) ∧ w1.cell? ⟨w.heap.size, 1, none⟩ = some (.bool z) ∧ w1.cell? ⟨w.heap.size, 2, none⟩ = some (.int .i64 n) ∧ w1.cell? ⟨w.heap.size, 3, none⟩ = some (.int .i64 o) ∧ w1.cell? ⟨w.heap.size, 4, none⟩ = some (.string zn) ∧ w1.cell? ⟨w.heap.size, 5, none⟩ = some (.string lg) ∧ w1.cell? ⟨w.heap.size, 6, none⟩ = some (.string ms) ∧ w1.cell? ⟨w.heap.size, 7, none⟩ = some (.bool df) ∧ w1.cell? ⟨w.heap.size, 8, none⟩ = some (.string fl) ∧ w1.cell? ⟨w.heap.size, 9, none⟩ = some (.int .i64 ln) ∧ w1.cell? ⟨w.heap.size, 10, none⟩ = some (.string fn) ∧ w1.cell? ⟨w.heap.size, 11, none⟩ = some (.string st) := ⟨k1 0, k1 1, k1 2, k1 3, k1 4, k1 5, k1 6, k1 7, k1 8, k1 9, k1 10, k1 11⟩; clear k1)))
  have hc := set13 k2 (.int .i8 (IntKind.i8.wrap lv)) (.int .i64 (momExt z n)) (.int .i32 (momNs z n)) (.string (momZone z zn)) (.int .i64 (momOff z o)) (.string lg) (.string ms) (.bool df) (.int .u64 0) (.string fl) (.int .i64 ln) (.string fn) (.string st)
  have hB := belowSet13 (b := w.heap.size + 1) k4 (by omega) (.int .i8 (IntKind.i8.wrap lv)) (.int .i64 (momExt z n)) (.int .i32 (momNs z n)) (.string (momZone z zn)) (.int .i64 (momOff z o)) (.string lg) (.string ms) (.bool df) (.int .u64 0) (.string fl) (.int .i64 ln) (.string fn) (.string st)
  clear k2 k3 kk
  generalize (((((((((((((w1).setCell ⟨w.heap.size + 1, 0, none⟩ (.int .i8 (IntKind.i8.wrap lv))).setCell ⟨w.heap.size + 1, 1, none⟩ (.int .i64 (momExt z n))).setCell ⟨w.heap.size + 1, 2, none⟩ (.int .i32 (momNs z n))).setCell ⟨w.heap.size + 1, 3, none⟩ (.string (momZone z zn))).setCell ⟨w.heap.size + 1, 4, none⟩ (.int .i64 (momOff z o))).setCell ⟨w.heap.size + 1, 5, none⟩ (.string lg)).setCell ⟨w.heap.size + 1, 6, none⟩ (.string ms)).setCell ⟨w.heap.size + 1, 7, none⟩ (.bool df)).setCell ⟨w.heap.size + 1, 8, none⟩ (.int .u64 0)).setCell ⟨w.heap.size + 1, 9, none⟩ (.string fl)).setCell ⟨w.heap.size + 1, 10, none⟩ (.int .i64 ln)).setCell ⟨w.heap.size + 1, 11, none⟩ (.string fn)).setCell ⟨w.heap.size + 1, 12, none⟩ (.string st) = W at *
  go_wp2
  refine bodyPost_ret (v := .agg #[.int .i8 (IntKind.i8.wrap lv), .int .i64 (momExt z n), .int .i32 (momNs z n), .string (momZone z zn), .int .i64 (momOff z o), .string lg, .string ms, .bool df, .int .u64 0, .string fl, .int .i64 ln, .string fn, .string st]) (by simp [results, Tryz.results65, go_sem, hc]) rfl ⟨rfl, hB⟩
/-- An entry's cells, as the package has it. -/
abbrev Ent.pub (x : Ent) : Array Value :=
  #[.int .i8 (IntKind.i8.wrap x.level), .int .i64 (momExt x.zero x.nanos), .int .i32 (momNs x.zero x.nanos), .string (momZone x.zero x.zone), .int .i64 (momOff x.zero x.offset), .string x.logger, .string x.message, .bool x.defined, .int .u64 0, .string x.file, .int .i64 x.line, .string x.function, .string x.stack]
theorem entry_any (w : World) (x : Ent) (h0 : -9223372036854775808 ≤ x.nanos) (h1 : x.nanos ≤ 9223372036854775807) :
    Calls Tryz.prog 65 #[.agg x.arr] w fun e w' => e = .returned (.agg x.pub) ∧ Below w.heap.size w w' :=
  entry_cells w x.level x.zero x.nanos x.offset x.zone x.logger x.message x.defined x.file x.line x.function x.stack h0 h1
end Go.Proofs.YtieidjlmgalihaaGreatDoor
