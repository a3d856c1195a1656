/- The reader's calendar: zFloor, zDays, zLeap, zMonth, zTwo. -/
import Derived.Test.YtieidjlmgalihaaGreatDoorTbG
import Derived.Test.YtieidjlmgalihaaGreatDoorTbC
import Derived.PlainAid
set_option linter.all false
namespace Go.Proofs.YtieidjlmgalihaaGreatDoor
open Go.RowKit Go.PlainAid
set_option maxRecDepth 100000
theorem floor_is (w : World) (x d : Int) (h0 : 0 ≤ x) (h1 : x ≤ 10000) (hd : 0 < d) (hd1 : d ≤ 400) : Calls Tryz.prog 105 #[.int .i64 x, .int .i64 d] w fun e w' => e = .returned (.int .i64 (x / d)) ∧ w' = w := by
  have hq : x.tdiv d = x / d := Int.tdiv_eq_ediv_of_nonneg h0
  have hr : x.tmod d = x % d := Int.tmod_eq_emod_of_nonneg h0
  have q0 : 0 ≤ x / d := Int.ediv_nonneg h0 (by omega)
  have q1 : x / d ≤ 10000 := by
    have := Int.ediv_le_self d h0
    omega
  have r0 : 0 ≤ x % d := Int.emod_nonneg x (by omega)
  have r1 : x % d < d := Int.emod_lt_of_pos x hd
  have dz : (d == 0) = false := by simp; omega
  have x0 : decide (x < 0) = false := by simp; omega
  have d0 : decide (d < 0) = false := by simp; omega
  go_enter Tryz.func105, Tryz.ntmps105
  go_wp2_with fail
  all_goals go_ret
  all_goals exact ⟨rfl, rfl⟩
theorem daysOf_is (w : World) (y : Int) (h0 : 1 ≤ y) (h1 : y ≤ 9999) : Calls Tryz.prog 55 #[.int .i64 y] w fun e w' => e = .returned (.int .i64 (tDays y)) ∧ w' = w := by
  have hD : 365 * (y - 1) + (y - 1) / 4 - (y - 1) / 100 + (y - 1) / 400 = tDays y := rfl
  have a0 : 0 ≤ (y - 1) / 4 ∧ (y - 1) / 4 ≤ 10000 := by omega
  have a1 : 0 ≤ (y - 1) / 100 ∧ (y - 1) / 100 ≤ 10000 := by omega
  have a2 : 0 ≤ (y - 1) / 400 ∧ (y - 1) / 400 ≤ 10000 := by omega
  have HF := Lib.hid (fun W d (hd : 0 < d) (hd1 : d ≤ 400) => floor_is W (y - 1) d (by omega) (by omega) hd hd1)
  go_enter Tryz.func55, Tryz.ntmps55
  go_wp2_with (go_at_call 105; go_must (refine (HF.out _ _ (by omega) (by omega)).mono ?_; rintro e w1 ⟨rfl, rfl⟩))
  go_ret
  exact ⟨rfl, rfl⟩
theorem leapOf_is (w : World) (y : Int) (h0 : 1 ≤ y) (h1 : y ≤ 9998) : Calls Tryz.prog 104 #[.int .i64 y] w fun e w' => e = .returned (.bool (tLeap y)) ∧ w' = w := by
  have HF := Lib.hid (fun W (x : Int) (hd : 1 ≤ x) (hd1 : x ≤ 9999) => daysOf_is W x hd hd1)
  have ha : ∀ x : Int, 1 ≤ x → x ≤ 9999 → 0 ≤ tDays x ∧ tDays x ≤ 5000000 := by intro x _ _; unfold tDays; omega
  have a0 := ha y (by omega) (by omega)
  have a1 := ha (y + 1) (by omega) (by omega)
  have hL : decide (tDays (y + 1) - tDays y = 366) = tLeap y := rfl
  generalize hA : tDays y = A at *
  generalize hB : tDays (y + 1) = B at *
  go_enter Tryz.func104, Tryz.ntmps104
  go_wp2_with (go_at_call 55; go_must (refine (HF.out _ _ (by omega) (by omega)).mono ?_; rintro e w1 ⟨rfl, rfl⟩; try rw [hA]; try rw [hB]))
  go_ret
  exact ⟨by rw [← hL]; congr 2, rfl⟩
theorem monthOf_is (w : World) (y m : Int) (h0 : 1 ≤ y) (h1 : y ≤ 9998) (m0 : 1 ≤ m) (m1 : m ≤ 12) : Calls Tryz.prog 54 #[.int .i64 y, .int .i64 m] w fun e w' => e = .returned (.int .i64 (tMonth y m)) ∧ w' = w := by
  have HL := Lib.hid (fun W => leapOf_is W y h0 h1)
  have hM : tMonth y m = if m = 4 ∨ m = 6 ∨ m = 9 ∨ m = 11 then 30 else if m = 2 then (if tLeap y then 29 else 28) else 31 := rfl
  generalize tLeap y = L at *
  go_enter Tryz.func54, Tryz.ntmps54
  go_wp2_with (go_at_call 104; go_must (refine (HL.out _).mono ?_; rintro e w1 ⟨rfl, rfl⟩))
  all_goals go_ret
  all_goals (refine ⟨?_, rfl⟩; rw [hM]; simp_all)
/-- k digits, read at a place. -/
theorem two_is (w : World) (s : ByteArray) (a k x : Nat) (hs : a + k ≤ s.size) (hz : s.size ≤ 100) (hk : k ≤ 4) (hx : x < 10 ^ k) (hb : ∀ i, i < k → bt s (a + i) = 48 + ((x / 10 ^ (k - 1 - i) % 10 : Nat) : Int)) :
    Calls Tryz.prog 53 #[.string s, .int .i64 (a : Int), .int .i64 (k : Int)] w fun e w' => e = .returned (.tuple #[.int .i64 (x : Int), .bool true]) ∧ w' = w := by
  have hb' := get_bt s
  have hx4 : x < 10000 := Nat.lt_of_lt_of_le hx (by have := Nat.pow_le_pow_right (n := 10) (by omega) hk; omega)
  have HX := Lib.hid (And.intro hx hb)
  clear hx hb
  go_enter Tryz.func53, Tryz.ntmps53
  go_wp2_with fail
  go_loopw [8, 9] (fun V i wr => ∃ q : Nat, q ≤ k ∧ i = .int .i64 ((a : Int) + (q : Int)) ∧ V = .int .i64 ((x / 10 ^ (k - q) : Nat) : Int) ∧ wr = w) (fun _ i _ => k - ((intOf i).toNat - a))
  case atStart => exact ⟨0, by omega, by simp, by rw [Nat.sub_zero, Nat.div_eq_of_lt HX.out.1]; rfl, rfl⟩
  case round =>
    obtain ⟨q, hq, rfl, rfl, rfl⟩ := hrel
    by_cases hqk : q < k
    · have hd := HX.out.2 q hqk
      have hd10 : x / 10 ^ (k - 1 - q) % 10 < 10 := Nat.mod_lt _ (by omega)
      have hstep : x / 10 ^ (k - q) = x / 10 ^ (k - 1 - q) / 10 := by
        rw [Nat.div_div_eq_div_mul, ← Nat.pow_succ, show (k - 1 - q).succ = k - q by omega]
      have hy : x / 10 ^ (k - 1 - q) ≤ x := Nat.div_le_self _ _
      have hnx : k - (q + 1) = k - 1 - q := by omega
      rw [hstep]
      generalize hyy : x / 10 ^ (k - 1 - q) = y at *
      generalize hdd : y % 10 = d at *
      go_wp2_with fail
      all_goals go_roundw
      case rel => exact ⟨q + 1, by omega, by congr 1 <;> omega, by rw [hnx, hyy]; congr 1 <;> omega, trivial⟩
      case measure => simp only [intOf]; omega
    · obtain rfl : q = k := by omega
      have hlt : decide ((a : Int) + (q : Int) < (a : Int) + (q : Int)) = false := by simp
      rw [show q - q = 0 by omega, Nat.pow_zero, Nat.div_one]
      go_wp2_with fail
      exact bodyPost_ret (v := .tuple #[.int .i64 (x : Int), .bool true]) (by simp [results, Tryz.results53, go_sem]) rfl ⟨rfl, rfl⟩
end Go.Proofs.YtieidjlmgalihaaGreatDoor
