/- Days, dates, clocks: the program's functions. -/
import Derived.Test.YtieidjlmgalihaaGreatDoorTbC
import Derived.Test.YtieidjlmgalihaaGreatDoorKit3
set_option linter.all false
namespace Go.Proofs.YtieidjlmgalihaaGreatDoor
open Go.RowKit
set_option maxRecDepth 100000
theorem or32 (a b : Nat) (ha : a < 4294967296) (hb : b < 4294967296) : bits .or .u32 (a : Int) (b : Int) = ((a ||| b : Nat) : Int) := by
  have hx : a ||| b < 2 ^ 32 := Nat.or_lt_two_pow (by omega) (by omega)
  have h1 : (BitVec.ofInt 32 (a : Int)).toNat = a := by
    rw [BitVec.ofInt_natCast, BitVec.toNat_ofNat]; exact Nat.mod_eq_of_lt (by omega)
  have h2 : (BitVec.ofInt 32 (b : Int)).toNat = b := by
    rw [BitVec.ofInt_natCast, BitVec.toNat_ofNat]; exact Nat.mod_eq_of_lt (by omega)
  show IntKind.u32.wrap ((BitVec.ofInt 32 (a : Int) ||| BitVec.ofInt 32 (b : Int)).toNat : Int) = _
  rw [BitVec.toNat_or, h1, h2]
  simp [IntKind.wrap, IntKind.signed, IntKind.bits]
  omega
theorem and32 (a b : Nat) (ha : a < 4294967296) (hb : b < 4294967296) : bits .and .u32 (a : Int) (b : Int) = ((a &&& b : Nat) : Int) := by
  have hx : a &&& b < 2 ^ 32 := Nat.and_lt_two_pow _ (by omega)
  have h1 : (BitVec.ofInt 32 (a : Int)).toNat = a := by
    rw [BitVec.ofInt_natCast, BitVec.toNat_ofNat]; exact Nat.mod_eq_of_lt (by omega)
  have h2 : (BitVec.ofInt 32 (b : Int)).toNat = b := by
    rw [BitVec.ofInt_natCast, BitVec.toNat_ofNat]; exact Nat.mod_eq_of_lt (by omega)
  show IntKind.u32.wrap ((BitVec.ofInt 32 (a : Int) &&& BitVec.ofInt 32 (b : Int)).toNat : Int) = _
  rw [BitVec.toNat_and, h1, h2]
  simp [IntKind.wrap, IntKind.signed, IntKind.bits]
  omega
theorem or_three (a : Nat) : a ||| 3 = a / 4 * 4 + 3 := by
  apply Nat.eq_of_testBit_eq
  intro j
  have e1 : a = 2 ^ 2 * (a / 4) + a % 4 := by omega
  have e2 : a / 4 * 4 + 3 = 2 ^ 2 * (a / 4) + 3 := by omega
  have h1 : a.testBit j = if j < 2 then (a % 4).testBit j else (a / 4).testBit (j - 2) := by
    conv => lhs; rw [e1]
    exact Nat.testBit_two_pow_mul_add _ (by omega) _
  rw [Nat.testBit_or, e2, Nat.testBit_two_pow_mul_add _ (by omega), h1]
  by_cases hj : j < 2
  · rw [if_pos hj, if_pos hj]
    obtain rfl | rfl : j = 0 ∨ j = 1 := by omega
    · simp
    · have : (3 : Nat).testBit 1 = true := by decide
      rw [this]
      simp
  · rw [if_neg hj, if_neg hj]
    have : (3 : Nat).testBit j = false := Nat.testBit_lt_two_pow (Nat.lt_of_lt_of_le (show 3 < 2 ^ 2 by decide) (Nat.pow_le_pow_right (by omega) (by omega)))
    rw [this]
    simp
theorem or3 (x : Int) (h0 : 0 ≤ x) (h1 : x < 146097) : bits .or .u32 x 3 = x / 4 * 4 + 3 := by
  obtain ⟨a, rfl⟩ : ∃ a : Nat, x = (a : Int) := ⟨x.toNat, by omega⟩
  have := or32 a 3 (by omega) (by omega)
  rw [or_three] at this
  refine this.trans ?_
  omega
theorem and16 (x : Int) (h0 : 0 ≤ x) (h1 : x < 4294967296) : bits .and .u32 x 65535 = x % 65536 := by
  obtain ⟨a, rfl⟩ : ∃ a : Nat, x = (a : Int) := ⟨x.toNat, by omega⟩
  have := and32 a 65535 (by omega) (by omega)
  rw [show (65535 : Nat) = 2 ^ 16 - 1 from rfl, Nat.and_two_pow_sub_one_eq_mod] at this
  refine this.trans ?_
  omega
theorem mul32_is (w : World) (x : Int) (h0 : 0 ≤ x) (h1 : x ≤ 146099) : Calls Tryz.prog 243 #[.int .u32 2939745, .int .u32 x] w fun e w' => e = .returned (.tuple #[.int .u32 (2939745 * x / 4294967296), .int .u32 (2939745 * x % 4294967296)]) ∧ w = w' := by
  go_enter Tryz.func243, Tryz.ntmps243
  go_wp2
  exact bodyPost_ret (v := .tuple #[.int .u32 (2939745 * x / 4294967296), .int .u32 (2939745 * x % 4294967296)]) (by simp [results, Tryz.results243, go_sem]) rfl ⟨rfl, rfl⟩
theorem split_is (w : World) (A : Int) (h0 : 106751991073400 - 110000 ≤ A) (h1 : A ≤ 106751991073400 + 110000) : Calls Tryz.prog 229 #[.int .u64 A] w fun e w' => e = .returned (.tuple #[.int .u64 (tC A), .int .i64 (tCy A), .int .i64 (tYd A)]) ∧ w = w' := by
  have ho := or3 ((4 * A + 3) % 146097) (by omega) (by omega)
  have hcd : bits .or .u32 ((4 * A + 3) % 146097) 3 = tCd A := ho
  have c0 : 3 ≤ tCd A ∧ tCd A ≤ 146099 := by unfold tCd; omega
  obtain ⟨m1, m2⟩ := mul_cy (tCd A) (by omega) c0.2
  have hcy : 0 ≤ tCy A ∧ tCy A ≤ 99 := by unfold tCy; omega
  have hyd : 0 ≤ tYd A ∧ tYd A ≤ 365 := by unfold tYd; omega
  have e1 : 2939745 * tCd A / 4294967296 = tCy A := m1
  have e2 : 2939745 * tCd A % 4294967296 / 2939745 / 4 = tYd A := m2
  have hr : 0 ≤ 2939745 * tCd A % 4294967296 ∧ 2939745 * tCd A % 4294967296 < 4294967296 := by omega
  clear ho m1 m2
  go_enter Tryz.func229, Tryz.ntmps229
  go_wp2_with (go_at_call 243; go_must (refine (mul32_is _ _ (by omega) (by omega)).mono ?_; rintro e w1 ⟨rfl, rfl⟩; rw [e1]; generalize 2939745 * tCd A % 4294967296 = r at *))
  exact bodyPost_ret (v := .tuple #[.int .u64 (tC A), .int .i64 (tCy A), .int .i64 (tYd A)]) (by simp [results, Tryz.results229, go_sem]; rfl) rfl ⟨rfl, rfl⟩
theorem ysplit_is (w : World) (y : Int) (h0 : 0 ≤ y) (h1 : y ≤ 365) : Calls Tryz.prog 230 #[.int .i64 y] w fun e w' => e = .returned (.tuple #[.int .i64 ((2141 * y + 197913) / 65536), .int .i64 (1 + (2141 * y + 197913) % 65536 / 2141)]) ∧ w = w' := by
  have ha := and16 (2141 * y + 197913) (by omega) (by omega)
  go_enter Tryz.func230, Tryz.ntmps230
  go_wp2
  exact bodyPost_ret (v := .tuple #[.int .i64 ((2141 * y + 197913) / 65536), .int .i64 (1 + (2141 * y + 197913) % 65536 / 2141)]) (by simp [results, Tryz.results230, go_sem]) rfl ⟨rfl, rfl⟩
theorem jan_is (w : World) (y : Int) (h0 : 0 ≤ y) (h1 : y ≤ 365) : Calls Tryz.prog 231 #[.int .i64 y] w fun e w' => e = .returned (.int .i64 (if 306 ≤ y then 1 else 0)) ∧ w = w' := by
  by_cases hy : 306 ≤ y
  · rw [if_pos hy]
    go_enter Tryz.func231, Tryz.ntmps231
    go_wp2
    go_ret
    exact ⟨rfl, rfl⟩
  · rw [if_neg hy]
    go_enter Tryz.func231, Tryz.ntmps231
    go_wp2
    go_ret
    exact ⟨rfl, rfl⟩
theorem year_is (w : World) (c cy j : Int) (h0 : 2922770220 ≤ c) (h1 : c ≤ 2922780000) (h2 : 0 ≤ cy) (h3 : cy ≤ 99) (h4 : 0 ≤ j) (h5 : j ≤ 1) (h6 : 292277022400 ≤ 100 * c) : Calls Tryz.prog 232 #[.int .u64 c, .int .i64 cy, .int .i64 j] w fun e w' => e = .returned (.int .i64 (c * 100 - 292277022400 + cy + j)) ∧ w = w' := by
  go_enter Tryz.func232, Tryz.ntmps232
  go_wp2
  go_ret
  exact ⟨rfl, rfl⟩
theorem month_is (w : World) (m j : Int) (h0 : 0 ≤ m) (h1 : m ≤ 20) (h4 : 0 ≤ j) (h5 : j ≤ 1) : Calls Tryz.prog 233 #[.int .i64 m, .int .i64 j] w fun e w' => e = .returned (.int .i64 (m - j * 12)) ∧ w = w' := by
  go_enter Tryz.func233, Tryz.ntmps233
  go_wp2
  go_ret
  exact ⟨rfl, rfl⟩
theorem days_is (w : World) (t : Int) (h0 : 0 ≤ t) (h1 : t < 18446744073709551616) : Calls Tryz.prog 211 #[.int .u64 t] w fun e w' => e = .returned (.int .u64 (t / 86400)) ∧ w = w' := by
  go_enter Tryz.func211, Tryz.ntmps211
  go_wp2
  go_ret
  exact ⟨rfl, rfl⟩
theorem clock_is (w : World) (t : Int) (h0 : 0 ≤ t) (h1 : t < 18446744073709551616) : Calls Tryz.prog 214 #[.int .u64 t] w fun e w' => e = .returned (.tuple #[.int .i64 (t % 86400 / 3600), .int .i64 (t % 86400 % 3600 / 60), .int .i64 (t % 86400 % 3600 % 60)]) ∧ w = w' := by
  have e1 : t % 86400 - t % 86400 / 3600 * 3600 = t % 86400 % 3600 := by omega
  have e2 : t % 86400 % 3600 - t % 86400 % 3600 / 60 * 60 = t % 86400 % 3600 % 60 := by omega
  go_enter Tryz.func214, Tryz.ntmps214
  go_wp2
  exact bodyPost_ret (v := .tuple #[.int .i64 (t % 86400 / 3600), .int .i64 (t % 86400 % 3600 / 60), .int .i64 (t % 86400 % 3600 % 60)]) (by simp [results, Tryz.results214, go_sem, e1, e2]; omega) rfl ⟨rfl, rfl⟩
theorem date_is (w : World) (A : Int) (h0 : 106751991073400 - 110000 ≤ A) (h1 : A ≤ 106751991073400 + 110000) : Calls Tryz.prog 212 #[.int .u64 A] w fun e w' => e = .returned (.tuple #[.int .i64 (tYear A), .int .i64 (tMon A), .int .i64 (tD A)]) ∧ w = w' := by
  have hcy : 0 ≤ tCy A ∧ tCy A ≤ 99 := by unfold tCy tCd; omega
  have hyd : 0 ≤ tYd A ∧ tYd A ≤ 365 := by unfold tYd tCd; omega
  have hc : 2922770220 ≤ tC A ∧ tC A ≤ 2922780000 ∧ 292277022400 ≤ 100 * tC A := by unfold tC; omega
  have hmo : 0 ≤ (2141 * tYd A + 197913) / 65536 ∧ (2141 * tYd A + 197913) / 65536 ≤ 20 := by omega
  have hj : (0 : Int) ≤ (if 306 ≤ tYd A then 1 else 0) ∧ (if 306 ≤ tYd A then (1 : Int) else 0) ≤ 1 := by split <;> omega
  have ey : tC A * 100 - 292277022400 + tCy A + (if 306 ≤ tYd A then 1 else 0) = tYear A := by unfold tYear tJf; omega
  have em : (2141 * tYd A + 197913) / 65536 - (if 306 ≤ tYd A then 1 else 0) * 12 = tMon A := by unfold tMon tJf tMo; omega
  have ed : 1 + (2141 * tYd A + 197913) % 65536 / 2141 = tD A := rfl
  go_enter Tryz.func212, Tryz.ntmps212
  go_wp2_with (first
    | (go_at_call 229; go_must (refine (split_is _ A h0 h1).mono ?_; rintro e w1 ⟨rfl, rfl⟩))
    | (go_at_call 230; go_must (refine (ysplit_is _ _ hyd.1 hyd.2).mono ?_; rintro e w1 ⟨rfl, rfl⟩))
    | (go_at_call 231; go_must (refine (jan_is _ _ hyd.1 hyd.2).mono ?_; rintro e w1 ⟨rfl, rfl⟩))
    | (go_at_call 232; go_must (refine (year_is _ _ _ _ hc.1 hc.2.1 hcy.1 hcy.2 hj.1 hj.2 hc.2.2).mono ?_; rintro e w1 ⟨rfl, rfl⟩; rw [ey]))
    | (go_at_call 233; go_must (refine (month_is _ _ _ hmo.1 hmo.2 hj.1 hj.2).mono ?_; rintro e w1 ⟨rfl, rfl⟩; rw [em])))
  all_goals exact bodyPost_ret (v := .tuple #[.int .i64 (tYear A), .int .i64 (tMon A), .int .i64 (tD A)]) (by simp [results, Tryz.results212, go_sem, ed]) rfl ⟨rfl, rfl⟩
/-- A moment as the package has it: its clock and its place. -/
abbrev momV (n o : Int) (z : ByteArray) : Value := .agg #[.int .i64 (n / 1000000000 + 62135596800), .int .i32 (n % 1000000000), .string z, .int .i64 o]
theorem sec_is (w : World) (n o : Int) (z : ByteArray) : Calls Tryz.prog 195 #[momV n o z] w fun e w' => e = .returned (.int .i64 (n / 1000000000 + 62135596800)) ∧ Below w.heap.size w w' := by
  go_enter Tryz.func195, Tryz.ntmps195
  go_wp2
  go_ret
  exact ⟨rfl, by go_grown⟩
theorem nsec_is (w : World) (n o : Int) (z : ByteArray) : Calls Tryz.prog 184 #[momV n o z] w fun e w' => e = .returned (.int .i32 (n % 1000000000)) ∧ Below w.heap.size w w' := by
  go_enter Tryz.func184, Tryz.ntmps184
  go_wp2
  go_ret
  exact ⟨rfl, by go_grown⟩
end Go.Proofs.YtieidjlmgalihaaGreatDoor
