/- A moment's text: its parts, and what is read of them. -/
import Derived.Test.YtieidjlmgalihaaGreatDoorTbA
import Derived.Test.YtieidjlmgalihaaGreatDoorTbB
set_option linter.all false
namespace Go.Proofs.YtieidjlmgalihaaGreatDoor
/-- Absolute seconds. -/
def tAbs (n o : Int) : Int := n / 1000000000 + o + 9223372028741760000
def tH (n o : Int) : Int := tAbs n o % 86400 / 3600
def tMi (n o : Int) : Int := tAbs n o % 86400 % 3600 / 60
def tS (n o : Int) : Int := tAbs n o % 86400 % 3600 % 60
def tA_ (n o : Int) : Int := tAbs n o / 86400
theorem tDays1970 : tDays 1970 = 719162 := by decide
/-- What is read is what was written. -/
theorem back (n o : Int) : (tDays (tYear (tA_ n o)) - tDays 1970 + tD (tA_ n o) - 1 + tCum (tYear (tA_ n o)) (tMon (tA_ n o) - 1).toNat) * 86400 + (3600 * tH n o + 60 * tMi n o + tS n o - o) = n / 1000000000 := by
  have h := (civil (tA_ n o)).1
  rw [tDays1970]
  generalize tDays (tYear (tA_ n o)) = a at *
  generalize tCum (tYear (tA_ n o)) (tMon (tA_ n o) - 1).toNat = b at *
  generalize tD (tA_ n o) = c at *
  have e : a - 719162 + c - 1 + b = tA_ n o - 106751991073400 := by omega
  rw [e]
  unfold tH tMi tS tA_
  have h2 : tAbs n o = n / 1000000000 + o + 9223372028741760000 := rfl
  generalize tAbs n o = t at *
  omega
theorem clock_in (n o : Int) : 0 ≤ tH n o ∧ tH n o ≤ 23 ∧ 0 ≤ tMi n o ∧ tMi n o ≤ 59 ∧ 0 ≤ tS n o ∧ tS n o ≤ 59 := by
  unfold tH tMi tS
  generalize tAbs n o = t
  omega
theorem day_in (n o : Int) (h0 : -9223372036854775808 ≤ n) (h1 : n ≤ 9223372036854775807) (h2 : -86400 < o) (h3 : o < 86400) : 106751991073400 - 110000 ≤ tA_ n o ∧ tA_ n o ≤ 106751991073400 + 110000 := by
  unfold tA_ tAbs
  omega
theorem tMonth_le (y m : Int) : tMonth y m ≤ 31 := by
  unfold tMonth
  split
  · omega
  · split
    · split <;> omega
    · omega
/-- Parts of a second without noughts at the end. -/
theorem parts_some (x : Nat) (h0 : 0 < x) (h1 : x < 1000000000) : ∃ k, 1 ≤ k ∧ k ≤ 9 ∧ x % 10 ^ (9 - k) = 0 ∧ x / 10 ^ (9 - k) % 10 ≠ 0 := by
  have key : ∀ j : Nat, j ≤ 8 → x % 10 ^ j = 0 → ∃ k, 1 ≤ k ∧ k ≤ 9 ∧ x % 10 ^ (9 - k) = 0 ∧ x / 10 ^ (9 - k) % 10 ≠ 0 := by
    intro j hj
    induction hd : 8 - j generalizing j with
    | zero =>
      intro hm
      obtain rfl : j = 8 := by omega
      refine ⟨1, by omega, by omega, hm, ?_⟩
      have e : x / 10 ^ (9 - 1) < 10 := by
        rw [Nat.div_lt_iff_lt_mul (by decide)]
        exact h1
      have e2 : x / 10 ^ (9 - 1) ≠ 0 := by
        intro h
        have := Nat.div_add_mod x (10 ^ 8)
        simp only [Nat.add_one_sub_one, show 9 - 1 = 8 from rfl] at h
        rw [h, hm] at this
        omega
      omega
    | succ d ih =>
      intro hm
      by_cases hz : x / 10 ^ j % 10 = 0
      · refine ih (j + 1) (by omega) (by omega) ?_
        rw [Nat.pow_succ, Nat.mod_mul, hm, hz]
        simp
      · refine ⟨9 - j, by omega, by omega, ?_, ?_⟩
        · rw [show 9 - (9 - j) = j by omega]; exact hm
        · rw [show 9 - (9 - j) = j by omega]; exact hz
  exact key 0 (by omega) (by simp [Nat.mod_one])
end Go.Proofs.YtieidjlmgalihaaGreatDoor
