/- Numbers by digits: written and read. -/
set_option linter.all false
namespace Go.Proofs.YtieidjlmgalihaaGreatDoor
/-- x by k digits. -/
def dig : Nat → Nat → List UInt8
  | 0, _ => []
  | k + 1, x => dig k (x / 10) ++ [UInt8.ofNat (48 + x % 10)]
theorem dig_length : ∀ k x, (dig k x).length = k
  | 0, _ => rfl
  | k + 1, x => by simp [dig, dig_length k]
/-- What a digit is worth. -/
def dval (c : UInt8) : Int := (c.toNat : Int) - 48
/-- Digits, read one by one. -/
def rd (n : Int) (l : List UInt8) : Int := l.foldl (fun n c => n * 10 + dval c) n
theorem rd_append (n : Int) (l m : List UInt8) : rd n (l ++ m) = rd (rd n l) m := by simp [rd]
theorem dval_dig (x : Nat) : dval (UInt8.ofNat (48 + x % 10)) = (x % 10 : Nat) := by
  unfold dval
  have : (UInt8.ofNat (48 + x % 10)).toNat = 48 + x % 10 := by
    rw [UInt8.toNat_ofNat']
    omega
  rw [this]
  omega
theorem rd_dig : ∀ (k x : Nat), x < 10 ^ k → rd 0 (dig k x) = x
  | 0, x, h => by simp at h; subst h; rfl
  | k + 1, x, h => by
    have h1 : x / 10 < 10 ^ k := by rw [Nat.div_lt_iff_lt_mul (by omega)]; rw [Nat.pow_succ] at h; exact h
    rw [dig, rd_append, rd_dig k (x / 10) h1]
    show ((x / 10 : Nat) : Int) * 10 + dval _ = _
    rw [dval_dig]
    omega
theorem dig_digit : ∀ (k x : Nat), ∀ c ∈ dig k x, 48 ≤ c.toNat ∧ c.toNat ≤ 57
  | 0, _, c, h => by simp [dig] at h
  | k + 1, x, c, h => by
    rw [dig, List.mem_append] at h
    rcases h with h | h
    · exact dig_digit k _ c h
    · simp only [List.mem_singleton] at h
      subst h
      rw [UInt8.toNat_ofNat']
      omega
/-- The first digits of more digits. -/
theorem dig_take : ∀ (j k x : Nat), (dig (k + j) x).take k = dig k (x / 10 ^ j)
  | 0, k, x => by simp [List.take_of_length_le, dig_length]
  | j + 1, k, x => by
    rw [show k + (j + 1) = (k + j) + 1 by omega, dig, List.take_append_of_le_length (by rw [dig_length]; omega), dig_take j k (x / 10), Nat.div_div_eq_div_mul, Nat.pow_succ, Nat.mul_comm]
theorem dig_get (k x i : Nat) (h : i < k) : (dig k x)[i]? = some (UInt8.ofNat (48 + x / 10 ^ (k - 1 - i) % 10)) := by
  induction k generalizing x with
  | zero => omega
  | succ k ih =>
    rw [dig]
    by_cases hi : i < k
    · rw [List.getElem?_append_left (by rw [dig_length]; exact hi), ih _ hi, Nat.div_div_eq_div_mul, ← Nat.pow_succ', show (k - 1 - i).succ = k + 1 - 1 - i by omega]
    · obtain rfl : i = k := by omega
      rw [List.getElem?_append_right (by rw [dig_length]; omega), dig_length]
      simp
end Go.Proofs.YtieidjlmgalihaaGreatDoor
