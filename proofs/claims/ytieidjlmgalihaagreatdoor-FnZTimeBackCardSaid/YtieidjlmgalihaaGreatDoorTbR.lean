/- What is written of a moment is what ZInstant reads. -/
import Derived.Test.YtieidjlmgalihaaGreatDoorTbO
import Derived.Test.YtieidjlmgalihaaGreatDoorTbQ
import Derived.Test.YtieidjlmgalihaaGreatDoorTbF
import Derived.Lib.Strings
set_option linter.all false
namespace Go.Proofs.YtieidjlmgalihaaGreatDoor
open Go.RowKit Go.PlainAid
set_option maxRecDepth 100000
theorem size_list (l : List UInt8) : (⟨l.toArray⟩ : ByteArray).size = l.length := by simp [ByteArray.size]
theorem extract_list (a z : List UInt8) (p : Nat) (hp : a.length = p) : (⟨(a ++ z).toArray⟩ : ByteArray).extract p (⟨(a ++ z).toArray⟩ : ByteArray).size = ⟨z.toArray⟩ := by
  have h := Lib.extract_eq (⟨(a ++ z).toArray⟩ : ByteArray) p (⟨(a ++ z).toArray⟩ : ByteArray).size
  rw [h, size_list]
  subst hp
  simp
theorem zoneL_head (o : Int) : ∃ c r, zoneL o = c :: r ∧ (c = 90 ∨ c = 45 ∨ c = 43) := by
  unfold zoneL
  split
  · exact ⟨90, [], rfl, .inl rfl⟩
  · split
    · exact ⟨45, _, rfl, .inr (.inl rfl)⟩
    · exact ⟨43, _, rfl, .inr (.inr rfl)⟩
theorem zoneL_len (o : Int) : 1 ≤ (zoneL o).length ∧ (zoneL o).length ≤ 6 := by
  unfold zoneL
  split
  · simp
  · split <;> simp [dig_length]
theorem zn_of (o : Int) (h2 : -86400 < o) (h3 : o < 86400) (h4 : o % 60 = 0) : Zn ⟨(zoneL o).toArray⟩ o := by
  by_cases h0 : o = 0
  · subst h0
    exact ⟨.inl ⟨by rw [Lib.toList_data]; simp [zoneL], rfl⟩⟩
  · obtain ⟨c, hz, hc⟩ : ∃ c : UInt8, zoneL o = [c] ++ dig 2 (o.natAbs / 3600) ++ [58] ++ dig 2 (o.natAbs / 60 % 60) ∧ ((c = 43 ∧ o = (o.natAbs : Int)) ∨ (c = 45 ∧ o = -(o.natAbs : Int))) := by
      unfold zoneL
      rw [if_neg h0]
      by_cases hn : o < 0
      · rw [if_pos hn]; exact ⟨45, rfl, .inr ⟨rfl, by omega⟩⟩
      · rw [if_neg hn]; exact ⟨43, rfl, .inl ⟨rfl, by omega⟩⟩
    have e0 := at_one (l := zoneL o) [] (dig 2 (o.natAbs / 3600) ++ [58] ++ dig 2 (o.natAbs / 60 % 60)) 0 c (by rw [hz]; simp [List.append_assoc]) rfl
    have e1 := at_dig (l := zoneL o) [c] ([58] ++ dig 2 (o.natAbs / 60 % 60)) 1 2 (o.natAbs / 3600) (by rw [hz]; simp [List.append_assoc]) rfl
    have e3 := at_one (l := zoneL o) ([c] ++ dig 2 (o.natAbs / 3600)) (dig 2 (o.natAbs / 60 % 60)) 3 58 (by rw [hz]; simp [List.append_assoc]) (by simp [dig_length])
    have e4 := at_dig (l := zoneL o) ([c] ++ dig 2 (o.natAbs / 3600) ++ [58]) [] 4 2 (o.natAbs / 60 % 60) (by rw [hz]; simp [List.append_assoc]) (by simp [dig_length])
    refine ⟨.inr ⟨?_, by rw [size_list, hz]; simp [dig_length], o.natAbs / 3600, o.natAbs / 60 % 60, (o.natAbs : Int), by omega, by omega, by omega, e1, e4, by rw [e3]; rfl, ?_⟩⟩
    · rw [Lib.toList_data]
      intro h
      have := congrArg List.length h
      rw [hz] at this
      simp [dig_length] at this
    · rcases hc with ⟨rfl, ho⟩ | ⟨rfl, ho⟩
      · exact .inl ⟨by rw [e0]; rfl, ho⟩
      · exact .inr ⟨by rw [e0]; rfl, ho⟩
theorem head_of (y m d h mi se : Nat) (r : List UInt8) (hr : 1 ≤ r.length) (hr1 : r.length ≤ 80) (ly : y < 10000) (lm : m < 100) (ld : d < 100) (lh : h < 100) (lmi : mi < 100) (ls : se < 100) : Head19 ⟨(headN y m d h mi se ++ r).toArray⟩ y m d h mi se := by
  obtain ⟨q1, q2, q3, q4, q5, q6, q7, q8, q9, q10, q11⟩ := headN_at y m d h mi se r
  have hz : (⟨(headN y m d h mi se ++ r).toArray⟩ : ByteArray).size = 19 + r.length := by rw [size_list, List.length_append, headN_len]
  exact ⟨by omega, by omega, q1, q2, q3, q4, q5, q6, q7, q8, q9, q10, q11, ly, lm, ld, lh, lmi, ls⟩
theorem frac_len {X : Nat} {f : List UInt8} (hF : Frac X f) : f.length ≤ 10 := by
  rcases hF with ⟨_, rfl⟩ | ⟨k, _, hk, _, _, _, rfl⟩
  · simp
  · simp [dig_length]; omega
/-- The parts of a second, and the rest. -/
theorem parts_of (y m d h mi se : Nat) (X : Nat) (f : List UInt8) (o : Int) (hX : X < 1000000000) (hF : Frac X f) : ∃ k x, Parts ⟨(headN y m d h mi se ++ (f ++ zoneL o)).toArray⟩ k x (19 + f.length) ∧ x * 10 ^ (9 - k) = X ∧ (⟨(headN y m d h mi se ++ (f ++ zoneL o)).toArray⟩ : ByteArray).extract (19 + f.length) (⟨(headN y m d h mi se ++ (f ++ zoneL o)).toArray⟩ : ByteArray).size = ⟨(zoneL o).toArray⟩ := by
  have hl := headN_len y m d h mi se
  have hE : (⟨(headN y m d h mi se ++ (f ++ zoneL o)).toArray⟩ : ByteArray).extract (19 + f.length) (⟨(headN y m d h mi se ++ (f ++ zoneL o)).toArray⟩ : ByteArray).size = ⟨(zoneL o).toArray⟩ := by
    rw [← List.append_assoc]
    exact extract_list (headN y m d h mi se ++ f) (zoneL o) _ (by rw [List.length_append, hl])
  have hz : (⟨(headN y m d h mi se ++ (f ++ zoneL o)).toArray⟩ : ByteArray).size = 19 + f.length + (zoneL o).length := by rw [size_list, List.length_append, List.length_append, hl]; omega
  have hzl := (zoneL_len o).1
  obtain ⟨c, r, hzr, hc⟩ := zoneL_head o
  have hat := at_one (l := headN y m d h mi se ++ (f ++ zoneL o)) (headN y m d h mi se ++ f) r (19 + f.length) c (by rw [hzr, List.append_assoc]) (by rw [List.length_append, hl])
  have hcn : (c.toNat : Int) ≠ 46 ∧ ((c.toNat : Int) < 48 ∨ 57 < (c.toNat : Int)) := by rcases hc with rfl | rfl | rfl <;> decide
  rcases hF with ⟨rfl, rfl⟩ | ⟨k, k1, k9, x0, xm, xd, rfl⟩
  · refine ⟨0, 0, ⟨by omega, .inl ⟨rfl, rfl, rfl, ?_⟩⟩, by simp, hE⟩
    have h19 : bt ⟨(headN y m d h mi se ++ ([] ++ zoneL o)).toArray⟩ 19 = (c.toNat : Int) := hat
    rw [h19]
    exact hcn.1
  · have hd : (46 :: dig k (X / 10 ^ (9 - k))).length = 1 + k := by simp [dig_length]; omega
    rw [hd] at hat hE hz ⊢
    refine ⟨k, X / 10 ^ (9 - k), ⟨by omega, .inr ⟨k1, k9, by omega, ?_, ?_, ?_, ?_⟩⟩, ?_, hE⟩
    · rw [at_one (headN y m d h mi se) (dig k (X / 10 ^ (9 - k)) ++ zoneL o) 19 46 (by simp) hl]
      rfl
    · rw [Nat.div_lt_iff_lt_mul (Nat.pow_pos (by omega)), ← Nat.pow_add, show k + (9 - k) = 9 by omega]
      exact hX
    · exact at_dig (headN y m d h mi se ++ [46]) (zoneL o) 20 k _ (by simp) (by simp [hl])
    · rw [hat]
      exact hcn.2
    · have := Nat.div_add_mod X (10 ^ (9 - k))
      rw [xm, Nat.add_zero, Nat.mul_comm] at this
      exact this
/-- What is written of a moment is read as this moment. -/
theorem inst_of (w : World) (n o : Int) (f : List UInt8) (n0 : -9223372036854775808 ≤ n) (n1 : n ≤ 9223372036854775807) (h2 : -86400 < o) (h3 : o < 86400) (h4 : o % 60 = 0) (hF : Frac (n % 1000000000).toNat f) :
    Calls Tryz.prog 18 #[.string ⟨(headL n o ++ f ++ zoneL o).toArray⟩] w fun e w' => e = .returned (.tuple #[.int .i64 n, .int .i64 o, .bool true]) ∧ Below w.heap.size w w' := by
  obtain ⟨d0, d1⟩ := day_in n o n0 n1 h2 h3
  obtain ⟨y0, y1⟩ := year_in (tA_ n o) d0 d1
  obtain ⟨_, m0, m1, k0, k1⟩ := civil (tA_ n o)
  have k2 := tMonth_le (tYear (tA_ n o)) (tMon (tA_ n o))
  obtain ⟨c0, c1, c2, c3, c4, c5⟩ := clock_in n o
  have hb := back n o
  rw [tDays1970] at hb
  obtain ⟨y, hy⟩ : ∃ y : Nat, tYear (tA_ n o) = (y : Int) := ⟨_, (Int.toNat_of_nonneg (by omega)).symm⟩
  obtain ⟨m, hm⟩ : ∃ y : Nat, tMon (tA_ n o) = (y : Int) := ⟨_, (Int.toNat_of_nonneg (by omega)).symm⟩
  obtain ⟨d, hd⟩ : ∃ y : Nat, tD (tA_ n o) = (y : Int) := ⟨_, (Int.toNat_of_nonneg (by omega)).symm⟩
  obtain ⟨h, hh⟩ : ∃ y : Nat, tH n o = (y : Int) := ⟨_, (Int.toNat_of_nonneg (by omega)).symm⟩
  obtain ⟨mi, hmi⟩ : ∃ y : Nat, tMi n o = (y : Int) := ⟨_, (Int.toNat_of_nonneg (by omega)).symm⟩
  obtain ⟨se, hse⟩ : ∃ y : Nat, tS n o = (y : Int) := ⟨_, (Int.toNat_of_nonneg (by omega)).symm⟩
  have hH : headL n o = headN y m d h mi se := by
    unfold headL headN
    rw [hy, hm, hd, hh, hmi, hse]
    rfl
  rw [hy, hm, hd, hh, hmi, hse] at hb
  rw [hy] at y0 y1 k1 k2
  rw [hm] at m0 m1 k1 k2
  rw [hd] at k0 k1
  rw [hh] at c0 c1
  rw [hmi] at c2 c3
  rw [hse] at c4 c5
  have hfl := frac_len hF
  obtain ⟨k, x, hP, hx, hE⟩ := parts_of y m d h mi se (n % 1000000000).toNat f o (by omega) hF
  have hzl := zoneL_len o
  rw [hH, List.append_assoc]
  refine inst w _ y m d h mi se (head_of y m d h mi se (f ++ zoneL o) (by rw [List.length_append]; omega) (by rw [List.length_append]; omega) (by omega) (by omega) (by omega) (by omega) (by omega) (by omega)) k x _ hP (by omega) (by omega) (by omega) (by omega) (by omega) k1 _ o n ?_ n0 n1 hE (zn_of o h2 h3 h4)
  rw [show (m : Int) - 1 = ((m - 1 : Nat) : Int) by omega, Int.toNat_natCast] at hb
  rw [hb, hx]
  omega
end Go.Proofs.YtieidjlmgalihaaGreatDoor
