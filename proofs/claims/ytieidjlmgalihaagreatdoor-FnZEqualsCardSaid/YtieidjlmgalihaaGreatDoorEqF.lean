/- Floats of 32 bits made wide and narrow again. -/
import Derived.Laws.FloatArith
set_option linter.all false
namespace Go.Proofs.YtieidjlmgalihaaGreatDoor
open Ieee
/-- What a word of 32 bits reads as, when it is a number. -/
theorem read_single (b : Nat) (hb : b < 2 ^ 32) (s : Bool) (m : Nat) (e : Int) (h : single.read b = .number s m e) :
    (b = (if s then 2147483648 else 0) + m ∧ m < 8388608 ∧ e = -149) ∨ (∃ q : Nat, 1 ≤ q ∧ q ≤ 254 ∧ 8388608 ≤ m ∧ m < 16777216 ∧ e = -150 + q ∧ b = (if s then 2147483648 else 0) + q * 8388608 + (m - 8388608)) := by
  have hsw : single.signWeight = 2147483648 := by decide
  have hbi : single.binade = 8388608 := by decide
  have hin : single.infRung = 255 * 8388608 := by decide
  have hlp : single.leastPlace = -149 := by decide
  unfold Format.read at h
  simp only [hsw, hbi, hin, hlp] at h
  have hb' : b < 4294967296 := hb
  have hd : b / 2147483648 = 0 ∨ b / 2147483648 = 1 := by omega
  have hs : ∀ (x : Nat), (x = 0 ∨ x = 1) → (if (x % 2 == 1) = true then 2147483648 else 0) = 2147483648 * x := by
    rintro x (rfl | rfl) <;> rfl
  split at h
  · injection h with h1 h2 h3
    subst h1 h2 h3
    left
    refine ⟨?_, by omega, rfl⟩
    rw [hs _ hd]
    omega
  · split at h
    · injection h with h1 h2 h3
      subst h1 h2 h3
      right
      refine ⟨b % 2147483648 / 8388608, by omega, by omega, by omega, by omega, by omega, ?_⟩
      rw [hs _ hd]
      omega
    · split at h <;> cases h
theorem cut_none (neg : Bool) (n : Nat) : Toward.even.cut neg n 0 = n := by
  unfold Toward.cut
  simp [Nat.min_eq_left (Nat.zero_le _), Nat.mod_one]
theorem shl_mul (n k : Nat) : n <<< k = n * 2 ^ k := Nat.shiftLeft_eq n k
theorem pow_split (m L : Nat) (h : L = m.log2) (hm : 0 < m) : 2 ^ L ≤ m ∧ m < 2 ^ (L + 1) := by
  subst h
  exact ⟨Nat.log2_self_le (by omega), Nat.lt_log2_self⟩
/-- Its digits, pushed up to 53 bits. -/
theorem push_bd (m : Nat) (hm : 0 < m) (hm2 : m < 16777216) : m.log2 ≤ 23 ∧ 4503599627370496 ≤ m * 2 ^ (52 - m.log2) ∧ m * 2 ^ (52 - m.log2) < 9007199254740992 := by
  obtain ⟨h1, h2⟩ := pow_split m _ rfl hm
  have hL : m.log2 ≤ 23 := by
    have : m.log2 < 24 := (Nat.log2_lt (by omega)).2 (by simpa using hm2)
    omega
  generalize m.log2 = L at *
  have e1 : 2 ^ L * 2 ^ (52 - L) = 4503599627370496 := by rw [← Nat.pow_add, show L + (52 - L) = 52 by omega]
  have e2 : 2 ^ (L + 1) * 2 ^ (52 - L) = 9007199254740992 := by rw [← Nat.pow_add, show L + 1 + (52 - L) = 53 by omega]
  refine ⟨hL, ?_, ?_⟩
  · rw [← e1]; exact Nat.mul_le_mul_right _ h1
  · rw [← e2]; exact Nat.mul_lt_mul_of_pos_right h2 (Nat.two_pow_pos _)
/-- A number of at most 24 bits at such a place, as a word of 64 bits. -/
theorem wide_write (s : Bool) (m : Nat) (e : Int) (hm : 0 < m) (hm2 : m < 16777216) (he : -149 ≤ e) (he2 : e ≤ 104) :
    double.nearest s m e = double.word s ((e + m.log2 + 1022).toNat * 4503599627370496 + m * 2 ^ (52 - m.log2)) := by
  obtain ⟨hL, h1, h2⟩ := push_bd m hm hm2
  have hlp : double.leastPlace = -1074 := by decide
  have hfb : ((double.fractionBits : Nat) : Int) = 52 := by decide
  have hbi : double.binade = 4503599627370496 := by decide
  have hin : double.infRung = 2047 * 4503599627370496 := by decide
  unfold Format.nearest
  rw [if_neg (by omega), hlp, hfb, hbi, hin]
  have hmax : max (e + (m.log2 : Int) - 52) (-1074) = e + (m.log2 : Int) - 52 := by omega
  simp only [hmax]
  have d0 : (e + (m.log2 : Int) - 52 - e).toNat = 0 := by omega
  have d1 : (e - (e + (m.log2 : Int) - 52)).toNat = 52 - m.log2 := by omega
  have d2 : (e + (m.log2 : Int) - 52 - -1074).toNat = (e + (m.log2 : Int) + 1022).toNat := by omega
  rw [d0, d1, d2, cut_none, shl_mul]
  have hle : (e + (m.log2 : Int) + 1022).toNat ≤ 1149 := by omega
  rw [Nat.min_eq_left]
  generalize (e + (m.log2 : Int) + 1022).toNat = x at *
  generalize m * 2 ^ (52 - m.log2) = K at *
  omega
theorem word_parts (s : Bool) (r : Nat) (h : r < double.signWeight) : (double.word s r / double.signWeight % 2 == 1) = s ∧ double.word s r % double.signWeight = r := by
  have hsw : double.signWeight = 9223372036854775808 := by decide
  unfold Format.word
  rw [hsw] at h ⊢
  cases s
  · simp only [Bool.false_eq_true, if_false]
    refine ⟨?_, by omega⟩
    rw [show r / 9223372036854775808 = 0 by omega]
    rfl
  · simp only [if_true]
    refine ⟨?_, by omega⟩
    rw [show (9223372036854775808 + r) / 9223372036854775808 = 1 by omega]
    rfl
/-- .. and read again. -/
theorem wide_read (s : Bool) (m : Nat) (e : Int) (hm : 0 < m) (hm2 : m < 16777216) (he : -149 ≤ e) (he2 : e ≤ 104) :
    double.read (double.nearest s m e) = .number s (m * 2 ^ (52 - m.log2)) (e + m.log2 - 52) := by
  rw [wide_write s m e hm hm2 he he2]
  obtain ⟨hL, h1, h2⟩ := push_bd m hm hm2
  have hle : (e + (m.log2 : Int) + 1022).toNat ≤ 1149 := by omega
  have hle2 : ((e + (m.log2 : Int) + 1022).toNat : Int) = e + (m.log2 : Int) + 1022 := by omega
  have hlp : double.leastPlace = -1074 := by decide
  have hbi : double.binade = 4503599627370496 := by decide
  have hin : double.infRung = 2047 * 4503599627370496 := by decide
  have hsw : double.signWeight = 9223372036854775808 := by decide
  obtain ⟨w1, w2⟩ := word_parts s ((e + (m.log2 : Int) + 1022).toNat * 4503599627370496 + m * 2 ^ (52 - m.log2)) (by rw [hsw]; generalize (e + (m.log2 : Int) + 1022).toNat = x at *; generalize m * 2 ^ (52 - m.log2) = K at *; omega)
  unfold Format.read
  simp only [w1, w2, hbi, hin, hlp]
  generalize (e + (m.log2 : Int) + 1022).toNat = x at *
  generalize m * 2 ^ (52 - m.log2) = K at *
  rw [if_neg (by omega), if_pos (by omega)]
  congr 1
  · omega
  · omega
theorem zero_read (s : Bool) (e : Int) : double.read (double.nearest s 0 e) = .number s 0 (-1074) := by
  unfold Format.nearest
  rw [if_pos rfl]
  cases s <;> decide
/-- The value of a narrow number is that of the wide one. -/
theorem narrow_write (s : Bool) (m : Nat) (e : Int) (hm : 0 < m) (h : (m < 8388608 ∧ e = -149) ∨ (8388608 ≤ m ∧ m < 16777216 ∧ -149 ≤ e ∧ e ≤ 104)) :
    single.nearest s (m * 2 ^ (52 - m.log2)) (e + m.log2 - 52) = single.word s (((e + 149).toNat) * 8388608 + m) := by
  obtain ⟨hL, h1, h2⟩ := push_bd m hm (by omega)
  obtain ⟨p1, p2⟩ := pow_split m _ rfl hm
  have hlp : single.leastPlace = -149 := by decide
  have hfb : ((single.fractionBits : Nat) : Int) = 23 := by decide
  have hbi : single.binade = 8388608 := by decide
  have hin : single.infRung = 255 * 8388608 := by decide
  have hK : (m * 2 ^ (52 - m.log2)).log2 = 52 := (Nat.log2_eq_iff (by omega)).2 ⟨by omega, by omega⟩
  unfold Format.nearest
  rw [if_neg (by omega), hlp, hfb, hbi, hin, hK]
  have hmax : max (e + (m.log2 : Int) - 52 + ((52 : Nat) : Int) - 23) (-149) = e := by
    rcases h with ⟨h, rfl⟩ | ⟨h, h', h3, h4⟩
    · omega
    · have : 23 ≤ m.log2 := by
        rcases Nat.lt_or_ge m.log2 23 with hl | hl
        · have : 2 ^ (m.log2 + 1) ≤ 2 ^ 23 := Nat.pow_le_pow_right (by omega) (by omega)
          omega
        · exact hl
      omega
  simp only [hmax]
  have d0 : (e + (m.log2 : Int) - 52 - e).toNat = 0 := by omega
  have d1 : (e - (e + (m.log2 : Int) - 52)).toNat = 52 - m.log2 := by omega
  rw [d0, d1, shl_mul, Nat.pow_zero, Nat.mul_one]
  have hcut : Toward.even.cut s (m * 2 ^ (52 - m.log2)) (52 - m.log2) = m := by
    unfold Toward.cut
    rw [hK, Nat.min_eq_left (by omega), Nat.one_shiftLeft]
    have q1 : m * 2 ^ (52 - m.log2) / 2 ^ (52 - m.log2) = m := Nat.mul_div_cancel _ (Nat.two_pow_pos _)
    have q2 : m * 2 ^ (52 - m.log2) % 2 ^ (52 - m.log2) = 0 := Nat.mul_mod_left _ _
    simp only [q1, q2]
    simp
  rw [hcut, show e - -149 = e + 149 by omega]
  rw [Nat.min_eq_left]
  omega
/-- A number's value, times a great power of two. -/
def scaled (s : Bool) (m : Nat) (i : Int) : Int := (if s then -1 else 1) * ((m * 2 ^ (i + 2000).toNat : Nat) : Int)
theorem signed_eq (s : Bool) (m up : Nat) : signed s m up = (if s then -1 else 1) * ((m * 2 ^ up : Nat) : Int) := by
  unfold signed
  rw [shl_mul]
  cases s <;> simp
theorem order_eq (s t : Bool) (m n : Nat) (i j : Int) (hi : -2000 ≤ i) (hj : -2000 ≤ j) : (Datum.order (.number s m i) (.number t n j) == some .eq) = decide (scaled s m i = scaled t n j) := by
  show (some (compare (signed s m (i - min i j).toNat) (signed t n (j - min i j).toNat)) == some .eq) = _
  have hb : -2000 ≤ min i j := by omega
  have e1 : (i + 2000).toNat = (i - min i j).toNat + (min i j + 2000).toNat := by omega
  have e2 : (j + 2000).toNat = (j - min i j).toNat + (min i j + 2000).toNat := by omega
  unfold scaled
  rw [e1, e2, Nat.pow_add, Nat.pow_add, ← Nat.mul_assoc, ← Nat.mul_assoc, signed_eq, signed_eq]
  generalize (i - min i j).toNat = x
  generalize (j - min i j).toNat = y
  have hp : 0 < (2 ^ (min i j + 2000).toNat : Nat) := Nat.two_pow_pos _
  generalize (2 ^ (min i j + 2000).toNat : Nat) = P at *
  rw [show ((if s = true then (-1 : Int) else 1) * ((m * 2 ^ x * P : Nat) : Int)) = ((if s = true then (-1 : Int) else 1) * ((m * 2 ^ x : Nat) : Int)) * (P : Int) by rw [Int.natCast_mul, Int.mul_assoc]]
  rw [show ((if t = true then (-1 : Int) else 1) * ((n * 2 ^ y * P : Nat) : Int)) = ((if t = true then (-1 : Int) else 1) * ((n * 2 ^ y : Nat) : Int)) * (P : Int) by rw [Int.natCast_mul, Int.mul_assoc]]
  generalize (if s = true then (-1 : Int) else 1) * ((m * 2 ^ x : Nat) : Int) = a
  generalize (if t = true then (-1 : Int) else 1) * ((n * 2 ^ y : Nat) : Int) = b
  rw [Bool.eq_iff_iff]
  simp only [decide_eq_true_eq, Int.mul_eq_mul_right_iff (show (P : Int) ≠ 0 by omega)]
  have hc : compare a b = .eq ↔ a = b := by
    show compareOfLessAndEq a b = .eq ↔ _
    unfold compareOfLessAndEq
    split
    · constructor
      · intro h; cases h
      · intro h; omega
    · split
      · simp_all
      · constructor
        · intro h; cases h
        · intro h; omega
  constructor
  · intro h
    have h' : some (compare a b) = some .eq := by simpa using h
    injection h' with h'
    exact hc.1 h'
  · intro h
    rw [hc.2 h]
    rfl
/-- What a word of 32 bits is, as one of 64: a number of the same value, the same infinity, a NaN. -/
theorem wide_same (b : Nat) (hb : b < 2 ^ 32) : (∃ s m e, single.read b = .number s m e ∧ -149 ≤ e ∧ ∃ r, floatToFloatBits .f32 b .f64 = some r ∧ ∃ m' e', double.read r = .number s m' e' ∧ -2000 ≤ e' ∧ scaled s m' e' = scaled s m e ∧ floatToFloatBits .f64 r .f32 = some b) ∨
    (∃ s r, single.read b = .infinity s ∧ floatToFloatBits .f32 b .f64 = some r ∧ double.read r = .infinity s ∧ floatToFloatBits .f64 r .f32 = some b) ∨ (∃ s f, single.read b = .nan s f) := by
  cases hr : single.read b with
  | nan s f => exact .inr (.inr ⟨s, f, rfl⟩)
  | infinity s =>
    refine .inr (.inl ⟨s, double.write (.infinity s), rfl, ?_, ?_, ?_⟩)
    · unfold floatToFloatBits
      rw [if_neg (by decide)]
      show (match single.read b with | .nan _ _ => none | .infinity s => _ | .number s m e => _) = _
      rw [hr]
      rfl
    · cases s <;> decide
    · have hbs : b = single.write (.infinity s) := by
        have hsw : single.signWeight = 2147483648 := by decide
        have hbi : single.binade = 8388608 := by decide
        have hin : single.infRung = 2139095040 := by decide
        unfold Format.read at hr
        simp only [hsw, hbi, hin] at hr
        have hb' : b < 4294967296 := hb
        have hd : b / 2147483648 = 0 ∨ b / 2147483648 = 1 := by omega
        split at hr
        · cases hr
        · split at hr
          · cases hr
          · split at hr
            · rename_i h3
              injection hr with h1
              subst h1
              show b = single.word _ single.infRung
              unfold Format.word
              rw [hsw, hin]
              rcases hd with hd | hd
              · simp [hd]; omega
              · simp [hd]; omega
            · cases hr
      rw [hbs]
      cases s <;> decide
  | number s m e =>
    have hp := read_single b hb s m e hr
    have hconv : ∀ r, r = double.nearest s m e → (double.read r).isInfinity = false → floatToFloatBits .f32 b .f64 = some r := by
      intro r hr' hi
      unfold floatToFloatBits
      rw [if_neg (by decide)]
      show (match single.read b with | .nan _ _ => none | .infinity s => _ | .number s m e => if (double.read (double.nearest s m e)).isInfinity then none else some (double.nearest s m e)) = _
      rw [hr]
      subst hr'
      simp [hi]
    have hback : ∀ r m' e', double.read r = .number s m' e' → single.nearest s m' e' = b → floatToFloatBits .f64 r .f32 = some b := by
      intro r m' e' h1 h2
      unfold floatToFloatBits
      rw [if_neg (by decide)]
      show (match double.read r with | .nan _ _ => none | .infinity s => _ | .number s m e => if (single.read (single.nearest s m e)).isInfinity then none else some (single.nearest s m e)) = _
      rw [h1]
      simp only [h2, hr]
      simp [Datum.isInfinity]
    refine .inl ⟨s, m, e, rfl, ?_, double.nearest s m e, ?_⟩
    · rcases hp with ⟨_, _, rfl⟩ | ⟨q, _, _, _, _, rfl, _⟩ <;> omega
    · rcases Nat.eq_zero_or_pos m with hm | hm
      · subst hm
        have he : e = -149 := by
          rcases hp with ⟨_, _, h⟩ | ⟨q, _, _, h, _, _, _⟩
          · exact h
          · omega
        subst he
        have hz := zero_read s (-149)
        refine ⟨hconv _ rfl (by rw [hz]; rfl), 0, -1074, hz, by omega, by unfold scaled; rw [Nat.zero_mul, Nat.zero_mul], hback _ _ _ hz ?_⟩
        have hbz : b = (if s then 2147483648 else 0) := by
          rcases hp with ⟨h, _, _⟩ | ⟨q, _, _, h, _, _, _⟩
          · simpa using h
          · omega
        rw [hbz]
        cases s <;> decide
      · have hm2 : m < 16777216 := by rcases hp with ⟨_, h, _⟩ | ⟨q, _, _, _, h, _, _⟩ <;> omega
        have he1 : -149 ≤ e := by rcases hp with ⟨_, _, rfl⟩ | ⟨q, _, _, _, _, rfl, _⟩ <;> omega
        have he2 : e ≤ 104 := by rcases hp with ⟨_, _, rfl⟩ | ⟨q, _, _, _, _, rfl, _⟩ <;> omega
        have hz := wide_read s m e hm hm2 he1 he2
        obtain ⟨hL, _, _⟩ := push_bd m hm hm2
        refine ⟨hconv _ rfl (by rw [hz]; rfl), _, _, hz, by omega, ?_, hback _ _ _ hz ?_⟩
        · unfold scaled
          have e1 : (e + 2000).toNat = (52 - m.log2) + (e + (m.log2 : Int) - 52 + 2000).toNat := by omega
          rw [e1, Nat.pow_add, Nat.mul_assoc]
        · rw [narrow_write s m e hm (by rcases hp with ⟨_, h, h'⟩ | ⟨q, _, _, h, h', _, _⟩ <;> omega)]
          have hsw : single.signWeight = 2147483648 := by decide
          unfold Format.word
          rw [hsw]
          rcases hp with ⟨h, h', rfl⟩ | ⟨q, _, _, h, h', rfl, h3⟩
          · rw [h]; cases s <;> simp
          · rw [h3]
            have : ((-150 + (q : Int) + 149).toNat) = q - 1 := by omega
            rw [this]
            cases s <;> simp <;> omega
end Go.Proofs.YtieidjlmgalihaaGreatDoor
