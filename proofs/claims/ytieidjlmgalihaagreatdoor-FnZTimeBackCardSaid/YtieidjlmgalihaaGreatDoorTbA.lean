/- Days and dates: the program's way and the reference's way are one. -/
namespace Go.Proofs.YtieidjlmgalihaaGreatDoor
/-- Days before a year (proleptic), counted from the year 1. -/
def tDays (y : Int) : Int := 365 * (y - 1) + (y - 1) / 4 - (y - 1) / 100 + (y - 1) / 400
def tLeap (y : Int) : Bool := decide (tDays (y + 1) - tDays y = 366)
def tMonth (y m : Int) : Int := if m = 4 ∨ m = 6 ∨ m = 9 ∨ m = 11 then 30 else if m = 2 then (if tLeap y then 29 else 28) else 31
/-- Days of a year ahead of month m + 1. -/
def tCum (y : Int) : Nat → Int
  | 0 => 0
  | m + 1 => tCum y m + tMonth y (m + 1 : Nat)
def tC (A : Int) : Int := (4 * A + 3) / 146097
def tCd (A : Int) : Int := (4 * A + 3) % 146097 / 4 * 4 + 3
def tCy (A : Int) : Int := tCd A / 1461
def tYd (A : Int) : Int := tCd A % 1461 / 4
def tMo (A : Int) : Int := (2141 * tYd A + 197913) / 65536
def tD (A : Int) : Int := 1 + (2141 * tYd A + 197913) % 65536 / 2141
def tJf (A : Int) : Int := if 306 ≤ tYd A then 1 else 0
def tYear (A : Int) : Int := 100 * tC A - 292277022400 + tCy A + tJf A
def tMon (A : Int) : Int := tMo A - 12 * tJf A
theorem mul_cy (cd : Int) (h0 : 0 ≤ cd) (h1 : cd ≤ 146099) : 2939745 * cd / 4294967296 = cd / 1461 ∧ 2939745 * cd % 4294967296 / 2939745 / 4 = cd % 1461 / 4 := by
  obtain ⟨q, r, hq, hr, hr0, hr1, rfl⟩ : ∃ q r : Int, cd / 1461 = q ∧ cd % 1461 = r ∧ 0 ≤ r ∧ r ≤ 1460 ∧ cd = 1461 * q + r := ⟨cd / 1461, cd % 1461, rfl, rfl, by omega, by omega, by omega⟩
  rw [hq, hr]
  have h2 : 2939745 * (1461 * q + r) / 4294967296 = q := by omega
  have h3 : 2939745 * (1461 * q + r) % 4294967296 = 149 * q + 2939745 * r := by omega
  refine ⟨h2, ?_⟩
  rw [h3]
  have h4 : (149 * q + 2939745 * r) / 2939745 = r := by omega
  rw [h4]
/-- x = 4 k + j. -/
theorem quart (x : Int) : ∃ k j : Int, x = 4 * k + j ∧ 0 ≤ j ∧ j ≤ 3 ∧ x / 4 = k ∧ x % 4 = j := ⟨x / 4, x % 4, by omega, by omega, by omega, rfl, rfl⟩
theorem tA (A : Int) : A = 36524 * tC A + tC A / 4 + 365 * tCy A + tCy A / 4 + tYd A ∧ 0 ≤ tCy A ∧ tCy A ≤ 99 ∧ 0 ≤ tYd A ∧ tYd A ≤ 365 ∧ (tYd A = 365 → tCy A % 4 = 3 ∧ (tCy A = 99 → tC A % 4 = 3)) := by
  obtain ⟨R, hR, hR0, hR1, hAR⟩ : ∃ R : Int, (4 * A + 3) % 146097 = R ∧ 0 ≤ R ∧ R ≤ 146096 ∧ 4 * A + 3 = 146097 * tC A + R := ⟨(4 * A + 3) % 146097, rfl, by omega, by omega, by unfold tC; omega⟩
  have hcd : tCd A = R / 4 * 4 + 3 := by unfold tCd; rw [hR]
  obtain ⟨r, hr, hr0, hr1, hcr⟩ : ∃ r : Int, tCd A % 1461 = r ∧ 0 ≤ r ∧ r ≤ 1460 ∧ tCd A = 1461 * tCy A + r := ⟨tCd A % 1461, rfl, by omega, by omega, by unfold tCy; omega⟩
  have hyd : tYd A = r / 4 := by unfold tYd; rw [hr]
  generalize tC A = c at *
  generalize tCy A = cy at *
  generalize tYd A = y at *
  generalize tCd A = cd at *
  clear hR hr
  obtain ⟨c4, cj, rfl, cj0, cj1, hc4, hcj⟩ := quart c
  obtain ⟨y4, yj, rfl, yj0, yj1, hy4, hyj⟩ := quart cy
  obtain ⟨R4, Rj, rfl, Rj0, Rj1, hR4, hRj⟩ := quart R
  obtain ⟨r4, rj, rfl, rj0, rj1, hr4, hrj⟩ := quart r
  rw [hc4, hy4, hyj, hcj]
  rw [hR4] at hcd
  rw [hr4] at hyd
  subst hyd hcd
  have e1 : cj + Rj = 3 := by omega
  have e2 : yj + rj = 3 := by omega
  clear hR4 hr4 hRj hrj hc4 hcj hy4 hyj
  refine ⟨by omega, by omega, by omega, by omega, by omega, fun h => ⟨by omega, fun h' => by omega⟩⟩
theorem tMo_cases (A : Int) : (tMo A = 3 ∧ 0 ≤ tYd A ∧ tYd A ≤ 30 ∧ tD A = tYd A + 1) ∨ (tMo A = 4 ∧ 31 ≤ tYd A ∧ tYd A ≤ 60 ∧ tD A = tYd A - 30) ∨ (tMo A = 5 ∧ 61 ≤ tYd A ∧ tYd A ≤ 91 ∧ tD A = tYd A - 60) ∨ (tMo A = 6 ∧ 92 ≤ tYd A ∧ tYd A ≤ 121 ∧ tD A = tYd A - 91) ∨ (tMo A = 7 ∧ 122 ≤ tYd A ∧ tYd A ≤ 152 ∧ tD A = tYd A - 121) ∨ (tMo A = 8 ∧ 153 ≤ tYd A ∧ tYd A ≤ 183 ∧ tD A = tYd A - 152) ∨ (tMo A = 9 ∧ 184 ≤ tYd A ∧ tYd A ≤ 213 ∧ tD A = tYd A - 183) ∨ (tMo A = 10 ∧ 214 ≤ tYd A ∧ tYd A ≤ 244 ∧ tD A = tYd A - 213) ∨ (tMo A = 11 ∧ 245 ≤ tYd A ∧ tYd A ≤ 274 ∧ tD A = tYd A - 244) ∨ (tMo A = 12 ∧ 275 ≤ tYd A ∧ tYd A ≤ 305 ∧ tD A = tYd A - 274) ∨ (tMo A = 13 ∧ 306 ≤ tYd A ∧ tYd A ≤ 336 ∧ tD A = tYd A - 305) ∨ (tMo A = 14 ∧ 337 ≤ tYd A ∧ tYd A ≤ 365 ∧ tD A = tYd A - 336) := by
  obtain ⟨_, _, _, h0, h1, _⟩ := tA A
  unfold tMo tD
  generalize tYd A = y at *
  have hk : (2141 * y + 197913) / 65536 = 3 ∨ (2141 * y + 197913) / 65536 = 4 ∨ (2141 * y + 197913) / 65536 = 5 ∨ (2141 * y + 197913) / 65536 = 6 ∨ (2141 * y + 197913) / 65536 = 7 ∨ (2141 * y + 197913) / 65536 = 8 ∨ (2141 * y + 197913) / 65536 = 9 ∨ (2141 * y + 197913) / 65536 = 10 ∨ (2141 * y + 197913) / 65536 = 11 ∨ (2141 * y + 197913) / 65536 = 12 ∨ (2141 * y + 197913) / 65536 = 13 ∨ (2141 * y + 197913) / 65536 = 14 := by omega
  obtain ⟨q, hq⟩ : ∃ q, (2141 * y + 197913) / 65536 = q := ⟨_, rfl⟩
  have hm : (2141 * y + 197913) % 65536 = 2141 * y + 197913 - 65536 * q := by omega
  rw [hm, hq]
  rw [hq] at hk
  rcases hk with rfl | rfl | rfl | rfl | rfl | rfl | rfl | rfl | rfl | rfl | rfl | rfl
  all_goals
    simp
    omega
theorem days_year (A : Int) : tDays (100 * tC A - 292277022400 + tCy A + 1) = A - tYd A - 106751990353932 := by
  obtain ⟨h, h0, h1, h2, h3, _⟩ := tA A
  unfold tDays
  generalize tYd A = y at *
  generalize tCy A = cy at *
  generalize tC A = c at *
  omega
theorem days_next (y : Int) : tDays (y + 1) - tDays y = 365 ∨ tDays (y + 1) - tDays y = 366 := by
  unfold tDays
  omega
theorem leap_next (c cy : Int) (h0 : 0 ≤ cy) (h1 : cy ≤ 99) (h : cy % 4 = 3 ∧ (cy = 99 → c % 4 = 3)) : tDays (100 * c - 292277022400 + cy + 1 + 1) - tDays (100 * c - 292277022400 + cy + 1) = 366 := by
  unfold tDays
  omega
theorem cums (y : Int) : tCum y 0 = 0 ∧ tCum y 1 = 31 ∧ tCum y 2 = 59 + (tDays (y + 1) - tDays y - 365) ∧ tCum y 3 = 90 + (tDays (y + 1) - tDays y - 365) ∧ tCum y 4 = 120 + (tDays (y + 1) - tDays y - 365) ∧ tCum y 5 = 151 + (tDays (y + 1) - tDays y - 365) ∧ tCum y 6 = 181 + (tDays (y + 1) - tDays y - 365) ∧ tCum y 7 = 212 + (tDays (y + 1) - tDays y - 365) ∧ tCum y 8 = 243 + (tDays (y + 1) - tDays y - 365) ∧ tCum y 9 = 273 + (tDays (y + 1) - tDays y - 365) ∧ tCum y 10 = 304 + (tDays (y + 1) - tDays y - 365) ∧ tCum y 11 = 334 + (tDays (y + 1) - tDays y - 365) := by
  have h := days_next y
  have hf : tMonth y 2 = 28 + (tDays (y + 1) - tDays y - 365) := by
    simp only [tMonth, tLeap]
    rcases h with h | h <;> simp [h]
  have e1 : tMonth y 1 = 31 := by simp [tMonth]
  have e3 : tMonth y 3 = 31 := by simp [tMonth]
  have e4 : tMonth y 4 = 30 := by simp [tMonth]
  have e5 : tMonth y 5 = 31 := by simp [tMonth]
  have e6 : tMonth y 6 = 30 := by simp [tMonth]
  have e7 : tMonth y 7 = 31 := by simp [tMonth]
  have e8 : tMonth y 8 = 31 := by simp [tMonth]
  have e9 : tMonth y 9 = 30 := by simp [tMonth]
  have e10 : tMonth y 10 = 31 := by simp [tMonth]
  have e11 : tMonth y 11 = 30 := by simp [tMonth]
  have s1 : tCum y 1 = tCum y 0 + tMonth y 1 := rfl
  have s2 : tCum y 2 = tCum y 1 + tMonth y 2 := rfl
  have s3 : tCum y 3 = tCum y 2 + tMonth y 3 := rfl
  have s4 : tCum y 4 = tCum y 3 + tMonth y 4 := rfl
  have s5 : tCum y 5 = tCum y 4 + tMonth y 5 := rfl
  have s6 : tCum y 6 = tCum y 5 + tMonth y 6 := rfl
  have s7 : tCum y 7 = tCum y 6 + tMonth y 7 := rfl
  have s8 : tCum y 8 = tCum y 7 + tMonth y 8 := rfl
  have s9 : tCum y 9 = tCum y 8 + tMonth y 9 := rfl
  have s10 : tCum y 10 = tCum y 9 + tMonth y 10 := rfl
  have s11 : tCum y 11 = tCum y 10 + tMonth y 11 := rfl
  have s0 : tCum y 0 = 0 := rfl
  omega
/-- The date that is written is that of the day. -/
theorem civil_of (y A m yd d : Int) (hd : tDays (y + 1) = A - yd - 106751990353932) (hl : yd = 365 → tDays (y + 1 + 1) - tDays (y + 1) = 366)
    (hm : (m = 3 ∧ 0 ≤ yd ∧ yd ≤ 30 ∧ d = yd + 1) ∨ (m = 4 ∧ 31 ≤ yd ∧ yd ≤ 60 ∧ d = yd - 30) ∨ (m = 5 ∧ 61 ≤ yd ∧ yd ≤ 91 ∧ d = yd - 60) ∨ (m = 6 ∧ 92 ≤ yd ∧ yd ≤ 121 ∧ d = yd - 91) ∨ (m = 7 ∧ 122 ≤ yd ∧ yd ≤ 152 ∧ d = yd - 121) ∨ (m = 8 ∧ 153 ≤ yd ∧ yd ≤ 183 ∧ d = yd - 152) ∨ (m = 9 ∧ 184 ≤ yd ∧ yd ≤ 213 ∧ d = yd - 183) ∨ (m = 10 ∧ 214 ≤ yd ∧ yd ≤ 244 ∧ d = yd - 213) ∨ (m = 11 ∧ 245 ≤ yd ∧ yd ≤ 274 ∧ d = yd - 244) ∨ (m = 12 ∧ 275 ≤ yd ∧ yd ≤ 305 ∧ d = yd - 274) ∨ (m = 13 ∧ 306 ≤ yd ∧ yd ≤ 336 ∧ d = yd - 305) ∨ (m = 14 ∧ 337 ≤ yd ∧ yd ≤ 365 ∧ d = yd - 336)) :
    tDays (y + (if 306 ≤ yd then 1 else 0)) + tCum (y + (if 306 ≤ yd then 1 else 0)) (m - 12 * (if 306 ≤ yd then 1 else 0) - 1).toNat + d - 1 = A - 106751990354238 ∧ 1 ≤ m - 12 * (if 306 ≤ yd then 1 else 0) ∧ m - 12 * (if 306 ≤ yd then 1 else 0) ≤ 12 ∧ 1 ≤ d ∧ d ≤ tMonth (y + (if 306 ≤ yd then 1 else 0)) (m - 12 * (if 306 ≤ yd then 1 else 0)) := by
  rcases hm with ⟨rfl, a, b, rfl⟩ | ⟨rfl, a, b, rfl⟩ | ⟨rfl, a, b, rfl⟩ | ⟨rfl, a, b, rfl⟩ | ⟨rfl, a, b, rfl⟩ | ⟨rfl, a, b, rfl⟩ | ⟨rfl, a, b, rfl⟩ | ⟨rfl, a, b, rfl⟩ | ⟨rfl, a, b, rfl⟩ | ⟨rfl, a, b, rfl⟩ | ⟨rfl, a, b, rfl⟩ | ⟨rfl, a, b, rfl⟩
  · rw [if_neg (by omega)]
    have e : (3 - 12 * (0 : Int) - 1).toNat = 2 := by decide
    have f : 3 - 12 * (0 : Int) = 3 := by decide
    have g : tMonth (y + 0) 3 = 31 := by simp [tMonth]
    rw [e, f, g, show y + 0 = y by omega]
    have c := (cums y)
    have hn := days_next y
    omega
  · rw [if_neg (by omega)]
    have e : (4 - 12 * (0 : Int) - 1).toNat = 3 := by decide
    have f : 4 - 12 * (0 : Int) = 4 := by decide
    have g : tMonth (y + 0) 4 = 30 := by simp [tMonth]
    rw [e, f, g, show y + 0 = y by omega]
    have c := (cums y)
    have hn := days_next y
    omega
  · rw [if_neg (by omega)]
    have e : (5 - 12 * (0 : Int) - 1).toNat = 4 := by decide
    have f : 5 - 12 * (0 : Int) = 5 := by decide
    have g : tMonth (y + 0) 5 = 31 := by simp [tMonth]
    rw [e, f, g, show y + 0 = y by omega]
    have c := (cums y)
    have hn := days_next y
    omega
  · rw [if_neg (by omega)]
    have e : (6 - 12 * (0 : Int) - 1).toNat = 5 := by decide
    have f : 6 - 12 * (0 : Int) = 6 := by decide
    have g : tMonth (y + 0) 6 = 30 := by simp [tMonth]
    rw [e, f, g, show y + 0 = y by omega]
    have c := (cums y)
    have hn := days_next y
    omega
  · rw [if_neg (by omega)]
    have e : (7 - 12 * (0 : Int) - 1).toNat = 6 := by decide
    have f : 7 - 12 * (0 : Int) = 7 := by decide
    have g : tMonth (y + 0) 7 = 31 := by simp [tMonth]
    rw [e, f, g, show y + 0 = y by omega]
    have c := (cums y)
    have hn := days_next y
    omega
  · rw [if_neg (by omega)]
    have e : (8 - 12 * (0 : Int) - 1).toNat = 7 := by decide
    have f : 8 - 12 * (0 : Int) = 8 := by decide
    have g : tMonth (y + 0) 8 = 31 := by simp [tMonth]
    rw [e, f, g, show y + 0 = y by omega]
    have c := (cums y)
    have hn := days_next y
    omega
  · rw [if_neg (by omega)]
    have e : (9 - 12 * (0 : Int) - 1).toNat = 8 := by decide
    have f : 9 - 12 * (0 : Int) = 9 := by decide
    have g : tMonth (y + 0) 9 = 30 := by simp [tMonth]
    rw [e, f, g, show y + 0 = y by omega]
    have c := (cums y)
    have hn := days_next y
    omega
  · rw [if_neg (by omega)]
    have e : (10 - 12 * (0 : Int) - 1).toNat = 9 := by decide
    have f : 10 - 12 * (0 : Int) = 10 := by decide
    have g : tMonth (y + 0) 10 = 31 := by simp [tMonth]
    rw [e, f, g, show y + 0 = y by omega]
    have c := (cums y)
    have hn := days_next y
    omega
  · rw [if_neg (by omega)]
    have e : (11 - 12 * (0 : Int) - 1).toNat = 10 := by decide
    have f : 11 - 12 * (0 : Int) = 11 := by decide
    have g : tMonth (y + 0) 11 = 30 := by simp [tMonth]
    rw [e, f, g, show y + 0 = y by omega]
    have c := (cums y)
    have hn := days_next y
    omega
  · rw [if_neg (by omega)]
    have e : (12 - 12 * (0 : Int) - 1).toNat = 11 := by decide
    have f : 12 - 12 * (0 : Int) = 12 := by decide
    have g : tMonth (y + 0) 12 = 31 := by simp [tMonth]
    rw [e, f, g, show y + 0 = y by omega]
    have c := (cums y)
    have hn := days_next y
    omega
  · rw [if_pos (by omega)]
    have e : (13 - 12 * (1 : Int) - 1).toNat = 0 := by decide
    have f : 13 - 12 * (1 : Int) = 1 := by decide
    have g : tMonth (y + 1) 1 = 31 := by simp [tMonth]
    rw [e, f, g]
    have c := (cums (y + 1)).1
    omega
  · rw [if_pos (by omega)]
    have e : (14 - 12 * (1 : Int) - 1).toNat = 1 := by decide
    have f : 14 - 12 * (1 : Int) = 2 := by decide
    rw [e, f]
    have c := (cums (y + 1)).2.1
    have hn := days_next (y + 1)
    have g : tMonth (y + 1) 2 = 28 + (tDays (y + 1 + 1) - tDays (y + 1) - 365) := by
      simp only [tMonth, tLeap]
      rcases hn with h | h <;> simp [h]
    rw [g]
    omega
theorem civil (A : Int) : tDays (tYear A) + tCum (tYear A) (tMon A - 1).toNat + tD A - 1 = A - 106751990354238 ∧ 1 ≤ tMon A ∧ tMon A ≤ 12 ∧ 1 ≤ tD A ∧ tD A ≤ tMonth (tYear A) (tMon A) := by
  obtain ⟨hA, h0, h1, h2, h3, h5⟩ := tA A
  exact civil_of (100 * tC A - 292277022400 + tCy A) A (tMo A) (tYd A) (tD A) (days_year A) (fun h => leap_next (tC A) (tCy A) h0 h1 (h5 h)) (tMo_cases A)
/-- The year is one of four digits. -/
theorem year_in (A : Int) (h0 : 106751991073400 - 110000 ≤ A) (h1 : A ≤ 106751991073400 + 110000) : 1600 ≤ tYear A ∧ tYear A ≤ 2300 := by
  unfold tYear tJf tYd tCy tCd tC
  split <;> omega
end Go.Proofs.YtieidjlmgalihaaGreatDoor
