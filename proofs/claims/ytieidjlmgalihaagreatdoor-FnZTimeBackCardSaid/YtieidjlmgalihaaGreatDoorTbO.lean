/- ZInstant. -/
import Derived.Test.YtieidjlmgalihaaGreatDoorTbN
import Derived.Test.YtieidjlmgalihaaGreatDoorTbH
import Derived.BigQuiet
set_option linter.all false
namespace Go.Proofs.YtieidjlmgalihaaGreatDoor
open Go.RowKit Go.PlainAid
set_option maxRecDepth 100000
theorem below_drewN {B : Nat} {a w : World} (h : Below B a w) (n : Nat) : Below B a (w.drewN n) := ⟨h.os, h.tape, h.output, h.size, h.block⟩
/-- The first nineteen bytes of a moment's text. -/
structure Head19 (s : ByteArray) (y m d h mi se : Nat) : Prop where
  z0 : 20 ≤ s.size
  z1 : s.size ≤ 100
  y_ : ∀ i, i < 4 → bt s (0 + i) = 48 + ((y / 10 ^ (4 - 1 - i) % 10 : Nat) : Int)
  m_ : ∀ i, i < 2 → bt s (5 + i) = 48 + ((m / 10 ^ (2 - 1 - i) % 10 : Nat) : Int)
  d_ : ∀ i, i < 2 → bt s (8 + i) = 48 + ((d / 10 ^ (2 - 1 - i) % 10 : Nat) : Int)
  h_ : ∀ i, i < 2 → bt s (11 + i) = 48 + ((h / 10 ^ (2 - 1 - i) % 10 : Nat) : Int)
  mi_ : ∀ i, i < 2 → bt s (14 + i) = 48 + ((mi / 10 ^ (2 - 1 - i) % 10 : Nat) : Int)
  s_ : ∀ i, i < 2 → bt s (17 + i) = 48 + ((se / 10 ^ (2 - 1 - i) % 10 : Nat) : Int)
  b4 : bt s 4 = 45
  b7 : bt s 7 = 45
  b10 : bt s 10 = 84
  b13 : bt s 13 = 58
  b16 : bt s 16 = 58
  ly : y < 10000
  lm : m < 100
  ld : d < 100
  lh : h < 100
  lmi : mi < 100
  ls : se < 100
/-- The sixV numbers, the first q of them read. -/
def sixV (q : Nat) (y m d h mi se : Nat) : List Value := ([.int .i64 (y : Int), .int .i64 (m : Int), .int .i64 (d : Int), .int .i64 (h : Int), .int .i64 (mi : Int), .int .i64 (se : Int)] : List Value).take q ++ List.replicate (6 - q) (.int .i64 0)
/-- The parts of a second: k digits, worth x; p: where they end. -/
structure Parts (s : ByteArray) (k x p : Nat) : Prop where
  hp : p < s.size
  or_ : (k = 0 ∧ x = 0 ∧ p = 19 ∧ bt s 19 ≠ 46) ∨ (1 ≤ k ∧ k ≤ 9 ∧ p = 20 + k ∧ bt s 19 = 46 ∧ x < 10 ^ k ∧ (∀ i, i < k → bt s (20 + i) = 48 + ((x / 10 ^ (k - 1 - i) % 10 : Nat) : Int)) ∧ (bt s p < 48 ∨ 57 < bt s p))
/-- The zone that is written, and its offset. -/
structure Zn (zs : ByteArray) (o : Int) : Prop where
  or_ : (zs.toList = [90] ∧ o = 0) ∨ (zs.toList ≠ [90] ∧ zs.size = 6 ∧ ∃ (hh mm : Nat) (oo : Int), hh < 24 ∧ mm < 60 ∧ 3600 * (hh : Int) + 60 * (mm : Int) = oo ∧ (∀ i, i < 2 → bt zs (1 + i) = 48 + ((hh / 10 ^ (2 - 1 - i) % 10 : Nat) : Int)) ∧ (∀ i, i < 2 → bt zs (4 + i) = 48 + ((mm / 10 ^ (2 - 1 - i) % 10 : Nat) : Int)) ∧ bt zs 3 = 58 ∧ ((bt zs 0 = 43 ∧ o = oo) ∨ (bt zs 0 = 45 ∧ o = -oo)))
theorem cum_in (y : Int) : ∀ j : Nat, 0 ≤ tCum y j ∧ tCum y j ≤ 31 * j
  | 0 => by simp [tCum]
  | j + 1 => by
    have := cum_in y j
    have h1 := tMonth_le y ((j + 1 : Nat) : Int)
    have h2 : 0 ≤ tMonth y ((j + 1 : Nat) : Int) := by
      unfold tMonth
      split
      · omega
      · split
        · split <;> omega
        · omega
    show 0 ≤ tCum y j + tMonth y ((j + 1 : Nat) : Int) ∧ tCum y j + tMonth y ((j + 1 : Nat) : Int) ≤ 31 * ((j + 1 : Nat) : Int)
    omega
theorem x9_bound {x k j : Nat} (h : x < 10 ^ k) (hj : k + j ≤ 9) : x * 10 ^ j < 1000000000 := by
  have h1 : x * 10 ^ j < 10 ^ k * 10 ^ j := Nat.mul_lt_mul_of_pos_right h (Nat.pow_pos (by omega))
  have h2 : 10 ^ (k + j) ≤ 10 ^ 9 := Nat.pow_le_pow_right (by omega) hj
  rw [Nat.pow_add] at h2
  omega
set_option maxHeartbeats 16000000 in
theorem inst (w : World) (s : ByteArray) (y m d h mi se : Nat) (hH : Head19 s y m d h mi se) (k x p : Nat) (hT : Parts s k x p) (y0 : 1600 ≤ y) (y1 : y ≤ 2300) (m0 : 1 ≤ m) (m1 : m ≤ 12) (d0 : 1 ≤ d) (d1 : (d : Int) ≤ tMonth y m) (zs : ByteArray) (o : Int) (n : Int) (hn : ((tDays (y : Int) - 719162 + (d : Int) - 1 + tCum (y : Int) (m - 1)) * 86400 + (3600 * (h : Int) + 60 * (mi : Int) + (se : Int) - o)) * 1000000000 + ((x * 10 ^ (9 - k) : Nat) : Int) = n) (n0 : -9223372036854775808 ≤ n) (n1 : n ≤ 9223372036854775807) (hZE : s.extract p s.size = zs) (hZ : Zn zs o) : Calls Tryz.prog 18 #[.string s] w fun e w' => e = .returned (.tuple #[.int .i64 n, .int .i64 o, .bool true]) ∧ Below w.heap.size w w' := by
  have c0 := Lib.hid (fun W => show Calls Tryz.prog 53 #[.string s, .int .i64 0, .int .i64 4] W (fun e w' => e = .returned (.tuple #[.int .i64 (y : Int), .bool true]) ∧ w' = W) from two_is W s 0 4 y (by have := hH.z0; omega) hH.z1 (by omega) hH.ly hH.y_)
  have c1 := Lib.hid (fun W => show Calls Tryz.prog 53 #[.string s, .int .i64 5, .int .i64 2] W (fun e w' => e = .returned (.tuple #[.int .i64 (m : Int), .bool true]) ∧ w' = W) from two_is W s 5 2 m (by have := hH.z0; omega) hH.z1 (by omega) hH.lm hH.m_)
  have c2 := Lib.hid (fun W => show Calls Tryz.prog 53 #[.string s, .int .i64 8, .int .i64 2] W (fun e w' => e = .returned (.tuple #[.int .i64 (d : Int), .bool true]) ∧ w' = W) from two_is W s 8 2 d (by have := hH.z0; omega) hH.z1 (by omega) hH.ld hH.d_)
  have c3 := Lib.hid (fun W => show Calls Tryz.prog 53 #[.string s, .int .i64 11, .int .i64 2] W (fun e w' => e = .returned (.tuple #[.int .i64 (h : Int), .bool true]) ∧ w' = W) from two_is W s 11 2 h (by have := hH.z0; omega) hH.z1 (by omega) hH.lh hH.h_)
  have c4 := Lib.hid (fun W => show Calls Tryz.prog 53 #[.string s, .int .i64 14, .int .i64 2] W (fun e w' => e = .returned (.tuple #[.int .i64 (mi : Int), .bool true]) ∧ w' = W) from two_is W s 14 2 mi (by have := hH.z0; omega) hH.z1 (by omega) hH.lmi hH.mi_)
  have c5 := Lib.hid (fun W => show Calls Tryz.prog 53 #[.string s, .int .i64 17, .int .i64 2] W (fun e w' => e = .returned (.tuple #[.int .i64 (se : Int), .bool true]) ∧ w' = W) from two_is W s 17 2 se (by have := hH.z0; omega) hH.z1 (by omega) hH.ls hH.s_)
  have z0 := hH.z0
  have z1 := hH.z1
  have b4 := hH.b4
  have b7 := hH.b7
  have b10 := hH.b10
  have b13 := hH.b13
  have b16 := hH.b16
  have HH := Lib.hid hH
  clear hH
  have HM := Lib.hid (fun W (M : Nat) (h0 : 1 ≤ M) (h1 : M ≤ 12) => monthOf_is W (y : Int) (M : Int) (by omega) (by omega) (by omega) (by omega))
  have HF := Lib.hid (fun W (Y : Int) (h0 : 1 ≤ Y) (h1 : Y ≤ 9999) => daysOf_is W Y h0 h1)
  have HT := Lib.hid hT
  have HN := Lib.hid (And.intro hn (And.intro n0 n1))
  clear hn n0 n1
  have HZ := Lib.hid hZ
  have HZE := Lib.hid hZE
  have HDD := Lib.hid (show 0 ≤ tDays (y : Int) ∧ tDays (y : Int) ≤ 1000000 ∧ d ≤ 31 from ⟨by unfold tDays; omega, by unfold tDays; omega, by have := tMonth_le (y : Int) (m : Int); omega⟩)
  clear hZ hZE
  clear hT
  have hb' := get_bt s
  go_enter Tryz.func18, Tryz.ntmps18
  go_wp2_with fail
  obtain ⟨W2, hW2⟩ : ∃ W2, W2 = ((w.alloc (.cells #[.int .i64 0, .int .i64 0, .int .i64 0, .int .i64 0, .int .i64 0, .int .i64 0] 120)).alloc (.cells #[.int .i64 0, .int .i64 5, .int .i64 8, .int .i64 11, .int .i64 14, .int .i64 17] 3)) := ⟨_, rfl⟩
  have hA : Blk W2 w.heap.size 120 (sixV 0 y m d h mi se).toArray := by rw [hW2]; exact (Blk.new w 120 _).alloc _
  have hP : Blk W2 (w.heap.size + 1) 3 #[.int .i64 0, .int .i64 5, .int .i64 8, .int .i64 11, .int .i64 14, .int .i64 17] := by rw [hW2]; exact Blk.new_at _ 3 _ _ (by simp)
  have hB : Below w.heap.size w W2 := by rw [hW2]; go_grown
  rw [← hW2]
  clear hW2
  go_loopw [8] (fun i wr => ∃ q : Nat, q ≤ 6 ∧ i = .int .i64 (q : Int) ∧ Below w.heap.size w wr ∧ Blk wr w.heap.size 120 (sixV q y m d h mi se).toArray ∧ Blk wr (w.heap.size + 1) 3 #[.int .i64 0, .int .i64 5, .int .i64 8, .int .i64 11, .int .i64 14, .int .i64 17]) (fun i _ => 6 - (intOf i).toNat)
  case atStart => exact ⟨0, by omega, rfl, hB, hA, hP⟩
  case round =>
    obtain ⟨q, hq, rfl, hbr, ha, hp⟩ := hrel
    clear hA hP hB
    have hlt := ha.lt
    have hlt2 := hp.lt
    have HA := Lib.hid ha
    have HP := Lib.hid hp
    have HB := Lib.hid hbr
    have fz := ha.frozen
    have k0 := hp.cell 0
    have k1 := hp.cell 1
    have k2 := hp.cell 2
    have k3 := hp.cell 3
    have k4 := hp.cell 4
    have k5 := hp.cell 5
    simp only [List.getElem?_toArray, List.getElem?_cons_zero, List.getElem?_cons_succ] at k0 k1 k2 k3 k4 k5
    have hq6 : q = 0 ∨ q = 1 ∨ q = 2 ∨ q = 3 ∨ q = 4 ∨ q = 5 ∨ q = 6 := by omega
    rcases hq6 with rfl | rfl | rfl | rfl | rfl | rfl | rfl
    · have ks := ha.cell 0
      have kl : sixV 0 y m d h mi se = sixV 0 y m d h mi se := rfl
      simp only [sixV, List.take_succ_cons, List.take_zero, List.nil_append, List.cons_append, List.replicate, List.getElem?_toArray, List.getElem?_cons_zero, List.getElem?_cons_succ, Nat.reduceSub, Nat.sub_zero] at ks
      clear ha hp hbr kl
      go_wp2_with (go_at_call 53; go_must (refine (c0.out _).mono ?_; rintro e w1 ⟨rfl, rfl⟩))
      have e4 : IntKind.i64.wrap (0 + 4) = 4 := by decide
      have g4 : decide ((s.size : Int) ≤ 4) = false := by simp; omega
      have l4 : (4 : Int) < (s.size : Int) := by omega
      go_quiet (fail)
      clear e4 g4 l4
      go_wp2_with fail
      go_roundw
      case rel => exact ⟨1, by omega, rfl, Below.setCell (below_drewN HB.out nq) (Nat.le_refl _) _, (HA.out.drewN nq).set_ 0 (.int .i64 (y : Int)), (HP.out.drewN nq).far (by simp) _⟩
      case measure => simp [intOf]
    · have ks := ha.cell 1
      have kl : sixV 1 y m d h mi se = sixV 1 y m d h mi se := rfl
      simp only [sixV, List.take_succ_cons, List.take_zero, List.nil_append, List.cons_append, List.replicate, List.getElem?_toArray, List.getElem?_cons_zero, List.getElem?_cons_succ, Nat.reduceSub, Nat.sub_zero] at ks
      clear ha hp hbr kl
      go_wp2_with (go_at_call 53; go_must (refine (c1.out _).mono ?_; rintro e w1 ⟨rfl, rfl⟩))
      have e4 : IntKind.i64.wrap (5 + 2) = 7 := by decide
      have g4 : decide ((s.size : Int) ≤ 7) = false := by simp; omega
      have l4 : (7 : Int) < (s.size : Int) := by omega
      go_quiet (fail)
      clear e4 g4 l4
      go_wp2_with fail
      go_roundw
      case rel => exact ⟨2, by omega, rfl, Below.setCell (below_drewN HB.out nq) (Nat.le_refl _) _, (HA.out.drewN nq).set_ 1 (.int .i64 (m : Int)), (HP.out.drewN nq).far (by simp) _⟩
      case measure => simp [intOf]
    · have ks := ha.cell 2
      have kl : sixV 2 y m d h mi se = sixV 2 y m d h mi se := rfl
      simp only [sixV, List.take_succ_cons, List.take_zero, List.nil_append, List.cons_append, List.replicate, List.getElem?_toArray, List.getElem?_cons_zero, List.getElem?_cons_succ, Nat.reduceSub, Nat.sub_zero] at ks
      clear ha hp hbr kl
      go_wp2_with (go_at_call 53; go_must (refine (c2.out _).mono ?_; rintro e w1 ⟨rfl, rfl⟩))
      have e4 : IntKind.i64.wrap (8 + 2) = 10 := by decide
      have g4 : decide ((s.size : Int) ≤ 10) = false := by simp; omega
      have l4 : (10 : Int) < (s.size : Int) := by omega
      go_quiet (fail)
      clear e4 g4 l4
      go_wp2_with fail
      go_roundw
      case rel => exact ⟨3, by omega, rfl, Below.setCell (below_drewN HB.out nq) (Nat.le_refl _) _, (HA.out.drewN nq).set_ 2 (.int .i64 (d : Int)), (HP.out.drewN nq).far (by simp) _⟩
      case measure => simp [intOf]
    · have ks := ha.cell 3
      have kl : sixV 3 y m d h mi se = sixV 3 y m d h mi se := rfl
      simp only [sixV, List.take_succ_cons, List.take_zero, List.nil_append, List.cons_append, List.replicate, List.getElem?_toArray, List.getElem?_cons_zero, List.getElem?_cons_succ, Nat.reduceSub, Nat.sub_zero] at ks
      clear ha hp hbr kl
      go_wp2_with (go_at_call 53; go_must (refine (c3.out _).mono ?_; rintro e w1 ⟨rfl, rfl⟩))
      have e4 : IntKind.i64.wrap (11 + 2) = 13 := by decide
      have g4 : decide ((s.size : Int) ≤ 13) = false := by simp; omega
      have l4 : (13 : Int) < (s.size : Int) := by omega
      go_quiet (fail)
      clear e4 g4 l4
      go_wp2_with fail
      go_roundw
      case rel => exact ⟨4, by omega, rfl, Below.setCell (below_drewN HB.out nq) (Nat.le_refl _) _, (HA.out.drewN nq).set_ 3 (.int .i64 (h : Int)), (HP.out.drewN nq).far (by simp) _⟩
      case measure => simp [intOf]
    · have ks := ha.cell 4
      have kl : sixV 4 y m d h mi se = sixV 4 y m d h mi se := rfl
      simp only [sixV, List.take_succ_cons, List.take_zero, List.nil_append, List.cons_append, List.replicate, List.getElem?_toArray, List.getElem?_cons_zero, List.getElem?_cons_succ, Nat.reduceSub, Nat.sub_zero] at ks
      clear ha hp hbr kl
      go_wp2_with (go_at_call 53; go_must (refine (c4.out _).mono ?_; rintro e w1 ⟨rfl, rfl⟩))
      have e4 : IntKind.i64.wrap (14 + 2) = 16 := by decide
      have g4 : decide ((s.size : Int) ≤ 16) = false := by simp; omega
      have l4 : (16 : Int) < (s.size : Int) := by omega
      go_quiet (fail)
      clear e4 g4 l4
      go_wp2_with fail
      go_roundw
      case rel => exact ⟨5, by omega, rfl, Below.setCell (below_drewN HB.out nq) (Nat.le_refl _) _, (HA.out.drewN nq).set_ 4 (.int .i64 (mi : Int)), (HP.out.drewN nq).far (by simp) _⟩
      case measure => simp [intOf]
    · have ks := ha.cell 5
      have kl : sixV 5 y m d h mi se = sixV 5 y m d h mi se := rfl
      simp only [sixV, List.take_succ_cons, List.take_zero, List.nil_append, List.cons_append, List.replicate, List.getElem?_toArray, List.getElem?_cons_zero, List.getElem?_cons_succ, Nat.reduceSub, Nat.sub_zero] at ks
      clear ha hp hbr kl
      go_wp2_with (go_at_call 53; go_must (refine (c5.out _).mono ?_; rintro e w1 ⟨rfl, rfl⟩))
      have e4 : IntKind.i64.wrap (17 + 2) = 19 := by decide
      have g4 : decide ((s.size : Int) ≤ 19) = false := by simp; omega
      have l4 : (19 : Int) < (s.size : Int) := by omega
      go_quiet (fail)
      clear e4 g4 l4
      go_wp2_with fail
      go_roundw
      case rel => exact ⟨6, by omega, rfl, Below.setCell (below_drewN HB.out nq) (Nat.le_refl _) _, (HA.out.drewN nq).set_ 5 (.int .i64 (se : Int)), (HP.out.drewN nq).far (by simp) _⟩
      case measure => simp [intOf]
    · have ks0 := ha.cell 0
      have ks1 := ha.cell 1
      have ks2 := ha.cell 2
      have ks3 := ha.cell 3
      have ks4 := ha.cell 4
      have ks5 := ha.cell 5
      simp only [sixV, List.take_succ_cons, List.take_zero, List.nil_append, List.append_nil, List.cons_append, List.replicate, List.getElem?_toArray, List.getElem?_cons_zero, List.getElem?_cons_succ, Nat.reduceSub, Nat.sub_zero] at ks0 ks1 ks2 ks3 ks4 ks5
      clear ha hp hbr
      rcases HT.out.or_ with ⟨rfl, rfl, rfl, hn⟩ | ⟨hk1, hk9, rfl, h46, hx, hdig, hend⟩
      · have b19 : (bt s 19 == 46) = false := by simp; exact hn
        clear hn
        have hpz := HT.out.hp
        go_wp2_with fail
        have g14 : decide (9 < (0 : Int)) = false := by simp; try omega
        have gm0 : decide ((m : Int) < 1) = false := by simp; omega
        have gm1 : decide (12 < (m : Int)) = false := by simp; omega
        have gd0 : decide ((d : Int) < 1) = false := by simp; omega
        have gd1 : decide (tMonth (y : Int) (m : Int) < (d : Int)) = false := by simp; omega
        go_quiet ((go_at_call 54; exact Calls.quiet_of_same (HM.out _ m (by omega) (by omega))))
        clear g14 gm0 gm1 gd0 gd1
        go_wp2_with fail
        obtain ⟨W3, hW3⟩ : ∃ W3, W3 = wr.drewN nq := ⟨_, rfl⟩
        have HA3 := Lib.hid (show Blk W3 w.heap.size 120 (sixV 6 y m d h mi se).toArray from by rw [hW3]; exact HA.out.drewN nq)
        have HB3 := Lib.hid (show Below w.heap.size w W3 from by rw [hW3]; exact below_drewN HB.out nq)
        rw [← hW3]
        clear hW3 HA HB HP fz ks0 ks1 ks2 ks3 ks4 ks5 k0 k1 k2 k3 k4 k5 hlt hlt2
        go_loopw [13, 14] (fun V N wl => ∃ j : Nat, j + (0 : Nat) ≤ 9 ∧ V = .int .i64 0 ∧ N = .int .i64 (((0 : Nat) + j : Nat) : Int) ∧ wl = W3) (fun _ N _ => 9 - (intOf N).toNat)
        case atStart => exact ⟨0, by omega, by simp, by simp, rfl⟩
        case round =>
          obtain ⟨j, hj, rfl, rfl, hw⟩ := hrel
          have hw' := hw.symm
          subst hw'
          clear hw
          by_cases hjk : j + (0 : Nat) < 9
          · skip
            have hl3 : decide ((((0 : Nat) + j : Nat) : Int) < 9) = true := by simp; omega
            go_wp2_with fail
            all_goals go_roundw
            case rel => exact ⟨j + 1, by omega, rfl, by congr 1 <;> (try push_cast) <;> omega, trivial⟩
            case measure => simp only [intOf]; omega
          · obtain rfl : j = 9 - (0 : Nat) := by omega
            rw [show (0 : Nat) + (9 - (0 : Nat)) = 9 by omega]
            rw [show ((9 : Nat) : Int) = 9 from rfl]
            have ks0 := HA3.out.cell 0
            have ks1 := HA3.out.cell 1
            have ks2 := HA3.out.cell 2
            have ks3 := HA3.out.cell 3
            have ks4 := HA3.out.cell 4
            have ks5 := HA3.out.cell 5
            simp only [sixV, List.take_succ_cons, List.take_zero, List.nil_append, List.append_nil, List.cons_append, List.replicate, List.getElem?_toArray, List.getElem?_cons_zero, List.getElem?_cons_succ, Nat.reduceSub, Nat.sub_zero] at ks0 ks1 ks2 ks3 ks4 ks5
            have hzs : s.extract 19 s.size = zs := HZE.out
            clear b4 b7 b10 b13 b16
            have e1 : IntKind.i64.wrap (tDays (y : Int) - tDays 1970) = tDays (y : Int) - 719162 := by rw [IntKind.wrap_i64, tDays1970]; have := HDD.out; omega
            have e2 : IntKind.i64.wrap (tDays (y : Int) - 719162 + (d : Int)) = tDays (y : Int) - 719162 + (d : Int) := by rw [IntKind.wrap_i64]; have := HDD.out; omega
            have e3 : IntKind.i64.wrap (tDays (y : Int) - 719162 + (d : Int) - 1) = tDays (y : Int) - 719162 + (d : Int) - 1 := by rw [IntKind.wrap_i64]; have := HDD.out; omega
            have E1 := Lib.hid (And.intro e1 (And.intro e2 e3))
            clear e1 e2 e3
            rcases HZ.out.or_ with ⟨hz90, rfl⟩ | ⟨hz90, z6, hh, mm, oo, lh, lm, hoo, dh, dm, b3, hsg⟩
            · have hzb : (!(zs.toList == [90])) = false := by rw [hz90]; rfl
              go_wp2_with fail
              obtain ⟨e1, e2, e3⟩ := E1.out
              go_quiet ((go_at_call 55; exact Calls.quiet_of_same (HF.out _ _ (by omega) (by omega))))
              clear e1 e2 e3
              go_wp2_with fail
              obtain ⟨W5, hW5⟩ : ∃ W5, W5 = W3.drewN nq := ⟨_, rfl⟩
              have HB5 := Lib.hid (show Below w.heap.size w W5 from by rw [hW5]; exact below_drewN HB3.out nq)
              have HA5 := Lib.hid (show Blk W5 w.heap.size 120 (sixV 6 y m d h mi se).toArray from by rw [hW5]; exact HA3.out.drewN nq)
              rw [← hW5]
              try rw [hzs]
              clear hW5 ks0 ks1 ks2 ks3 ks4 ks5
              have ks0 := HA5.out.cell 0
              have ks1 := HA5.out.cell 1
              have ks2 := HA5.out.cell 2
              have ks3 := HA5.out.cell 3
              have ks4 := HA5.out.cell 4
              have ks5 := HA5.out.cell 5
              simp only [sixV, List.take_succ_cons, List.take_zero, List.nil_append, List.append_nil, List.cons_append, List.replicate, List.getElem?_toArray, List.getElem?_cons_zero, List.getElem?_cons_succ, Nat.reduceSub, Nat.sub_zero] at ks0 ks1 ks2 ks3 ks4 ks5
              go_loopw [21, 22] (fun A N wl => ∃ M : Nat, 1 ≤ M ∧ M ≤ m ∧ A = .int .i64 (tDays (y : Int) - 719162 + (d : Int) - 1 + tCum (y : Int) (M - 1)) ∧ N = .int .i64 (M : Int) ∧ wl = W5) (fun _ N _ => m - (intOf N).toNat)
              case atStart => exact ⟨1, by omega, m0, by simp [tCum], rfl, rfl⟩
              case round =>
                obtain ⟨M, hM0, hM1, rfl, rfl, hw⟩ := hrel
                have hw' := hw.symm
                subst hw'
                clear hw
                have hdd := HDD.out
                have hc0 := cum_in (y : Int) (M - 1)
                by_cases hMm : M < m
                · have hcs : tCum (y : Int) (M + 1 - 1) = tCum (y : Int) (M - 1) + tMonth (y : Int) (M : Int) := by obtain ⟨J, rfl⟩ : ∃ J, M = J + 1 := ⟨M - 1, by omega⟩; rfl
                  have hc1 := cum_in (y : Int) (M + 1 - 1)
                  rw [hcs] at hc1
                  have HCS := Lib.hid hcs
                  clear hcs
                  generalize tCum (y : Int) (M - 1) = C at *
                  go_wp2_with (go_at_call 54; go_must (refine (HM.out _ M hM0 (by omega)).mono ?_; rintro e w1 ⟨rfl, rfl⟩))
                  all_goals go_roundw
                  case rel => exact ⟨M + 1, by omega, by omega, by rw [HCS.out]; congr 1 <;> omega, by congr 1, trivial⟩
                  case measure => simp only [intOf]; omega
                · obtain rfl : M = m := by omega
                  generalize hC : tCum (y : Int) (M - 1) = C at *
                  generalize hDY : tDays (y : Int) = DY at *
                  have lh3 := HH.out.lh
                  have lh4 := HH.out.lmi
                  have lh5 := HH.out.ls
                  go_wp2_with fail
                  have hn := HN.out
                  try rw [hC] at hn
                  try rw [hDY] at hn
                  simp only [Nat.zero_mul] at hn
                  have hv : wrap64 (wrap64 (((DY - 719162 + (d : Int) - 1 + C) * 86400 + (3600 * (h : Int) + 60 * (mi : Int) + (se : Int))) * 1000000000)) = n := by unfold wrap64; omega
                  exact bodyPost_ret (v := .tuple #[.int .i64 n, .int .i64 0, .bool true]) (by simp [results, Tryz.results18, go_sem, hv]) rfl ⟨rfl, HB5.out⟩
            · have hzb : (!(zs.toList == [90])) = true := by rw [Bool.not_eq_true', beq_eq_false_iff_ne]; exact hz90
              have hbz := get_bt zs
              have q0 : 0 ≤ oo ∧ oo ≤ 100000 := by omega
              have C1 := Lib.hid (fun W (i : Int) (hi : i = 1 ∨ i = 4) => show Calls Tryz.prog 53 #[.string zs, .int .i64 i, .int .i64 2] W (fun e w' => e = .returned (.tuple #[.int .i64 (((if i = 1 then hh else mm) : Nat) : Int), .bool true]) ∧ w' = W) from by rcases hi with rfl | rfl; exact two_is W zs 1 2 hh (by omega) (by omega) (by omega) (by omega) dh; exact two_is W zs 4 2 mm (by omega) (by omega) (by omega) (by omega) dm)
              clear dh dm
              rcases hsg with ⟨b0, rfl⟩ | ⟨b0, rfl⟩
              · go_wp2_with (go_at_call 53; go_must (refine (C1.out _ _ (by omega)).mono ?_; rintro e w1 ⟨rfl, rfl⟩; first | rw [if_pos rfl] | rw [if_neg (by decide)]))
                obtain ⟨e1, e2, e3⟩ := E1.out
                go_quiet ((go_at_call 55; exact Calls.quiet_of_same (HF.out _ _ (by omega) (by omega))))
                clear e1 e2 e3
                go_wp2_with fail
                obtain ⟨W5, hW5⟩ : ∃ W5, W5 = w1.drewN nq := ⟨_, rfl⟩
                have HB5 := Lib.hid (show Below w.heap.size w W5 from by rw [hW5]; exact below_drewN HB3.out nq)
                have HA5 := Lib.hid (show Blk W5 w.heap.size 120 (sixV 6 y m d h mi se).toArray from by rw [hW5]; exact HA3.out.drewN nq)
                rw [← hW5]
                try rw [hzs]
                clear hW5 ks0 ks1 ks2 ks3 ks4 ks5
                have ks0 := HA5.out.cell 0
                have ks1 := HA5.out.cell 1
                have ks2 := HA5.out.cell 2
                have ks3 := HA5.out.cell 3
                have ks4 := HA5.out.cell 4
                have ks5 := HA5.out.cell 5
                simp only [sixV, List.take_succ_cons, List.take_zero, List.nil_append, List.append_nil, List.cons_append, List.replicate, List.getElem?_toArray, List.getElem?_cons_zero, List.getElem?_cons_succ, Nat.reduceSub, Nat.sub_zero] at ks0 ks1 ks2 ks3 ks4 ks5
                go_loopw [21, 22] (fun A N wl => ∃ M : Nat, 1 ≤ M ∧ M ≤ m ∧ A = .int .i64 (tDays (y : Int) - 719162 + (d : Int) - 1 + tCum (y : Int) (M - 1)) ∧ N = .int .i64 (M : Int) ∧ wl = W5) (fun _ N _ => m - (intOf N).toNat)
                case atStart => exact ⟨1, by omega, m0, by simp [tCum], rfl, rfl⟩
                case round =>
                  obtain ⟨M, hM0, hM1, rfl, rfl, hw⟩ := hrel
                  have hw' := hw.symm
                  subst hw'
                  clear hw
                  have hdd := HDD.out
                  have hc0 := cum_in (y : Int) (M - 1)
                  by_cases hMm : M < m
                  · have hcs : tCum (y : Int) (M + 1 - 1) = tCum (y : Int) (M - 1) + tMonth (y : Int) (M : Int) := by obtain ⟨J, rfl⟩ : ∃ J, M = J + 1 := ⟨M - 1, by omega⟩; rfl
                    have hc1 := cum_in (y : Int) (M + 1 - 1)
                    rw [hcs] at hc1
                    have HCS := Lib.hid hcs
                    clear hcs
                    generalize tCum (y : Int) (M - 1) = C at *
                    go_wp2_with (go_at_call 54; go_must (refine (HM.out _ M hM0 (by omega)).mono ?_; rintro e w1 ⟨rfl, rfl⟩))
                    all_goals go_roundw
                    case rel => exact ⟨M + 1, by omega, by omega, by rw [HCS.out]; congr 1 <;> omega, by congr 1, trivial⟩
                    case measure => simp only [intOf]; omega
                  · obtain rfl : M = m := by omega
                    generalize hC : tCum (y : Int) (M - 1) = C at *
                    generalize hDY : tDays (y : Int) = DY at *
                    have lh3 := HH.out.lh
                    have lh4 := HH.out.lmi
                    have lh5 := HH.out.ls
                    go_wp2_with fail
                    have hn := HN.out
                    try rw [hC] at hn
                    try rw [hDY] at hn
                    simp only [Nat.zero_mul] at hn
                    have hv : wrap64 (wrap64 (((DY - 719162 + (d : Int) - 1 + C) * 86400 + (3600 * (h : Int) + 60 * (mi : Int) + (se : Int) - o)) * 1000000000)) = n := by unfold wrap64; omega
                    exact bodyPost_ret (v := .tuple #[.int .i64 n, .int .i64 o, .bool true]) (by simp [results, Tryz.results18, go_sem, hv]) rfl ⟨rfl, HB5.out⟩
              · go_wp2_with (go_at_call 53; go_must (refine (C1.out _ _ (by omega)).mono ?_; rintro e w1 ⟨rfl, rfl⟩; first | rw [if_pos rfl] | rw [if_neg (by decide)]))
                obtain ⟨e1, e2, e3⟩ := E1.out
                go_quiet ((go_at_call 55; exact Calls.quiet_of_same (HF.out _ _ (by omega) (by omega))))
                clear e1 e2 e3
                go_wp2_with fail
                obtain ⟨W5, hW5⟩ : ∃ W5, W5 = w1.drewN nq := ⟨_, rfl⟩
                have HB5 := Lib.hid (show Below w.heap.size w W5 from by rw [hW5]; exact below_drewN HB3.out nq)
                have HA5 := Lib.hid (show Blk W5 w.heap.size 120 (sixV 6 y m d h mi se).toArray from by rw [hW5]; exact HA3.out.drewN nq)
                rw [← hW5]
                try rw [hzs]
                clear hW5 ks0 ks1 ks2 ks3 ks4 ks5
                have ks0 := HA5.out.cell 0
                have ks1 := HA5.out.cell 1
                have ks2 := HA5.out.cell 2
                have ks3 := HA5.out.cell 3
                have ks4 := HA5.out.cell 4
                have ks5 := HA5.out.cell 5
                simp only [sixV, List.take_succ_cons, List.take_zero, List.nil_append, List.append_nil, List.cons_append, List.replicate, List.getElem?_toArray, List.getElem?_cons_zero, List.getElem?_cons_succ, Nat.reduceSub, Nat.sub_zero] at ks0 ks1 ks2 ks3 ks4 ks5
                go_loopw [21, 22] (fun A N wl => ∃ M : Nat, 1 ≤ M ∧ M ≤ m ∧ A = .int .i64 (tDays (y : Int) - 719162 + (d : Int) - 1 + tCum (y : Int) (M - 1)) ∧ N = .int .i64 (M : Int) ∧ wl = W5) (fun _ N _ => m - (intOf N).toNat)
                case atStart => exact ⟨1, by omega, m0, by simp [tCum], rfl, rfl⟩
                case round =>
                  obtain ⟨M, hM0, hM1, rfl, rfl, hw⟩ := hrel
                  have hw' := hw.symm
                  subst hw'
                  clear hw
                  have hdd := HDD.out
                  have hc0 := cum_in (y : Int) (M - 1)
                  by_cases hMm : M < m
                  · have hcs : tCum (y : Int) (M + 1 - 1) = tCum (y : Int) (M - 1) + tMonth (y : Int) (M : Int) := by obtain ⟨J, rfl⟩ : ∃ J, M = J + 1 := ⟨M - 1, by omega⟩; rfl
                    have hc1 := cum_in (y : Int) (M + 1 - 1)
                    rw [hcs] at hc1
                    have HCS := Lib.hid hcs
                    clear hcs
                    generalize tCum (y : Int) (M - 1) = C at *
                    go_wp2_with (go_at_call 54; go_must (refine (HM.out _ M hM0 (by omega)).mono ?_; rintro e w1 ⟨rfl, rfl⟩))
                    all_goals go_roundw
                    case rel => exact ⟨M + 1, by omega, by omega, by rw [HCS.out]; congr 1 <;> omega, by congr 1, trivial⟩
                    case measure => simp only [intOf]; omega
                  · obtain rfl : M = m := by omega
                    generalize hC : tCum (y : Int) (M - 1) = C at *
                    generalize hDY : tDays (y : Int) = DY at *
                    have lh3 := HH.out.lh
                    have lh4 := HH.out.lmi
                    have lh5 := HH.out.ls
                    go_wp2_with fail
                    have hn := HN.out
                    try rw [hC] at hn
                    try rw [hDY] at hn
                    simp only [Nat.zero_mul] at hn
                    have hv : wrap64 (wrap64 (((DY - 719162 + (d : Int) - 1 + C) * 86400 + (3600 * (h : Int) + 60 * (mi : Int) + (se : Int) + oo)) * 1000000000)) = n := by unfold wrap64; omega
                    exact bodyPost_ret (v := .tuple #[.int .i64 n, .int .i64 (-oo), .bool true]) (by simp [results, Tryz.results18, go_sem, hv]) rfl ⟨rfl, HB5.out⟩
      · have l19 : 19 < s.size := by omega
        have hx9 : x < 1000000000 := Nat.lt_of_lt_of_le hx (by have := Nat.pow_le_pow_right (n := 10) (by omega) hk9; omega)
        have hpz := HT.out.hp
        have HX := Lib.hid (And.intro hx (And.intro hdig hend))
        clear hx hdig hend
        go_wp2_with fail
        go_loopw [12, 13, 14] (fun A V N wl => ∃ q : Nat, q ≤ k ∧ A = .int .i64 ((20 + q : Nat) : Int) ∧ V = .int .i64 ((x / 10 ^ (k - q) : Nat) : Int) ∧ N = .int .i64 (q : Int) ∧ wl = wr) (fun _ _ N _ => k - (intOf N).toNat)
        case atStart => exact ⟨0, by omega, rfl, by rw [Nat.sub_zero, Nat.div_eq_of_lt HX.out.1]; rfl, rfl, rfl⟩
        case round =>
          obtain ⟨q, hq, rfl, rfl, rfl, hw⟩ := hrel
          have hw' := hw.symm
          subst hw'
          clear hw
          by_cases hqk : q < k
          · have hd := HX.out.2.1 q hqk
            have hd10 : x / 10 ^ (k - 1 - q) % 10 < 10 := Nat.mod_lt _ (by omega)
            have hstep : x / 10 ^ (k - q) = x / 10 ^ (k - 1 - q) / 10 := by
              rw [Nat.div_div_eq_div_mul, ← Nat.pow_succ, show (k - 1 - q).succ = k - q by omega]
            have hy : x / 10 ^ (k - 1 - q) ≤ x := Nat.div_le_self _ _
            have hnx : k - (q + 1) = k - 1 - q := by omega
            rw [hstep]
            generalize hyy : x / 10 ^ (k - 1 - q) = Y at *
            generalize hdd : Y % 10 = D at *
            go_wp2_with fail
            all_goals go_roundw
            case rel => exact ⟨q + 1, by omega, by congr 1 <;> (try push_cast) <;> omega, by rw [hnx, hyy]; congr 1 <;> omega, rfl, trivial⟩
            case measure => simp only [intOf]; omega
          · obtain rfl : q = k := by omega
            rw [show q - q = 0 by omega, Nat.pow_zero, Nat.div_one]
            rcases HX.out.2.2 with he | he
            · have he1 : decide (48 ≤ bt s (20 + q)) = false := by simp; omega
              go_wp2_with fail
              have g14 : decide (9 < (q : Int)) = false := by simp; try omega
              have gm0 : decide ((m : Int) < 1) = false := by simp; omega
              have gm1 : decide (12 < (m : Int)) = false := by simp; omega
              have gd0 : decide ((d : Int) < 1) = false := by simp; omega
              have gd1 : decide (tMonth (y : Int) (m : Int) < (d : Int)) = false := by simp; omega
              go_quiet ((go_at_call 54; exact Calls.quiet_of_same (HM.out _ m (by omega) (by omega))))
              clear g14 gm0 gm1 gd0 gd1
              go_wp2_with fail
              obtain ⟨W3, hW3⟩ : ∃ W3, W3 = wr.drewN nq := ⟨_, rfl⟩
              have HA3 := Lib.hid (show Blk W3 w.heap.size 120 (sixV 6 y m d h mi se).toArray from by rw [hW3]; exact HA.out.drewN nq)
              have HB3 := Lib.hid (show Below w.heap.size w W3 from by rw [hW3]; exact below_drewN HB.out nq)
              rw [← hW3]
              clear hW3 HA HB HP fz ks0 ks1 ks2 ks3 ks4 ks5 k0 k1 k2 k3 k4 k5 hlt hlt2
              go_loopw [13, 14] (fun V N wl => ∃ j : Nat, j + q ≤ 9 ∧ V = .int .i64 ((x * 10 ^ j : Nat) : Int) ∧ N = .int .i64 ((q + j : Nat) : Int) ∧ wl = W3) (fun _ N _ => 9 - (intOf N).toNat)
              case atStart => exact ⟨0, by omega, by simp, by simp, rfl⟩
              case round =>
                obtain ⟨j, hj, rfl, rfl, hw⟩ := hrel
                have hw' := hw.symm
                subst hw'
                clear hw
                by_cases hjk : j + q < 9
                · have hP := x9_bound HX.out.1 (j := j) (by omega)
                  have hP2 : x * 10 ^ (j + 1) = x * 10 ^ j * 10 := by rw [Nat.pow_succ, Nat.mul_assoc]
                  generalize x * 10 ^ j = P at *
                  have hl3 : decide (((q + j : Nat) : Int) < 9) = true := by simp; omega
                  go_wp2_with fail
                  all_goals go_roundw
                  case rel => exact ⟨j + 1, by omega, by rw [hP2]; congr 1 <;> (try push_cast) <;> omega, by congr 1 <;> (try push_cast) <;> omega, trivial⟩
                  case measure => simp only [intOf]; omega
                · obtain rfl : j = 9 - q := by omega
                  rw [show q + (9 - q) = 9 by omega]
                  rw [show ((9 : Nat) : Int) = 9 from rfl]
                  obtain ⟨X9, hX9⟩ : ∃ X9, x * 10 ^ (9 - q) = X9 := ⟨_, rfl⟩
                  have hX9b : X9 < 1000000000 := by rw [← hX9]; exact x9_bound HX.out.1 (by omega)
                  rw [hX9]
                  have HX9 := Lib.hid hX9
                  clear hX9
                  have ks0 := HA3.out.cell 0
                  have ks1 := HA3.out.cell 1
                  have ks2 := HA3.out.cell 2
                  have ks3 := HA3.out.cell 3
                  have ks4 := HA3.out.cell 4
                  have ks5 := HA3.out.cell 5
                  simp only [sixV, List.take_succ_cons, List.take_zero, List.nil_append, List.append_nil, List.cons_append, List.replicate, List.getElem?_toArray, List.getElem?_cons_zero, List.getElem?_cons_succ, Nat.reduceSub, Nat.sub_zero] at ks0 ks1 ks2 ks3 ks4 ks5
                  have hzs : s.extract (20 + q) s.size = zs := HZE.out
                  clear b4 b7 b10 b13 b16
                  have e1 : IntKind.i64.wrap (tDays (y : Int) - tDays 1970) = tDays (y : Int) - 719162 := by rw [IntKind.wrap_i64, tDays1970]; have := HDD.out; omega
                  have e2 : IntKind.i64.wrap (tDays (y : Int) - 719162 + (d : Int)) = tDays (y : Int) - 719162 + (d : Int) := by rw [IntKind.wrap_i64]; have := HDD.out; omega
                  have e3 : IntKind.i64.wrap (tDays (y : Int) - 719162 + (d : Int) - 1) = tDays (y : Int) - 719162 + (d : Int) - 1 := by rw [IntKind.wrap_i64]; have := HDD.out; omega
                  have E1 := Lib.hid (And.intro e1 (And.intro e2 e3))
                  clear e1 e2 e3
                  rcases HZ.out.or_ with ⟨hz90, rfl⟩ | ⟨hz90, z6, hh, mm, oo, lh, lm, hoo, dh, dm, b3, hsg⟩
                  · have hzb : (!(zs.toList == [90])) = false := by rw [hz90]; rfl
                    go_wp2_with fail
                    obtain ⟨e1, e2, e3⟩ := E1.out
                    go_quiet ((go_at_call 55; exact Calls.quiet_of_same (HF.out _ _ (by omega) (by omega))))
                    clear e1 e2 e3
                    go_wp2_with fail
                    obtain ⟨W5, hW5⟩ : ∃ W5, W5 = W3.drewN nq := ⟨_, rfl⟩
                    have HB5 := Lib.hid (show Below w.heap.size w W5 from by rw [hW5]; exact below_drewN HB3.out nq)
                    have HA5 := Lib.hid (show Blk W5 w.heap.size 120 (sixV 6 y m d h mi se).toArray from by rw [hW5]; exact HA3.out.drewN nq)
                    rw [← hW5]
                    try rw [hzs]
                    clear hW5 ks0 ks1 ks2 ks3 ks4 ks5
                    have ks0 := HA5.out.cell 0
                    have ks1 := HA5.out.cell 1
                    have ks2 := HA5.out.cell 2
                    have ks3 := HA5.out.cell 3
                    have ks4 := HA5.out.cell 4
                    have ks5 := HA5.out.cell 5
                    simp only [sixV, List.take_succ_cons, List.take_zero, List.nil_append, List.append_nil, List.cons_append, List.replicate, List.getElem?_toArray, List.getElem?_cons_zero, List.getElem?_cons_succ, Nat.reduceSub, Nat.sub_zero] at ks0 ks1 ks2 ks3 ks4 ks5
                    go_loopw [21, 22] (fun A N wl => ∃ M : Nat, 1 ≤ M ∧ M ≤ m ∧ A = .int .i64 (tDays (y : Int) - 719162 + (d : Int) - 1 + tCum (y : Int) (M - 1)) ∧ N = .int .i64 (M : Int) ∧ wl = W5) (fun _ N _ => m - (intOf N).toNat)
                    case atStart => exact ⟨1, by omega, m0, by simp [tCum], rfl, rfl⟩
                    case round =>
                      obtain ⟨M, hM0, hM1, rfl, rfl, hw⟩ := hrel
                      have hw' := hw.symm
                      subst hw'
                      clear hw
                      have hdd := HDD.out
                      have hc0 := cum_in (y : Int) (M - 1)
                      by_cases hMm : M < m
                      · have hcs : tCum (y : Int) (M + 1 - 1) = tCum (y : Int) (M - 1) + tMonth (y : Int) (M : Int) := by obtain ⟨J, rfl⟩ : ∃ J, M = J + 1 := ⟨M - 1, by omega⟩; rfl
                        have hc1 := cum_in (y : Int) (M + 1 - 1)
                        rw [hcs] at hc1
                        have HCS := Lib.hid hcs
                        clear hcs
                        generalize tCum (y : Int) (M - 1) = C at *
                        go_wp2_with (go_at_call 54; go_must (refine (HM.out _ M hM0 (by omega)).mono ?_; rintro e w1 ⟨rfl, rfl⟩))
                        all_goals go_roundw
                        case rel => exact ⟨M + 1, by omega, by omega, by rw [HCS.out]; congr 1 <;> omega, by congr 1, trivial⟩
                        case measure => simp only [intOf]; omega
                      · obtain rfl : M = m := by omega
                        generalize hC : tCum (y : Int) (M - 1) = C at *
                        generalize hDY : tDays (y : Int) = DY at *
                        have lh3 := HH.out.lh
                        have lh4 := HH.out.lmi
                        have lh5 := HH.out.ls
                        go_wp2_with fail
                        have hn := HN.out
                        try rw [hC] at hn
                        try rw [hDY] at hn
                        rw [HX9.out] at hn
                        have hv : wrap64 (wrap64 (((DY - 719162 + (d : Int) - 1 + C) * 86400 + (3600 * (h : Int) + 60 * (mi : Int) + (se : Int))) * 1000000000) + (X9 : Int)) = n := by unfold wrap64; omega
                        exact bodyPost_ret (v := .tuple #[.int .i64 n, .int .i64 0, .bool true]) (by simp [results, Tryz.results18, go_sem, hv]) rfl ⟨rfl, HB5.out⟩
                  · have hzb : (!(zs.toList == [90])) = true := by rw [Bool.not_eq_true', beq_eq_false_iff_ne]; exact hz90
                    have hbz := get_bt zs
                    have q0 : 0 ≤ oo ∧ oo ≤ 100000 := by omega
                    have C1 := Lib.hid (fun W (i : Int) (hi : i = 1 ∨ i = 4) => show Calls Tryz.prog 53 #[.string zs, .int .i64 i, .int .i64 2] W (fun e w' => e = .returned (.tuple #[.int .i64 (((if i = 1 then hh else mm) : Nat) : Int), .bool true]) ∧ w' = W) from by rcases hi with rfl | rfl; exact two_is W zs 1 2 hh (by omega) (by omega) (by omega) (by omega) dh; exact two_is W zs 4 2 mm (by omega) (by omega) (by omega) (by omega) dm)
                    clear dh dm
                    rcases hsg with ⟨b0, rfl⟩ | ⟨b0, rfl⟩
                    · go_wp2_with (go_at_call 53; go_must (refine (C1.out _ _ (by omega)).mono ?_; rintro e w1 ⟨rfl, rfl⟩; first | rw [if_pos rfl] | rw [if_neg (by decide)]))
                      obtain ⟨e1, e2, e3⟩ := E1.out
                      go_quiet ((go_at_call 55; exact Calls.quiet_of_same (HF.out _ _ (by omega) (by omega))))
                      clear e1 e2 e3
                      go_wp2_with fail
                      obtain ⟨W5, hW5⟩ : ∃ W5, W5 = w1.drewN nq := ⟨_, rfl⟩
                      have HB5 := Lib.hid (show Below w.heap.size w W5 from by rw [hW5]; exact below_drewN HB3.out nq)
                      have HA5 := Lib.hid (show Blk W5 w.heap.size 120 (sixV 6 y m d h mi se).toArray from by rw [hW5]; exact HA3.out.drewN nq)
                      rw [← hW5]
                      try rw [hzs]
                      clear hW5 ks0 ks1 ks2 ks3 ks4 ks5
                      have ks0 := HA5.out.cell 0
                      have ks1 := HA5.out.cell 1
                      have ks2 := HA5.out.cell 2
                      have ks3 := HA5.out.cell 3
                      have ks4 := HA5.out.cell 4
                      have ks5 := HA5.out.cell 5
                      simp only [sixV, List.take_succ_cons, List.take_zero, List.nil_append, List.append_nil, List.cons_append, List.replicate, List.getElem?_toArray, List.getElem?_cons_zero, List.getElem?_cons_succ, Nat.reduceSub, Nat.sub_zero] at ks0 ks1 ks2 ks3 ks4 ks5
                      go_loopw [21, 22] (fun A N wl => ∃ M : Nat, 1 ≤ M ∧ M ≤ m ∧ A = .int .i64 (tDays (y : Int) - 719162 + (d : Int) - 1 + tCum (y : Int) (M - 1)) ∧ N = .int .i64 (M : Int) ∧ wl = W5) (fun _ N _ => m - (intOf N).toNat)
                      case atStart => exact ⟨1, by omega, m0, by simp [tCum], rfl, rfl⟩
                      case round =>
                        obtain ⟨M, hM0, hM1, rfl, rfl, hw⟩ := hrel
                        have hw' := hw.symm
                        subst hw'
                        clear hw
                        have hdd := HDD.out
                        have hc0 := cum_in (y : Int) (M - 1)
                        by_cases hMm : M < m
                        · have hcs : tCum (y : Int) (M + 1 - 1) = tCum (y : Int) (M - 1) + tMonth (y : Int) (M : Int) := by obtain ⟨J, rfl⟩ : ∃ J, M = J + 1 := ⟨M - 1, by omega⟩; rfl
                          have hc1 := cum_in (y : Int) (M + 1 - 1)
                          rw [hcs] at hc1
                          have HCS := Lib.hid hcs
                          clear hcs
                          generalize tCum (y : Int) (M - 1) = C at *
                          go_wp2_with (go_at_call 54; go_must (refine (HM.out _ M hM0 (by omega)).mono ?_; rintro e w1 ⟨rfl, rfl⟩))
                          all_goals go_roundw
                          case rel => exact ⟨M + 1, by omega, by omega, by rw [HCS.out]; congr 1 <;> omega, by congr 1, trivial⟩
                          case measure => simp only [intOf]; omega
                        · obtain rfl : M = m := by omega
                          generalize hC : tCum (y : Int) (M - 1) = C at *
                          generalize hDY : tDays (y : Int) = DY at *
                          have lh3 := HH.out.lh
                          have lh4 := HH.out.lmi
                          have lh5 := HH.out.ls
                          go_wp2_with fail
                          have hn := HN.out
                          try rw [hC] at hn
                          try rw [hDY] at hn
                          rw [HX9.out] at hn
                          have hv : wrap64 (wrap64 (((DY - 719162 + (d : Int) - 1 + C) * 86400 + (3600 * (h : Int) + 60 * (mi : Int) + (se : Int) - o)) * 1000000000) + (X9 : Int)) = n := by unfold wrap64; omega
                          exact bodyPost_ret (v := .tuple #[.int .i64 n, .int .i64 o, .bool true]) (by simp [results, Tryz.results18, go_sem, hv]) rfl ⟨rfl, HB5.out⟩
                    · go_wp2_with (go_at_call 53; go_must (refine (C1.out _ _ (by omega)).mono ?_; rintro e w1 ⟨rfl, rfl⟩; first | rw [if_pos rfl] | rw [if_neg (by decide)]))
                      obtain ⟨e1, e2, e3⟩ := E1.out
                      go_quiet ((go_at_call 55; exact Calls.quiet_of_same (HF.out _ _ (by omega) (by omega))))
                      clear e1 e2 e3
                      go_wp2_with fail
                      obtain ⟨W5, hW5⟩ : ∃ W5, W5 = w1.drewN nq := ⟨_, rfl⟩
                      have HB5 := Lib.hid (show Below w.heap.size w W5 from by rw [hW5]; exact below_drewN HB3.out nq)
                      have HA5 := Lib.hid (show Blk W5 w.heap.size 120 (sixV 6 y m d h mi se).toArray from by rw [hW5]; exact HA3.out.drewN nq)
                      rw [← hW5]
                      try rw [hzs]
                      clear hW5 ks0 ks1 ks2 ks3 ks4 ks5
                      have ks0 := HA5.out.cell 0
                      have ks1 := HA5.out.cell 1
                      have ks2 := HA5.out.cell 2
                      have ks3 := HA5.out.cell 3
                      have ks4 := HA5.out.cell 4
                      have ks5 := HA5.out.cell 5
                      simp only [sixV, List.take_succ_cons, List.take_zero, List.nil_append, List.append_nil, List.cons_append, List.replicate, List.getElem?_toArray, List.getElem?_cons_zero, List.getElem?_cons_succ, Nat.reduceSub, Nat.sub_zero] at ks0 ks1 ks2 ks3 ks4 ks5
                      go_loopw [21, 22] (fun A N wl => ∃ M : Nat, 1 ≤ M ∧ M ≤ m ∧ A = .int .i64 (tDays (y : Int) - 719162 + (d : Int) - 1 + tCum (y : Int) (M - 1)) ∧ N = .int .i64 (M : Int) ∧ wl = W5) (fun _ N _ => m - (intOf N).toNat)
                      case atStart => exact ⟨1, by omega, m0, by simp [tCum], rfl, rfl⟩
                      case round =>
                        obtain ⟨M, hM0, hM1, rfl, rfl, hw⟩ := hrel
                        have hw' := hw.symm
                        subst hw'
                        clear hw
                        have hdd := HDD.out
                        have hc0 := cum_in (y : Int) (M - 1)
                        by_cases hMm : M < m
                        · have hcs : tCum (y : Int) (M + 1 - 1) = tCum (y : Int) (M - 1) + tMonth (y : Int) (M : Int) := by obtain ⟨J, rfl⟩ : ∃ J, M = J + 1 := ⟨M - 1, by omega⟩; rfl
                          have hc1 := cum_in (y : Int) (M + 1 - 1)
                          rw [hcs] at hc1
                          have HCS := Lib.hid hcs
                          clear hcs
                          generalize tCum (y : Int) (M - 1) = C at *
                          go_wp2_with (go_at_call 54; go_must (refine (HM.out _ M hM0 (by omega)).mono ?_; rintro e w1 ⟨rfl, rfl⟩))
                          all_goals go_roundw
                          case rel => exact ⟨M + 1, by omega, by omega, by rw [HCS.out]; congr 1 <;> omega, by congr 1, trivial⟩
                          case measure => simp only [intOf]; omega
                        · obtain rfl : M = m := by omega
                          generalize hC : tCum (y : Int) (M - 1) = C at *
                          generalize hDY : tDays (y : Int) = DY at *
                          have lh3 := HH.out.lh
                          have lh4 := HH.out.lmi
                          have lh5 := HH.out.ls
                          go_wp2_with fail
                          have hn := HN.out
                          try rw [hC] at hn
                          try rw [hDY] at hn
                          rw [HX9.out] at hn
                          have hv : wrap64 (wrap64 (((DY - 719162 + (d : Int) - 1 + C) * 86400 + (3600 * (h : Int) + 60 * (mi : Int) + (se : Int) + oo)) * 1000000000) + (X9 : Int)) = n := by unfold wrap64; omega
                          exact bodyPost_ret (v := .tuple #[.int .i64 n, .int .i64 (-oo), .bool true]) (by simp [results, Tryz.results18, go_sem, hv]) rfl ⟨rfl, HB5.out⟩
            · have he1 : decide (48 ≤ bt s (20 + q)) = true := by simp; omega
              have he2 : decide (bt s (20 + q) ≤ 57) = false := by simp; omega
              go_wp2_with fail
              have g14 : decide (9 < (q : Int)) = false := by simp; try omega
              have gm0 : decide ((m : Int) < 1) = false := by simp; omega
              have gm1 : decide (12 < (m : Int)) = false := by simp; omega
              have gd0 : decide ((d : Int) < 1) = false := by simp; omega
              have gd1 : decide (tMonth (y : Int) (m : Int) < (d : Int)) = false := by simp; omega
              go_quiet ((go_at_call 54; exact Calls.quiet_of_same (HM.out _ m (by omega) (by omega))))
              clear g14 gm0 gm1 gd0 gd1
              go_wp2_with fail
              obtain ⟨W3, hW3⟩ : ∃ W3, W3 = wr.drewN nq := ⟨_, rfl⟩
              have HA3 := Lib.hid (show Blk W3 w.heap.size 120 (sixV 6 y m d h mi se).toArray from by rw [hW3]; exact HA.out.drewN nq)
              have HB3 := Lib.hid (show Below w.heap.size w W3 from by rw [hW3]; exact below_drewN HB.out nq)
              rw [← hW3]
              clear hW3 HA HB HP fz ks0 ks1 ks2 ks3 ks4 ks5 k0 k1 k2 k3 k4 k5 hlt hlt2
              go_loopw [13, 14] (fun V N wl => ∃ j : Nat, j + q ≤ 9 ∧ V = .int .i64 ((x * 10 ^ j : Nat) : Int) ∧ N = .int .i64 ((q + j : Nat) : Int) ∧ wl = W3) (fun _ N _ => 9 - (intOf N).toNat)
              case atStart => exact ⟨0, by omega, by simp, by simp, rfl⟩
              case round =>
                obtain ⟨j, hj, rfl, rfl, hw⟩ := hrel
                have hw' := hw.symm
                subst hw'
                clear hw
                by_cases hjk : j + q < 9
                · have hP := x9_bound HX.out.1 (j := j) (by omega)
                  have hP2 : x * 10 ^ (j + 1) = x * 10 ^ j * 10 := by rw [Nat.pow_succ, Nat.mul_assoc]
                  generalize x * 10 ^ j = P at *
                  have hl3 : decide (((q + j : Nat) : Int) < 9) = true := by simp; omega
                  go_wp2_with fail
                  all_goals go_roundw
                  case rel => exact ⟨j + 1, by omega, by rw [hP2]; congr 1 <;> (try push_cast) <;> omega, by congr 1 <;> (try push_cast) <;> omega, trivial⟩
                  case measure => simp only [intOf]; omega
                · obtain rfl : j = 9 - q := by omega
                  rw [show q + (9 - q) = 9 by omega]
                  rw [show ((9 : Nat) : Int) = 9 from rfl]
                  obtain ⟨X9, hX9⟩ : ∃ X9, x * 10 ^ (9 - q) = X9 := ⟨_, rfl⟩
                  have hX9b : X9 < 1000000000 := by rw [← hX9]; exact x9_bound HX.out.1 (by omega)
                  rw [hX9]
                  have HX9 := Lib.hid hX9
                  clear hX9
                  have ks0 := HA3.out.cell 0
                  have ks1 := HA3.out.cell 1
                  have ks2 := HA3.out.cell 2
                  have ks3 := HA3.out.cell 3
                  have ks4 := HA3.out.cell 4
                  have ks5 := HA3.out.cell 5
                  simp only [sixV, List.take_succ_cons, List.take_zero, List.nil_append, List.append_nil, List.cons_append, List.replicate, List.getElem?_toArray, List.getElem?_cons_zero, List.getElem?_cons_succ, Nat.reduceSub, Nat.sub_zero] at ks0 ks1 ks2 ks3 ks4 ks5
                  have hzs : s.extract (20 + q) s.size = zs := HZE.out
                  clear b4 b7 b10 b13 b16
                  have e1 : IntKind.i64.wrap (tDays (y : Int) - tDays 1970) = tDays (y : Int) - 719162 := by rw [IntKind.wrap_i64, tDays1970]; have := HDD.out; omega
                  have e2 : IntKind.i64.wrap (tDays (y : Int) - 719162 + (d : Int)) = tDays (y : Int) - 719162 + (d : Int) := by rw [IntKind.wrap_i64]; have := HDD.out; omega
                  have e3 : IntKind.i64.wrap (tDays (y : Int) - 719162 + (d : Int) - 1) = tDays (y : Int) - 719162 + (d : Int) - 1 := by rw [IntKind.wrap_i64]; have := HDD.out; omega
                  have E1 := Lib.hid (And.intro e1 (And.intro e2 e3))
                  clear e1 e2 e3
                  rcases HZ.out.or_ with ⟨hz90, rfl⟩ | ⟨hz90, z6, hh, mm, oo, lh, lm, hoo, dh, dm, b3, hsg⟩
                  · have hzb : (!(zs.toList == [90])) = false := by rw [hz90]; rfl
                    go_wp2_with fail
                    obtain ⟨e1, e2, e3⟩ := E1.out
                    go_quiet ((go_at_call 55; exact Calls.quiet_of_same (HF.out _ _ (by omega) (by omega))))
                    clear e1 e2 e3
                    go_wp2_with fail
                    obtain ⟨W5, hW5⟩ : ∃ W5, W5 = W3.drewN nq := ⟨_, rfl⟩
                    have HB5 := Lib.hid (show Below w.heap.size w W5 from by rw [hW5]; exact below_drewN HB3.out nq)
                    have HA5 := Lib.hid (show Blk W5 w.heap.size 120 (sixV 6 y m d h mi se).toArray from by rw [hW5]; exact HA3.out.drewN nq)
                    rw [← hW5]
                    try rw [hzs]
                    clear hW5 ks0 ks1 ks2 ks3 ks4 ks5
                    have ks0 := HA5.out.cell 0
                    have ks1 := HA5.out.cell 1
                    have ks2 := HA5.out.cell 2
                    have ks3 := HA5.out.cell 3
                    have ks4 := HA5.out.cell 4
                    have ks5 := HA5.out.cell 5
                    simp only [sixV, List.take_succ_cons, List.take_zero, List.nil_append, List.append_nil, List.cons_append, List.replicate, List.getElem?_toArray, List.getElem?_cons_zero, List.getElem?_cons_succ, Nat.reduceSub, Nat.sub_zero] at ks0 ks1 ks2 ks3 ks4 ks5
                    go_loopw [21, 22] (fun A N wl => ∃ M : Nat, 1 ≤ M ∧ M ≤ m ∧ A = .int .i64 (tDays (y : Int) - 719162 + (d : Int) - 1 + tCum (y : Int) (M - 1)) ∧ N = .int .i64 (M : Int) ∧ wl = W5) (fun _ N _ => m - (intOf N).toNat)
                    case atStart => exact ⟨1, by omega, m0, by simp [tCum], rfl, rfl⟩
                    case round =>
                      obtain ⟨M, hM0, hM1, rfl, rfl, hw⟩ := hrel
                      have hw' := hw.symm
                      subst hw'
                      clear hw
                      have hdd := HDD.out
                      have hc0 := cum_in (y : Int) (M - 1)
                      by_cases hMm : M < m
                      · have hcs : tCum (y : Int) (M + 1 - 1) = tCum (y : Int) (M - 1) + tMonth (y : Int) (M : Int) := by obtain ⟨J, rfl⟩ : ∃ J, M = J + 1 := ⟨M - 1, by omega⟩; rfl
                        have hc1 := cum_in (y : Int) (M + 1 - 1)
                        rw [hcs] at hc1
                        have HCS := Lib.hid hcs
                        clear hcs
                        generalize tCum (y : Int) (M - 1) = C at *
                        go_wp2_with (go_at_call 54; go_must (refine (HM.out _ M hM0 (by omega)).mono ?_; rintro e w1 ⟨rfl, rfl⟩))
                        all_goals go_roundw
                        case rel => exact ⟨M + 1, by omega, by omega, by rw [HCS.out]; congr 1 <;> omega, by congr 1, trivial⟩
                        case measure => simp only [intOf]; omega
                      · obtain rfl : M = m := by omega
                        generalize hC : tCum (y : Int) (M - 1) = C at *
                        generalize hDY : tDays (y : Int) = DY at *
                        have lh3 := HH.out.lh
                        have lh4 := HH.out.lmi
                        have lh5 := HH.out.ls
                        go_wp2_with fail
                        have hn := HN.out
                        try rw [hC] at hn
                        try rw [hDY] at hn
                        rw [HX9.out] at hn
                        have hv : wrap64 (wrap64 (((DY - 719162 + (d : Int) - 1 + C) * 86400 + (3600 * (h : Int) + 60 * (mi : Int) + (se : Int))) * 1000000000) + (X9 : Int)) = n := by unfold wrap64; omega
                        exact bodyPost_ret (v := .tuple #[.int .i64 n, .int .i64 0, .bool true]) (by simp [results, Tryz.results18, go_sem, hv]) rfl ⟨rfl, HB5.out⟩
                  · have hzb : (!(zs.toList == [90])) = true := by rw [Bool.not_eq_true', beq_eq_false_iff_ne]; exact hz90
                    have hbz := get_bt zs
                    have q0 : 0 ≤ oo ∧ oo ≤ 100000 := by omega
                    have C1 := Lib.hid (fun W (i : Int) (hi : i = 1 ∨ i = 4) => show Calls Tryz.prog 53 #[.string zs, .int .i64 i, .int .i64 2] W (fun e w' => e = .returned (.tuple #[.int .i64 (((if i = 1 then hh else mm) : Nat) : Int), .bool true]) ∧ w' = W) from by rcases hi with rfl | rfl; exact two_is W zs 1 2 hh (by omega) (by omega) (by omega) (by omega) dh; exact two_is W zs 4 2 mm (by omega) (by omega) (by omega) (by omega) dm)
                    clear dh dm
                    rcases hsg with ⟨b0, rfl⟩ | ⟨b0, rfl⟩
                    · go_wp2_with (go_at_call 53; go_must (refine (C1.out _ _ (by omega)).mono ?_; rintro e w1 ⟨rfl, rfl⟩; first | rw [if_pos rfl] | rw [if_neg (by decide)]))
                      obtain ⟨e1, e2, e3⟩ := E1.out
                      go_quiet ((go_at_call 55; exact Calls.quiet_of_same (HF.out _ _ (by omega) (by omega))))
                      clear e1 e2 e3
                      go_wp2_with fail
                      obtain ⟨W5, hW5⟩ : ∃ W5, W5 = w1.drewN nq := ⟨_, rfl⟩
                      have HB5 := Lib.hid (show Below w.heap.size w W5 from by rw [hW5]; exact below_drewN HB3.out nq)
                      have HA5 := Lib.hid (show Blk W5 w.heap.size 120 (sixV 6 y m d h mi se).toArray from by rw [hW5]; exact HA3.out.drewN nq)
                      rw [← hW5]
                      try rw [hzs]
                      clear hW5 ks0 ks1 ks2 ks3 ks4 ks5
                      have ks0 := HA5.out.cell 0
                      have ks1 := HA5.out.cell 1
                      have ks2 := HA5.out.cell 2
                      have ks3 := HA5.out.cell 3
                      have ks4 := HA5.out.cell 4
                      have ks5 := HA5.out.cell 5
                      simp only [sixV, List.take_succ_cons, List.take_zero, List.nil_append, List.append_nil, List.cons_append, List.replicate, List.getElem?_toArray, List.getElem?_cons_zero, List.getElem?_cons_succ, Nat.reduceSub, Nat.sub_zero] at ks0 ks1 ks2 ks3 ks4 ks5
                      go_loopw [21, 22] (fun A N wl => ∃ M : Nat, 1 ≤ M ∧ M ≤ m ∧ A = .int .i64 (tDays (y : Int) - 719162 + (d : Int) - 1 + tCum (y : Int) (M - 1)) ∧ N = .int .i64 (M : Int) ∧ wl = W5) (fun _ N _ => m - (intOf N).toNat)
                      case atStart => exact ⟨1, by omega, m0, by simp [tCum], rfl, rfl⟩
                      case round =>
                        obtain ⟨M, hM0, hM1, rfl, rfl, hw⟩ := hrel
                        have hw' := hw.symm
                        subst hw'
                        clear hw
                        have hdd := HDD.out
                        have hc0 := cum_in (y : Int) (M - 1)
                        by_cases hMm : M < m
                        · have hcs : tCum (y : Int) (M + 1 - 1) = tCum (y : Int) (M - 1) + tMonth (y : Int) (M : Int) := by obtain ⟨J, rfl⟩ : ∃ J, M = J + 1 := ⟨M - 1, by omega⟩; rfl
                          have hc1 := cum_in (y : Int) (M + 1 - 1)
                          rw [hcs] at hc1
                          have HCS := Lib.hid hcs
                          clear hcs
                          generalize tCum (y : Int) (M - 1) = C at *
                          go_wp2_with (go_at_call 54; go_must (refine (HM.out _ M hM0 (by omega)).mono ?_; rintro e w1 ⟨rfl, rfl⟩))
                          all_goals go_roundw
                          case rel => exact ⟨M + 1, by omega, by omega, by rw [HCS.out]; congr 1 <;> omega, by congr 1, trivial⟩
                          case measure => simp only [intOf]; omega
                        · obtain rfl : M = m := by omega
                          generalize hC : tCum (y : Int) (M - 1) = C at *
                          generalize hDY : tDays (y : Int) = DY at *
                          have lh3 := HH.out.lh
                          have lh4 := HH.out.lmi
                          have lh5 := HH.out.ls
                          go_wp2_with fail
                          have hn := HN.out
                          try rw [hC] at hn
                          try rw [hDY] at hn
                          rw [HX9.out] at hn
                          have hv : wrap64 (wrap64 (((DY - 719162 + (d : Int) - 1 + C) * 86400 + (3600 * (h : Int) + 60 * (mi : Int) + (se : Int) - o)) * 1000000000) + (X9 : Int)) = n := by unfold wrap64; omega
                          exact bodyPost_ret (v := .tuple #[.int .i64 n, .int .i64 o, .bool true]) (by simp [results, Tryz.results18, go_sem, hv]) rfl ⟨rfl, HB5.out⟩
                    · go_wp2_with (go_at_call 53; go_must (refine (C1.out _ _ (by omega)).mono ?_; rintro e w1 ⟨rfl, rfl⟩; first | rw [if_pos rfl] | rw [if_neg (by decide)]))
                      obtain ⟨e1, e2, e3⟩ := E1.out
                      go_quiet ((go_at_call 55; exact Calls.quiet_of_same (HF.out _ _ (by omega) (by omega))))
                      clear e1 e2 e3
                      go_wp2_with fail
                      obtain ⟨W5, hW5⟩ : ∃ W5, W5 = w1.drewN nq := ⟨_, rfl⟩
                      have HB5 := Lib.hid (show Below w.heap.size w W5 from by rw [hW5]; exact below_drewN HB3.out nq)
                      have HA5 := Lib.hid (show Blk W5 w.heap.size 120 (sixV 6 y m d h mi se).toArray from by rw [hW5]; exact HA3.out.drewN nq)
                      rw [← hW5]
                      try rw [hzs]
                      clear hW5 ks0 ks1 ks2 ks3 ks4 ks5
                      have ks0 := HA5.out.cell 0
                      have ks1 := HA5.out.cell 1
                      have ks2 := HA5.out.cell 2
                      have ks3 := HA5.out.cell 3
                      have ks4 := HA5.out.cell 4
                      have ks5 := HA5.out.cell 5
                      simp only [sixV, List.take_succ_cons, List.take_zero, List.nil_append, List.append_nil, List.cons_append, List.replicate, List.getElem?_toArray, List.getElem?_cons_zero, List.getElem?_cons_succ, Nat.reduceSub, Nat.sub_zero] at ks0 ks1 ks2 ks3 ks4 ks5
                      go_loopw [21, 22] (fun A N wl => ∃ M : Nat, 1 ≤ M ∧ M ≤ m ∧ A = .int .i64 (tDays (y : Int) - 719162 + (d : Int) - 1 + tCum (y : Int) (M - 1)) ∧ N = .int .i64 (M : Int) ∧ wl = W5) (fun _ N _ => m - (intOf N).toNat)
                      case atStart => exact ⟨1, by omega, m0, by simp [tCum], rfl, rfl⟩
                      case round =>
                        obtain ⟨M, hM0, hM1, rfl, rfl, hw⟩ := hrel
                        have hw' := hw.symm
                        subst hw'
                        clear hw
                        have hdd := HDD.out
                        have hc0 := cum_in (y : Int) (M - 1)
                        by_cases hMm : M < m
                        · have hcs : tCum (y : Int) (M + 1 - 1) = tCum (y : Int) (M - 1) + tMonth (y : Int) (M : Int) := by obtain ⟨J, rfl⟩ : ∃ J, M = J + 1 := ⟨M - 1, by omega⟩; rfl
                          have hc1 := cum_in (y : Int) (M + 1 - 1)
                          rw [hcs] at hc1
                          have HCS := Lib.hid hcs
                          clear hcs
                          generalize tCum (y : Int) (M - 1) = C at *
                          go_wp2_with (go_at_call 54; go_must (refine (HM.out _ M hM0 (by omega)).mono ?_; rintro e w1 ⟨rfl, rfl⟩))
                          all_goals go_roundw
                          case rel => exact ⟨M + 1, by omega, by omega, by rw [HCS.out]; congr 1 <;> omega, by congr 1, trivial⟩
                          case measure => simp only [intOf]; omega
                        · obtain rfl : M = m := by omega
                          generalize hC : tCum (y : Int) (M - 1) = C at *
                          generalize hDY : tDays (y : Int) = DY at *
                          have lh3 := HH.out.lh
                          have lh4 := HH.out.lmi
                          have lh5 := HH.out.ls
                          go_wp2_with fail
                          have hn := HN.out
                          try rw [hC] at hn
                          try rw [hDY] at hn
                          rw [HX9.out] at hn
                          have hv : wrap64 (wrap64 (((DY - 719162 + (d : Int) - 1 + C) * 86400 + (3600 * (h : Int) + 60 * (mi : Int) + (se : Int) + oo)) * 1000000000) + (X9 : Int)) = n := by unfold wrap64; omega
                          exact bodyPost_ret (v := .tuple #[.int .i64 n, .int .i64 (-oo), .bool true]) (by simp [results, Tryz.results18, go_sem, hv]) rfl ⟨rfl, HB5.out⟩
end Go.Proofs.YtieidjlmgalihaaGreatDoor
