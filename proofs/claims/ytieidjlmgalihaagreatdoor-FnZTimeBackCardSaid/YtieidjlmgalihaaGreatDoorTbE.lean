/- appendInt by nine digits. -/
import Derived.Test.YtieidjlmgalihaaGreatDoorTbD
import Derived.Lib.AppendZeros
set_option linter.all false
namespace Go.Proofs.YtieidjlmgalihaaGreatDoor
open Go.RowKit
set_option maxRecDepth 100000
theorem dig_zero : ∀ k, dig k 0 = List.replicate k 48
  | 0 => rfl
  | k + 1 => by
    rw [dig, dig_zero k, List.replicate_succ']
    rfl
theorem dig_pad (k : Nat) : ∀ (q x : Nat), x < 10 ^ q → dig (k + q) x = List.replicate k 48 ++ dig q x
  | 0, x, h => by
    simp at h
    subst h
    simp [dig, dig_zero]
  | q + 1, x, h => by
    have h1 : x / 10 < 10 ^ q := by rw [Nat.div_lt_iff_lt_mul (by omega)]; rw [Nat.pow_succ] at h; exact h
    rw [← Nat.add_assoc, dig, dig, dig_pad k q (x / 10) h1, List.append_assoc]
theorem div_step (x q : Nat) : x / 10 ^ q / 10 = x / 10 ^ (q + 1) := by
  rw [Nat.div_div_eq_div_mul, Nat.pow_succ]
theorem dig_cons : ∀ (j x : Nat), dig (j + 1) x = UInt8.ofNat (48 + x / 10 ^ j % 10) :: dig j x
  | 0, x => by simp [dig]
  | j + 1, x => by
    rw [dig, dig_cons j (x / 10), Nat.div_div_eq_div_mul, ← Nat.pow_succ']
    rfl
/-- append(b, make([]byte, n)...), where it grows. -/
theorem run_append_zgrow {P : Program} (w : World) (t tn ty e : TypeId) (i : TypeInfo) (z : Value) (k kn : IntKind) (ht : P.underlying t = some (.slice e)) (htn : P.underlying tn = some (.int kn)) (hi : P.info? e = some i) (hz : i.zero = some z)
    (b : Addr) (sLen sCap : Nat) (olds : List Value) (hlo : olds.length = sLen * i.size) (holds : ∀ j v, olds[j]? = some v → w.cell? (b.add j) = some v)
    (n : Nat) (h0 : 0 < n) (hs : 0 < i.size) (hg : sCap < sLen + n) (h63 : ((sLen + n : Nat) : Int) ≤ 9223372036854775807) (h48 : n * i.bytes ≤ 281474976710656) (hfit : Builtin.nextslicecap (sLen + n) sCap * i.bytes ≤ 281474976710656) :
    (Builtin.append_ #[t, tn] ty #[.slice (some b) sLen sCap, .int k n]).run P w =
      .ok (.slice (some ⟨w.heap.size, 0, none⟩) (sLen + n) (grownCap w (sLen + n) sCap e))
        (w.drew.alloc (.cells (olds.toArray ++ Builtin.zeroCells z.cells n ++ Builtin.zeroCells z.cells (grownCap w (sLen + n) sCap e - (sLen + n))) e)) := by
  have hn' : n ≠ 0 := by omega
  have hw : IntKind.i64.wrap (n : Int) = n := by rw [IntKind.wrap_i64]; omega
  have hn : ¬ (sLen + n ≤ sCap) := by omega
  have h63' : ¬ (9223372036854775807 < ((sLen : Int) + (n : Int))) := by omega
  have h48' : ¬ (281474976710656 < Builtin.nextslicecap (sLen + n) sCap * i.bytes) := by omega
  have h48i : ¬ (281474976710656 < (n : Int) * (i.bytes : Int)) := by
    rw [← Int.natCast_mul]
    omega
  have hneg : ¬ ((n : Int) < 0) := by omega
  have hns : ¬ (n * i.size = 0) := Nat.mul_ne_zero hn' (by omega)
  have hfo := run_firstCells_some (P := P) w.drew i.size sLen b sLen sCap olds hlo (by simpa using holds)
  simp [Builtin.append_, run_underlying ht, run_underlying htn, sizeOf, typeInfo, zeroValue, hi, hz, asInt, asIntOf, hw, hn, hn', hneg, hns, h63', h48', h48i, Question.forced, hfo, newRow, grownCap]
/-- A digit is laid ahead of those that were laid. -/
theorem lay_digit {cs t : List Value} {L j : Nat} {v : Value} (hL : L + 9 ≤ cs.length) (hj : j < 9) (h1 : (cs.drop (L + 9 - j)).take j = t) :
    ((cs.set (L + 8 - j) v).drop (L + 9 - (j + 1))).take (j + 1) = v :: t ∧ (cs.set (L + 8 - j) v).take (L + 9 - (j + 1)) = cs.take (L + 9 - (j + 1)) := by
  have e : L + 9 - (j + 1) = L + 8 - j := by omega
  have e2 : L + 9 - j = L + 8 - j + 1 := by omega
  rw [e]
  rw [e2] at h1
  constructor
  · rw [List.drop_eq_getElem_cons (by simp; omega)]
    simp only [List.getElem_set_self, List.take_succ_cons]
    rw [List.drop_set_of_lt (by omega), h1]
  · rw [List.take_set_of_le (by omega)]
/-- What is there behind nine digits' room was made. -/
def Mid (B : Nat) (V : Value) (l : List UInt8) (q : Nat) (w : World) (g cap : Nat) (cur : Array Value) (w3 : World) : Prop :=
  B ≤ g ∧ Blk w3 g 5 cur ∧ l.length + 9 ≤ cap ∧ cap ≤ maxLen ∧ cur.size = cap ∧ cur.toList.take (l.length + 9 - q) = bvals (l ++ List.replicate (9 - q) 48) ∧ Only (fun k => V.ownBlock = some k) w w3 ∧ (V.ownBlock = some g ∨ w.heap.size ≤ g)
/-- The nine digits are there. -/
theorem mid_done {B : Nat} {V : Value} {l : List UInt8} {q x : Nat} {w w3 w4 : World} {g cap : Nat} {cur cur4 : Array Value} (h : Mid B V l q w g cap cur w3) (hq1 : 1 ≤ q) (hq : q ≤ 9) (hx : x < 10 ^ q)
    (hb : Blk w4 g 5 cur4) (hs : cur4.size = cap) (h1 : cur4.toList.take (l.length + 9 - q) = cur.toList.take (l.length + 9 - q)) (h2 : (cur4.toList.drop (l.length + 9 - q)).take q = bvals (dig q x)) (ho : Only (fun k => k = g) w3 w4) : AppB B V l (dig 9 x) w (.returned (.slice (some ⟨g, 0, none⟩) (l.length + 9) cap)) w4 := by
  obtain ⟨m1, m2, m3, m4, m5, m6, m7, m8⟩ := h
  have hd : (l ++ dig 9 x).length = l.length + 9 := by rw [List.length_append, dig_length]
  refine ⟨some ⟨g, 0, none⟩, cap, by rw [hd], ?_, m7.then ho ?_, ?_⟩
  · rw [hd]
    refine ⟨by simp [dig_length], .inr ⟨g, cap, cur4, by rw [hd], m1, hb, by omega, m4, by omega, ?_⟩⟩
    have e9 : (l ++ dig 9 x) = (l ++ List.replicate (9 - q) 48) ++ dig q x := by
      rw [List.append_assoc, ← dig_pad (9 - q) q x hx]
      congr 2
      omega
    have et : cur4.toList.take (l.length + 9) = cur4.toList.take (l.length + 9 - q) ++ (cur4.toList.drop (l.length + 9 - q)).take q := by
      rw [← List.take_add]
      congr 1
      omega
    rw [hd, Nat.mul_one, et, h1, h2, m6, e9]
    simp [bvals]
  · intro i hi e
    subst e
    rcases m8 with m8 | m8
    · exact m8
    · omega
  · rcases m8 with m8 | m8
    · exact .inl (by rw [m8]; rfl)
    · exact .inr ⟨_, rfl, m8⟩
/-- The room for nine digits, where it is made anew. -/
theorem zgrow_mid {w wr : World} {B : Nat} {V : Value} {l : List UInt8} {q g c' : Nat} (ty : TypeId) (own : Bs wr B (.slice (some ⟨g, 0, none⟩) (l ++ List.replicate (9 - q) 48).length c') (l ++ List.replicate (9 - q) 48)) (hq1 : 1 ≤ q) (hq : q ≤ 9) (hroom : ¬ l.length + 9 ≤ c') (hl : l.length ≤ 100000) (hB : B ≤ w.heap.size)
    (ho : Only (fun k => V.ownBlock = some k) w wr) : ∃ g2 cap2 cur2 w3, (Builtin.append_ #[36, 3] ty #[.slice (some ⟨g, 0, none⟩) (l.length + (9 - q)) c', .int .i64 (q : Int)]).run Tryz.prog wr = .ok (.slice (some ⟨g2, 0, none⟩) (l.length + (9 - q) + q) cap2) w3 ∧ Mid B V l q w g2 cap2 cur2 w3 := by
  obtain ⟨i, hi, hz0, hz1, hz2⟩ := info_parts info5b
  have hpl : (l ++ List.replicate (9 - q) (48 : UInt8)).length = l.length + (9 - q) := by simp
  have hr := run_append_zgrow (P := Tryz.prog) wr 36 3 ty 5 i (.int .u8 0) .i64 .i64 Tryz.underlying36 Tryz.underlying3 hi hz0 ⟨g, 0, none⟩ (l.length + (9 - q)) c' (bvals (l ++ List.replicate (9 - q) 48)) (by rw [hz1]; simp) (own.cells (g := g) rfl) q (by omega) (by rw [hz1]; decide) (by omega) (by omega) (by rw [hz2]; omega) (growslice_fits (by omega) (by rw [hz2]; omega))
  have hge := grownCap_ge wr (l.length + (9 - q) + q) c' 5
  have hle := grownCap_le_maxLen wr (l.length + (9 - q) + q) c' 5 (by unfold maxLen; omega)
  have hws := ho.size
  refine ⟨_, _, _, _, hr, by omega, heap_alloc_new wr.drew _, by omega, hle, ?_, ?_, (ho.drew).alloc _, .inr hws⟩
  · simp only [Array.size_append, size_zeroCells, List.size_toArray, List.length_map, hpl]
    simp [Value.cells]
    omega
  · simp only [Array.toList_append]
    rw [List.append_assoc, List.take_left' (by simp; omega)]
set_option maxHeartbeats 4000000 in
theorem appendInt9 (w : World) (B : Nat) (V : Value) (l : List UInt8) (x : Nat) (hown : Bs w B V l) (hB : B ≤ w.heap.size) (hl : l.length ≤ 100000) (hl0 : 0 < l.length) (h0 : 0 < x) (h1 : x < 1000000000) : Calls Tryz.prog 213 #[V, .int .i64 (x : Int), .int .i64 9] w (AppB B V l (dig 9 x) w) := by
  obtain ⟨A, c, rfl⟩ := bs_slice hown
  have HO := Lib.hid hown
  clear hown
  have hx0 : ((x : Int) == 0) = false := by simp; omega
  go_enter Tryz.func213, Tryz.ntmps213
  go_wp2_with fail
  go_loopw [9, 10] (fun n u wr => ∃ q : Nat, n = .int .i64 (q : Int) ∧ u = .int .u64 ((x / 10 ^ q : Nat) : Int) ∧ wr = w ∧ (q = 0 ∨ 10 ^ (q - 1) ≤ x)) (fun _ u _ => (intOf u).toNat)
  case atStart => exact ⟨0, rfl, by simp, rfl, .inl rfl⟩
  case round =>
    obtain ⟨q, rfl, rfl, hwr, hq⟩ := hrel
    have hwr' := hwr.symm
    subst hwr'
    clear hwr
    have hq9 : q ≤ 9 := by
      rcases hq with rfl | hq
      · omega
      · by_cases h : q ≤ 9
        · exact h
        · exfalso
          have : 10 ^ 9 ≤ 10 ^ (q - 1) := Nat.pow_le_pow_right (by omega) (by omega)
          omega
    have hst := div_step x q
    have hyb : x / 10 ^ q < 1000000000 := Nat.lt_of_le_of_lt (Nat.div_le_self _ _) h1
    by_cases hz : x / 10 ^ q = 0
    · have hlt : x < 10 ^ q := by
        rcases Nat.div_eq_zero_iff.1 hz with h | h
        · exfalso
          have := Nat.pow_pos (n := q) (show 0 < 10 by omega)
          omega
        · exact h
      have hq1 : 1 ≤ q := by
        rcases q with _ | q
        · simp at hlt
          omega
        · omega
      have hq' : 10 ^ (q - 1) ≤ x := by
        rcases hq with h | h
        · omega
        · exact h
      rw [hz, show ((0 : Nat) : Int) = 0 from rfl]
      clear hz hst hyb hq
      have HLT := Lib.hid (And.intro hlt hq')
      clear hlt hq'
      go_wp2_with fail
      go_loopw [0, 11] (fun V p wp => ∃ k : Nat, k ≤ 9 - q ∧ p = .int .i64 ((9 - q - k : Nat) : Int) ∧ AppV B (.slice A l.length c) l (List.replicate k 48) w V wp) (fun _ p _ => (intOf p).toNat)
      case atStart => exact ⟨0, by omega, by go_num, AppV.refl HO.out⟩
      case round =>
        obtain ⟨k, hk, rfl, hV⟩ := hrel
        have hV' := hV
        obtain ⟨A', c', rfl, hb, ho, hlie⟩ := hV'
        have hsz := hV.size
        have HV := Lib.hid hV
        have HBs := Lib.hid hb
        clear hV hb ho hlie
        rw [List.length_append, List.length_replicate]
        by_cases hkq : k < 9 - q
        · go_wp2_with (at_builtin; go_must (refine wpList_appendb info5b Tryz.underlying36 rfl (.tmp 86) (.tmp 87) rfl B (.slice A' (l ++ List.replicate k 48).length c') (l ++ List.replicate k 48) [48] _ (by rw [List.length_append, List.length_replicate]; rfl) HBs.out _ rfl _ rfl rfl (by simp) (by simp; omega) (by omega) ?_; intro g cap w1 q1 q2 q3 q4))
          go_roundw
          case rel =>
            have R := HV.out.then (AppV.one q1 q2 q3)
            rw [← List.replicate_succ'] at R
            have e : (l ++ List.replicate k 48 ++ [48]).length = l.length + (k + 1) := by simp
            rw [e] at R
            exact ⟨k + 1, by omega, by go_num, R⟩
          case measure => simp [intOf]; omega
        · obtain rfl : k = 9 - q := by omega
          rw [show ((9 - q - (9 - q) : Nat) : Int) = 0 by omega]
          have hlies := HV.out
          obtain ⟨_, _, _, _, ho, hlie⟩ := hlies
          rcases HBs.out.2 with ⟨hnil, hn0⟩ | ⟨g, cap, cur, hv, hbg, hg, hnc, hcm, hcs, htk⟩
          · exfalso
            rw [List.length_append] at hn0
            omega
          have hbl : Blk wr g 5 cur := hg
          injection hv with hA' hn' hc'
          subst hA' hc'
          clear hn'
          rw [Nat.mul_one, List.length_append, List.length_replicate, show l.length + (9 - q) = l.length + 9 - q by omega] at htk
          rw [List.length_append, List.length_replicate] at hnc
          have hlie' : (Value.slice A l.length c).ownBlock = some g ∨ w.heap.size ≤ g := by
            rcases hlie with h | ⟨g', h, h'⟩
            · exact .inl h.symm
            · injection h with h
              exact .inr (by simp only at h; omega)
          have HLT2 := HLT
          clear hg
          by_cases hroom : l.length + 9 ≤ c'
          · have HM : Mid B (.slice A l.length c) l q w g c' cur wr := ⟨hbg, hbl, hroom, hcm, by omega, htk, ho, hlie'⟩
            have HMM := Lib.hid HM
            clear HM htk ho hlie hlie' HV HBs hbl
            have hfit : (l.length : Int) + ((9 - q : Nat) : Int) + (q : Int) ≤ (c' : Int) := by omega
            obtain ⟨v3, hv3⟩ : ∃ v3, v3 = wr := ⟨_, rfl⟩
            subst hv3
            go_wp2_with fail
            go_loopw [7, 12, 13] (fun u i _ wp => ∃ (j : Nat) (cur' : Array Value), j ≤ q - 1 ∧ u = .int .u64 ((x / 10 ^ j : Nat) : Int) ∧ i = .int .i64 ((l.length + 8 - j : Nat) : Int) ∧ Blk wp g 5 cur' ∧ cur'.size = c' ∧ cur'.toList.take (l.length + 9 - j) = cur.toList.take (l.length + 9 - j) ∧ (cur'.toList.drop (l.length + 9 - j)).take j = bvals (dig j x) ∧ Only (fun k => k = g) v3 wp) (fun u _ _ _ => (intOf u).toNat)
            case atStart => exact ⟨0, cur, by omega, by simp, by go_num, HMM.out.2.1, by omega, rfl, by simp [dig], Only.refl _ _⟩
            case round =>
              obtain ⟨j, cur', hj, rfl, rfl, hb, hs, h1', h2', ho⟩ := hrel
              have hyb : x / 10 ^ j < 1000000000 := Nat.lt_of_le_of_lt (Nat.div_le_self _ _) h1
              have hst := div_step x j
              have hdc := dig_cons j x
              have hcell := hb.cell (l.length + 8 - j)
              rw [Array.getElem?_eq_getElem (by omega)] at hcell
              have hfz := hb.frozen (l.length + 8 - j)
              have hblt := hb.lt
              have HH := Lib.hid (And.intro hb (And.intro h1' (And.intro h2' ho)))
              clear hb h1' h2' ho
              by_cases hu : 10 ≤ x / 10 ^ j
              · have hj1 : j + 1 < q := by
                  by_cases hh : j + 1 < q
                  · exact hh
                  · exfalso
                    have e1 : j + 1 = q := by omega
                    have e2 : x < 10 ^ (j + 1) := by rw [e1]; exact HLT.out.1
                    have e3 : x / 10 ^ j < 10 := by
                      rw [Nat.div_lt_iff_lt_mul (Nat.pow_pos (by omega)), ← Nat.pow_succ']
                      exact e2
                    omega
                have HST := Lib.hid (And.intro hst hdc)
                clear hst hdc
                generalize x / 10 ^ j = y at *
                go_wp2_with (go_at_call 234; go_must (refine (utod _ _ (by omega) (by omega)).mono ?_; rintro e w1 ⟨rfl, rfl⟩))
                go_roundw
                case rel =>
                  obtain ⟨hb, h1', h2', ho⟩ := HH.out
                  obtain ⟨hst, hdc⟩ := HST.out
                  have ev : (48 + ((y : Int) - (y : Int) / 10 * 10)) = ((UInt8.ofNat (48 + y % 10)).toNat : Int) := by
                    rw [bv_dig _ (by omega)]
                    omega
                  rw [ev]
                  have hlay := lay_digit (v := Value.int .u8 ((UInt8.ofNat (48 + y % 10)).toNat : Int)) (by simpa using (show l.length + 9 ≤ cur'.size by omega)) (by omega) h2'
                  refine ⟨j + 1, cur'.setIfInBounds (l.length + 8 - j) (.int .u8 ((UInt8.ofNat (48 + y % 10)).toNat : Int)), by omega, by rw [← hst]; go_num, by go_num, hb.set_ _ _, by simp; omega, ?_, ?_, ho.setCell (.inl rfl) _⟩
                  · rw [Array.toList_setIfInBounds, hlay.2]
                    have h3 := congrArg (List.take (l.length + 9 - (j + 1))) h1'
                    rw [List.take_take, List.take_take, show min (l.length + 9 - (j + 1)) (l.length + 9 - j) = l.length + 9 - (j + 1) by omega] at h3
                    exact h3
                  · rw [Array.toList_setIfInBounds, hlay.1, hdc]
                    rfl
                case measure => simp [intOf]; omega
              · have hlt10 : x / 10 ^ j < 10 := by omega
                have hjq : j = q - 1 := by
                  have e2 : x < 10 ^ (j + 1) := by
                    rw [Nat.div_lt_iff_lt_mul (Nat.pow_pos (by omega)), ← Nat.pow_succ'] at hlt10
                    exact hlt10
                  have e3 := HLT.out.2
                  have e4 : 10 ^ (q - 1) < 10 ^ (j + 1) := by omega
                  have e5 := (Nat.pow_lt_pow_iff_right (show 1 < 10 by omega)).1 e4
                  omega
                subst hjq
                have HST := Lib.hid hdc
                clear hst hdc
                generalize x / 10 ^ (q - 1) = y at *
                go_wp2_with (go_at_call 234; go_must (refine (utod _ _ (by omega) (by omega)).mono ?_; rintro e w1 ⟨rfl, rfl⟩))
                go_ret
                obtain ⟨hb, h1', h2', ho⟩ := HH.out
                have ev : (48 + (y : Int)) = ((UInt8.ofNat (48 + y % 10)).toNat : Int) := by
                  rw [bv_dig _ (by omega)]
                  omega
                rw [ev]
                have hlay := lay_digit (v := Value.int .u8 ((UInt8.ofNat (48 + y % 10)).toNat : Int)) (by simpa using (show l.length + 9 ≤ cur'.size by omega)) (by omega) h2'
                have eq1 : q - 1 + 1 = q := by omega
                rw [eq1] at hlay
                have R := mid_done (cur4 := cur'.setIfInBounds (l.length + 8 - (q - 1)) (.int .u8 ((UInt8.ofNat (48 + y % 10)).toNat : Int))) HMM.out hq1 hq9 HLT.out.1 (hb.set_ _ _) (by simp; omega) (by
                    rw [Array.toList_setIfInBounds, hlay.2]
                    have h3 := congrArg (List.take (l.length + 9 - q)) h1'
                    rw [List.take_take, List.take_take, show min (l.length + 9 - q) (l.length + 9 - (q - 1)) = l.length + 9 - q by omega] at h3
                    exact h3) (by
                    rw [Array.toList_setIfInBounds, hlay.1]
                    have h4 := HST.out
                    rw [eq1] at h4
                    rw [h4]
                    rfl) (ho.setCell (.inl rfl) _)
                rw [← show l.length + (9 - q) + q = l.length + 9 by omega] at R
                exact R
          · obtain ⟨g2, cap2, cur2, w3, hrun, HM⟩ := zgrow_mid 36 HBs.out hq1 hq9 hroom hl hB ho
            have HMM := Lib.hid HM
            have hfit : ¬ ((l.length : Int) + ((9 - q : Nat) : Int) + (q : Int) ≤ (c' : Int)) := by omega
            clear HM htk ho hlie hlie' HV HBs hbl
            go_wp2_with (at_builtin; go_must (refine Lib.wpList_append_run wr rfl (.tmp 102) (.tmp 103) 36 3 rfl (.slice (some ⟨g, 0, none⟩) (l.length + (9 - q)) c') (.int .i64 (q : Int)) rfl rfl _ _ hrun ?_))
            clear hrun hroom hfit hcs hnc hcm hbg
            have hcs : cur2.size = cap2 * 1 := by have := HMM.out.2.2.2.2.1; omega
            have hroom : l.length + 9 ≤ cap2 := HMM.out.2.2.1
            obtain ⟨v3, hv3⟩ : ∃ v3, v3 = w3 := ⟨_, rfl⟩
            subst hv3
            go_loopw [7, 12, 13] (fun u i _ wp => ∃ (j : Nat) (cur' : Array Value), j ≤ q - 1 ∧ u = .int .u64 ((x / 10 ^ j : Nat) : Int) ∧ i = .int .i64 ((l.length + 8 - j : Nat) : Int) ∧ Blk wp g2 5 cur' ∧ cur'.size = cap2 ∧ cur'.toList.take (l.length + 9 - j) = cur2.toList.take (l.length + 9 - j) ∧ (cur'.toList.drop (l.length + 9 - j)).take j = bvals (dig j x) ∧ Only (fun k => k = g2) v3 wp) (fun u _ _ _ => (intOf u).toNat)
            case atStart => exact ⟨0, cur2, by omega, by simp, by go_num, HMM.out.2.1, by omega, rfl, by simp [dig], Only.refl _ _⟩
            case round =>
              obtain ⟨j, cur', hj, rfl, rfl, hb, hs, h1', h2', ho⟩ := hrel
              have hyb : x / 10 ^ j < 1000000000 := Nat.lt_of_le_of_lt (Nat.div_le_self _ _) h1
              have hst := div_step x j
              have hdc := dig_cons j x
              have hcell := hb.cell (l.length + 8 - j)
              rw [Array.getElem?_eq_getElem (by omega)] at hcell
              have hfz := hb.frozen (l.length + 8 - j)
              have hblt := hb.lt
              have HH := Lib.hid (And.intro hb (And.intro h1' (And.intro h2' ho)))
              clear hb h1' h2' ho
              by_cases hu : 10 ≤ x / 10 ^ j
              · have hj1 : j + 1 < q := by
                  by_cases hh : j + 1 < q
                  · exact hh
                  · exfalso
                    have e1 : j + 1 = q := by omega
                    have e2 : x < 10 ^ (j + 1) := by rw [e1]; exact HLT.out.1
                    have e3 : x / 10 ^ j < 10 := by
                      rw [Nat.div_lt_iff_lt_mul (Nat.pow_pos (by omega)), ← Nat.pow_succ']
                      exact e2
                    omega
                have HST := Lib.hid (And.intro hst hdc)
                clear hst hdc
                generalize x / 10 ^ j = y at *
                go_wp2_with (go_at_call 234; go_must (refine (utod _ _ (by omega) (by omega)).mono ?_; rintro e w1 ⟨rfl, rfl⟩))
                go_roundw
                case rel =>
                  obtain ⟨hb, h1', h2', ho⟩ := HH.out
                  obtain ⟨hst, hdc⟩ := HST.out
                  have ev : (48 + ((y : Int) - (y : Int) / 10 * 10)) = ((UInt8.ofNat (48 + y % 10)).toNat : Int) := by
                    rw [bv_dig _ (by omega)]
                    omega
                  rw [ev]
                  have hlay := lay_digit (v := Value.int .u8 ((UInt8.ofNat (48 + y % 10)).toNat : Int)) (by simpa using (show l.length + 9 ≤ cur'.size by omega)) (by omega) h2'
                  refine ⟨j + 1, cur'.setIfInBounds (l.length + 8 - j) (.int .u8 ((UInt8.ofNat (48 + y % 10)).toNat : Int)), by omega, by rw [← hst]; go_num, by go_num, hb.set_ _ _, by simp; omega, ?_, ?_, ho.setCell (.inl rfl) _⟩
                  · rw [Array.toList_setIfInBounds, hlay.2]
                    have h3 := congrArg (List.take (l.length + 9 - (j + 1))) h1'
                    rw [List.take_take, List.take_take, show min (l.length + 9 - (j + 1)) (l.length + 9 - j) = l.length + 9 - (j + 1) by omega] at h3
                    exact h3
                  · rw [Array.toList_setIfInBounds, hlay.1, hdc]
                    rfl
                case measure => simp [intOf]; omega
              · have hlt10 : x / 10 ^ j < 10 := by omega
                have hjq : j = q - 1 := by
                  have e2 : x < 10 ^ (j + 1) := by
                    rw [Nat.div_lt_iff_lt_mul (Nat.pow_pos (by omega)), ← Nat.pow_succ'] at hlt10
                    exact hlt10
                  have e3 := HLT.out.2
                  have e4 : 10 ^ (q - 1) < 10 ^ (j + 1) := by omega
                  have e5 := (Nat.pow_lt_pow_iff_right (show 1 < 10 by omega)).1 e4
                  omega
                subst hjq
                have HST := Lib.hid hdc
                clear hst hdc
                generalize x / 10 ^ (q - 1) = y at *
                go_wp2_with (go_at_call 234; go_must (refine (utod _ _ (by omega) (by omega)).mono ?_; rintro e w1 ⟨rfl, rfl⟩))
                go_ret
                obtain ⟨hb, h1', h2', ho⟩ := HH.out
                have ev : (48 + (y : Int)) = ((UInt8.ofNat (48 + y % 10)).toNat : Int) := by
                  rw [bv_dig _ (by omega)]
                  omega
                rw [ev]
                have hlay := lay_digit (v := Value.int .u8 ((UInt8.ofNat (48 + y % 10)).toNat : Int)) (by simpa using (show l.length + 9 ≤ cur'.size by omega)) (by omega) h2'
                have eq1 : q - 1 + 1 = q := by omega
                rw [eq1] at hlay
                have R := mid_done (cur4 := cur'.setIfInBounds (l.length + 8 - (q - 1)) (.int .u8 ((UInt8.ofNat (48 + y % 10)).toNat : Int))) HMM.out hq1 hq9 HLT.out.1 (hb.set_ _ _) (by simp; omega) (by
                    rw [Array.toList_setIfInBounds, hlay.2]
                    have h3 := congrArg (List.take (l.length + 9 - q)) h1'
                    rw [List.take_take, List.take_take, show min (l.length + 9 - q) (l.length + 9 - (q - 1)) = l.length + 9 - q by omega] at h3
                    exact h3) (by
                    rw [Array.toList_setIfInBounds, hlay.1]
                    have h4 := HST.out
                    rw [eq1] at h4
                    rw [h4]
                    rfl) (ho.setCell (.inl rfl) _)
                rw [← show l.length + (9 - q) + q = l.length + 9 by omega] at R
                exact R
    · have hz' : 0 < x / 10 ^ q := Nat.pos_of_ne_zero hz
      have hge : 10 ^ q ≤ x := by
        rw [Nat.div_pos_iff] at hz'
        exact hz'.2
      generalize hy : x / 10 ^ q = y at *
      have HST := Lib.hid hst
      clear hst hq
      go_wp2_with fail
      go_roundw
      case rel => exact ⟨q + 1, by go_num, by rw [← HST.out]; go_num, by trivial, .inr (by simpa using hge)⟩
      case measure =>
        simp [intOf]
        go_num
end Go.Proofs.YtieidjlmgalihaaGreatDoor
