/- A moment's place and clock; parts of a second. -/
import Derived.Test.YtieidjlmgalihaaGreatDoorTbG
import Derived.Test.YtieidjlmgalihaaGreatDoorTbE
set_option linter.all false
namespace Go.Proofs.YtieidjlmgalihaaGreatDoor
open Go.RowKit
set_option maxRecDepth 100000
theorem unix_is (w : World) (n o : Int) (z : ByteArray) (h0 : -9223372036854775808 ≤ n) (h1 : n ≤ 9223372036854775807) : Calls Tryz.prog 183 #[momV n o z] w fun e w' => e = .returned (.int .i64 (n / 1000000000)) ∧ Below w.heap.size w w' := by
  have e1 : IntKind.i64.wrap (n / 1000000000 + 62135596800 + -62135596800) = n / 1000000000 := by rw [IntKind.wrap_i64]; omega
  go_enter Tryz.func183, Tryz.ntmps183
  go_wp2_with (go_at_call 195; go_must (refine (sec_is _ n o z).mono ?_; rintro e w1 ⟨rfl, hb1⟩; have hB : Below w.heap.size w w1 := Below.trans (by go_grown) (hb1.mono (by simp))))
  go_ret
  exact ⟨by go_num, hB⟩
theorem nano_is (w : World) (n o : Int) (z : ByteArray) : Calls Tryz.prog 217 #[momV n o z] w fun e w' => e = .returned (.int .i64 (n % 1000000000)) ∧ Below w.heap.size w w' := by
  have h2 : 0 ≤ n % 1000000000 ∧ n % 1000000000 < 1000000000 := by omega
  have HN := Lib.hid (fun W => nsec_is W n o z)
  generalize n % 1000000000 = x at *
  go_enter Tryz.func217, Tryz.ntmps217
  go_wp2_with (go_at_call 184; go_must (refine (HN.out _).mono ?_; rintro e w1 ⟨rfl, hb1⟩; have hB : Below w.heap.size w w1 := Below.trans (by go_grown) (hb1.mono (by simp))))
  go_ret
  exact ⟨by go_num, hB⟩
theorem loc_is (w : World) (n o : Int) (z : ByteArray) (h0 : -9223372036854775808 ≤ n) (h1 : n ≤ 9223372036854775807) (h2 : -86400 < o) (h3 : o < 86400) : Calls Tryz.prog 210 #[momV n o z] w fun e w' => e = .returned (.tuple #[.string z, .int .i64 o, .int .u64 (tAbs n o)]) ∧ Below w.heap.size w w' := by
  have he : IntKind.u64.wrap (IntKind.i64.wrap (IntKind.i64.wrap (n / 1000000000 + o) + 9223372028741760000)) = tAbs n o := by
    have e1 : IntKind.i64.wrap (n / 1000000000 + o) = n / 1000000000 + o := by rw [IntKind.wrap_i64]; omega
    rw [e1]
    unfold tAbs
    rw [IntKind.wrap_i64, IntKind.wrap_u64]
    omega
  go_enter Tryz.func210, Tryz.ntmps210
  go_wp2_with fail
  go_region_held3 (fun w' => w'.cell? ⟨w.heap.size, 0, none⟩ = some (.int .i64 (n / 1000000000 + 62135596800)) ∧ w'.cell? ⟨w.heap.size, 1, none⟩ = some (.int .i32 (n % 1000000000)) ∧ w'.cell? ⟨w.heap.size, 2, none⟩ = some (.string z) ∧ w'.cell? ⟨w.heap.size, 3, none⟩ = some (.int .i64 o)) (go_keep) (first | (go_at_call 183; go_must (refine (unix_is _ n o z h0 h1).mono ?_; rintro e w1 ⟨rfl, hb1⟩; have B0 := ((Blk.new w 117 #[.int .i64 (n / 1000000000 + 62135596800), .int .i32 (n % 1000000000), .string z, .int .i64 o]).drew).here hb1; have p0 := B0.cell 0; have p1 := B0.cell 1; have p2 := B0.cell 2; have p3 := B0.cell 3; simp only [List.getElem?_toArray, List.getElem?_cons_zero, List.getElem?_cons_succ] at p0 p1 p2 p3; have hB : Below w.heap.size w w1 := Below.trans (by go_grown) (hb1.mono (by simp)); clear B0)))
  all_goals go_wp2_with fail
  all_goals exact bodyPost_ret (v := .tuple #[.string z, .int .i64 o, .int .u64 (tAbs n o)]) (by simp [results, Tryz.results210, go_sem, he]) rfl ⟨rfl, hB⟩
theorem frac_is (w : World) : Calls Tryz.prog 215 #[.int .i64 35, .int .i64 9, .int .i64 46] w fun e w' => e = .returned (.int .i64 589859) ∧ w = w' := by
  have b1 : bits .and .i64 9 4095 = 9 := by decide +kernel
  have b2 : bits .or .i64 35 589824 = 589859 := by decide +kernel
  have b3 : wrap64 (9 * 65536) = 589824 := by unfold wrap64; omega
  have b4 : wrap64 589824 = 589824 := by unfold wrap64; omega
  go_enter Tryz.func215, Tryz.ntmps215
  go_wp2
  go_ret
  exact ⟨by first | rfl | decide, rfl⟩
theorem dlen_is (w : World) : Calls Tryz.prog 235 #[.int .i64 589859] w fun e w' => e = .returned (.int .i64 9) ∧ w = w' := by
  have b1 : bits .and .i64 9 4095 = 9 := by decide +kernel
  go_enter Tryz.func235, Tryz.ntmps235
  go_wp2
  go_ret
  exact ⟨by first | rfl | decide, rfl⟩
theorem sep_is (w : World) : Calls Tryz.prog 236 #[.int .i64 589859] w fun e w' => e = .returned (.int .u8 46) ∧ w = w' := by
  go_enter Tryz.func236, Tryz.ntmps236
  go_wp2
  go_ret
  exact ⟨by first | rfl | decide, rfl⟩
/-- The parts of a second that are written. -/
def Frac (x : Nat) (f : List UInt8) : Prop := (x = 0 ∧ f = []) ∨ ∃ k, 1 ≤ k ∧ k ≤ 9 ∧ 0 < x ∧ x % 10 ^ (9 - k) = 0 ∧ x / 10 ^ (9 - k) % 10 ≠ 0 ∧ f = 46 :: dig k (x / 10 ^ (9 - k))
theorem nano_zero (w : World) (B : Nat) (V : Value) (l : List UInt8) (hown : Bs w B V l) : Calls Tryz.prog 216 #[V, .int .i64 0, .int .i64 589859] w (AppB B V l [] w) := by
  obtain ⟨A, c, rfl⟩ := bs_slice hown
  have HO := Lib.hid hown
  clear hown
  have b1 : bits .and .i64 589859 65535 = 35 := by decide +kernel
  go_enter Tryz.func216, Tryz.ntmps216
  go_wp2_with (go_at_call 235; go_must (refine (dlen_is _).mono ?_; rintro e w1 ⟨rfl, rfl⟩))
  go_ret
  have R := (AppV.refl HO.out).ret
  simpa using R
/-- Fewer digits of the same row. -/
theorem trim_row {w w2 : World} {B : Nat} {V : Value} {l : List UInt8} {x g c2 : Nat} (h : AppV B V l (46 :: dig 9 x) w (.slice (some ⟨g, 0, none⟩) (l.length + 10) c2) w2) (k : Nat) (hk : k ≤ 9) : AppV B V l (46 :: dig k (x / 10 ^ (9 - k))) w (.slice (some ⟨g, 0, none⟩) (l.length + 1 + k) c2) w2 := by
  obtain ⟨A, c, e1, b1, o1, r1⟩ := h
  have hl1 : (l ++ 46 :: dig k (x / 10 ^ (9 - k))).length = l.length + 1 + k := by simp [dig_length]; omega
  have hl9 : (l ++ 46 :: dig 9 x).length = l.length + 10 := by simp [dig_length]
  refine ⟨some ⟨g, 0, none⟩, c2, by rw [hl1], ?_, o1, r1⟩
  rcases b1.2 with ⟨h1, h2⟩ | ⟨g', cap, cur, h1, h2, h3, h4, h5, h6, h7⟩
  · cases h1
  · injection h1 with h1 h8 h9
    injection h1 with h1
    injection h1 with h1
    subst h1 h9
    rw [hl9] at h4 h7
    unfold Bs
    rw [hl1]
    refine ⟨by simp [dig_length]; omega, .inr ⟨g, c2, cur, rfl, h2, h3, by omega, h5, h6, ?_⟩⟩
    have h8 := congrArg (List.take (l.length + 1 + k)) h7
    rw [List.take_take, show min (l.length + 1 + k) ((l.length + 10) * 1) = l.length + 1 + k by omega] at h8
    rw [Nat.mul_one, h8]
    have e9 : (l ++ 46 :: dig 9 x).take (l.length + 1 + k) = l ++ 46 :: dig k (x / 10 ^ (9 - k)) := by
      rw [show l.length + 1 + k = l.length + (k + 1) by omega, List.take_append, List.take_of_length_le (by omega), show l.length + (k + 1) - l.length = k + 1 by omega, List.take_succ_cons]
      have := dig_take (9 - k) k x
      rw [show k + (9 - k) = 9 by omega] at this
      rw [this]
    simp only [bvals]
    rw [← List.map_take, e9]
theorem trim_cell {w w2 : World} {B : Nat} {V : Value} {l : List UInt8} {x g c2 : Nat} (h : AppV B V l (46 :: dig 9 x) w (.slice (some ⟨g, 0, none⟩) (l.length + 10) c2) w2) (k : Nat) (h1 : 1 ≤ k) (hk : k ≤ 9) : w2.cell? ⟨g, l.length + k, none⟩ = some (.int .u8 (48 + (x / 10 ^ (9 - k) % 10 : Nat))) := by
  have hc := h.bs.cells (g := g) rfl (l.length + k) (.int .u8 (48 + (x / 10 ^ (9 - k) % 10 : Nat))) (by
    have hg : (l ++ 46 :: dig 9 x)[l.length + k]? = some (UInt8.ofNat (48 + x / 10 ^ (9 - k) % 10)) := by
      rw [List.getElem?_append_right (by omega), show l.length + k - l.length = (k - 1) + 1 by omega, List.getElem?_cons_succ, dig_get 9 x (k - 1) (by omega), show 9 - 1 - (k - 1) = 9 - k by omega]
    rw [List.getElem?_map, hg]
    simp only [Option.map_some]
    rw [bv_dig _ (by omega)])
  have hadd : (⟨g, 0, none⟩ : Addr).add (l.length + k) = ⟨g, l.length + k, none⟩ := by unfold Addr.add; split <;> simp_all
  rw [hadd] at hc
  exact hc
theorem row_some {w : World} {B : Nat} {A : Option Addr} {n c : Nat} {l : List UInt8} (h : Bs w B (.slice A n c) l) (hl : 0 < l.length) : ∃ g, A = some ⟨g, 0, none⟩ ∧ l.length ≤ c := by
  rcases h.2 with ⟨h1, h2⟩ | ⟨g', cap, cur, h1, _, _, h4, _⟩
  · omega
  · injection h1 with h1 h2 h3
    exact ⟨g', h1, by omega⟩
def slen : Value → Nat
  | .slice _ n _ => n
  | _ => 0
set_option maxHeartbeats 2000000 in
theorem nano_some (w : World) (B : Nat) (V : Value) (l : List UInt8) (x : Nat) (hown : Bs w B V l) (hB : B ≤ w.heap.size) (hl : l.length ≤ 50000) (h0 : 0 < x) (h1 : x < 1000000000) : Calls Tryz.prog 216 #[V, .int .i64 (x : Int), .int .i64 589859] w (fun e w' => ∃ f, Frac x f ∧ AppB B V l f w e w') := by
  obtain ⟨A, c, rfl⟩ := bs_slice hown
  have HO := Lib.hid hown
  clear hown
  have b1 : bits .and .i64 589859 65535 = 35 := by decide +kernel
  have hx0 : ((x : Int) == 0) = false := by simp; omega
  go_enter Tryz.func216, Tryz.ntmps216
  go_wp2_with (first
    | (go_at_call 235; go_must (refine (dlen_is _).mono ?_; rintro e w1 ⟨rfl, rfl⟩))
    | (go_at_call 236; go_must (refine (sep_is _).mono ?_; rintro e w1 ⟨rfl, rfl⟩))
    | (at_builtin; go_must (refine wpList_appendb info5b Tryz.underlying36 rfl (.tmp 27) (.tmp 29) rfl B (.slice A l.length c) l [(46 : UInt8)] _ rfl HO.out _ rfl _ rfl rfl (by simp) (by simp; omega) hB ?_; intro g cap w1 q1 q2 q3 q4; have hV := AppV.one q1 q2 q3; have HV := Lib.hid hV; have hsz := hV.size; clear hV q1 q2 q3 q4; rw [show (l ++ [(46 : UInt8)]).length = l.length + 1 by simp]))
    | (go_at_call 213; go_must (refine (appendInt9 _ B (.slice (some ⟨g, 0, none⟩) (l.length + 1) cap) (l ++ [(46 : UInt8)]) x (by have := HV.out.bs; rw [show (l ++ [(46 : UInt8)]).length = l.length + 1 by simp] at this; exact this) (by omega) (by simp; omega) (by simp) h0 h1).mono ?_; intro e w2 hA; obtain ⟨A2, c2, rfl, hV2⟩ := hA.out; rw [← show (l ++ [(46 : UInt8)]).length = l.length + 1 by simp] at hV2; rw [show ((l ++ [(46 : UInt8)]) ++ dig 9 x).length = l.length + 10 by simp [dig_length]] at hV2 ⊢; have HV2 := Lib.hid (HV.out.then hV2); have hsz2 := hV2.size; clear hA hV2)))
  obtain ⟨g2, rfl, hcap⟩ := row_some HV2.out.bs (by simp only [List.length_append, List.length_cons]; omega)
  rw [show (l ++ ([(46 : UInt8)] ++ dig 9 x)).length = l.length + 10 by simp [dig_length]] at hcap
  have HR := HV2
  clear HV2
  go_loopw [0] (fun V wp => ∃ k, 1 ≤ k ∧ k ≤ 9 ∧ x % 10 ^ (9 - k) = 0 ∧ V = .slice (some ⟨g2, 0, none⟩) (l.length + 1 + k) c2 ∧ wp = w2) (fun V _ => slen V)
  case atStart => exact ⟨9, by omega, by omega, by simp [Nat.mod_one], rfl, rfl⟩
  case round =>
    obtain ⟨k, hk1, hk9, hz, rfl, hw2⟩ := hrel
    have hw2' := hw2.symm
    subst hw2'
    clear hw2
    have hc := trim_cell HR.out k hk1 hk9
    by_cases hd : x / 10 ^ (9 - k) % 10 = 0
    · rw [hd] at hc
      go_wp2_with fail
      go_roundw
      case rel =>
        have hk2 : 2 ≤ k := by
          by_cases h : 2 ≤ k
          · exact h
          · exfalso
            obtain rfl : k = 1 := by omega
            simp only [Nat.reduceSub] at hd hz
            omega
        refine ⟨k - 1, by omega, by omega, ?_, by congr 1; omega, trivial⟩
        rw [show 9 - (k - 1) = (9 - k) + 1 by omega, Nat.pow_succ, Nat.mod_mul, hz, hd]
        simp
      case measure => simp [slen]
    · have hd0 : x / 10 ^ (9 - k) % 10 < 10 := Nat.mod_lt _ (by omega)
      have hF : Frac x (46 :: dig k (x / 10 ^ (9 - k))) := .inr ⟨k, hk1, hk9, h0, hz, hd, rfl⟩
      have HT := Lib.hid (And.intro hF (trim_row HR.out k hk9))
      clear hF
      generalize x / 10 ^ (9 - k) % 10 = d at *
      have n1 : ((48 + (d : Int)) == 48) = false := by simp; omega
      have n2 : ((48 + (d : Int)) == 46) = false := by simp; omega
      go_wp2_with fail
      go_ret
      exact ⟨_, HT.out.1, HT.out.2.ret⟩
end Go.Proofs.YtieidjlmgalihaaGreatDoor
