/- A moment by RFC 3339, with parts of a second. -/
import Derived.Test.YtieidjlmgalihaaGreatDoorTbF
set_option linter.all false
namespace Go.Proofs.YtieidjlmgalihaaGreatDoor
open Go.RowKit
set_option maxRecDepth 100000
theorem AppV.below {B : Nat} {V V' : Value} {l m : List UInt8} {w w' w'' : World} (h : AppV B V l m w V' w') (hb : Below w'.heap.size w' w'') : AppV B V l m w V' w'' := by
  obtain ⟨A, c, e1, b1, o1, r1⟩ := h
  exact ⟨A, c, e1, own_only b1 (Only.none_of_below (S := fun _ => False) hb) (fun _ _ h => h), o1.then (Only.none_of_below (S := fun _ => False) hb) (fun _ _ h => h.elim), r1⟩
theorem AppV.box {B b : Nat} {T : TypeId} {cs : Array Value} {V V' : Value} {l m : List UInt8} {w w' : World} (h : AppV B V l m w V' w') (hb : Blk w b T cs) (hne : V.ownBlock ≠ some b) : Blk w' b T cs := by
  obtain ⟨A, c, e1, b1, o1, r1⟩ := h
  exact hb.only o1 hne
theorem AppV.base {B : Nat} {V V' : Value} {l m : List UInt8} {w w' : World} {o : Obj} (h : AppV B V l m (w.alloc o) V' w') : AppV B V l m w V' w' := by
  obtain ⟨A, c, e1, b1, o1, r1⟩ := h
  refine ⟨A, c, e1, b1, ((Only.refl _ w).alloc o).trans o1, ?_⟩
  rcases r1 with r1 | ⟨g, r1, hg⟩
  · exact .inl r1
  · exact .inr ⟨g, r1, by simp at hg; omega⟩
/-- append(b, x, ..), over what was appended. -/
theorem wpList_appendV {P : Program} {ops : Array Oper} {rest : List Oper} {o : Oper} {a : Act} {Q : Exit → Act → World → Prop} {B : Nat} {V V' : Value} {l m : List UInt8} {w0 w1 : World} (HV : AppV B V l m w0 V' w1) (x : List UInt8) (hinfo : (P.info? 5).map (fun i => (i.zero, i.size, i.bytes)) = some (some (.int .u8 0), 1, 1)) (ht : P.underlying 36 = some (.slice 5)) (hgd : o.guard = none) (s t : Operand)
    (ho : o.op = .call { callee := .builtin .append, args := #[s, t], argTypes := #[36, 36] }) (hs : a.eval s = V')
    (news : Array Value) (hn : news.toList = bvals x) (H : Nat) (hx : a.eval t = .slice (some ⟨H, 0, none⟩) x.length x.length) (hH : w1.heap.size = H) (hm : x ≠ []) (hlen : (l ++ m).length + x.length ≤ 1000000) (hbase : B ≤ w0.heap.size)
    (h : ∀ V1 w', AppV B V l (m ++ x) w0 V1 w' → wpList P ops Q rest (a.put o.dst V1) w') : wpList P ops Q (o :: rest) a (w1.alloc (.cells news 5)) :=
  wpList_appendb hinfo ht hgd s t ho B V' (l ++ m) x w1 hs HV.bs news hn H hx hH hm hlen (Nat.le_trans hbase HV.size) (fun g cap w' q1 q2 q3 _ => h _ _ (HV.then (AppV.one q1 q2 q3)))
theorem AppV.int2 {B : Nat} {V V' : Value} {l m : List UInt8} {w0 w1 : World} (HV : AppV B V l m w0 V' w1) (x : Nat) (hB : B ≤ w0.heap.size) (hl : (l ++ m).length ≤ 100000) (h1 : x < 100) : Calls Tryz.prog 213 #[V', .int .i64 (x : Int), .int .i64 2] w1 (fun e w' => ∃ V1, e = .returned V1 ∧ AppV B V l (m ++ dig 2 x) w0 V1 w') :=
  (appendInt2 w1 B V' (l ++ m) x HV.bs (Nat.le_trans hB HV.size) hl h1).mono fun e w' h => by
    obtain ⟨A, c, he, hV⟩ := h.out
    exact ⟨_, he, HV.then hV⟩
theorem AppV.int2e {B : Nat} {V V' : Value} {l m : List UInt8} {w0 w1 : World} (HV : AppV B V l m w0 V' w1) (x : Nat) (v : Int) (hv : v = (x : Int)) (hB : B ≤ w0.heap.size) (hl : (l ++ m).length ≤ 100000) (h1 : x < 100) : Calls Tryz.prog 213 #[V', .int .i64 v, .int .i64 2] w1 (fun e w' => ∃ V1, e = .returned V1 ∧ AppV B V l (m ++ dig 2 x) w0 V1 w') := by
  subst hv
  exact HV.int2 x hB hl h1
theorem AppV.int4 {B : Nat} {V V' : Value} {l m : List UInt8} {w0 w1 : World} (HV : AppV B V l m w0 V' w1) (x : Nat) (hB : B ≤ w0.heap.size) (hl : (l ++ m).length ≤ 100000) (h1 : x < 10000) : Calls Tryz.prog 213 #[V', .int .i64 (x : Int), .int .i64 4] w1 (fun e w' => ∃ V1, e = .returned V1 ∧ AppV B V l (m ++ dig 4 x) w0 V1 w') :=
  (appendInt4 w1 B V' (l ++ m) x HV.bs (Nat.le_trans hB HV.size) hl h1).mono fun e w' h => by
    obtain ⟨A, c, he, hV⟩ := h.out
    exact ⟨_, he, HV.then hV⟩
theorem AppV.nano {B : Nat} {V V' : Value} {l m : List UInt8} {w0 w1 : World} (HV : AppV B V l m w0 V' w1) (x : Nat) (hB : B ≤ w0.heap.size) (hl : (l ++ m).length ≤ 50000) (h1 : x < 1000000000) : Calls Tryz.prog 216 #[V', .int .i64 (x : Int), .int .i64 589859] w1 (fun e w' => ∃ V1 f, e = .returned V1 ∧ Frac x f ∧ f.length ≤ 10 ∧ AppV B V l (m ++ f) w0 V1 w') := by
  by_cases hx : x = 0
  · subst hx
    refine (nano_zero w1 B V' (l ++ m) HV.bs).mono fun e w' h => ?_
    obtain ⟨A, c, he, hV⟩ := h.out
    exact ⟨_, [], he, .inl ⟨rfl, rfl⟩, by simp, HV.then hV⟩
  · refine (nano_some w1 B V' (l ++ m) x HV.bs (Nat.le_trans hB HV.size) hl (by omega) h1).mono fun e w' ⟨f, hf, h⟩ => ?_
    obtain ⟨A, c, he, hV⟩ := h.out
    refine ⟨_, f, he, hf, ?_, HV.then hV⟩
    rcases hf with ⟨_, rfl⟩ | ⟨k, _, hk, _, _, _, rfl⟩
    · simp
    · simp [dig_length]
      omega
/-- The zone that is written. -/
def zoneL (o : Int) : List UInt8 := if o = 0 then [90] else (if o < 0 then [45] else [43]) ++ dig 2 (o.natAbs / 3600) ++ [58] ++ dig 2 (o.natAbs / 60 % 60)
/-- The date and the clock that are written. -/
def headL (n o : Int) : List UInt8 := dig 4 (tYear (tA_ n o)).toNat ++ [45] ++ dig 2 (tMon (tA_ n o)).toNat ++ [45] ++ dig 2 (tD (tA_ n o)).toNat ++ [84] ++ dig 2 (tH n o).toNat ++ [58] ++ dig 2 (tMi n o).toNat ++ [58] ++ dig 2 (tS n o).toNat
set_option maxHeartbeats 4000000 in
theorem rfc_is (w : World) (B : Nat) (V : Value) (l : List UInt8) (n o : Int) (z : ByteArray) (hown : Bs w B V l) (hB : B ≤ w.heap.size) (hl : l.length ≤ 100) (h0 : -9223372036854775808 ≤ n) (h1 : n ≤ 9223372036854775807) (h2 : -86400 < o) (h3 : o < 86400) (h4 : o % 60 = 0) :
    Calls Tryz.prog 203 #[momV n o z, V, .bool true] w (fun e w' => ∃ V1 f, e = .returned V1 ∧ Frac (n % 1000000000).toNat f ∧ AppV B V l (headL n o ++ f ++ zoneL o) w V1 w') := by
  obtain ⟨d0, d1⟩ := day_in n o h0 h1 h2 h3
  obtain ⟨y0, y1⟩ := year_in (tA_ n o) d0 d1
  obtain ⟨_, m0, m1, k0, k1⟩ := civil (tA_ n o)
  have k2 := tMonth_le (tYear (tA_ n o)) (tMon (tA_ n o))
  obtain ⟨c0, c1, c2, c3, c4, c5⟩ := clock_in n o
  have hab : 0 ≤ tAbs n o ∧ tAbs n o < 18446744073709551616 := by unfold tAbs; omega
  have HL := Lib.hid (fun W => loc_is W n o z h0 h1 h2 h3)
  have HD := Lib.hid (fun W => days_is W (tAbs n o) hab.1 hab.2)
  have HC := Lib.hid (fun W => clock_is W (tAbs n o) hab.1 hab.2)
  have HDT := Lib.hid (fun W => date_is W (tA_ n o) d0 d1)
  have HN := Lib.hid (fun W => nano_is W n o z)
  have hbox : V.ownBlock ≠ some w.heap.size := fun h => by have := (hown.lt _ h).2; omega
  have HV0 : AppV B V l [] (w.alloc (.cells #[.int .i64 (n / 1000000000 + 62135596800), .int .i32 (n % 1000000000), .string z, .int .i64 o] 117)) V (w.alloc (.cells #[.int .i64 (n / 1000000000 + 62135596800), .int .i32 (n % 1000000000), .string z, .int .i64 o] 117)) := AppV.refl (hown.alloc _)
  have HV := Lib.hid HV0
  have hB' : B ≤ (w.alloc (.cells #[.int .i64 (n / 1000000000 + 62135596800), .int .i32 (n % 1000000000), .string z, .int .i64 o] 117)).heap.size := by simp; omega
  have HBB := Lib.hid hB'
  clear HV0 hown hab d0 d1 hB'
  have eA : tAbs n o / 86400 = tA_ n o := rfl
  have eH : tAbs n o % 86400 / 3600 = tH n o := rfl
  have eM : tAbs n o % 86400 % 3600 / 60 = tMi n o := rfl
  have eS : tAbs n o % 86400 % 3600 % 60 = tS n o := rfl
  rw [eH, eM, eS] at HC
  rw [eA] at HD
  clear eA eH eM eS
  unfold headL
  obtain ⟨Y, hY⟩ : ∃ Y : Nat, tYear (tA_ n o) = (Y : Int) := ⟨_, (Int.toNat_of_nonneg (by omega)).symm⟩
  obtain ⟨M, hM⟩ : ∃ Y : Nat, tMon (tA_ n o) = (Y : Int) := ⟨_, (Int.toNat_of_nonneg (by omega)).symm⟩
  obtain ⟨D, hD⟩ : ∃ Y : Nat, tD (tA_ n o) = (Y : Int) := ⟨_, (Int.toNat_of_nonneg (by omega)).symm⟩
  obtain ⟨h, hH⟩ : ∃ Y : Nat, tH n o = (Y : Int) := ⟨_, (Int.toNat_of_nonneg (by omega)).symm⟩
  obtain ⟨mi, hMi⟩ : ∃ Y : Nat, tMi n o = (Y : Int) := ⟨_, (Int.toNat_of_nonneg (by omega)).symm⟩
  obtain ⟨s, hS⟩ : ∃ Y : Nat, tS n o = (Y : Int) := ⟨_, (Int.toNat_of_nonneg (by omega)).symm⟩
  obtain ⟨x, hx⟩ : ∃ Y : Nat, n % 1000000000 = (Y : Int) := ⟨_, (Int.toNat_of_nonneg (by omega)).symm⟩
  have hx1 : x < 1000000000 := by omega
  rw [hY, hM, hD] at HDT
  rw [hH, hMi, hS] at HC
  rw [hx] at HN
  have bY : Y < 10000 := by omega
  have bM : M < 100 := by omega
  have bD : D < 100 := by omega
  have bh : h < 100 := by omega
  have bmi : mi < 100 := by omega
  have bs : s < 100 := by omega
  rw [hY, hM, hD, hH, hMi, hS, hx]
  simp only [Int.toNat_natCast]
  clear hx
  clear hY hM hD hH hMi hS y0 y1 m0 m1 k0 k1 k2 c0 c1 c2 c3 c4 c5
  generalize tAbs n o = ab at *
  generalize tA_ n o = A at *
  obtain ⟨q, hqq⟩ : ∃ q : Nat, o = 60 * (q : Int) ∨ (o = -(60 * (q : Int)) ∧ o < 0) := ⟨o.natAbs / 60, by omega⟩
  have hq24 : q < 1440 := by omega
  rcases hqq with hq | ⟨hq, hneg0⟩
  · have ht : o.tdiv 60 = (q : Int) := by rw [hq]; simp
    have HQ := Lib.hid hq
    clear hq
    by_cases ho : o = 0
    · have ho' : (o == 0) = true := by simpa using ho
      have HO := Lib.hid ho
      clear ho
      go_enter Tryz.func203, Tryz.ntmps203
      go_wp2_with (first
        | (go_at_call 210; go_must (refine (HL.out _).mono ?_; rintro e w1 ⟨rfl, hb1⟩; have hV := HV.out.below hb1; have HV := Lib.hid hV; clear hV hb1))
        | (go_at_call 211; go_must (refine (HD.out _).mono ?_; rintro e wx ⟨rfl, rfl⟩))
        | (go_at_call 212; go_must (refine (HDT.out _).mono ?_; rintro e wx ⟨rfl, rfl⟩))
        | (go_at_call 214; go_must (refine (HC.out _).mono ?_; rintro e wx ⟨rfl, rfl⟩))
        | (go_at_call 215; go_must (refine (frac_is _).mono ?_; rintro e wx ⟨rfl, rfl⟩; have BX := HV.out.box (Blk.new w 117 #[.int .i64 (n / 1000000000 + 62135596800), .int .i32 (n % 1000000000), .string z, .int .i64 o]) hbox; have p0 := BX.cell 0; have p1 := BX.cell 1; have p2 := BX.cell 2; have p3 := BX.cell 3; simp only [List.getElem?_toArray, List.getElem?_cons_zero, List.getElem?_cons_succ] at p0 p1 p2 p3; clear BX))
        | (go_at_call 217; go_must (refine (HN.out _).mono ?_; rintro e w1 ⟨rfl, hb1⟩; have hV := HV.out.below hb1; have HV := Lib.hid hV; clear hV hb1))
        | (go_at_call 216; go_must (refine (HV.out.nano x HBB.out (by simp [dig_length]; omega) hx1).mono ?_; rintro e w1 ⟨V1, f, rfl, hF, hfl, hV⟩; have HV := Lib.hid hV; have HF := Lib.hid hF; clear hV hF))
        | (go_at_call 213; go_must (first
            | ((with_reducible refine (HV.out.int4 Y HBB.out (by simp [dig_length]; omega) bY).mono ?_); rintro e w1 ⟨V1, rfl, hV⟩; have HV := Lib.hid hV; clear hV)
            | ((with_reducible refine (HV.out.int2 M HBB.out (by simp [dig_length]; omega) bM).mono ?_); rintro e w1 ⟨V1, rfl, hV⟩; have HV := Lib.hid hV; clear hV)
            | ((with_reducible refine (HV.out.int2 D HBB.out (by simp [dig_length]; omega) bD).mono ?_); rintro e w1 ⟨V1, rfl, hV⟩; have HV := Lib.hid hV; clear hV)
            | ((with_reducible refine (HV.out.int2 h HBB.out (by simp [dig_length]; omega) bh).mono ?_); rintro e w1 ⟨V1, rfl, hV⟩; have HV := Lib.hid hV; clear hV)
            | ((with_reducible refine (HV.out.int2 mi HBB.out (by simp [dig_length]; omega) bmi).mono ?_); rintro e w1 ⟨V1, rfl, hV⟩; have HV := Lib.hid hV; clear hV)
            | ((with_reducible refine (HV.out.int2 s HBB.out (by simp [dig_length]; omega) bs).mono ?_); rintro e w1 ⟨V1, rfl, hV⟩; have HV := Lib.hid hV; clear hV)
            | ((refine (HV.out.int2e (q / 60) _ (by omega) HBB.out (by simp [dig_length]; omega) (by omega)).mono ?_); rintro e w1 ⟨V1, rfl, hV⟩; have HV := Lib.hid hV; clear hV)
            | ((refine (HV.out.int2e (q % 60) _ (by omega) HBB.out (by simp [dig_length]; omega) (by omega)).mono ?_); rintro e w1 ⟨V1, rfl, hV⟩; have HV := Lib.hid hV; clear hV)))
        | (at_builtin; go_must (first
            | (refine wpList_appendV HV.out [45] info5b Tryz.underlying36 rfl _ _ rfl rfl _ rfl _ rfl rfl (by simp) (by simp [dig_length]; omega) HBB.out ?_; intro V1 w1 hV; have HV := Lib.hid hV; clear hV)
            | (refine wpList_appendV HV.out [84] info5b Tryz.underlying36 rfl _ _ rfl rfl _ rfl _ rfl rfl (by simp) (by simp [dig_length]; omega) HBB.out ?_; intro V1 w1 hV; have HV := Lib.hid hV; clear hV)
            | (refine wpList_appendV HV.out [58] info5b Tryz.underlying36 rfl _ _ rfl rfl _ rfl _ rfl rfl (by simp) (by simp [dig_length]; omega) HBB.out ?_; intro V1 w1 hV; have HV := Lib.hid hV; clear hV)
            | (refine wpList_appendV HV.out [43] info5b Tryz.underlying36 rfl _ _ rfl rfl _ rfl _ rfl rfl (by simp) (by simp [dig_length]; omega) HBB.out ?_; intro V1 w1 hV; have HV := Lib.hid hV; clear hV)
            | (refine wpList_appendV HV.out [90] info5b Tryz.underlying36 rfl _ _ rfl rfl _ rfl _ rfl rfl (by simp) (by simp [dig_length]; omega) HBB.out ?_; intro V1 w1 hV; have HV := Lib.hid hV; clear hV))))
      go_ret
      have R := HV.out.base
      have hz : zoneL o = [90] := by
        unfold zoneL
        have e1 := HQ.out
        have e2 := HO.out
        rw [if_pos e2]
      refine ⟨_, f, rfl, HF.out, ?_⟩
      rw [hz]
      simp only [List.nil_append, List.append_assoc] at R ⊢
      exact R
    · have ho' : (o == 0) = false := by simpa using ho
      have HO := Lib.hid ho
      have hq0 : 0 < q := by have := HQ.out; omega
      clear ho
      go_enter Tryz.func203, Tryz.ntmps203
      go_wp2_with (first
        | (go_at_call 210; go_must (refine (HL.out _).mono ?_; rintro e w1 ⟨rfl, hb1⟩; have hV := HV.out.below hb1; have HV := Lib.hid hV; clear hV hb1))
        | (go_at_call 211; go_must (refine (HD.out _).mono ?_; rintro e wx ⟨rfl, rfl⟩))
        | (go_at_call 212; go_must (refine (HDT.out _).mono ?_; rintro e wx ⟨rfl, rfl⟩))
        | (go_at_call 214; go_must (refine (HC.out _).mono ?_; rintro e wx ⟨rfl, rfl⟩))
        | (go_at_call 215; go_must (refine (frac_is _).mono ?_; rintro e wx ⟨rfl, rfl⟩; have BX := HV.out.box (Blk.new w 117 #[.int .i64 (n / 1000000000 + 62135596800), .int .i32 (n % 1000000000), .string z, .int .i64 o]) hbox; have p0 := BX.cell 0; have p1 := BX.cell 1; have p2 := BX.cell 2; have p3 := BX.cell 3; simp only [List.getElem?_toArray, List.getElem?_cons_zero, List.getElem?_cons_succ] at p0 p1 p2 p3; clear BX))
        | (go_at_call 217; go_must (refine (HN.out _).mono ?_; rintro e w1 ⟨rfl, hb1⟩; have hV := HV.out.below hb1; have HV := Lib.hid hV; clear hV hb1))
        | (go_at_call 216; go_must (refine (HV.out.nano x HBB.out (by simp [dig_length]; omega) hx1).mono ?_; rintro e w1 ⟨V1, f, rfl, hF, hfl, hV⟩; have HV := Lib.hid hV; have HF := Lib.hid hF; clear hV hF))
        | (go_at_call 213; go_must (first
            | ((with_reducible refine (HV.out.int4 Y HBB.out (by simp [dig_length]; omega) bY).mono ?_); rintro e w1 ⟨V1, rfl, hV⟩; have HV := Lib.hid hV; clear hV)
            | ((with_reducible refine (HV.out.int2 M HBB.out (by simp [dig_length]; omega) bM).mono ?_); rintro e w1 ⟨V1, rfl, hV⟩; have HV := Lib.hid hV; clear hV)
            | ((with_reducible refine (HV.out.int2 D HBB.out (by simp [dig_length]; omega) bD).mono ?_); rintro e w1 ⟨V1, rfl, hV⟩; have HV := Lib.hid hV; clear hV)
            | ((with_reducible refine (HV.out.int2 h HBB.out (by simp [dig_length]; omega) bh).mono ?_); rintro e w1 ⟨V1, rfl, hV⟩; have HV := Lib.hid hV; clear hV)
            | ((with_reducible refine (HV.out.int2 mi HBB.out (by simp [dig_length]; omega) bmi).mono ?_); rintro e w1 ⟨V1, rfl, hV⟩; have HV := Lib.hid hV; clear hV)
            | ((with_reducible refine (HV.out.int2 s HBB.out (by simp [dig_length]; omega) bs).mono ?_); rintro e w1 ⟨V1, rfl, hV⟩; have HV := Lib.hid hV; clear hV)
            | ((refine (HV.out.int2e (q / 60) _ (by omega) HBB.out (by simp [dig_length]; omega) (by omega)).mono ?_); rintro e w1 ⟨V1, rfl, hV⟩; have HV := Lib.hid hV; clear hV)
            | ((refine (HV.out.int2e (q % 60) _ (by omega) HBB.out (by simp [dig_length]; omega) (by omega)).mono ?_); rintro e w1 ⟨V1, rfl, hV⟩; have HV := Lib.hid hV; clear hV)))
        | (at_builtin; go_must (first
            | (refine wpList_appendV HV.out [45] info5b Tryz.underlying36 rfl _ _ rfl rfl _ rfl _ rfl rfl (by simp) (by simp [dig_length]; omega) HBB.out ?_; intro V1 w1 hV; have HV := Lib.hid hV; clear hV)
            | (refine wpList_appendV HV.out [84] info5b Tryz.underlying36 rfl _ _ rfl rfl _ rfl _ rfl rfl (by simp) (by simp [dig_length]; omega) HBB.out ?_; intro V1 w1 hV; have HV := Lib.hid hV; clear hV)
            | (refine wpList_appendV HV.out [58] info5b Tryz.underlying36 rfl _ _ rfl rfl _ rfl _ rfl rfl (by simp) (by simp [dig_length]; omega) HBB.out ?_; intro V1 w1 hV; have HV := Lib.hid hV; clear hV)
            | (refine wpList_appendV HV.out [43] info5b Tryz.underlying36 rfl _ _ rfl rfl _ rfl _ rfl rfl (by simp) (by simp [dig_length]; omega) HBB.out ?_; intro V1 w1 hV; have HV := Lib.hid hV; clear hV)
            | (refine wpList_appendV HV.out [90] info5b Tryz.underlying36 rfl _ _ rfl rfl _ rfl _ rfl rfl (by simp) (by simp [dig_length]; omega) HBB.out ?_; intro V1 w1 hV; have HV := Lib.hid hV; clear hV))))
      go_ret
      have R := HV.out.base
      have hz : zoneL o = [43] ++ dig 2 (q / 60) ++ [58] ++ dig 2 (q % 60) := by
        unfold zoneL
        have e1 := HQ.out
        have e2 := HO.out
        rw [if_neg e2, if_neg (by omega), show o.natAbs / 3600 = q / 60 by omega, show o.natAbs / 60 % 60 = q % 60 by omega]
      refine ⟨_, f, rfl, HF.out, ?_⟩
      rw [hz]
      simp only [List.nil_append, List.append_assoc] at R ⊢
      exact R
  · have ht : o.tdiv 60 = -(q : Int) := by rw [hq]; simp [Int.neg_tdiv]
    have HQ := Lib.hid hq
    have hneg : (-(q : Int) < 0) := by omega
    have HNG := Lib.hid hneg0
    clear hq
    by_cases ho : o = 0
    · omega
    · have ho' : (o == 0) = false := by simpa using ho
      have HO := Lib.hid ho
      have hq0 : 0 < q := by have := HQ.out; omega
      clear ho
      go_enter Tryz.func203, Tryz.ntmps203
      go_wp2_with (first
        | (go_at_call 210; go_must (refine (HL.out _).mono ?_; rintro e w1 ⟨rfl, hb1⟩; have hV := HV.out.below hb1; have HV := Lib.hid hV; clear hV hb1))
        | (go_at_call 211; go_must (refine (HD.out _).mono ?_; rintro e wx ⟨rfl, rfl⟩))
        | (go_at_call 212; go_must (refine (HDT.out _).mono ?_; rintro e wx ⟨rfl, rfl⟩))
        | (go_at_call 214; go_must (refine (HC.out _).mono ?_; rintro e wx ⟨rfl, rfl⟩))
        | (go_at_call 215; go_must (refine (frac_is _).mono ?_; rintro e wx ⟨rfl, rfl⟩; have BX := HV.out.box (Blk.new w 117 #[.int .i64 (n / 1000000000 + 62135596800), .int .i32 (n % 1000000000), .string z, .int .i64 o]) hbox; have p0 := BX.cell 0; have p1 := BX.cell 1; have p2 := BX.cell 2; have p3 := BX.cell 3; simp only [List.getElem?_toArray, List.getElem?_cons_zero, List.getElem?_cons_succ] at p0 p1 p2 p3; clear BX))
        | (go_at_call 217; go_must (refine (HN.out _).mono ?_; rintro e w1 ⟨rfl, hb1⟩; have hV := HV.out.below hb1; have HV := Lib.hid hV; clear hV hb1))
        | (go_at_call 216; go_must (refine (HV.out.nano x HBB.out (by simp [dig_length]; omega) hx1).mono ?_; rintro e w1 ⟨V1, f, rfl, hF, hfl, hV⟩; have HV := Lib.hid hV; have HF := Lib.hid hF; clear hV hF))
        | (go_at_call 213; go_must (first
            | ((with_reducible refine (HV.out.int4 Y HBB.out (by simp [dig_length]; omega) bY).mono ?_); rintro e w1 ⟨V1, rfl, hV⟩; have HV := Lib.hid hV; clear hV)
            | ((with_reducible refine (HV.out.int2 M HBB.out (by simp [dig_length]; omega) bM).mono ?_); rintro e w1 ⟨V1, rfl, hV⟩; have HV := Lib.hid hV; clear hV)
            | ((with_reducible refine (HV.out.int2 D HBB.out (by simp [dig_length]; omega) bD).mono ?_); rintro e w1 ⟨V1, rfl, hV⟩; have HV := Lib.hid hV; clear hV)
            | ((with_reducible refine (HV.out.int2 h HBB.out (by simp [dig_length]; omega) bh).mono ?_); rintro e w1 ⟨V1, rfl, hV⟩; have HV := Lib.hid hV; clear hV)
            | ((with_reducible refine (HV.out.int2 mi HBB.out (by simp [dig_length]; omega) bmi).mono ?_); rintro e w1 ⟨V1, rfl, hV⟩; have HV := Lib.hid hV; clear hV)
            | ((with_reducible refine (HV.out.int2 s HBB.out (by simp [dig_length]; omega) bs).mono ?_); rintro e w1 ⟨V1, rfl, hV⟩; have HV := Lib.hid hV; clear hV)
            | ((refine (HV.out.int2e (q / 60) _ (by omega) HBB.out (by simp [dig_length]; omega) (by omega)).mono ?_); rintro e w1 ⟨V1, rfl, hV⟩; have HV := Lib.hid hV; clear hV)
            | ((refine (HV.out.int2e (q % 60) _ (by omega) HBB.out (by simp [dig_length]; omega) (by omega)).mono ?_); rintro e w1 ⟨V1, rfl, hV⟩; have HV := Lib.hid hV; clear hV)))
        | (at_builtin; go_must (first
            | (refine wpList_appendV HV.out [45] info5b Tryz.underlying36 rfl _ _ rfl rfl _ rfl _ rfl rfl (by simp) (by simp [dig_length]; omega) HBB.out ?_; intro V1 w1 hV; have HV := Lib.hid hV; clear hV)
            | (refine wpList_appendV HV.out [84] info5b Tryz.underlying36 rfl _ _ rfl rfl _ rfl _ rfl rfl (by simp) (by simp [dig_length]; omega) HBB.out ?_; intro V1 w1 hV; have HV := Lib.hid hV; clear hV)
            | (refine wpList_appendV HV.out [58] info5b Tryz.underlying36 rfl _ _ rfl rfl _ rfl _ rfl rfl (by simp) (by simp [dig_length]; omega) HBB.out ?_; intro V1 w1 hV; have HV := Lib.hid hV; clear hV)
            | (refine wpList_appendV HV.out [43] info5b Tryz.underlying36 rfl _ _ rfl rfl _ rfl _ rfl rfl (by simp) (by simp [dig_length]; omega) HBB.out ?_; intro V1 w1 hV; have HV := Lib.hid hV; clear hV)
            | (refine wpList_appendV HV.out [90] info5b Tryz.underlying36 rfl _ _ rfl rfl _ rfl _ rfl rfl (by simp) (by simp [dig_length]; omega) HBB.out ?_; intro V1 w1 hV; have HV := Lib.hid hV; clear hV))))
      go_ret
      have R := HV.out.base
      have hz : zoneL o = [45] ++ dig 2 (q / 60) ++ [58] ++ dig 2 (q % 60) := by
        unfold zoneL
        have e1 := HQ.out
        have e2 := HO.out
        have e3 := HNG.out
        rw [if_neg e2, if_pos e3, show o.natAbs / 3600 = q / 60 by omega, show o.natAbs / 60 % 60 = q % 60 by omega]
      refine ⟨_, f, rfl, HF.out, ?_⟩
      rw [hz]
      simp only [List.nil_append, List.append_assoc] at R ⊢
      exact R
end Go.Proofs.YtieidjlmgalihaaGreatDoor
