/- What is said of two fields, plainly; ZEquals says it. -/
import Derived.Test.YtieidjlmgalihaaGreatDoorEqU
import Derived.Test.YtieidjlmgalihaaGreatDoorEqL
import Derived.LaidEql
set_option linter.all false
namespace Go.Proofs.YtieidjlmgalihaaGreatDoor
open Go.RowKit
set_option maxRecDepth 100000
theorem cmp_eq (a b : Int) : (some (compare a b) == some Ordering.eq) = decide (a = b) := by
  have hc : compare a b = .eq ↔ a = b := by
    show compareOfLessAndEq a b = .eq ↔ _
    unfold compareOfLessAndEq
    split
    · constructor
      · intro h; cases h
      · intro h; omega
    · split
      · simp_all
      · constructor
        · intro h; cases h
        · intro h; omega
  by_cases h : a = b
  · rw [hc.2 h]
    simp [h]
  · have : compare a b ≠ .eq := fun e => h (hc.1 e)
    simp [h, this]
open Ieee in
theorem order_symm (x y : Datum) : (Datum.order x y == some .eq) = (Datum.order y x == some .eq) := by
  cases x with
  | number s m i =>
    cases y with
    | number t n j =>
      show (some (compare (signed s m (i - min i j).toNat) (signed t n (j - min i j).toNat)) == some .eq) = (some (compare (signed t n (j - min j i).toNat) (signed s m (i - min j i).toNat)) == some .eq)
      rw [show min j i = min i j by omega, cmp_eq, cmp_eq]
      rw [Bool.eq_iff_iff]
      simp only [decide_eq_true_eq]
      exact eq_comm
    | infinity t => cases t <;> rfl
    | nan t f => rfl
  | infinity s =>
    cases y with
    | number t n j => cases s <;> rfl
    | infinity t => cases s <;> cases t <;> rfl
    | nan t f => rfl
  | nan s f => cases y <;> rfl
theorem floatEq_symm (k : FloatKind) (a b : Nat) : Op.floatEq k a b = Op.floatEq k b a := order_symm _ _
/-- Complex numbers are equal. -/
def cEq (f g : Fld) : Bool := if f.width = 32 then Op.floatEq .f32 f.re.toNat g.re.toNat && Op.floatEq .f32 f.im.toNat g.im.toNat else Op.floatEq .f64 f.re.toNat g.re.toNat && Op.floatEq .f64 f.im.toNat g.im.toNat
/-- Two fields of a kind have equal values. -/
def zeqV (a b : FT) : Bool :=
  if a.f.kind = 1 then ((a.f.int != 0) == (b.f.int != 0)) else if a.f.kind = 2 then a.f.width == b.f.width && a.f.int == b.f.int else if a.f.kind = 3 then a.f.width == b.f.width && a.f.uint == b.f.uint
  else if a.f.kind = 4 then a.f.uint == b.f.uint else if a.f.kind = 5 then a.f.width == b.f.width && a.f.re == b.f.re else if a.f.kind = 6 then a.f.width == b.f.width && cEq a.f b.f
  else if a.f.kind = 7 then a.f.text.toList == b.f.text.toList else if a.f.kind = 8 then a.bs == b.bs else if a.f.kind = 9 then a.bs == b.bs else if a.f.kind = 10 then a.f.int == b.f.int else if a.f.kind = 11 then momEq a.f b.f
  else if a.f.kind = 12 then a.f.text.toList == b.f.text.toList else if a.f.kind = 13 then a.f.text.toList == b.f.text.toList
  else if a.f.kind = 15 then a.f.fail.toList == b.f.fail.toList && alikeL a.kids b.kids else if a.f.kind = 16 then a.f.fail.toList == b.f.fail.toList && alikeL a.kids b.kids
  else if a.f.kind = 17 then false else if a.f.kind = 18 then false else true
/-- Two fields are equal. -/
def zeq (a b : FT) : Bool := a.f.kind == b.f.kind && a.f.key.toList == b.f.key.toList && zeqV a b
theorem momEq_symm (f g : Fld) : momEq f g = momEq g f := by
  unfold momEq
  rw [Bool.beq_comm (a := f.zero), Bool.beq_comm (a := f.nanos), Bool.beq_comm (a := f.offset), Bool.beq_comm (a := f.zone.toList)]
mutual
theorem alike_symm : ∀ a b : FT, a.alike b = b.alike a
  | .mk f x k, .mk g y l => by
    simp only [FT.alike, alike1]
    rw [Bool.beq_comm (a := f.kind), Bool.beq_comm (a := f.key.toList), Bool.beq_comm (a := f.width), Bool.beq_comm (a := f.int), Bool.beq_comm (a := f.uint), Bool.beq_comm (a := f.re), Bool.beq_comm (a := f.im), Bool.beq_comm (a := f.text.toList), Bool.beq_comm (a := x), momEq_symm f g, Bool.beq_comm (a := f.fail.toList), alikeL_symm k l]
theorem alikeL_symm : ∀ k l : List FT, alikeL k l = alikeL l k
  | [], [] => rfl
  | [], _ :: _ => by simp [alikeL]
  | _ :: _, [] => by simp [alikeL]
  | a :: xs, b :: ys => by
    simp only [alikeL]
    rw [alike_symm a b, alikeL_symm xs ys]
end
theorem zeq_symm (a b : FT) : zeq a b = zeq b a := by
  unfold zeq
  by_cases hk : a.f.kind = b.f.kind
  · rw [show zeqV a b = zeqV b a by
      unfold zeqV
      rw [hk, Bool.beq_comm (a := (a.f.int != 0)), Bool.beq_comm (a := a.f.int), Bool.beq_comm (a := a.f.uint), Bool.beq_comm (a := a.f.re), Bool.beq_comm (a := a.f.text.toList), Bool.beq_comm (a := a.bs), momEq_symm a.f b.f, Bool.beq_comm (a := a.f.fail.toList), alikeL_symm a.kids b.kids]
      by_cases hw : a.f.width = b.f.width
      · simp only [cEq, hw, floatEq_symm _ a.f.re.toNat, floatEq_symm _ a.f.im.toNat]
      · have h1 : (a.f.width == b.f.width) = false := by simpa using hw
        have h2 : (b.f.width == a.f.width) = false := by simpa using fun h => hw h.symm
        simp only [h1, h2, Bool.false_and]]
    rw [Bool.beq_comm (a := a.f.kind), Bool.beq_comm (a := a.f.key.toList)]
  · have h1 : (a.f.kind == b.f.kind) = false := by simpa using hk
    have h2 : (b.f.kind == a.f.kind) = false := by simpa using fun h => hk h.symm
    simp only [h1, h2, Bool.false_and]
theorem wrap_eq {u v : Int} (h0 : 0 ≤ u) (h1 : u < 18446744073709551616) (k0 : 0 ≤ v) (k1 : v < 18446744073709551616) : (wrap64 u == wrap64 v) = (u == v) := by
  rw [Bool.eq_iff_iff]
  simp only [beq_iff_eq]
  unfold wrap64
  omega
theorem nil_types {f : Fld} (F : Fine1 f) (h : NilK f) : (kT f == 3) = false ∧ (kT f == 5) = false ∧ (kT f == 1) = false ∧ (kT f == 2) = false ∧ (kT f == 26) = false ∧ (kT f == 23) = false := by
  have hn := F.num
  have hf := F.flo
  rcases h with hk | hk | hk | hk | hk | hk | hk | hk | hk
  case inr.inr.inl =>
    rcases hn (Or.inl hk) with e | e | e | e <;> simp [kT, hk, e]
  case inr.inr.inr.inl =>
    rcases hn (Or.inr hk) with e | e | e | e <;> simp [kT, hk, e]
  case inr.inr.inr.inr.inr.inl =>
    rcases hf (Or.inl hk) with e | ⟨e, _⟩ <;> simp [kT, hk, e]
  all_goals simp [kT, hk]
theorem nil_says {a b : FT} (F : Fine1 a.f) (G : Fine1 b.f) (R : Rng a.f) (S : Rng b.f) (h : NilK a.f) (hk : a.f.kind = b.f.kind) (hw : wide a.f = true → a.f.width = b.f.width) : (kN a.f == kN b.f && (kS a.f).toList == (kS b.f).toList) = zeqV a b := by
  have hf := F.flo
  have hg := G.flo
  rcases h with h1 | h1 | h1 | h1 | h1 | h1 | h1 | h1 | h1
  all_goals have h2 := hk.symm.trans h1
  · simp [kN, kS, zeqV, h1, h2]
  · have b1 : a.f.int ≠ 0 → (a.f.int != 0) = true := fun h => by simpa using h
    have b2 : b.f.int ≠ 0 → (b.f.int != 0) = true := fun h => by simpa using h
    by_cases e1 : a.f.int = 0 <;> by_cases e2 : b.f.int = 0 <;> simp [kN, kS, zeqV, h1, h2, e1, e2, b1, b2]
  · have e := hw (by simp [wide, h1])
    simp [kN, kS, zeqV, h1, h2, e]
  · have e := hw (by simp [wide, h1])
    have e3 := wrap_eq R.u0 R.u1 S.u0 S.u1
    simp [kN, kS, zeqV, h1, h2, e, e3]
  · have e3 := wrap_eq R.u0 R.u1 S.u0 S.u1
    simp [kN, kS, zeqV, h1, h2, e3]
  · have e := hw (by simp [wide, h1])
    have e3 := wrap_eq R.r0 R.r1 S.r0 S.r1
    rcases hf (Or.inl h1) with e4 | ⟨e4, _⟩
    · have e5 : b.f.width = 64 := by omega
      simp [kN, kS, zeqV, h1, h2, e4, e5, e3]
    · have e5 : b.f.width = 32 := by omega
      simp [kN, kS, zeqV, h1, h2, e4, e5]
  · simp [kN, kS, zeqV, h1, h2]
  · simp [kN, kS, zeqV, h1, h2]
  · simp [kN, kS, zeqV, h1, h2]
theorem mom_says {f g : Fld} (h : f.zero = false) (h' : g.zero = false) : (momExt f.zero f.nanos == momExt g.zero g.nanos && momNs f.zero f.nanos == momNs g.zero g.nanos && (momZone f.zero f.zone).toList == (momZone g.zero g.zone).toList && momOff f.zero f.offset == momOff g.zero g.offset) = momEq f g := by
  unfold momEq momExt momNs momZone momOff
  rw [h, h', Bool.eq_iff_iff]
  simp only [Bool.false_eq_true, if_false, Bool.and_eq_true, beq_iff_eq, beq_self_eq_true, true_and]
  constructor
  · rintro ⟨⟨⟨h1, h2⟩, h3⟩, h4⟩
    exact ⟨⟨by omega, h4⟩, h3⟩
  · rintro ⟨⟨h1, h4⟩, h3⟩
    rw [h1]
    exact ⟨⟨⟨rfl, rfl⟩, h3⟩, h4⟩
theorem iface_ne (W : World) (d : Nat) (t t' : TypeId) (v v' : Value) (h : t ≠ t') : (Op.equalIn (d + 1) 20 (.iface t v) (.iface t' v')).run Tryz.prog W = .ok false W := by
  simp [Op.equalIn, run_underlying Tryz.underlying20, h]
/-- Pointers of their own are not equal. -/
theorem ptr_ne (W : World) (ty te : TypeId) (i j : TypeInfo) (hp : Tryz.prog.underlying ty = some (.pointer te)) (hi : Tryz.prog.info? ty = some i) (hc : i.comparable = true) (hj : Tryz.prog.info? te = some j) (hs : j.size ≠ 0) (p q : Nat) (ca cb : Array Value) (ta tb : TypeId) (hne : p ≠ q) (ha : Blk W p ta ca) (hb : Blk W q tb cb) (d : Nat) :
    (Op.equalIn (d + 2) 20 (.iface ty (.pointer (some ⟨p, 0, none⟩))) (.iface ty (.pointer (some ⟨q, 0, none⟩)))).run Tryz.prog W = .ok false W :=
  run_equalIn_iface_ptr_other W d Tryz.underlying20 hp hi hc hj hs (fun h => hne (congrArg Addr.block h)) ha hb
theorem infoOf {t : TypeId} {c : Bool} {n : Nat} (h : (Tryz.prog.info? t).map (fun i => (i.comparable, i.size)) = some (c, n)) : ∃ i, Tryz.prog.info? t = some i ∧ i.comparable = c ∧ i.size = n := by
  obtain ⟨i, hi, he⟩ := Option.map_eq_some_iff.1 h
  injection he with h1 h2
  exact ⟨i, hi, h1, h2⟩
theorem ptr223 (W : World) (p q : Nat) (ca cb : Array Value) (ta tb : TypeId) (hne : p ≠ q) (ha : Blk W p ta ca) (hb : Blk W q tb cb) (d : Nat) : (Op.equalIn (d + 2) 20 (.iface 223 (.pointer (some ⟨p, 0, none⟩))) (.iface 223 (.pointer (some ⟨q, 0, none⟩)))).run Tryz.prog W = .ok false W := by
  obtain ⟨i, hi, hc, _⟩ := infoOf (t := 223) (c := true) (n := 1) (by kernel_rfl)
  obtain ⟨j, hj, _, hs⟩ := infoOf (t := 221) (c := false) (n := 2) (by kernel_rfl)
  exact ptr_ne W 223 221 i j Tryz.underlying223 hi hc hj (by omega) p q ca cb ta tb hne ha hb d
theorem ptr227 (W : World) (p q : Nat) (ca cb : Array Value) (ta tb : TypeId) (hne : p ≠ q) (ha : Blk W p ta ca) (hb : Blk W q tb cb) (d : Nat) : (Op.equalIn (d + 2) 20 (.iface 227 (.pointer (some ⟨p, 0, none⟩))) (.iface 227 (.pointer (some ⟨q, 0, none⟩)))).run Tryz.prog W = .ok false W := by
  obtain ⟨i, hi, hc, _⟩ := infoOf (t := 227) (c := true) (n := 1) (by kernel_rfl)
  obtain ⟨j, hj, _, hs⟩ := infoOf (t := 229) (c := true) (n := 1) (by kernel_rfl)
  exact ptr_ne W 227 229 i j Tryz.underlying227 hi hc hj (by omega) p q ca cb ta tb hne ha hb d
/-- Equals of two fields of one type, kind and key. -/
theorem equals_same (Y : World) (own1 own2 : Nat → Prop) (a b : FT) (va vb : Value) (ha : a.ok Y) (hb : b.ok Y) (F : Fine1 a.f) (G : Fine1 b.f) (R : Rng a.f) (S : Rng b.f) (Pa : Pub own1 Y a va) (Pb : Pub own2 Y b vb) (hne : ∀ p, own1 p → own2 p → False)
    (hT : kT a.f = kT b.f) (hk : a.f.kind = b.f.kind) (hw : wide a.f = true → a.f.width = b.f.width) (hK : (a.f.key.toList == b.f.key.toList) = true) :
    Calls Tryz.prog 61 #[va, vb] Y (BoolIs (zeqV a b) Y) := by
  cases Pa with
  | plain h =>
    cases Pb with
    | plain h' =>
      rw [← nil_says F G R S h hk hw, hT]
      obtain ⟨t3, t5, t1, t2, t26, t23⟩ := nil_types G h'
      exact equals_plain_nil Y _ _ _ _ _ _ _ hK t3 t5 t1 t2 t26 t23
    | _ => exfalso; unfold NilK at h; omega
  | text h =>
    cases Pb with
    | text h' =>
      rw [show zeqV a b = (a.f.text.toList == b.f.text.toList) by rcases h with h | h <;> simp [zeqV, h], hT]
      rcases h' with h' | h'
      · have e : kT b.f = 26 := by simp [kT, h']
        rw [e]
        exact equals_deep Y _ _ _ _ 26 _ _ 293 293 _ _ _ hK (by omega) (fun W hW => deep_told W _ _)
      · have e : kT b.f = 25 := by simp [kT, h']
        rw [e]
        exact equals_plain_if Y _ _ _ 25 _ 293 293 _ _ _ hK rfl rfl rfl rfl rfl rfl (fun W hW => ifEq_told W _ _)
    | plain h' => exfalso; unfold NilK at h'; omega
    | _ => exfalso; omega
  | bytes h A c hr ho =>
    cases Pb with
    | bytes h' A' c' hr' ho' =>
      have e : kT b.f = 3 ∨ kT b.f = 5 := by
        rcases h' with h' | h'
        · exact Or.inr (by simp [kT, h'])
        · exact Or.inl (by simp [kT, h'])
      rw [show zeqV a b = (a.bs == b.bs) by rcases h with h | h <;> simp [zeqV, h], hT]
      exact equals_bytes Y _ _ _ _ _ _ _ _ _ _ _ _ _ hK e hr hr'
    | plain h' => exfalso; unfold NilK at h'; omega
    | _ => exfalso; omega
  | mom h =>
    cases Pb with
    | mom h' =>
      rw [show zeqV a b = momEq a.f b.f by simp [zeqV, h], ← mom_says (F.tim h) (G.tim h')]
      have e3 : kT a.f = 17 := by simp [kT, h]
      have e4 : kT b.f = 17 := by simp [kT, h']
      rw [e3, e4]
      exact equals_plain_if Y _ _ _ 17 _ 117 117 _ _ _ hK rfl rfl rfl rfl rfl rfl (fun W hW => ifEq_time W _ _ _ _ _ _ _ _)
    | plain h' => exfalso; unfold NilK at h'; omega
    | _ => exfalso; omega
  | list h =>
    cases Pb with
    | list h' =>
      rw [show zeqV a b = (a.f.fail.toList == b.f.fail.toList && alikeL a.kids b.kids) by rcases h with h | h <;> simp [zeqV, h], hT]
      have e : kT b.f = 1 ∨ kT b.f = 2 ∨ kT b.f = 26 := by
        rcases h' with h' | h'
        · exact Or.inl (by simp [kT, h'])
        · exact Or.inr (Or.inl (by simp [kT, h']))
      exact equals_deep Y _ _ _ _ _ _ _ 221 221 _ _ _ hK e (fun W hW => deep_list W _ _ _ _ 221 _ _ (itemDeep W _ _ _ _ _ _ _ _ a.kids b.kids (FT.ok_kids (FT.ok_below hW a ha)) (FT.ok_kids (FT.ok_below hW b hb))))
    | plain h' => exfalso; unfold NilK at h'; omega
    | _ => exfalso; omega
  | inl h p hp ca ta hbp =>
    cases Pb with
    | inl h' q hq cb tb hbq =>
      have e3 : kT a.f = 28 := by simp [kT, h]
      have e4 : kT b.f = 28 := by simp [kT, h']
      rw [show zeqV a b = false by simp [zeqV, h], e3, e4]
      have hpq : p ≠ q := fun e => hne p hp (e ▸ hq)
      exact equals_plain_if Y _ _ _ 28 _ 223 223 _ _ _ hK rfl rfl rfl rfl rfl rfl (fun W hW => ptr223 W p q ca cb ta tb hpq (hbp.here hW) (hbq.here hW) 9997)
    | plain h' => exfalso; unfold NilK at h'; omega
    | _ => exfalso; omega
  | errs h p hp ca ta hbp =>
    cases Pb with
    | errs h' q hq cb tb hbq =>
      have e3 : kT a.f = 1 := by simp [kT, h]
      have e4 : kT b.f = 1 := by simp [kT, h']
      rw [show zeqV a b = false by simp [zeqV, h], e3, e4]
      have hpq : p ≠ q := fun e => hne p hp (e ▸ hq)
      exact equals_deep Y _ _ _ _ 1 _ _ 227 227 _ _ _ hK (by omega) (fun W hW => deep_ptr W _ 227 _ (eql20 W false 227 227 _ _ (ptr227 W p q ca cb ta tb hpq (hbp.here hW) (hbq.here hW) 9998)))
    | plain h' => exfalso; unfold NilK at h'; omega
    | _ => exfalso; omega
  | c128 h hwa =>
    cases Pb with
    | c128 h' hwb =>
      have e3 : kT a.f = 6 := by simp [kT, h, hwa]
      have e4 : kT b.f = 6 := by simp [kT, h', hwb]
      rw [show zeqV a b = (Op.floatEq .f64 a.f.re.toNat b.f.re.toNat && Op.floatEq .f64 a.f.im.toNat b.f.im.toNat) by simp [zeqV, cEq, h, hwa, hwb], e3, e4]
      exact equals_plain_if Y _ _ _ 6 _ 231 231 _ _ _ hK rfl rfl rfl rfl rfl rfl (fun W hW => ifEq_c128 W _ _ _ _)
    | c64 h' hwb => exfalso; have := hw (by simp [wide, h]); omega
    | plain h' => exfalso; unfold NilK at h'; omega
    | _ => exfalso; omega
  | c64 h hwa r i hr hi =>
    cases Pb with
    | c64 h' hwb r' i' hr' hi' =>
      have e3 : kT a.f = 7 := by simp [kT, h, hwa]
      have e4 : kT b.f = 7 := by simp [kT, h', hwb]
      rw [show zeqV a b = (Op.floatEq .f32 a.f.re.toNat b.f.re.toNat && Op.floatEq .f32 a.f.im.toNat b.f.im.toNat) by simp [zeqV, cEq, h, hwa, hwb], e3, e4, ← nar_eq hr hr', ← nar_eq hi hi']
      exact equals_plain_if Y _ _ _ 7 _ 233 233 _ _ _ hK rfl rfl rfl rfl rfl rfl (fun W hW => ifEq_c64 W _ _ _ _)
    | c128 h' hwb => exfalso; have := hw (by simp [wide, h]); omega
    | plain h' => exfalso; unfold NilK at h'; omega
    | _ => exfalso; omega
/-- Equals of any two fields. -/
theorem equals_pub (Y : World) (own1 own2 : Nat → Prop) (a b : FT) (va vb : Value) (ha : a.ok Y) (hb : b.ok Y) (F : Fine1 a.f) (G : Fine1 b.f) (R : Rng a.f) (S : Rng b.f) (Pa : Pub own1 Y a va) (Pb : Pub own2 Y b vb) (hne : ∀ p, own1 p → own2 p → False) :
    Calls Tryz.prog 61 #[va, vb] Y (BoolIs (zeq a b) Y) := by
  by_cases hT : kT a.f = kT b.f
  · by_cases hK : (a.f.key.toList == b.f.key.toList) = true
    · rcases kT_eq F G hT with ⟨hk, hw⟩ | ⟨h1, h2⟩ | ⟨h1, h2⟩
      · have e : zeq a b = zeqV a b := by unfold zeq; rw [hK, hk]; simp
        rw [e]
        exact equals_same Y own1 own2 a b va vb ha hb F G R S Pa Pb hne hT hk hw hK
      · have e : zeq a b = false := by simp [zeq, h1, h2]
        rw [e]
        cases Pa with
        | list h =>
          cases Pb with
          | errs h' q hq cb tb hbq =>
            have e3 : kT a.f = 1 := by simp [kT, h1]
            have e4 : kT b.f = 1 := by simp [kT, h2]
            rw [e3, e4]
            exact equals_deep Y _ _ _ _ 1 _ _ 221 227 _ _ _ hK (by omega) (fun W hW => deep_list W _ _ _ _ 227 _ _ (itemDeep_no W _ _ _ _ _))
          | plain h' => exfalso; unfold NilK at h'; omega
          | _ => exfalso; omega
        | plain h' => exfalso; unfold NilK at h'; omega
        | _ => exfalso; omega
      · have e : zeq a b = false := by simp [zeq, h1, h2]
        rw [e]
        cases Pa with
        | errs h p hp ca ta hbp =>
          cases Pb with
          | list h' =>
            have e3 : kT a.f = 1 := by simp [kT, h1]
            have e4 : kT b.f = 1 := by simp [kT, h2]
            rw [e3, e4]
            exact equals_deep Y _ _ _ _ 1 _ _ 227 221 _ _ _ hK (by omega) (fun W hW => deep_ptr W _ 221 _ (eql20 W false 227 221 _ _ (iface_ne W 9999 227 221 _ _ (by decide))))
          | plain h' => exfalso; unfold NilK at h'; omega
          | _ => exfalso; omega
        | plain h' => exfalso; unfold NilK at h'; omega
        | _ => exfalso; omega
    · have hK' : (a.f.key.toList == b.f.key.toList) = false := by simpa using hK
      have e : zeq a b = false := by unfold zeq; rw [hK']; simp
      rw [e]
      obtain ⟨n, s, V, rfl⟩ := Pa.key
      obtain ⟨n', s', V', rfl⟩ := Pb.key
      rw [hT]
      exact equals_key Y _ _ _ _ _ _ _ _ _ hK'
  · have e : zeq a b = false := by
      cases hz : zeq a b with
      | false => rfl
      | true =>
        exfalso
        unfold zeq at hz
        simp only [Bool.and_eq_true, beq_iff_eq] at hz
        obtain ⟨⟨hk, _⟩, hv⟩ := hz
        apply hT
        unfold kT
        rw [← hk]
        by_cases hw : wide a.f = true
        · have e : a.f.width = b.f.width := by
            simp only [wide, Bool.or_eq_true, beq_iff_eq] at hw
            rcases hw with ((h | h) | h) | h <;> simp [zeqV, h] at hv <;> exact hv.1
          rw [e]
        · simp only [wide, Bool.or_eq_true, beq_iff_eq, not_or] at hw
          obtain ⟨⟨⟨h2, h3⟩, h5⟩, h6⟩ := hw
          simp only [h2, h3, h5, h6, if_false]
    rw [e]
    obtain ⟨n, s, V, rfl⟩ := Pa.key
    obtain ⟨n', s', V', rfl⟩ := Pb.key
    exact equals_type Y _ _ _ _ _ _ _ _ _ _ (by simpa using hT)
/-- ZEquals. -/
theorem zequals_pair (w : World) (a b : FT) (ha : a.ok w) (hb : b.ok w) (F : Fine1 a.f) (G : Fine1 b.f) (R : Rng a.f) (S : Rng b.f) : Calls Tryz.prog 22 #[.agg a.f.arr, .agg b.f.arr] w (BoolIs (zeq a b) w) := by
  refine zequals_of w a.f b.f _ _ (fun w2 X v => Pub (fun p => w2.heap.size ≤ p) X b v) (made_pub w a ha F R) (fun w2 h2 => made_pub w2 b (FT.ok_below h2 b hb) G S) (fun W1 W2 V1 V2 hW1 P1 h12 P2 => ?_)
  have hW2 : Below w.heap.size w W2 := hW1.trans (h12.mono hW1.size)
  exact equals_pub W2 _ _ a b V1 V2 (FT.ok_below hW2 a ha) (FT.ok_below hW2 b hb) F G R S ((Pub.lt P1).below h12) P2 (fun p h1 h2 => by have := h1.2; omega)
end Go.Proofs.YtieidjlmgalihaaGreatDoor
