/- Lists of fields that are compared: sameItems. -/
import Derived.Test.YtieidjlmgalihaaGreatDoorEqA
set_option linter.all false
namespace Go.Proofs.YtieidjlmgalihaaGreatDoor
open Go.RowKit
set_option maxRecDepth 100000
theorem readsB_at {w : World} {A : Option Addr} {x : List UInt8} (h : ReadsB w A x) (q : Nat) (hq : q < x.length) : ∃ b o, A = some ⟨b, o, none⟩ ∧ w.cell? ⟨b, o + q, none⟩ = some (.int .u8 ((x[q]'hq).toNat : Int)) := h q hq
theorem beq_drop (x y : List UInt8) (q : Nat) (hx : q < x.length) (hy : q < y.length) : (x.drop q == y.drop q) = ((x[q] == y[q]) && (x.drop (q + 1) == y.drop (q + 1))) := by
  rw [List.drop_eq_getElem_cons hx, List.drop_eq_getElem_cons hy]
  rfl
theorem u8_ne (a b : UInt8) : ((a.toNat : Int) != (b.toNat : Int)) = !(a == b) := by
  rw [Bool.eq_iff_iff]
  simp only [bne_iff_ne, ne_eq, Bool.not_eq_true', beq_eq_false_iff_ne]
  constructor
  · intro h e; subst e; exact h rfl
  · intro h e; exact h (UInt8.toNat_inj.1 (by omega))
set_option maxHeartbeats 2000000 in
theorem sliceEq_any (w : World) (A A' : Option Addr) (x y : List UInt8) (n m c c' : Nat) (hn : x.length = n) (hm : y.length = m) (hx : ReadsB w A x) (hy : ReadsB w A' y) (h1 : n ≤ maxLen) (h2 : m ≤ maxLen) :
    Calls Tryz.prog 355 #[.slice A n c, .slice A' m c'] w fun e w' => e = .returned (.bool (x == y)) ∧ Below w.heap.size w w' := by
  unfold maxLen at h1 h2
  by_cases he : n = m
  · subst he
    have HX := Lib.hid hx
    have HY := Lib.hid hy
    have HN := Lib.hid (And.intro hn hm)
    clear hx hy hn hm
    go_enter Tryz.func355, Tryz.ntmps355
    go_wp2_with fail
    go_loopw [13] (fun i wr => ∃ q : Nat, q ≤ n ∧ i = .int .i64 q ∧ Below w.heap.size w wr ∧ Hid ((x.drop q == y.drop q) = (x == y))) (fun i _ => n - (intOf i).toNat)
    case atStart => exact ⟨0, Nat.zero_le _, rfl, Below.refl _ _, Lib.hid rfl⟩
    case round =>
      obtain ⟨q, hq, rfl, hb, HD⟩ := hrel
      by_cases hlt : q < n
      · obtain ⟨b, o, rfl, hcx⟩ := readsB_at (HX.out.below hb) q (by rw [HN.out.1]; exact hlt)
        obtain ⟨b', o', rfl, hcy⟩ := readsB_at (HY.out.below hb) q (by rw [HN.out.2]; exact hlt)
        have hbd := Lib.hid (beq_drop x y q (by rw [HN.out.1]; exact hlt) (by rw [HN.out.2]; exact hlt))
        have hne := u8_ne (x[q]'(by rw [HN.out.1]; exact hlt)) (y[q]'(by rw [HN.out.2]; exact hlt))
        have i1 : (0 : Int) ≤ (q : Int) := by omega
        have i2 : (q : Int) < (n : Int) := by omega
        obtain ⟨u, hu⟩ : ∃ u, u = x[q]'(by rw [HN.out.1]; exact hlt) := ⟨_, rfl⟩
        obtain ⟨v, hv⟩ : ∃ v, v = y[q]'(by rw [HN.out.2]; exact hlt) := ⟨_, rfl⟩
        rw [← hu] at hcx hne hbd
        rw [← hv] at hcy hne hbd
        clear hu hv
        by_cases hc : (u == v) = true
        · rw [hc] at hne
          have HE := Lib.hid hc
          clear hc
          go_wp2_with fail
          go_region_held3 (fun w' => w'.cell? ⟨b, o + q, none⟩ = some (.int .u8 (u.toNat : Int)) ∧ w'.cell? ⟨b', o' + q, none⟩ = some (.int .u8 (v.toNat : Int))) (go_keep) (fail)
          all_goals go_wp2_with fail
          all_goals go_roundw
          all_goals first
            | exact ⟨q + 1, by omega, by go_num, hb.drew, Lib.hid (by rw [← HD.out, hbd.out, HE.out]; rfl)⟩
            | (simp [intOf]; omega)
        · have hcf : (u == v) = false := by simpa using hc
          rw [hcf] at hne
          have HE := Lib.hid hcf
          clear hc hcf
          go_wp2_with fail
          go_region_held3 (fun w' => w'.cell? ⟨b, o + q, none⟩ = some (.int .u8 (u.toNat : Int)) ∧ w'.cell? ⟨b', o' + q, none⟩ = some (.int .u8 (v.toNat : Int))) (go_keep) (fail)
          all_goals go_wp2_with fail
          all_goals go_ret
          all_goals exact ⟨by rw [← HD.out, hbd.out, HE.out]; rfl, hb.drew⟩
      · go_wp2_with fail
        go_ret
        have e1 : q = n := by omega
        refine ⟨?_, hb⟩
        rw [← HD.out, List.drop_of_length_le (by rw [HN.out.1]; omega), List.drop_of_length_le (by rw [HN.out.2]; omega)]
        rfl
  · have hr : (x == y) = false := by
      rw [Bool.eq_false_iff]
      intro h
      have := beq_iff_eq.1 h
      rw [this] at hn
      omega
    rw [hr]
    clear hx hy hn hm hr
    have hd : ((n : Int) != (m : Int)) = true := by simp; omega
    go_enter Tryz.func355, Tryz.ntmps355
    go_wp2_with fail
    go_ret
    exact ⟨rfl, Below.refl _ _⟩
/-- Two moments are the same. -/
def momEq (a b : Fld) : Bool := a.zero == b.zero && a.nanos == b.nanos && a.offset == b.offset && a.zone.toList == b.zone.toList
/-- What of two fields is compared, but for the items. -/
def alike1 (a b : Fld) (x y : List UInt8) : Bool :=
  a.kind == b.kind && a.key.toList == b.key.toList && a.width == b.width && a.int == b.int && a.uint == b.uint && a.re == b.re && a.im == b.im && a.text.toList == b.text.toList && x == y && momEq a b && a.fail.toList == b.fail.toList
mutual
def FT.alike : FT → FT → Bool
  | .mk f x k, .mk g y l => alike1 f g x y && alikeL k l
def alikeL : List FT → List FT → Bool
  | [], [] => true
  | a :: xs, b :: ys => a.alike b && alikeL xs ys
  | _, _ => false
end
theorem FT.alike_eq (a b : FT) : a.alike b = (alike1 a.f b.f a.bs b.bs && alikeL a.kids b.kids) := by
  cases a; cases b; simp only [FT.alike, FT.f, FT.bs, FT.kids]
theorem alikeL_len : ∀ {k l : List FT}, alikeL k l = true → k.length = l.length
  | [], [], _ => rfl
  | a :: xs, b :: ys, h => by
    simp only [alikeL, Bool.and_eq_true] at h
    simp [alikeL_len h.2]
  | [], _ :: _, h => by simp [alikeL] at h
  | _ :: _, [], h => by simp [alikeL] at h
theorem alikeL_drop (k l : List FT) (q : Nat) (hk : q < k.length) (hl : q < l.length) : alikeL (k.drop q) (l.drop q) = ((at_ k q).alike (at_ l q) && alikeL (k.drop (q + 1)) (l.drop (q + 1))) := by
  rw [List.drop_eq_getElem_cons hk, List.drop_eq_getElem_cons hl, at_eq hk, at_eq hl]
  simp only [alikeL]
theorem alikeL_end (k l : List FT) (q : Nat) (hk : k.length = q) (hl : l.length = q) : alikeL (k.drop q) (l.drop q) = true := by
  rw [List.drop_of_length_le (by omega), List.drop_of_length_le (by omega)]
  simp [alikeL]
theorem eql23 (W : World) (z z' : Bool) (n n' o o' : Int) (s s' : ByteArray) : (binOp .eql 23 (.agg #[.bool z, .int .i64 n, .int .i64 o, .string s]) (.agg #[.bool z', .int .i64 n', .int .i64 o', .string s'])).run Tryz.prog W = .ok (.bool (z == z' && n == n' && o == o' && s.toList == s'.toList)) W := by
  by_cases h1 : z = z'
  · by_cases h2 : n = n'
    · by_cases h3 : o = o'
      · by_cases h4 : s.toList = s'.toList
        · subst h1 h2 h3; simp [go_sem, h4]
        · subst h1 h2 h3; simp [go_sem, h4]
      · subst h1 h2; simp [go_sem, h3]
    · subst h1; simp [go_sem, h2]
  · simp [go_sem, h1]
end Go.Proofs.YtieidjlmgalihaaGreatDoor
