/- zFloat. -/
import Derived.Test.YtieidjlmgalihaaGreatDoorEqH
import Derived.Test.YtieidjlmgalihaaGreatDoorEqF
set_option linter.all false
namespace Go.Proofs.YtieidjlmgalihaaGreatDoor
open Go.RowKit
set_option maxRecDepth 100000
theorem nan64 (b t : Nat) : ∃ s f, Ieee.double.read (Question.cut (.nanConv .f64 b) t) = .nan s f := by
  have hsw : Ieee.double.signWeight = 9223372036854775808 := by decide
  have hbi : Ieee.double.binade = 4503599627370496 := by decide
  have hin : Ieee.double.infRung = 9218868437227405312 := by decide
  have hc : Question.cut (.nanConv .f64 b) t = (t % 2) * 9223372036854775808 + 9218868437227405312 + 1 + (t / 2) % 4503599627370495 := rfl
  rw [hc]
  unfold Ieee.Format.read
  simp only [hsw, hbi, hin]
  have h1 : (t / 2) % 4503599627370495 < 4503599627370495 := Nat.mod_lt _ (by omega)
  generalize (t / 2) % 4503599627370495 = x at *
  generalize t % 2 = y at *
  have e : (y * 9223372036854775808 + 9218868437227405312 + 1 + x) % 9223372036854775808 = 9218868437227405313 + x := by omega
  rw [e, if_neg (by omega), if_neg (by omega), if_neg (by omega)]
  exact ⟨_, _, rfl⟩
theorem conv_nan (W : World) (b : Nat) (s : Bool) (f : Nat) (h : Ieee.single.read b = .nan s f) : ∃ r, (convert 238 136 (.float .f32 b)).run Tryz.prog W = .ok (.float .f64 r) W.drew ∧ ∃ s f, Ieee.double.read r = .nan s f := by
  have hd : FloatKind.decode .f32 b = .nan s f := h
  refine ⟨Question.cut (.nanConv .f64 b) (W.tape W.drawn (.nanConv .f64 b)), ?_, nan64 _ _⟩
  simp [convert, run_underlying Tryz.underlying238, run_underlying Tryz.underlying136, Conv.floatToFloat, hd]
  intro hf
  exact absurd hf (by simp [Question.forced])
theorem ext113 (W : World) (b : Nat) : (callFunc 113 #[.int .u64 (b : Int)]).run Tryz.prog W = .ok (.value (.float .f64 b)) W := by kernel_rfl
theorem ext112 (W : World) (b : Nat) : (callFunc 112 #[.int .u32 (b : Int)]).run Tryz.prog W = .ok (.value (.float .f32 b)) W := by kernel_rfl
theorem zfloat64 (w : World) (b : Nat) (wd : Int) (h : (wd == 32) = false) : Calls Tryz.prog 62 #[.int .u64 (b : Int), .int .i64 wd] w fun e w' => e = .returned (.float .f64 b) ∧ w = w' := by
  have hx := fun W => ext113 W b
  go_enter Tryz.func62, Tryz.ntmps62
  go_wp2_with fail
  go_ret
  exact ⟨rfl, rfl⟩
/-- A word of 32 bits made wide, as zFloat does it. -/
def Wid (b r : Nat) : Prop := ((∃ s f, Ieee.single.read b = .nan s f) ∧ ∃ s f, Ieee.double.read r = .nan s f) ∨ floatToFloatBits .f32 b .f64 = some r
theorem zfloat32 (w : World) (b : Nat) (hb : b < 4294967296) : Calls Tryz.prog 62 #[.int .u64 (b : Int), .int .i64 32] w fun e w' => ∃ r d, e = .returned (.float .f64 r) ∧ Wid b r ∧ w' = w.drewN d := by
  have hx := fun W => ext112 W b
  have hm : (b : Int) % 4294967296 = (b : Int) := by omega
  rcases wide_same b (by omega) with ⟨s, m, e, h1, h2, r, h3, _⟩ | ⟨s, r, h1, h3, _⟩ | ⟨s, f, h1⟩
  · have hc := fun W => run_convert_float_float (P := Tryz.prog) W 238 136 .f32 .f64 b r (by kernel_rfl) Tryz.underlying136 h3
    go_enter Tryz.func62, Tryz.ntmps62
    go_wp2_with fail
    go_ret
    exact ⟨r, 0, rfl, .inr h3, rfl⟩
  · have hc := fun W => run_convert_float_float (P := Tryz.prog) W 238 136 .f32 .f64 b r (by kernel_rfl) Tryz.underlying136 h3
    go_enter Tryz.func62, Tryz.ntmps62
    go_wp2_with fail
    go_ret
    exact ⟨r, 0, rfl, .inr h3, rfl⟩
  · obtain ⟨r, hc, hn⟩ := conv_nan w b s f h1
    go_enter Tryz.func62, Tryz.ntmps62
    go_wp2_with fail
    go_ret
    exact ⟨r, 1, rfl, .inl ⟨⟨s, f, h1⟩, hn⟩, rfl⟩
section
open Ieee
/-- What a narrow word and its wide one read as. -/
inductive Kin : Datum → Datum → Prop
  | num (s : Bool) (m m' : Nat) (e e' : Int) : -149 ≤ e → -2000 ≤ e' → scaled s m' e' = scaled s m e → Kin (.number s m e) (.number s m' e')
  | inf (s : Bool) : Kin (.infinity s) (.infinity s)
  | nan (s s' : Bool) (f f' : Nat) : Kin (.nan s f) (.nan s' f')
theorem kin_of {b r : Nat} (hb : b < 4294967296) (h : Wid b r) : Kin (single.read b) (double.read r) := by
  rcases h with ⟨⟨s, f, h1⟩, s', f', h2⟩ | h
  · rw [h1, h2]; exact .nan _ _ _ _
  · rcases wide_same b (by omega) with ⟨s, m, e, h1, h2, r', h3, m', e', h4, h5, h6, _⟩ | ⟨s, r', h1, h3, h4, _⟩ | ⟨s, f, h1⟩
    · rw [h] at h3
      injection h3 with h3
      subst h3
      rw [h1, h4]
      exact .num _ _ _ _ _ h2 h5 h6
    · rw [h] at h3
      injection h3 with h3
      subst h3
      rw [h1, h4]
      exact .inf _
    · exfalso
      unfold floatToFloatBits at h
      rw [if_neg (by decide)] at h
      have hd : FloatKind.decode .f32 b = .nan s f := h1
      rw [hd] at h
      cases h
theorem kin_order {x x' y y' : Datum} (h : Kin x x') (k : Kin y y') : (Datum.order x' y' == some .eq) = (Datum.order x y == some .eq) := by
  cases h with
  | num s m m' e e' h1 h2 h3 =>
    cases k with
    | num t n n' i i' k1 k2 k3 => rw [order_eq _ _ _ _ _ _ h2 k2, order_eq _ _ _ _ _ _ (by omega) (by omega), h3, k3]
    | inf t => rfl
    | nan => rfl
  | inf s =>
    cases k with
    | num t n n' i i' k1 k2 k3 => rfl
    | inf t => rfl
    | nan => rfl
  | nan s s' f f' =>
    cases k <;> rfl
/-- Wide words of narrow ones are equal as these are. -/
theorem wid_eq {b b' r r' : Nat} (hb : b < 4294967296) (hb' : b' < 4294967296) (h : Wid b r) (h' : Wid b' r') : Op.floatEq .f64 r r' = Op.floatEq .f32 b b' :=
  kin_order (kin_of hb h) (kin_of hb' h')
end
end Go.Proofs.YtieidjlmgalihaaGreatDoor
