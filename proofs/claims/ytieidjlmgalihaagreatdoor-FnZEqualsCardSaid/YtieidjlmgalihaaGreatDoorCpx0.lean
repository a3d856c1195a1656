/- Complex numbers, as the program makes them. -/
import Derived.Test.YtieidjlmgalihaaGreatDoorFld
import Derived.Test.YtieidjlmgalihaaGreatDoorEqF
set_option linter.all false
namespace Go.Proofs.YtieidjlmgalihaaGreatDoor
open Go.RowKit
set_option maxRecDepth 100000
theorem cx113 (W : World) (b : Nat) : (callFunc 113 #[.int .u64 (b : Int)]).run Tryz.prog W = .ok (.value (.float .f64 b)) W := by kernel_rfl
theorem cx112 (W : World) (b : Nat) : (callFunc 112 #[.int .u32 (b : Int)]).run Tryz.prog W = .ok (.value (.float .f32 b)) W := by kernel_rfl
set_option maxHeartbeats 4000000 in
theorem complex64 (w : World) (f : Fld) (hw : (f.width == 32) = false) (h0 : 0 ≤ f.re) (h1 : 0 ≤ f.im) : Calls Tryz.prog 107 #[.agg f.arr] w fun e w' => e = .returned (.complex .f64 f.re.toNat f.im.toNat) ∧ Below w.heap.size w w' := by
  obtain ⟨kind, key, width, int, uint, re, im, text, bA, bn, bc, zero, nanos, offset, zone, iA, ilen, ic, fail⟩ := f
  simp only at hw h0 h1
  obtain ⟨a, rfl⟩ : ∃ a : Nat, re = (a : Int) := ⟨re.toNat, by omega⟩
  obtain ⟨b, rfl⟩ : ∃ b : Nat, im = (b : Int) := ⟨im.toNat, by omega⟩
  have hx := fun W => cx113 W a
  have hy := fun W => cx113 W b
  go_enter Tryz.func107, Tryz.ntmps107
  go_wp2_with fail
  go_region_held3 (fun w' => w'.cell? ⟨w.heap.size, 5, none⟩ = some (.int .u64 (a : Int)) ∧ w'.cell? ⟨w.heap.size, 6, none⟩ = some (.int .u64 (b : Int))) (go_keep) (fail)
  all_goals go_wp2_with fail
  all_goals go_ret
  all_goals exact ⟨rfl, by go_grown⟩
theorem ff_bits (W : World) (s k : FloatKind) (b r : Nat) (h : floatToFloatBits s b k = some r) : (Conv.floatToFloat s b k).run Tryz.prog W = .ok (.float k r) W := by
  unfold floatToFloatBits at h
  split at h
  · rename_i e; cases h
    simp [Conv.floatToFloat, e]
  · rename_i ne
    split at h
    · cases h
    · rename_i sg he; cases h
      simp [Conv.floatToFloat, ne, he]
    · rename_i sg m e he
      split at h
      · cases h
      · rename_i ho; cases h
        simp [Conv.floatToFloat, ne, he, ho]
theorem q64 (b t : Nat) : ∃ s f, Ieee.double.read (Question.cut (.nanConv .f64 b) t) = .nan s f := by
  have hsw : Ieee.double.signWeight = 9223372036854775808 := by decide
  have hbi : Ieee.double.binade = 4503599627370496 := by decide
  have hin : Ieee.double.infRung = 9218868437227405312 := by decide
  have hc : Question.cut (.nanConv .f64 b) t = (t % 2) * 9223372036854775808 + 9218868437227405312 + 1 + (t / 2) % 4503599627370495 := rfl
  rw [hc]
  unfold Ieee.Format.read
  simp only [hsw, hbi, hin]
  have h1 : (t / 2) % 4503599627370495 < 4503599627370495 := Nat.mod_lt _ (by omega)
  generalize (t / 2) % 4503599627370495 = x at *
  generalize t % 2 = y at *
  have e : (y * 9223372036854775808 + 9218868437227405312 + 1 + x) % 9223372036854775808 = 9218868437227405313 + x := by omega
  rw [e, if_neg (by omega), if_neg (by omega), if_neg (by omega)]
  exact ⟨_, _, rfl⟩
theorem q32 (b t : Nat) : ∃ s f, Ieee.single.read (Question.cut (.nanConv .f32 b) t) = .nan s f := by
  have hsw : Ieee.single.signWeight = 2147483648 := by decide
  have hbi : Ieee.single.binade = 8388608 := by decide
  have hin : Ieee.single.infRung = 2139095040 := by decide
  have hc : Question.cut (.nanConv .f32 b) t = (t % 2) * 2147483648 + 2139095040 + 1 + (t / 2) % 8388607 := rfl
  rw [hc]
  unfold Ieee.Format.read
  simp only [hsw, hbi, hin]
  have h1 : (t / 2) % 8388607 < 8388607 := Nat.mod_lt _ (by omega)
  generalize (t / 2) % 8388607 = x at *
  generalize t % 2 = y at *
  have e : (y * 2147483648 + 2139095040 + 1 + x) % 2147483648 = 2139095041 + x := by omega
  rw [e, if_neg (by omega), if_neg (by omega), if_neg (by omega)]
  exact ⟨_, _, rfl⟩
/-- A word of 32 bits and its wide one, of which it can be made again. -/
def Wd (b r : Nat) : Prop := ((∃ s f, Ieee.single.read b = .nan s f) ∧ ∃ s f, Ieee.double.read r = .nan s f) ∨ floatToFloatBits .f64 r .f32 = some b
/-- A word of 32 bits, behind wide and narrow. -/
def Nar (b r : Nat) : Prop := ((∃ s f, Ieee.single.read b = .nan s f) ∧ ∃ s f, Ieee.single.read r = .nan s f) ∨ r = b
theorem ff_wide (b : Nat) (hb : b < 4294967296) (W : World) : ∃ r d, (Conv.floatToFloat .f32 b .f64).run Tryz.prog W = .ok (.float .f64 r) (W.drewN d) ∧ Wd b r := by
  rcases wide_same b (by omega) with ⟨s, m, e, h1, h2, r, h3, m', e', _, _, _, h4⟩ | ⟨s, r, h1, h3, _, h4⟩ | ⟨s, f, h1⟩
  · exact ⟨r, 0, ff_bits W _ _ _ _ h3, .inr h4⟩
  · exact ⟨r, 0, ff_bits W _ _ _ _ h3, .inr h4⟩
  · have hd : FloatKind.decode .f32 b = .nan s f := h1
    refine ⟨Question.cut (.nanConv .f64 b) (W.tape W.drawn (.nanConv .f64 b)), 1, ?_, .inl ⟨⟨s, f, h1⟩, q64 _ _⟩⟩
    simp [Conv.floatToFloat, hd]
    rw [if_neg (by simp [Question.forced])]
    rfl
theorem ff_back (b r : Nat) (h : Wd b r) (W : World) : ∃ r' d, (Conv.floatToFloat .f64 r .f32).run Tryz.prog W = .ok (.float .f32 r') (W.drewN d) ∧ Nar b r' := by
  rcases h with ⟨h1, s, f, h2⟩ | h
  · have hd : FloatKind.decode .f64 r = .nan s f := h2
    refine ⟨Question.cut (.nanConv .f32 r) (W.tape W.drawn (.nanConv .f32 r)), 1, ?_, .inl ⟨h1, q32 _ _⟩⟩
    simp [Conv.floatToFloat, hd]
    rw [if_neg (by simp [Question.forced])]
    rfl
  · exact ⟨b, 0, ff_bits W _ _ _ _ h, .inr rfl⟩
theorem cc_wide (a b : Nat) (ha : a < 4294967296) (hb : b < 4294967296) (W : World) : ∃ r i d, (convert 233 231 (.complex .f32 a b)).run Tryz.prog W = .ok (.complex .f64 r i) (W.drewN d) ∧ Wd a r ∧ Wd b i := by
  obtain ⟨r, d, h1, k1⟩ := ff_wide a ha W
  obtain ⟨i, e, h2, k2⟩ := ff_wide b hb (W.drewN d)
  refine ⟨r, i, d + e, ?_, k1, k2⟩
  have hdd : (W.drewN d).drewN e = W.drewN (d + e) := by simp [World.drewN, Nat.add_assoc]
  rw [hdd] at h2
  simp [convert, run_underlying Tryz.underlying233, run_underlying Tryz.underlying231, Conv.complexToComplex, h1, h2]
theorem cc_back (a b r i : Nat) (ha : Wd a r) (hb : Wd b i) (W : World) : ∃ r' i' d, (convert 231 233 (.complex .f64 r i)).run Tryz.prog W = .ok (.complex .f32 r' i') (W.drewN d) ∧ Nar a r' ∧ Nar b i' := by
  obtain ⟨r', d, h1, k1⟩ := ff_back a r ha W
  obtain ⟨i', e, h2, k2⟩ := ff_back b i hb (W.drewN d)
  refine ⟨r', i', d + e, ?_, k1, k2⟩
  have hdd : (W.drewN d).drewN e = W.drewN (d + e) := by simp [World.drewN, Nat.add_assoc]
  rw [hdd] at h2
  simp [convert, run_underlying Tryz.underlying233, run_underlying Tryz.underlying231, Conv.complexToComplex, h1, h2]
open Ieee in
theorem nar_eq {b b' r r' : Nat} (h : Nar b r) (h' : Nar b' r') : Op.floatEq .f32 r r' = Op.floatEq .f32 b b' := by
  unfold Op.floatEq Format.order
  show (Datum.order (single.read r) (single.read r') == some .eq) = (Datum.order (single.read b) (single.read b') == some .eq)
  rcases h with ⟨⟨s, f, h1⟩, s2, f2, h2⟩ | rfl
  · rw [h1, h2]
    rfl
  · rcases h' with ⟨⟨s, f, h1⟩, s2, f2, h2⟩ | rfl
    · rw [h1, h2]
      cases single.read r <;> rfl
    · rfl
end Go.Proofs.YtieidjlmgalihaaGreatDoor
