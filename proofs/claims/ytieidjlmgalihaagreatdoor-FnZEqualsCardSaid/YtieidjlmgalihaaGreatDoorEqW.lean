/- ZSameField says of two fields what is said plainly. -/
import Derived.Test.YtieidjlmgalihaaGreatDoorEqV
import Derived.Test.YtieidjlmgalihaaGreatDoorEqM
import Derived.Test.YtieidjlmgalihaaGreatDoorEqR
import Derived.Test.YtieidjlmgalihaaGreatDoorZcx
set_option linter.all false
namespace Go.Proofs.YtieidjlmgalihaaGreatDoor
open Go.RowKit
set_option maxRecDepth 100000
/-- ZSameField. -/
theorem zsf_pair (w : World) (a b : FT) (ha : a.ok w) (hb : b.ok w) (F : Fine1 a.f) (G : Fine1 b.f) (R : Rng a.f) (S : Rng b.f) : Calls Tryz.prog 23 #[.agg a.f.arr, .agg b.f.arr] w (BoolIs (zeq a b) w) := by
  by_cases hk : a.f.kind = b.f.kind
  · by_cases hK : (a.f.key.toList == b.f.key.toList) = true
    · have e : zeq a b = zeqV a b := by unfold zeq; rw [hK, hk]; simp
      rw [e]
      have kids : ∀ W, Below w.heap.size w W → Calls Tryz.prog 33 #[.slice a.f.iA a.f.ilen a.f.ic, .slice b.f.iA b.f.ilen b.f.ic] W (BoolIs (alikeL a.kids b.kids) W) := fun W hW =>
        sameFields_any (SizeOf.sizeOf a.kids + 1) W _ _ _ _ _ _ a.kids b.kids (by omega) (FT.ok_kids (FT.ok_below hW a ha)) (FT.ok_kids (FT.ok_below hW b hb))
      obtain ⟨_, lx, rx⟩ := FT.ok_bytes ha
      obtain ⟨_, ly, ry⟩ := FT.ok_bytes hb
      have hf := F.flo
      have hg := G.flo
      rcases kinds F with h1 | h1 | h1 | h1 | h1 | h1 | h1 | h1 | h1 | h1 | h1 | h1 | h1 | h1 | h1 | h1 | h1 | h1 | h1
      all_goals have h2 := hk.symm.trans h1
      · rw [show zeqV a b = true by simp [zeqV, h1]]; exact zsf_skip w _ _ h1 h2 hK
      · rw [show zeqV a b = ((a.f.int != 0) == (b.f.int != 0)) by simp [zeqV, h1]]; exact zsf_bool w _ _ h1 h2 hK
      · rw [show zeqV a b = (a.f.width == b.f.width && a.f.int == b.f.int) by simp [zeqV, h1]]; exact zsf_int w _ _ h1 h2 hK
      · rw [show zeqV a b = (a.f.width == b.f.width && a.f.uint == b.f.uint) by simp [zeqV, h1]]; exact zsf_uint w _ _ h1 h2 hK
      · rw [show zeqV a b = (a.f.uint == b.f.uint) by simp [zeqV, h1]]; exact zsf_uptr w _ _ h1 h2 hK
      · rw [show zeqV a b = (a.f.width == b.f.width && a.f.re == b.f.re) by simp [zeqV, h1]]; exact zsf_float w _ _ h1 h2 hK R.r0 (fun h => by rcases hf (Or.inl h1) with e | ⟨_, e, _⟩ <;> omega) S.r0 (fun h => by rcases hg (Or.inl h2) with e | ⟨_, e, _⟩ <;> omega)
      · rw [show zeqV a b = (a.f.width == b.f.width && cEq a.f b.f) by simp [zeqV, h1]]; exact zsf_cpx w _ _ h1 h2 hK F G R S
      · rw [show zeqV a b = (a.f.text.toList == b.f.text.toList) by simp [zeqV, h1]]; exact zsf_str w _ _ h1 h2 hK
      · rw [show zeqV a b = (a.bs == b.bs) by simp [zeqV, h1]]; exact zsf_bstr w _ _ h1 h2 hK _ _ lx ly rx ry
      · rw [show zeqV a b = (a.bs == b.bs) by simp [zeqV, h1]]; exact zsf_bin w _ _ h1 h2 hK _ _ lx ly rx ry
      · rw [show zeqV a b = (a.f.int == b.f.int) by simp [zeqV, h1]]; exact zsf_dur w _ _ h1 h2 hK
      · rw [show zeqV a b = momEq a.f b.f by simp [zeqV, h1]]; exact zsf_time w _ _ h1 h2 hK (F.tim h1)
      · rw [show zeqV a b = (a.f.text.toList == b.f.text.toList) by simp [zeqV, h1]]; exact zsf_err w _ _ h1 h2 hK
      · rw [show zeqV a b = (a.f.text.toList == b.f.text.toList) by simp [zeqV, h1]]; exact zsf_strg w _ _ h1 h2 hK
      · rw [show zeqV a b = true by simp [zeqV, h1]]; exact zsf_ns w _ _ h1 h2 hK
      · rw [show zeqV a b = (a.f.fail.toList == b.f.fail.toList && alikeL a.kids b.kids) by simp [zeqV, h1]]; exact zsf_arr w _ _ h1 h2 hK _ kids
      · rw [show zeqV a b = (a.f.fail.toList == b.f.fail.toList && alikeL a.kids b.kids) by simp [zeqV, h1]]; exact zsf_obj w _ _ h1 h2 hK _ kids
      · rw [show zeqV a b = false by simp [zeqV, h1]]; exact zsf_inl w _ _ h1 h2 hK
      · rw [show zeqV a b = false by simp [zeqV, h1]]; exact zsf_errs w _ _ h1 h2 hK
    · have hK' : (a.f.key.toList == b.f.key.toList) = false := by simpa using hK
      have e : zeq a b = false := by unfold zeq; rw [hK']; simp
      rw [e]
      exact zsf_key w _ _ hk hK'
  · have h1 : (a.f.kind == b.f.kind) = false := by simpa using hk
    have e : zeq a b = false := by unfold zeq; rw [h1]; simp
    rw [e]
    exact zsf_kind w _ _ (by simpa using hk)
end Go.Proofs.YtieidjlmgalihaaGreatDoor
