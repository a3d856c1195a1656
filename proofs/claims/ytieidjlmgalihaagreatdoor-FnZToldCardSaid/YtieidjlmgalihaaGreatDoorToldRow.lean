/- FnZTold: the row. -/
import Derived.Test.YtieidjlmgalihaaGreatDoorFrm
import Derived.Test.YtieidjlmgalihaaGreatDoorFrm2
import Derived.Test.YtieidjlmgalihaaGreatDoorTJ
import Derived.Test.YtieidjlmgalihaaGreatDoorOpn
import Derived.Test.YtieidjlmgalihaaGreatDoorWk16
namespace Go.Proofs.YtieidjlmgalihaaGreatDoor
open Go.ChangeShapes Go.WideShapes Go.ChangeAt Go.RowKit
set_option maxRecDepth 100000
theorem told_okay (os : Os) : Input.okWideB Tryz.prog ((World.doorLaid Tryz.prog 72 os).forCall (fun _ _ => 0) ⟨#[], #[.slice none 0 0, .slice none 0 0], []⟩) 5 ⟨#[], #[.slice none 0 0, .slice none 0 0], []⟩ = true := by kernel_rfl
theorem told_pre (os : Os) {H : Type} (enc : TypeId × Value → H) : Rows.fnZToldSpec.preB enc Tryz.prog Tryz.f5 [] false ((World.doorLaid Tryz.prog 72 os).forCall (fun _ _ => 0) ⟨#[], #[.slice none 0 0, .slice none 0 0], []⟩).memory #[.slice none 0 0, .slice none 0 0] 8 = true := by kernel_rfl
theorem told_sized (os : Os) {H : Type} (enc : TypeId × Value → H) : Rows.fnZToldSpec.sizedB enc Tryz.prog Tryz.f5 false ((World.doorLaid Tryz.prog 72 os).forCall (fun _ _ => 0) ⟨#[], #[.slice none 0 0, .slice none 0 0], []⟩).memory #[.slice none 0 0, .slice none 0 0] 8 = true := by kernel_rfl
theorem told_lifted (os : Os) (started : os.Started) (H : Type) (enc : TypeId × Value → H) :
    ReturnsInHanded {} Tryz.checked os 5 .any (fun w args => (Rows.fnZToldSpec.pre enc Tryz.prog Tryz.f5 [] false w args ∧ laidMetH Tryz.prog six w) ∧ sizedMet enc Tryz.prog Tryz.f5 (OpenSpec.ofChange Rows.fnZToldSpec) false w args)
      (Rows.fnZToldSpec.post enc Tryz.prog Tryz.f5 false true false false) := by
  refine returnsInHanded_of_change_and (C := Tryz.checked) (X := fun w _ => laidMetH Tryz.prog six w) (fun _ _ _ hh h => h.of_heap hh) Tryz.own started (by kernel_rfl) Tryz.func5
    (ChangeSpec.witness_shaped (enc := enc) (C := Tryz.checked) (os := os) (X := fun w _ => laidMetH Tryz.prog six w) false (World.doorLaid Tryz.prog 72 os) #[.slice none 0 0, .slice none 0 0] 8 rfl (door_shaped os _) (told_okay os) (told_pre os enc) (told_sized os enc) (door_met os _)) ?_
  intro W base args ds gs before hval0 hW _ _ hL _
  have hval : ∀ (j : Nat) t v, Tryz.f5.params[j]? = some t → args[j]? = some v → Value.okWide Tryz.prog W .any base t v := hval0
  have hW' := hW
  obtain ⟨p, q, hA0, hV, rfl, hfz, hnd⟩ := hW
  have hA : DataW.TrodAll enc Tryz.prog W 0 (fun _ => true) true Tryz.f5.params.toList args.toList ds p := hA0
  rw [Tryz.params5] at hA hval
  obtain ⟨v0, v1, d0, d1, p0, p1, rfl, rfl, rfl, h0, h1⟩ := trodAll_two hA
  obtain ⟨a0, n0, c0, lv, rfl, hn0, hr0⟩ := openInts (hval 0 43 v0 rfl rfl) h0
  obtain ⟨a1, n1, c1, es, rfl, hn1, hr1, hns⟩ := openEnts (hval 1 44 v1 rfl rfl) h1
  have lt0 : ∀ x ∈ p0, x.block < W.heap.size := by obtain ⟨m, hm⟩ := h0; exact DataW.trod_lt m _ _ _ hm
  have lt1 : ∀ x ∈ p1, x.block < W.heap.size := by obtain ⟨m, hm⟩ := h1; exact DataW.trod_lt m _ _ _ hm
  have htab := tab_of_laid hL
  obtain ⟨g1, g2, g3, rfl⟩ : ∃ g1 g2 g3, gs = [g1, g2, g3] := by
    have := hV
    match gs, this with
    | [g1, g2, g3], _ => exact ⟨_, _, _, rfl⟩
  clear hA0 hval0
  refine (told_true W a0 a1 n0 c0 n1 c1 lv es hn0 hn1 hr0 hr1 hns htab).mono fun e W' ⟨he, bel⟩ => ?_
  subst he
  refine ⟨_, rfl, ?_⟩
  exact ⟨_, _, _, [], _, q, hW', trodAll_mk1 (shut_bool Tryz.underlying4 _), trodAll_mk2 (Below.trod Tryz.laidOut (by kernel_rfl) (of_decide_eq_true (by kernel_rfl)) h0 bel lt0) (Below.trod Tryz.laidOut (by kernel_rfl) (of_decide_eq_true (by kernel_rfl)) h1 bel lt1), Below.trodVars Tryz.laidOut bel Tryz.rowed hV, bel.frame _, fun h => by cases h⟩
theorem told_inst : Tryz.f5.isInstance Tryz.prog Rows.fnZToldRow.origin Rows.fnZToldRow.targs := of_decide_eq_true (by kernel_rfl)
theorem told_wrap : Tryz.f5.isWrapper Tryz.prog Rows.fnZToldRow.wrapper Rows.fnZToldRow.mainSum := by unfold Func.isWrapper; first | (rw [if_pos (by decide +kernel)]; kernel_rfl) | (rw [if_neg (by decide +kernel)]; exact ⟨rfl, rfl⟩)
theorem told_name : Tryz.prog.funcNamed "given.example/pub-quill/laws.FnZTold" = some 5 := by kernel_rfl
theorem told_row : Rows.FnZToldSaid :=
  OpenClaim.holds_of_wide 5 Tryz.f5 rfl rfl rfl rfl rfl rfl rfl ⟨rfl, rfl, rfl, rfl, rfl⟩ rfl rfl rfl rfl rfl told_name Tryz.func5 told_joined told_inst told_wrap
    (fun os started H enc _ => told_lifted os started H enc)
end Go.Proofs.YtieidjlmgalihaaGreatDoor
