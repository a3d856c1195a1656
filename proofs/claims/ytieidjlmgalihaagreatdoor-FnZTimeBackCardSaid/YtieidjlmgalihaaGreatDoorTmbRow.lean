/- FnZTimeBack: the row. -/
import Derived.Test.YtieidjlmgalihaaGreatDoorFrm3
import Derived.Test.YtieidjlmgalihaaGreatDoorTmbJ
import Derived.Test.YtieidjlmgalihaaGreatDoorOpn
import Derived.Test.YtieidjlmgalihaaGreatDoorTbY
set_option linter.all false
namespace Go.Proofs.YtieidjlmgalihaaGreatDoor
open Go.ChangeShapes Go.WideShapes Go.ChangeAt Go.RowKit
set_option maxRecDepth 100000
abbrev tmbArgs : Array Value := #[.agg #[.bool false, .int .i64 0, .int .i64 0, .string ⟨#[]⟩]]
theorem tmb_okay (os : Os) : Input.okWideB Tryz.prog ((World.laidAll Tryz.prog os eight).forCall (fun _ _ => 0) ⟨#[], tmbArgs, []⟩) 3 ⟨#[], tmbArgs, []⟩ = true := by kernel_rfl
theorem tmb_pre (os : Os) {H : Type} (enc : TypeId × Value → H) : Rows.fnZTimeBackSpec.preB enc Tryz.prog Tryz.f3 [] false ((World.laidAll Tryz.prog os eight).forCall (fun _ _ => 0) ⟨#[], tmbArgs, []⟩).memory tmbArgs 8 = true := by kernel_rfl
theorem tmb_sized (os : Os) {H : Type} (enc : TypeId × Value → H) : Rows.fnZTimeBackSpec.sizedB enc Tryz.prog Tryz.f3 false ((World.laidAll Tryz.prog os eight).forCall (fun _ _ => 0) ⟨#[], tmbArgs, []⟩).memory tmbArgs 8 = true := by kernel_rfl
theorem tmb_lifted (os : Os) (started : os.Started) (H : Type) (enc : TypeId × Value → H) :
    ReturnsInHanded {} Tryz.checked os 3 .any (fun w args => (Rows.fnZTimeBackSpec.pre enc Tryz.prog Tryz.f3 [] false w args ∧ laidMetH Tryz.prog eight w) ∧ sizedMet enc Tryz.prog Tryz.f3 (OpenSpec.ofChange Rows.fnZTimeBackSpec) false w args)
      (Rows.fnZTimeBackSpec.post enc Tryz.prog Tryz.f3 false true false false) := by
  refine returnsInHanded_of_change_and (C := Tryz.checked) (X := fun w _ => laidMetH Tryz.prog eight w) (fun _ _ _ hh h => h.of_heap hh) Tryz.own started (by kernel_rfl) Tryz.func3
    (ChangeSpec.witness_shaped (enc := enc) (C := Tryz.checked) (os := os) (X := fun w _ => laidMetH Tryz.prog eight w) false (World.laidAll Tryz.prog os eight) tmbArgs 8 (World.laidAll_os _ _ _) (laid_shaped8 os _) (tmb_okay os) (tmb_pre os enc) (tmb_sized os enc) (door_met8 os _)) ?_
  intro W base args ds gs before hval0 hW _ _ hL _
  have hval : ∀ (j : Nat) t v, Tryz.f3.params[j]? = some t → args[j]? = some v → Value.okWide Tryz.prog W .any base t v := hval0
  have hW' := hW
  obtain ⟨p, q, hA0, hV, rfl, hfz, hnd⟩ := hW
  have hA : DataW.TrodAll enc Tryz.prog W 0 (fun _ => true) true Tryz.f3.params.toList args.toList ds p := hA0
  rw [Tryz.params3] at hA hval
  obtain ⟨v0, d0, rfl, rfl, h0⟩ := trodAll_one hA
  obtain ⟨cs, rfl, _⟩ := okWide_struct Tryz.underlying23 (hval 0 23 v0 rfl rfl)
  obtain ⟨m0, hm0⟩ := h0
  obtain ⟨z, n, o, zn, hc0, n0, n1⟩ := openMom hm0
  obtain rfl : cs = #[.bool z, .int .i64 n, .int .i64 o, .string zn] := Array.toList_inj.1 hc0
  have htab := tab_of_laid8 hL
  obtain ⟨g1', g2', g3', rfl⟩ : ∃ g1 g2 g3, gs = [g1, g2, g3] := by
    have := hV
    match gs, this with
    | [g1, g2, g3], _ => exact ⟨_, _, _, rfl⟩
  have lt0 : ∀ x ∈ p, x.block < W.heap.size := DataW.trod_lt m0 _ _ _ hm0
  clear hA0 hval0 hval
  refine (tb_true W z n o zn n0 n1 htab).mono fun e W' ⟨he, bel⟩ => ?_
  subst he
  refine ⟨_, rfl, ?_⟩
  exact ⟨_, _, _, [], _, q, hW', trodAll_mk1 (shut_bool Tryz.underlying4 _), trodAll_mk1 (Below.trod Tryz.laidOut (by kernel_rfl) (of_decide_eq_true (by kernel_rfl)) ⟨m0, hm0⟩ bel lt0), Below.trodVars Tryz.laidOut bel Tryz.rowed hV, bel.frame _, fun h => by cases h⟩
theorem tmb_inst : Tryz.f3.isInstance Tryz.prog Rows.fnZTimeBackRow.origin Rows.fnZTimeBackRow.targs := of_decide_eq_true (by kernel_rfl)
theorem tmb_wrap : Tryz.f3.isWrapper Tryz.prog Rows.fnZTimeBackRow.wrapper Rows.fnZTimeBackRow.mainSum := by unfold Func.isWrapper; first | (rw [if_pos (by decide +kernel)]; kernel_rfl) | (rw [if_neg (by decide +kernel)]; exact ⟨rfl, rfl⟩)
theorem tmb_name : Tryz.prog.funcNamed "given.example/pub-quill/laws.FnZTimeBack" = some 3 := by kernel_rfl
theorem tmb_row : Rows.FnZTimeBackSaid :=
  OpenClaim.holds_of_wide 3 Tryz.f3 rfl rfl rfl rfl rfl rfl rfl ⟨rfl, rfl, rfl, rfl, rfl⟩ rfl rfl rfl rfl rfl tmb_name Tryz.func3 tmb_joined tmb_inst tmb_wrap
    (fun os started H enc _ => tmb_lifted os started H enc)
end Go.Proofs.YtieidjlmgalihaaGreatDoor
