/- FnZTees: the row. -/
import Derived.Test.YtieidjlmgalihaaGreatDoorFrm2
import Derived.Test.YtieidjlmgalihaaGreatDoorTeesJ
import Derived.Test.YtieidjlmgalihaaGreatDoorOpnC
import Derived.Test.YtieidjlmgalihaaGreatDoorTeesL
set_option linter.all false
namespace Go.Proofs.YtieidjlmgalihaaGreatDoor
open Go.ChangeShapes Go.WideShapes Go.ChangeAt Go.RowKit
set_option maxRecDepth 100000
abbrev teesArgs : Array Value := #[.agg #[.int .i64 0, .int .i64 0, .slice none 0 0, .slice none 0 0], .agg #[.int .i64 0, .int .i64 0, .slice none 0 0, .slice none 0 0], .agg #[.int .i64 0, .int .i64 0, .slice none 0 0, .slice none 0 0], .slice none 0 0, .slice none 0 0]
theorem tees_okay (os : Os) : Input.okWideB Tryz.prog ((World.doorLaid Tryz.prog 72 os).forCall (fun _ _ => 0) ⟨#[], teesArgs, []⟩) 10 ⟨#[], teesArgs, []⟩ = true := by kernel_rfl
theorem tees_pre (os : Os) {H : Type} (enc : TypeId × Value → H) : Rows.fnZTeesSpec.preB enc Tryz.prog Tryz.f10 [] false ((World.doorLaid Tryz.prog 72 os).forCall (fun _ _ => 0) ⟨#[], teesArgs, []⟩).memory teesArgs 10 = true := by kernel_rfl
theorem tees_sized (os : Os) {H : Type} (enc : TypeId × Value → H) : Rows.fnZTeesSpec.sizedB enc Tryz.prog Tryz.f10 false ((World.doorLaid Tryz.prog 72 os).forCall (fun _ _ => 0) ⟨#[], teesArgs, []⟩).memory teesArgs 10 = true := by kernel_rfl
theorem tees_lifted (os : Os) (started : os.Started) (H : Type) (enc : TypeId × Value → H) :
    ReturnsInHanded {} Tryz.checked os 10 .any (fun w args => (Rows.fnZTeesSpec.pre enc Tryz.prog Tryz.f10 [] false w args ∧ laidMetH Tryz.prog six w) ∧ sizedMet enc Tryz.prog Tryz.f10 (OpenSpec.ofChange Rows.fnZTeesSpec) false w args)
      (Rows.fnZTeesSpec.post enc Tryz.prog Tryz.f10 false true false false) := by
  refine returnsInHanded_of_change_and (C := Tryz.checked) (X := fun w _ => laidMetH Tryz.prog six w) (fun _ _ _ hh h => h.of_heap hh) Tryz.own started (by kernel_rfl) Tryz.func10
    (ChangeSpec.witness_shaped (enc := enc) (C := Tryz.checked) (os := os) (X := fun w _ => laidMetH Tryz.prog six w) false (World.doorLaid Tryz.prog 72 os) teesArgs 10 rfl (door_shaped os _) (tees_okay os) (tees_pre os enc) (tees_sized os enc) (door_met os _)) ?_
  intro W base args ds gs before hval0 hW _ _ hL _
  have hval : ∀ (j : Nat) t v, Tryz.f10.params[j]? = some t → args[j]? = some v → Value.okWide Tryz.prog W .any base t v := hval0
  have hW' := hW
  obtain ⟨p, q, hA0, hV, rfl, hfz, hnd⟩ := hW
  have hA : DataW.TrodAll enc Tryz.prog W 0 (fun _ => true) true Tryz.f10.params.toList args.toList ds p := hA0
  rw [Tryz.params10] at hA hval
  obtain ⟨v0, v1, v2, v3, v4, d0, d1, d2, d3, d4, p0, p1, p2, p3, p4, rfl, rfl, rfl, h0, h1, h2, h3, h4⟩ := trodAll_five hA
  obtain ⟨k0, hco0⟩ := openCore (hval 0 69 v0 rfl rfl) h0
  obtain ⟨k1, hco1⟩ := openCore (hval 1 69 v1 rfl rfl) h1
  obtain ⟨k2, hco2⟩ := openCore (hval 2 69 v2 rfl rfl) h2
  obtain ⟨a3, n3, c3, es, rfl, hn3, hr3, hns⟩ := openEnts (hval 3 44 v3 rfl rfl) h3
  obtain ⟨k4, a4, n4, c4, fs, rfl, hn4, hr4, hf4⟩ := openFF (hval 4 70 v4 rfl rfl) h4
  obtain ⟨b0, rfl, hc0⟩ := hco0 (k0 + k1 + k2 + k4) (by omega)
  obtain ⟨b1, rfl, hc1⟩ := hco1 (k0 + k1 + k2 + k4) (by omega)
  obtain ⟨b2, rfl, hc2⟩ := hco2 (k0 + k1 + k2 + k4) (by omega)
  have lt0 : ∀ x ∈ p0, x.block < W.heap.size := by obtain ⟨m, hm⟩ := h0; exact DataW.trod_lt m _ _ _ hm
  have lt1 : ∀ x ∈ p1, x.block < W.heap.size := by obtain ⟨m, hm⟩ := h1; exact DataW.trod_lt m _ _ _ hm
  have lt2 : ∀ x ∈ p2, x.block < W.heap.size := by obtain ⟨m, hm⟩ := h2; exact DataW.trod_lt m _ _ _ hm
  have lt3 : ∀ x ∈ p3, x.block < W.heap.size := by obtain ⟨m, hm⟩ := h3; exact DataW.trod_lt m _ _ _ hm
  have lt4 : ∀ x ∈ p4, x.block < W.heap.size := by obtain ⟨m, hm⟩ := h4; exact DataW.trod_lt m _ _ _ hm
  have htab := tab_of_laid hL
  obtain ⟨g1', g2', g3', rfl⟩ : ∃ g1 g2 g3, gs = [g1, g2, g3] := by
    have := hV
    match gs, this with
    | [g1, g2, g3], _ => exact ⟨_, _, _, rfl⟩
  clear hA0 hval0
  refine (tees_true (k0 + k1 + k2 + k4) (k0 + k1 + k2) W b0 b1 b2 a3 a4 n3 c3 n4 c4 es fs (hc0.le (by omega)) (hc1.le (by omega)) (hc2.le (by omega)) ⟨hn3, hn4, hr3, hns, hr4, fun i hi => (hf4 i hi).le (by omega)⟩ htab).mono fun e W' ⟨he, bel⟩ => ?_
  subst he
  refine ⟨_, rfl, ?_⟩
  exact ⟨_, _, _, [], _, q, hW', trodAll_mk1 (shut_bool Tryz.underlying4 _), trodAll_mk5 (Below.trod Tryz.laidOut (by kernel_rfl) (of_decide_eq_true (by kernel_rfl)) h0 bel lt0) (Below.trod Tryz.laidOut (by kernel_rfl) (of_decide_eq_true (by kernel_rfl)) h1 bel lt1) (Below.trod Tryz.laidOut (by kernel_rfl) (of_decide_eq_true (by kernel_rfl)) h2 bel lt2) (Below.trod Tryz.laidOut (by kernel_rfl) (of_decide_eq_true (by kernel_rfl)) h3 bel lt3) (Below.trod Tryz.laidOut (by kernel_rfl) (of_decide_eq_true (by kernel_rfl)) h4 bel lt4), Below.trodVars Tryz.laidOut bel Tryz.rowed hV, bel.frame _, fun h => by cases h⟩
theorem tees_inst : Tryz.f10.isInstance Tryz.prog Rows.fnZTeesRow.origin Rows.fnZTeesRow.targs := of_decide_eq_true (by kernel_rfl)
theorem tees_wrap : Tryz.f10.isWrapper Tryz.prog Rows.fnZTeesRow.wrapper Rows.fnZTeesRow.mainSum := by unfold Func.isWrapper; first | (rw [if_pos (by decide +kernel)]; kernel_rfl) | (rw [if_neg (by decide +kernel)]; exact ⟨rfl, rfl⟩)
theorem tees_name : Tryz.prog.funcNamed "given.example/pub-quill/laws.FnZTees" = some 10 := by kernel_rfl
theorem tees_row : Rows.FnZTeesSaid :=
  OpenClaim.holds_of_wide 10 Tryz.f10 rfl rfl rfl rfl rfl rfl rfl ⟨rfl, rfl, rfl, rfl, rfl⟩ rfl rfl rfl rfl rfl tees_name Tryz.func10 tees_joined tees_inst tees_wrap
    (fun os started H enc _ => tees_lifted os started H enc)
end Go.Proofs.YtieidjlmgalihaaGreatDoor
