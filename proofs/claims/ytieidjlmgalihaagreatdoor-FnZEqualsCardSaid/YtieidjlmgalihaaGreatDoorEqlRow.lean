/- FnZEquals: the row. -/
import Derived.Test.YtieidjlmgalihaaGreatDoorFrm2
import Derived.Test.YtieidjlmgalihaaGreatDoorEqlJ
import Derived.Test.YtieidjlmgalihaaGreatDoorOpnE
import Derived.Test.YtieidjlmgalihaaGreatDoorEqlL
set_option linter.all false
namespace Go.Proofs.YtieidjlmgalihaaGreatDoor
open Go.ChangeShapes Go.WideShapes Go.ChangeAt Go.RowKit
set_option maxRecDepth 100000
theorem FldOk.upn {k : Nat} {w : World} {f : Fld} (h : FldOk k w f) : ∀ {j : Nat}, FldOk (k + j) w f
  | 0 => h
  | j + 1 => (FldOk.upn h (j := j)).up
abbrev eqlArgs : Array Value := #[.agg #[.int .i64 0, .string ⟨#[]⟩, .int .i64 0, .int .i64 0, .int .u64 0, .int .u64 0, .int .u64 0, .string ⟨#[]⟩, .slice none 0 0, .bool false, .int .i64 0, .int .i64 0, .string ⟨#[]⟩, .slice none 0 0, .string ⟨#[]⟩], .agg #[.int .i64 0, .string ⟨#[]⟩, .int .i64 0, .int .i64 0, .int .u64 0, .int .u64 0, .int .u64 0, .string ⟨#[]⟩, .slice none 0 0, .bool false, .int .i64 0, .int .i64 0, .string ⟨#[]⟩, .slice none 0 0, .string ⟨#[]⟩]]
theorem eql_okay (os : Os) : Input.okWideB Tryz.prog ((World.doorLaid Tryz.prog 72 os).forCall (fun _ _ => 0) ⟨#[], eqlArgs, []⟩) 4 ⟨#[], eqlArgs, []⟩ = true := by kernel_rfl
theorem eql_pre (os : Os) {H : Type} (enc : TypeId × Value → H) : Rows.fnZEqualsSpec.preB enc Tryz.prog Tryz.f4 [] false ((World.doorLaid Tryz.prog 72 os).forCall (fun _ _ => 0) ⟨#[], eqlArgs, []⟩).memory eqlArgs 4 = true := by kernel_rfl
theorem eql_sized (os : Os) {H : Type} (enc : TypeId × Value → H) : Rows.fnZEqualsSpec.sizedB enc Tryz.prog Tryz.f4 false ((World.doorLaid Tryz.prog 72 os).forCall (fun _ _ => 0) ⟨#[], eqlArgs, []⟩).memory eqlArgs 4 = true := by kernel_rfl
theorem eql_lifted (os : Os) (started : os.Started) (H : Type) (enc : TypeId × Value → H) :
    ReturnsInHanded {} Tryz.checked os 4 .any (fun w args => (Rows.fnZEqualsSpec.pre enc Tryz.prog Tryz.f4 [] false w args ∧ laidMetH Tryz.prog six w) ∧ sizedMet enc Tryz.prog Tryz.f4 (OpenSpec.ofChange Rows.fnZEqualsSpec) false w args)
      (Rows.fnZEqualsSpec.post enc Tryz.prog Tryz.f4 false true false false) := by
  refine returnsInHanded_of_change_and (C := Tryz.checked) (X := fun w _ => laidMetH Tryz.prog six w) (fun _ _ _ hh h => h.of_heap hh) Tryz.own started (by kernel_rfl) Tryz.func4
    (ChangeSpec.witness_shaped (enc := enc) (C := Tryz.checked) (os := os) (X := fun w _ => laidMetH Tryz.prog six w) false (World.doorLaid Tryz.prog 72 os) eqlArgs 4 rfl (door_shaped os _) (eql_okay os) (eql_pre os enc) (eql_sized os enc) (door_met os _)) ?_
  intro W base args ds gs before hval0 hW _ _ hL _
  have hval : ∀ (j : Nat) t v, Tryz.f4.params[j]? = some t → args[j]? = some v → Value.okWide Tryz.prog W .any base t v := hval0
  have hW' := hW
  obtain ⟨p, q, hA0, hV, rfl, hfz, hnd⟩ := hW
  have hA : DataW.TrodAll enc Tryz.prog W 0 (fun _ => true) true Tryz.f4.params.toList args.toList ds p := hA0
  rw [Tryz.params4] at hA hval
  obtain ⟨v0, v1, d0, d1, p0, p1, rfl, rfl, rfl, h0, h1⟩ := trodAll_two hA
  obtain ⟨k0, f0, rfl, ho0, hb0⟩ := openField (hval 0 39 v0 rfl rfl) h0
  obtain ⟨k1, f1, rfl, ho1, hb1⟩ := openField (hval 1 39 v1 rfl rfl) h1
  have up0 : FldOk (k0 + k1) W f0 := FldOk.upn ho0
  have up1 : FldOk (k0 + k1) W f1 := by
    rw [Nat.add_comm]
    exact FldOk.upn ho1
  have lt0 : ∀ x ∈ p0, x.block < W.heap.size := by obtain ⟨m, hm⟩ := h0; exact DataW.trod_lt m _ _ _ hm
  have lt1 : ∀ x ∈ p1, x.block < W.heap.size := by obtain ⟨m, hm⟩ := h1; exact DataW.trod_lt m _ _ _ hm
  have htab := tab_of_laid hL
  obtain ⟨g1', g2', g3', rfl⟩ : ∃ g1 g2 g3, gs = [g1, g2, g3] := by
    have := hV
    match gs, this with
    | [g1, g2, g3], _ => exact ⟨_, _, _, rfl⟩
  clear hA0 hval0
  refine (eql_true (k0 + k1) W f0 f1 up0 up1 hb0 hb1 htab).mono fun e W' ⟨he, bel⟩ => ?_
  subst he
  refine ⟨_, rfl, ?_⟩
  exact ⟨_, _, _, [], _, q, hW', trodAll_mk1 (shut_bool Tryz.underlying4 _), trodAll_mk2 (Below.trod Tryz.laidOut (by kernel_rfl) (of_decide_eq_true (by kernel_rfl)) h0 bel lt0) (Below.trod Tryz.laidOut (by kernel_rfl) (of_decide_eq_true (by kernel_rfl)) h1 bel lt1), Below.trodVars Tryz.laidOut bel Tryz.rowed hV, bel.frame _, fun h => by cases h⟩
theorem eql_inst : Tryz.f4.isInstance Tryz.prog Rows.fnZEqualsRow.origin Rows.fnZEqualsRow.targs := of_decide_eq_true (by kernel_rfl)
theorem eql_wrap : Tryz.f4.isWrapper Tryz.prog Rows.fnZEqualsRow.wrapper Rows.fnZEqualsRow.mainSum := by unfold Func.isWrapper; first | (rw [if_pos (by decide +kernel)]; kernel_rfl) | (rw [if_neg (by decide +kernel)]; exact ⟨rfl, rfl⟩)
theorem eql_name : Tryz.prog.funcNamed "given.example/pub-quill/laws.FnZEquals" = some 4 := by kernel_rfl
theorem eql_row : Rows.FnZEqualsSaid :=
  OpenClaim.holds_of_wide 4 Tryz.f4 rfl rfl rfl rfl rfl rfl rfl ⟨rfl, rfl, rfl, rfl, rfl⟩ rfl rfl rfl rfl rfl eql_name Tryz.func4 eql_joined eql_inst eql_wrap
    (fun os started H enc _ => eql_lifted os started H enc)
end Go.Proofs.YtieidjlmgalihaaGreatDoor
