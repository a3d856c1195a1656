/- FnZWithTwice: the row. -/
import Derived.Test.YtieidjlmgalihaaGreatDoorFrm2
import Derived.Test.YtieidjlmgalihaaGreatDoorTwiceJ
import Derived.Test.YtieidjlmgalihaaGreatDoorOpnC
import Derived.Test.YtieidjlmgalihaaGreatDoorTwiceL
set_option linter.all false
namespace Go.Proofs.YtieidjlmgalihaaGreatDoor
open Go.ChangeShapes Go.WideShapes Go.ChangeAt Go.RowKit
set_option maxRecDepth 100000
abbrev twiceArgs : Array Value := #[.agg #[.int .i64 0, .int .i64 0, .slice none 0 0, .slice none 0 0], .slice none 0 0, .slice none 0 0, .slice none 0 0, .slice none 0 0]
theorem twice_okay (os : Os) : Input.okWideB Tryz.prog ((World.doorLaid Tryz.prog 72 os).forCall (fun _ _ => 0) ⟨#[], twiceArgs, []⟩) 11 ⟨#[], twiceArgs, []⟩ = true := by kernel_rfl
theorem twice_pre (os : Os) {H : Type} (enc : TypeId × Value → H) : Rows.fnZWithTwiceSpec.preB enc Tryz.prog Tryz.f11 [] false ((World.doorLaid Tryz.prog 72 os).forCall (fun _ _ => 0) ⟨#[], twiceArgs, []⟩).memory twiceArgs 11 = true := by kernel_rfl
theorem twice_sized (os : Os) {H : Type} (enc : TypeId × Value → H) : Rows.fnZWithTwiceSpec.sizedB enc Tryz.prog Tryz.f11 false ((World.doorLaid Tryz.prog 72 os).forCall (fun _ _ => 0) ⟨#[], twiceArgs, []⟩).memory twiceArgs 11 = true := by kernel_rfl
theorem twice_lifted (os : Os) (started : os.Started) (H : Type) (enc : TypeId × Value → H) :
    ReturnsInHanded {} Tryz.checked os 11 .any (fun w args => (Rows.fnZWithTwiceSpec.pre enc Tryz.prog Tryz.f11 [] false w args ∧ laidMetH Tryz.prog six w) ∧ sizedMet enc Tryz.prog Tryz.f11 (OpenSpec.ofChange Rows.fnZWithTwiceSpec) false w args)
      (Rows.fnZWithTwiceSpec.post enc Tryz.prog Tryz.f11 false true false false) := by
  refine returnsInHanded_of_change_and (C := Tryz.checked) (X := fun w _ => laidMetH Tryz.prog six w) (fun _ _ _ hh h => h.of_heap hh) Tryz.own started (by kernel_rfl) Tryz.func11
    (ChangeSpec.witness_shaped (enc := enc) (C := Tryz.checked) (os := os) (X := fun w _ => laidMetH Tryz.prog six w) false (World.doorLaid Tryz.prog 72 os) twiceArgs 11 rfl (door_shaped os _) (twice_okay os) (twice_pre os enc) (twice_sized os enc) (door_met os _)) ?_
  intro W base args ds gs before hval0 hW _ _ hL _
  have hval : ∀ (j : Nat) t v, Tryz.f11.params[j]? = some t → args[j]? = some v → Value.okWide Tryz.prog W .any base t v := hval0
  have hW' := hW
  obtain ⟨p, q, hA0, hV, rfl, hfz, hnd⟩ := hW
  have hA : DataW.TrodAll enc Tryz.prog W 0 (fun _ => true) true Tryz.f11.params.toList args.toList ds p := hA0
  rw [Tryz.params11] at hA hval
  obtain ⟨v0, v1, v2, v3, v4, d0, d1, d2, d3, d4, p0, p1, p2, p3, p4, rfl, rfl, rfl, h0, h1, h2, h3, h4⟩ := trodAll_five hA
  obtain ⟨k0, hco0⟩ := openCore (hval 0 69 v0 rfl rfl) h0
  obtain ⟨k1, a1, n1, c1, g1, rfl, hf1⟩ := openFlds (hval 1 37 v1 rfl rfl) h1
  obtain ⟨k2, a2, n2, c2, g2, rfl, hf2⟩ := openFlds (hval 2 37 v2 rfl rfl) h2
  obtain ⟨a3, n3, c3, es, rfl, hn3, hr3, hns⟩ := openEnts (hval 3 44 v3 rfl rfl) h3
  obtain ⟨k4, a4, n4, c4, fs, rfl, hn4, hr4, hf4⟩ := openFF (hval 4 70 v4 rfl rfl) h4
  obtain ⟨b0, rfl, hc0⟩ := hco0 (k0 + k1 + k2 + k4) (by omega)
  have lt0 : ∀ x ∈ p0, x.block < W.heap.size := by obtain ⟨m, hm⟩ := h0; exact DataW.trod_lt m _ _ _ hm
  have lt1 : ∀ x ∈ p1, x.block < W.heap.size := by obtain ⟨m, hm⟩ := h1; exact DataW.trod_lt m _ _ _ hm
  have lt2 : ∀ x ∈ p2, x.block < W.heap.size := by obtain ⟨m, hm⟩ := h2; exact DataW.trod_lt m _ _ _ hm
  have lt3 : ∀ x ∈ p3, x.block < W.heap.size := by obtain ⟨m, hm⟩ := h3; exact DataW.trod_lt m _ _ _ hm
  have lt4 : ∀ x ∈ p4, x.block < W.heap.size := by obtain ⟨m, hm⟩ := h4; exact DataW.trod_lt m _ _ _ hm
  have htab := tab_of_laid hL
  obtain ⟨g1', g2', g3', rfl⟩ : ∃ g1 g2 g3, gs = [g1, g2, g3] := by
    have := hV
    match gs, this with
    | [g1, g2, g3], _ => exact ⟨_, _, _, rfl⟩
  clear hA0 hval0
  refine (twice_true (k0 + k1 + k2 + k4) k0 W b0 a1 a2 n1 c1 n2 c2 g1 g2 a3 a4 n3 c3 n4 c4 es fs hc0 (hf1.le (by omega)) (hf2.le (by omega)) ⟨hn3, hn4, hr3, hns, hr4, fun i hi => (hf4 i hi).le (by omega)⟩ htab).mono fun e W' ⟨he, bel⟩ => ?_
  subst he
  refine ⟨_, rfl, ?_⟩
  exact ⟨_, _, _, [], _, q, hW', trodAll_mk1 (shut_bool Tryz.underlying4 _), trodAll_mk5 (Below.trod Tryz.laidOut (by kernel_rfl) (of_decide_eq_true (by kernel_rfl)) h0 bel lt0) (Below.trod Tryz.laidOut (by kernel_rfl) (of_decide_eq_true (by kernel_rfl)) h1 bel lt1) (Below.trod Tryz.laidOut (by kernel_rfl) (of_decide_eq_true (by kernel_rfl)) h2 bel lt2) (Below.trod Tryz.laidOut (by kernel_rfl) (of_decide_eq_true (by kernel_rfl)) h3 bel lt3) (Below.trod Tryz.laidOut (by kernel_rfl) (of_decide_eq_true (by kernel_rfl)) h4 bel lt4), Below.trodVars Tryz.laidOut bel Tryz.rowed hV, bel.frame _, fun h => by cases h⟩
theorem twice_inst : Tryz.f11.isInstance Tryz.prog Rows.fnZWithTwiceRow.origin Rows.fnZWithTwiceRow.targs := of_decide_eq_true (by kernel_rfl)
theorem twice_wrap : Tryz.f11.isWrapper Tryz.prog Rows.fnZWithTwiceRow.wrapper Rows.fnZWithTwiceRow.mainSum := by unfold Func.isWrapper; first | (rw [if_pos (by decide +kernel)]; kernel_rfl) | (rw [if_neg (by decide +kernel)]; exact ⟨rfl, rfl⟩)
theorem twice_name : Tryz.prog.funcNamed "given.example/pub-quill/laws.FnZWithTwice" = some 11 := by kernel_rfl
theorem twice_row : Rows.FnZWithTwiceSaid :=
  OpenClaim.holds_of_wide 11 Tryz.f11 rfl rfl rfl rfl rfl rfl rfl ⟨rfl, rfl, rfl, rfl, rfl⟩ rfl rfl rfl rfl rfl twice_name Tryz.func11 twice_joined twice_inst twice_wrap
    (fun os started H enc _ => twice_lifted os started H enc)
end Go.Proofs.YtieidjlmgalihaaGreatDoor
