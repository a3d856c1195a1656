/- FnZHooked: the row. -/
import Derived.Test.YtieidjlmgalihaaGreatDoorFrm
import Derived.Test.YtieidjlmgalihaaGreatDoorFrm2
import Derived.Test.YtieidjlmgalihaaGreatDoorHJ
import Derived.Test.YtieidjlmgalihaaGreatDoorOpnF
namespace Go.Proofs.YtieidjlmgalihaaGreatDoor
open Go.ChangeShapes Go.WideShapes Go.ChangeAt Go.RowKit
set_option maxRecDepth 100000
theorem FldOk.add {k : Nat} {w : World} {f : Fld} (h : FldOk k w f) : ∀ j, FldOk (k + j) w f
  | 0 => h
  | j + 1 => (FldOk.add h j).up
theorem FldsOk.add {k : Nat} {w : World} {A : Option Addr} {n : Nat} {g : Nat → Fld} (h : FldsOk k w A n g) (j : Nat) : FldsOk (k + j) w A n g := ⟨h.1, h.2.1, fun i hi => (h.2.2 i hi).add j⟩
abbrev hkArgs : Array Value := #[.agg #[.int .i64 0, .bool false, .int .i64 0, .int .i64 0, .string ⟨#[]⟩, .string ⟨#[]⟩, .string ⟨#[]⟩, .bool false, .string ⟨#[]⟩, .int .i64 0, .string ⟨#[]⟩, .string ⟨#[]⟩], .slice none 0 0, .slice none 0 0]
theorem hooked_okay (os : Os) : Input.okWideB Tryz.prog ((World.doorLaid Tryz.prog 72 os).forCall (fun _ _ => 0) ⟨#[], hkArgs, []⟩) 8 ⟨#[], hkArgs, []⟩ = true := by kernel_rfl
theorem hooked_pre (os : Os) {H : Type} (enc : TypeId × Value → H) : Rows.fnZHookedSpec.preB enc Tryz.prog Tryz.f8 [] false ((World.doorLaid Tryz.prog 72 os).forCall (fun _ _ => 0) ⟨#[], hkArgs, []⟩).memory hkArgs 8 = true := by kernel_rfl
theorem hooked_sized (os : Os) {H : Type} (enc : TypeId × Value → H) : Rows.fnZHookedSpec.sizedB enc Tryz.prog Tryz.f8 false ((World.doorLaid Tryz.prog 72 os).forCall (fun _ _ => 0) ⟨#[], hkArgs, []⟩).memory hkArgs 8 = true := by kernel_rfl
theorem hooked_lifted (os : Os) (started : os.Started) (H : Type) (enc : TypeId × Value → H) :
    ReturnsInHanded {} Tryz.checked os 8 .any (fun w args => (Rows.fnZHookedSpec.pre enc Tryz.prog Tryz.f8 [] false w args ∧ laidMetH Tryz.prog six w) ∧ sizedMet enc Tryz.prog Tryz.f8 (OpenSpec.ofChange Rows.fnZHookedSpec) false w args)
      (Rows.fnZHookedSpec.post enc Tryz.prog Tryz.f8 false true false false) := by
  refine returnsInHanded_of_change_and (C := Tryz.checked) (X := fun w _ => laidMetH Tryz.prog six w) (fun _ _ _ hh h => h.of_heap hh) Tryz.own started (by kernel_rfl) Tryz.func8
    (ChangeSpec.witness_shaped (enc := enc) (C := Tryz.checked) (os := os) (X := fun w _ => laidMetH Tryz.prog six w) false (World.doorLaid Tryz.prog 72 os) hkArgs 8 rfl (door_shaped os _) (hooked_okay os) (hooked_pre os enc) (hooked_sized os enc) (door_met os _)) ?_
  intro W base args ds gs before hval0 hW _ _ hL _
  have hval : ∀ (j : Nat) t v, Tryz.f8.params[j]? = some t → args[j]? = some v → Value.okWide Tryz.prog W .any base t v := hval0
  have hW' := hW
  obtain ⟨p, q, hA0, hV, rfl, hfz, hnd⟩ := hW
  have hA : DataW.TrodAll enc Tryz.prog W 0 (fun _ => true) true Tryz.f8.params.toList args.toList ds p := hA0
  rw [Tryz.params8] at hA hval
  obtain ⟨v0, v1, v2, d0, d1, d2, p0, p1, p2, rfl, rfl, rfl, h0, h1, h2⟩ := trodAll_three hA
  obtain ⟨x, rfl, hx0, hx1⟩ := openEntry (hval 0 50 v0 rfl rfl) h0
  obtain ⟨k1, a1, n1, c1, g, rfl, hf⟩ := openFlds (hval 1 37 v1 rfl rfl) h1
  obtain ⟨k2, a2, n2, c2, hs, gs2, rfl, hn2, hr2, hadd, hdef⟩ := openHooks (hval 2 59 v2 rfl rfl) h2
  have lt0 : ∀ x ∈ p0, x.block < W.heap.size := by obtain ⟨m, hm⟩ := h0; exact DataW.trod_lt m _ _ _ hm
  have lt1 : ∀ x ∈ p1, x.block < W.heap.size := by obtain ⟨m, hm⟩ := h1; exact DataW.trod_lt m _ _ _ hm
  have lt2 : ∀ x ∈ p2, x.block < W.heap.size := by obtain ⟨m, hm⟩ := h2; exact DataW.trod_lt m _ _ _ hm
  have htab := tab_of_laid hL
  obtain ⟨g1, g2, g3, rfl⟩ : ∃ g1 g2 g3, gs = [g1, g2, g3] := by
    have := hV
    match gs, this with
    | [g1, g2, g3], _ => exact ⟨_, _, _, rfl⟩
  clear hA0 hval0
  have hadd' : ∀ i, i < n2 → FldsOk (k1 + k2) W (hs i).aA (hs i).an (gs2 i) := fun i hi => by rw [Nat.add_comm]; exact (hadd i hi).add k1
  refine (hooked_true W a1 a2 n1 c1 n2 c2 (k1 + k2) x g hs gs2 hx0 hx1 (hf.add k2) hn2 hr2 hadd' hdef htab).mono fun e W' ⟨he, bel⟩ => ?_
  subst he
  refine ⟨_, rfl, ?_⟩
  exact ⟨_, _, _, [], _, q, hW', trodAll_mk1 (shut_bool Tryz.underlying4 _), trodAll_mk3 (Below.trod Tryz.laidOut (by kernel_rfl) (of_decide_eq_true (by kernel_rfl)) h0 bel lt0) (Below.trod Tryz.laidOut (by kernel_rfl) (of_decide_eq_true (by kernel_rfl)) h1 bel lt1) (Below.trod Tryz.laidOut (by kernel_rfl) (of_decide_eq_true (by kernel_rfl)) h2 bel lt2), Below.trodVars Tryz.laidOut bel Tryz.rowed hV, bel.frame _, fun h => by cases h⟩
theorem hooked_inst : Tryz.f8.isInstance Tryz.prog Rows.fnZHookedRow.origin Rows.fnZHookedRow.targs := of_decide_eq_true (by kernel_rfl)
theorem hooked_wrap : Tryz.f8.isWrapper Tryz.prog Rows.fnZHookedRow.wrapper Rows.fnZHookedRow.mainSum := by unfold Func.isWrapper; first | (rw [if_pos (by decide +kernel)]; kernel_rfl) | (rw [if_neg (by decide +kernel)]; exact ⟨rfl, rfl⟩)
theorem hooked_name : Tryz.prog.funcNamed "given.example/pub-quill/laws.FnZHooked" = some 8 := by kernel_rfl
theorem hooked_row : Rows.FnZHookedSaid :=
  OpenClaim.holds_of_wide 8 Tryz.f8 rfl rfl rfl rfl rfl rfl rfl ⟨rfl, rfl, rfl, rfl, rfl⟩ rfl rfl rfl rfl rfl hooked_name Tryz.func8 hooked_joined hooked_inst hooked_wrap
    (fun os started H enc _ => hooked_lifted os started H enc)
end Go.Proofs.YtieidjlmgalihaaGreatDoor
