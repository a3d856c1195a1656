/- FnZHooked answers true for every input, and its arguments read as before: the tied card. -/
import Derived.Test.YtieidjlmgalihaaGreatDoorHkRow
import Derived.Test.YtieidjlmgalihaaGreatDoorTie
import Derived.Test.YtieidjlmgalihaaGreatDoorCards
import Derived.SevenTiedAt
namespace Go.Proofs.YtieidjlmgalihaaGreatDoor
open Go
set_option maxRecDepth 100000
theorem hkPlain50 : Tryz.prog.wantsStandIn 50 = false := by kernel_rfl
theorem hkPlain37 : Tryz.prog.wantsStandIn 37 = false := by kernel_rfl
theorem hkPlain59 : Tryz.prog.wantsStandIn 59 = false := by kernel_rfl
theorem hooked_card : Rows.FnZHookedCardSaid :=
  Claim7.holds_tied_plain_at .later [] [.data, .data, .data, .data, .data, .data] true (true, "b57ad03a2616c8b8be724a553a6013d821cdcb11c2b7f36783c85c48deaa94c3") true
    hooked_row (fun _ h => by cases h) (by as_aux_lemma => kernel_rfl) (fun _ h => by cases h) fnZHooked_row_tie rfl ⟨rfl, rfl⟩ (by as_aux_lemma => kernel_rfl) rfl
    (fun f fn hf hfn => by
      obtain rfl : f = 8 := Option.some.inj (hooked_name.symm.trans hf) |>.symm
      obtain rfl : fn = Tryz.f8 := (Option.some.inj (Tryz.func8.symm.trans hfn)).symm
      exact ⟨by as_aux_lemma => kernel_rfl, fun j t ht => by
        rw [Tryz.params8] at ht
        rcases j with _ | _ | _ | j
        · obtain rfl : t = 50 := by simpa using ht.symm
          exact hkPlain50
        · obtain rfl : t = 37 := by simpa using ht.symm
          exact hkPlain37
        · obtain rfl : t = 59 := by simpa using ht.symm
          exact hkPlain59
        · simp at ht⟩)
    (by as_aux_lemma => kernel_rfl)
#print axioms hooked_card
end Go.Proofs.YtieidjlmgalihaaGreatDoor
