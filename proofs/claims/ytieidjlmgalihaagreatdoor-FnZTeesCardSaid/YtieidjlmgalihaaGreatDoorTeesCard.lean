/- FnZTees answers true for every input, and its arguments read as before: the tied card. -/
import Derived.Test.YtieidjlmgalihaaGreatDoorTeesRow
import Derived.Test.YtieidjlmgalihaaGreatDoorTie
import Derived.Test.YtieidjlmgalihaaGreatDoorCards
import Derived.SevenTiedAt
set_option linter.all false
namespace Go.Proofs.YtieidjlmgalihaaGreatDoor
open Go
set_option maxRecDepth 100000
theorem coPlain44 : Tryz.prog.wantsStandIn 44 = false := by kernel_rfl
theorem coPlain69 : Tryz.prog.wantsStandIn 69 = false := by kernel_rfl
theorem coPlain70 : Tryz.prog.wantsStandIn 70 = false := by kernel_rfl
theorem tees_card : Rows.FnZTeesCardSaid :=
  Claim7.holds_tied_plain_at .later [] [.data, .data, .data, .data, .data, .data] true (true, "b57ad03a2616c8b8be724a553a6013d821cdcb11c2b7f36783c85c48deaa94c3") true
    tees_row (fun _ h => by cases h) (by as_aux_lemma => kernel_rfl) (fun _ h => by cases h) fnZTees_row_tie rfl ⟨rfl, rfl⟩ (by as_aux_lemma => kernel_rfl) rfl
    (fun f fn hf hfn => by
      obtain rfl : f = 10 := Option.some.inj (tees_name.symm.trans hf) |>.symm
      obtain rfl : fn = Tryz.f10 := (Option.some.inj (Tryz.func10.symm.trans hfn)).symm
      exact ⟨by as_aux_lemma => kernel_rfl, fun j t ht => by
        rw [Tryz.params10] at ht
        rcases j with _ | _ | _ | _ | _ | j
        · obtain rfl : t = 69 := by simpa using ht.symm
          exact coPlain69
        · obtain rfl : t = 69 := by simpa using ht.symm
          exact coPlain69
        · obtain rfl : t = 69 := by simpa using ht.symm
          exact coPlain69
        · obtain rfl : t = 44 := by simpa using ht.symm
          exact coPlain44
        · obtain rfl : t = 70 := by simpa using ht.symm
          exact coPlain70
        · simp at ht⟩)
    (by as_aux_lemma => kernel_rfl)
#print axioms tees_card
end Go.Proofs.YtieidjlmgalihaaGreatDoor
