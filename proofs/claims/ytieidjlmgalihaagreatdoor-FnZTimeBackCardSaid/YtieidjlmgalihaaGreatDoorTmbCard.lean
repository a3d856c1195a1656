/- FnZTimeBack answers true for every input, and its arguments read as before: the tied card. -/
import Derived.Test.YtieidjlmgalihaaGreatDoorTmbRow
import Derived.Test.YtieidjlmgalihaaGreatDoorTie
import Derived.Test.YtieidjlmgalihaaGreatDoorCards
import Derived.SevenTiedAt
set_option linter.all false
namespace Go.Proofs.YtieidjlmgalihaaGreatDoor
open Go
set_option maxRecDepth 100000
theorem coPlain23 : Tryz.prog.wantsStandIn 23 = false := by kernel_rfl
theorem tmb_card : Rows.FnZTimeBackCardSaid :=
  Claim7.holds_tied_plain_at .later [] [.data, .data, .data, .data, .data, .data, .data, .pinned] true (true, "b57ad03a2616c8b8be724a553a6013d821cdcb11c2b7f36783c85c48deaa94c3") true
    tmb_row (fun _ h => by cases h) (by as_aux_lemma => kernel_rfl) (fun _ h => by cases h) fnZTimeBack_row_tie rfl ⟨rfl, rfl⟩ (by as_aux_lemma => kernel_rfl) rfl
    (fun f fn hf hfn => by
      obtain rfl : f = 3 := Option.some.inj (tmb_name.symm.trans hf) |>.symm
      obtain rfl : fn = Tryz.f3 := (Option.some.inj (Tryz.func3.symm.trans hfn)).symm
      exact ⟨by as_aux_lemma => kernel_rfl, fun j t ht => by
        rw [Tryz.params3] at ht
        rcases j with _ | j
        · obtain rfl : t = 23 := by simpa using ht.symm
          exact coPlain23
        · simp at ht⟩)
    (by as_aux_lemma => kernel_rfl)
#print axioms tmb_card
end Go.Proofs.YtieidjlmgalihaaGreatDoor
