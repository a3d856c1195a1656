/- FnZTold answers true for every input, and its arguments read as before: the tied card. -/
import Derived.Test.YtieidjlmgalihaaGreatDoorToldRow
import Derived.Test.YtieidjlmgalihaaGreatDoorTie
import Derived.Test.YtieidjlmgalihaaGreatDoorCards
import Derived.SevenTiedAt
namespace Go.Proofs.YtieidjlmgalihaaGreatDoor
open Go
set_option maxRecDepth 100000
theorem plain43 : Tryz.prog.wantsStandIn 43 = false := by kernel_rfl
theorem plain44 : Tryz.prog.wantsStandIn 44 = false := by kernel_rfl
theorem told_card : Rows.FnZToldCardSaid :=
  Claim7.holds_tied_plain_at .later [] [.data, .data, .data, .data, .data, .data] true (true, "b57ad03a2616c8b8be724a553a6013d821cdcb11c2b7f36783c85c48deaa94c3") true
    told_row (fun _ h => by cases h) (by as_aux_lemma => kernel_rfl) (fun _ h => by cases h) fnZTold_row_tie rfl ⟨rfl, rfl⟩ (by as_aux_lemma => kernel_rfl) rfl
    (fun f fn hf hfn => by
      obtain rfl : f = 5 := Option.some.inj (told_name.symm.trans hf) |>.symm
      obtain rfl : fn = Tryz.f5 := (Option.some.inj (Tryz.func5.symm.trans hfn)).symm
      exact ⟨by as_aux_lemma => kernel_rfl, fun j t ht => by
        rw [Tryz.params5] at ht
        rcases j with _ | _ | j
        · obtain rfl : t = 43 := by simpa using ht.symm
          exact plain43
        · obtain rfl : t = 44 := by simpa using ht.symm
          exact plain44
        · simp at ht⟩)
    (by as_aux_lemma => kernel_rfl)
#print axioms told_card
end Go.Proofs.YtieidjlmgalihaaGreatDoor
