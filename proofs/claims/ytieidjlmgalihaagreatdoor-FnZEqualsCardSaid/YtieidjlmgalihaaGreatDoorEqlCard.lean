/- FnZEquals answers true for every input, and its arguments read as before: the tied card. -/
import Derived.Test.YtieidjlmgalihaaGreatDoorEqlRow
import Derived.Test.YtieidjlmgalihaaGreatDoorTie
import Derived.Test.YtieidjlmgalihaaGreatDoorCards
import Derived.SevenTiedAt
set_option linter.all false
namespace Go.Proofs.YtieidjlmgalihaaGreatDoor
open Go
set_option maxRecDepth 100000
theorem coPlain39 : Tryz.prog.wantsStandIn 39 = false := by kernel_rfl
theorem eql_card : Rows.FnZEqualsCardSaid :=
  Claim7.holds_tied_plain_at .later [] [.data, .data, .data, .data, .data, .data] true (true, "b57ad03a2616c8b8be724a553a6013d821cdcb11c2b7f36783c85c48deaa94c3") true
    eql_row (fun _ h => by cases h) (by as_aux_lemma => kernel_rfl) (fun _ h => by cases h) fnZEquals_row_tie rfl ⟨rfl, rfl⟩ (by as_aux_lemma => kernel_rfl) rfl
    (fun f fn hf hfn => by
      obtain rfl : f = 4 := Option.some.inj (eql_name.symm.trans hf) |>.symm
      obtain rfl : fn = Tryz.f4 := (Option.some.inj (Tryz.func4.symm.trans hfn)).symm
      exact ⟨by as_aux_lemma => kernel_rfl, fun j t ht => by
        rw [Tryz.params4] at ht
        rcases j with _ | _ | j
        · obtain rfl : t = 39 := by simpa using ht.symm
          exact coPlain39
        · obtain rfl : t = 39 := by simpa using ht.symm
          exact coPlain39
        · simp at ht⟩)
    (by as_aux_lemma => kernel_rfl)
#print axioms eql_card
end Go.Proofs.YtieidjlmgalihaaGreatDoor
