/- FnZEquals: the row's closed facts. -/
import Derived.Test.YtieidjlmgalihaaGreatDoorRows
import Derived.Test.YtieidjlmgalihaaGreatDoorKit3
import Derived.ProofKit
import Derived.LaidMore
import Derived.OpenShut
import Derived.OpenVars
import Derived.Stop.Joined
import Derived.Test.YtieidjlmgalihaaGreatDoorFrm2
import Derived.Lib.LaidTab
import Derived.Stop.LaidErr
import Derived.Lib.AppendIntMem
set_option linter.all false
namespace Go.Proofs.YtieidjlmgalihaaGreatDoor
open Go.ChangeShapes Go.WideShapes Go.ChangeAt Go.RowKit
set_option maxRecDepth 100000
theorem eql_j0 : (Rows.fnZEqualsRow.wf (OpenSpec.ofChange Rows.fnZEqualsSpec)) = true := by kernel_rfl
theorem eql_j1 : (laidOutB Tryz.prog) = true := by kernel_rfl
theorem eql_j2 : (mapsRowed Tryz.prog) = true := by kernel_rfl
theorem eql_j3 : (Tryz.f4.params.all (Tryz.prog.readableRec ·)) = true := by kernel_rfl
theorem eql_j4 : (namedTie Tryz.prog Rows.fnZEqualsRow.named Rows.fnZEqualsSpec.vars) = true := by kernel_rfl
theorem eql_j5 : ((Rows.fnZEqualsRow.stops == [])) = true := by kernel_rfl
theorem eql_j6 : ((Tryz.prog.stops == [])) = true := by kernel_rfl
theorem eql_j7 : ((Rows.fnZEqualsRow.knobs == [])) = true := by kernel_rfl
theorem eql_j8 : ((Tryz.prog.stopKnobs == [])) = true := by kernel_rfl
theorem eql_j9 : ((Rows.fnZEqualsRow.inPlace == Tryz.prog.inPlace 4)) = true := by kernel_rfl
theorem eql_j10 : ((Rows.fnZEqualsRow.unfollowed == Tryz.prog.unfollowed 4)) = true := by kernel_rfl
theorem eql_j11 : ((Rows.fnZEqualsRow.recurses == Tryz.prog.recurses 4)) = true := by kernel_rfl
theorem eql_j12 : ((Rows.fnZEqualsRow.named == Tryz.prog.varsNamed 4)) = true := by kernel_rfl
theorem eql_j13 : ((Rows.fnZEqualsRow.maps == (Tryz.f4.params.toList ++ Rows.fnZEqualsSpec.plain.varTypes Tryz.prog).any (Tryz.prog.mapsRec ·))) = true := by kernel_rfl
theorem eql_j14 : ((Rows.fnZEqualsRow.ifaces == (Tryz.f4.params.toList ++ Rows.fnZEqualsSpec.plain.varTypes Tryz.prog).any (Tryz.prog.ifacesRec ·))) = true := by kernel_rfl
theorem eql_j15 : ((Rows.fnZEqualsRow.mapsOut == Tryz.prog.mapsAmong Tryz.f4.resultTypes.toList)) = true := by kernel_rfl
theorem eql_j16 : ((Rows.fnZEqualsRow.loops == (Tryz.f4.params.toList ++ Rows.fnZEqualsSpec.plain.varTypes Tryz.prog).any (Tryz.prog.loopsFrom ·))) = true := by kernel_rfl
theorem eql_j17 : ((Rows.fnZEqualsRow.wideKeys == (Tryz.f4.params.toList ++ Rows.fnZEqualsSpec.plain.varTypes Tryz.prog ++ Tryz.f4.resultTypes.toList).any (Tryz.prog.wideKeysFrom ·))) = true := by kernel_rfl
theorem eql_j18 : (Rows.fnZEqualsSpec.vars.all (Tryz.prog.varReadable ·)) = true := by kernel_rfl
theorem eql_j19 : (Tryz.f4.resultTypes.all (fun t => Tryz.prog.readableRec t && decide (t < Tryz.prog.types.size))) = true := by kernel_rfl
theorem eql_j20 : ((Rows.fnZEqualsRow.ifacesOut == Tryz.f4.resultTypes.toList.any (Tryz.prog.ifacesRec ·))) = true := by kernel_rfl
theorem eql_j21 : ((Rows.fnZEqualsRow.loopsOut == Tryz.f4.resultTypes.toList.any (Tryz.prog.loopsFrom ·))) = true := by kernel_rfl
theorem eql_j22 : ((Rows.fnZEqualsRow.plainKeys == Tryz.prog.plainKeys)) = true := by kernel_rfl
theorem eql_j23 : (Rows.fnZEqualsRow.shortTexts.isNone) = true := by kernel_rfl
theorem eql_j24 : (Tryz.prog.stopsHeard) = true := by kernel_rfl
theorem eql_j25 : (Tryz.prog.mayEnter) = true := by kernel_rfl
theorem eql_j26 : ((Rows.fnZEqualsRow.lifted == Tryz.prog.liftsFinal)) = true := by kernel_rfl
theorem eql_j27 : ((Tryz.prog.make == some Rows.fnZEqualsRow.make)) = true := by kernel_rfl
theorem eql_j28 : ((Rows.fnZEqualsRow.kinds == (if Rows.fnZEqualsRow.domain.isEmpty then [] else Tryz.f4.params.toList.map fun t => match Tryz.prog.underlying t with | some (.int k) => some k | _ => Option.none))) = true := by kernel_rfl
theorem eql_j29 : ((Rows.fnZEqualsRow.pinned == Rows.fnZEqualsRow.pinnedBy)) = true := by kernel_rfl
theorem eql_j30 : ((Rows.fnZEqualsRow.veiled == (Tryz.f4.params.toList ++ Rows.fnZEqualsSpec.plain.varTypes Tryz.prog ++ Tryz.f4.resultTypes.toList).any (Tryz.prog.veiledRec ·))) = true := by kernel_rfl
theorem eql_j31 : (Rows.fnZEqualsRow.veiledFits Tryz.prog Tryz.f4.params.toList (Tryz.f4.params.toList ++ Rows.fnZEqualsSpec.plain.varTypes Tryz.prog ++ Tryz.f4.resultTypes.toList)) = true := by kernel_rfl
theorem eql_joined : joinedFacts Tryz.prog 4 Tryz.f4 Rows.fnZEqualsSpec Rows.fnZEqualsRow = true := by
  simp only [joinedFacts, Bool.and_eq_true]
  exact ⟨⟨⟨⟨⟨⟨⟨⟨⟨⟨⟨⟨⟨⟨⟨⟨⟨⟨⟨⟨⟨⟨⟨⟨⟨⟨⟨⟨⟨⟨⟨eql_j0, eql_j1⟩, eql_j2⟩, eql_j3⟩, eql_j4⟩, eql_j5⟩, eql_j6⟩, eql_j7⟩, eql_j8⟩, eql_j9⟩, eql_j10⟩, eql_j11⟩, eql_j12⟩, eql_j13⟩, eql_j14⟩, eql_j15⟩, eql_j16⟩, eql_j17⟩, eql_j18⟩, eql_j19⟩, eql_j20⟩, eql_j21⟩, eql_j22⟩, eql_j23⟩, eql_j24⟩, eql_j25⟩, eql_j26⟩, eql_j27⟩, eql_j28⟩, eql_j29⟩, eql_j30⟩, eql_j31⟩
end Go.Proofs.YtieidjlmgalihaaGreatDoor
