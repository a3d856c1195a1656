/- FnZIncreases: the row's closed facts. -/
import Derived.Test.YtieidjlmgalihaaGreatDoorRows
import Derived.Test.YtieidjlmgalihaaGreatDoorKit3
import Derived.ProofKit
import Derived.LaidMore
import Derived.OpenShut
import Derived.OpenVars
import Derived.Stop.Joined
import Derived.Test.YtieidjlmgalihaaGreatDoorFrm2
import Derived.Lib.LaidTab
import Derived.Stop.LaidErr
import Derived.Lib.AppendIntMem
set_option linter.all false
namespace Go.Proofs.YtieidjlmgalihaaGreatDoor
open Go.ChangeShapes Go.WideShapes Go.ChangeAt Go.RowKit
set_option maxRecDepth 100000
theorem inc_j0 : (Rows.fnZIncreasesRow.wf (OpenSpec.ofChange Rows.fnZIncreasesSpec)) = true := by kernel_rfl
theorem inc_j1 : (laidOutB Tryz.prog) = true := by kernel_rfl
theorem inc_j2 : (mapsRowed Tryz.prog) = true := by kernel_rfl
theorem inc_j3 : (Tryz.f9.params.all (Tryz.prog.readableRec ·)) = true := by kernel_rfl
theorem inc_j4 : (namedTie Tryz.prog Rows.fnZIncreasesRow.named Rows.fnZIncreasesSpec.vars) = true := by kernel_rfl
theorem inc_j5 : ((Rows.fnZIncreasesRow.stops == [])) = true := by kernel_rfl
theorem inc_j6 : ((Tryz.prog.stops == [])) = true := by kernel_rfl
theorem inc_j7 : ((Rows.fnZIncreasesRow.knobs == [])) = true := by kernel_rfl
theorem inc_j8 : ((Tryz.prog.stopKnobs == [])) = true := by kernel_rfl
theorem inc_j9 : ((Rows.fnZIncreasesRow.inPlace == Tryz.prog.inPlace 9)) = true := by kernel_rfl
theorem inc_j10 : ((Rows.fnZIncreasesRow.unfollowed == Tryz.prog.unfollowed 9)) = true := by kernel_rfl
theorem inc_j11 : ((Rows.fnZIncreasesRow.recurses == Tryz.prog.recurses 9)) = true := by kernel_rfl
theorem inc_j12 : ((Rows.fnZIncreasesRow.named == Tryz.prog.varsNamed 9)) = true := by kernel_rfl
theorem inc_j13 : ((Rows.fnZIncreasesRow.maps == (Tryz.f9.params.toList ++ Rows.fnZIncreasesSpec.plain.varTypes Tryz.prog).any (Tryz.prog.mapsRec ·))) = true := by kernel_rfl
theorem inc_j14 : ((Rows.fnZIncreasesRow.ifaces == (Tryz.f9.params.toList ++ Rows.fnZIncreasesSpec.plain.varTypes Tryz.prog).any (Tryz.prog.ifacesRec ·))) = true := by kernel_rfl
theorem inc_j15 : ((Rows.fnZIncreasesRow.mapsOut == Tryz.prog.mapsAmong Tryz.f9.resultTypes.toList)) = true := by kernel_rfl
theorem inc_j16 : ((Rows.fnZIncreasesRow.loops == (Tryz.f9.params.toList ++ Rows.fnZIncreasesSpec.plain.varTypes Tryz.prog).any (Tryz.prog.loopsFrom ·))) = true := by kernel_rfl
theorem inc_j17 : ((Rows.fnZIncreasesRow.wideKeys == (Tryz.f9.params.toList ++ Rows.fnZIncreasesSpec.plain.varTypes Tryz.prog ++ Tryz.f9.resultTypes.toList).any (Tryz.prog.wideKeysFrom ·))) = true := by kernel_rfl
theorem inc_j18 : (Rows.fnZIncreasesSpec.vars.all (Tryz.prog.varReadable ·)) = true := by kernel_rfl
theorem inc_j19 : (Tryz.f9.resultTypes.all (fun t => Tryz.prog.readableRec t && decide (t < Tryz.prog.types.size))) = true := by kernel_rfl
theorem inc_j20 : ((Rows.fnZIncreasesRow.ifacesOut == Tryz.f9.resultTypes.toList.any (Tryz.prog.ifacesRec ·))) = true := by kernel_rfl
theorem inc_j21 : ((Rows.fnZIncreasesRow.loopsOut == Tryz.f9.resultTypes.toList.any (Tryz.prog.loopsFrom ·))) = true := by kernel_rfl
theorem inc_j22 : ((Rows.fnZIncreasesRow.plainKeys == Tryz.prog.plainKeys)) = true := by kernel_rfl
theorem inc_j23 : (Rows.fnZIncreasesRow.shortTexts.isNone) = true := by kernel_rfl
theorem inc_j24 : (Tryz.prog.stopsHeard) = true := by kernel_rfl
theorem inc_j25 : (Tryz.prog.mayEnter) = true := by kernel_rfl
theorem inc_j26 : ((Rows.fnZIncreasesRow.lifted == Tryz.prog.liftsFinal)) = true := by kernel_rfl
theorem inc_j27 : ((Tryz.prog.make == some Rows.fnZIncreasesRow.make)) = true := by kernel_rfl
theorem inc_j28 : ((Rows.fnZIncreasesRow.kinds == (if Rows.fnZIncreasesRow.domain.isEmpty then [] else Tryz.f9.params.toList.map fun t => match Tryz.prog.underlying t with | some (.int k) => some k | _ => Option.none))) = true := by kernel_rfl
theorem inc_j29 : ((Rows.fnZIncreasesRow.pinned == Rows.fnZIncreasesRow.pinnedBy)) = true := by kernel_rfl
theorem inc_j30 : ((Rows.fnZIncreasesRow.veiled == (Tryz.f9.params.toList ++ Rows.fnZIncreasesSpec.plain.varTypes Tryz.prog ++ Tryz.f9.resultTypes.toList).any (Tryz.prog.veiledRec ·))) = true := by kernel_rfl
theorem inc_j31 : (Rows.fnZIncreasesRow.veiledFits Tryz.prog Tryz.f9.params.toList (Tryz.f9.params.toList ++ Rows.fnZIncreasesSpec.plain.varTypes Tryz.prog ++ Tryz.f9.resultTypes.toList)) = true := by kernel_rfl
theorem inc_joined : joinedFacts Tryz.prog 9 Tryz.f9 Rows.fnZIncreasesSpec Rows.fnZIncreasesRow = true := by
  simp only [joinedFacts, Bool.and_eq_true]
  exact ⟨⟨⟨⟨⟨⟨⟨⟨⟨⟨⟨⟨⟨⟨⟨⟨⟨⟨⟨⟨⟨⟨⟨⟨⟨⟨⟨⟨⟨⟨⟨inc_j0, inc_j1⟩, inc_j2⟩, inc_j3⟩, inc_j4⟩, inc_j5⟩, inc_j6⟩, inc_j7⟩, inc_j8⟩, inc_j9⟩, inc_j10⟩, inc_j11⟩, inc_j12⟩, inc_j13⟩, inc_j14⟩, inc_j15⟩, inc_j16⟩, inc_j17⟩, inc_j18⟩, inc_j19⟩, inc_j20⟩, inc_j21⟩, inc_j22⟩, inc_j23⟩, inc_j24⟩, inc_j25⟩, inc_j26⟩, inc_j27⟩, inc_j28⟩, inc_j29⟩, inc_j30⟩, inc_j31⟩
end Go.Proofs.YtieidjlmgalihaaGreatDoor
