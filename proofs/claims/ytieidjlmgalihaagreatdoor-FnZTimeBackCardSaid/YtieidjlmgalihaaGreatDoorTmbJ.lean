/- FnZTimeBack: the row's closed facts. -/
import Derived.Test.YtieidjlmgalihaaGreatDoorRows
import Derived.Test.YtieidjlmgalihaaGreatDoorKit3
import Derived.ProofKit
import Derived.LaidMore
import Derived.OpenShut
import Derived.OpenVars
import Derived.Stop.Joined
import Derived.Test.YtieidjlmgalihaaGreatDoorFrm2
import Derived.Lib.LaidTab
import Derived.Stop.LaidErr
import Derived.Lib.AppendIntMem
set_option linter.all false
namespace Go.Proofs.YtieidjlmgalihaaGreatDoor
open Go.ChangeShapes Go.WideShapes Go.ChangeAt Go.RowKit
set_option maxRecDepth 100000
theorem tmb_j0 : (Rows.fnZTimeBackRow.wf (OpenSpec.ofChange Rows.fnZTimeBackSpec)) = true := by kernel_rfl
theorem tmb_j1 : (laidOutB Tryz.prog) = true := by kernel_rfl
theorem tmb_j2 : (mapsRowed Tryz.prog) = true := by kernel_rfl
theorem tmb_j3 : (Tryz.f3.params.all (Tryz.prog.readableRec ·)) = true := by kernel_rfl
theorem tmb_j4 : (namedTie Tryz.prog Rows.fnZTimeBackRow.named Rows.fnZTimeBackSpec.vars) = true := by kernel_rfl
theorem tmb_j5 : ((Rows.fnZTimeBackRow.stops == [])) = true := by kernel_rfl
theorem tmb_j6 : ((Tryz.prog.stops == [])) = true := by kernel_rfl
theorem tmb_j7 : ((Rows.fnZTimeBackRow.knobs == [])) = true := by kernel_rfl
theorem tmb_j8 : ((Tryz.prog.stopKnobs == [])) = true := by kernel_rfl
theorem tmb_j9 : ((Rows.fnZTimeBackRow.inPlace == Tryz.prog.inPlace 3)) = true := by kernel_rfl
theorem tmb_j10 : ((Rows.fnZTimeBackRow.unfollowed == Tryz.prog.unfollowed 3)) = true := by kernel_rfl
theorem tmb_j11 : ((Rows.fnZTimeBackRow.recurses == Tryz.prog.recurses 3)) = true := by kernel_rfl
theorem tmb_j12 : ((Rows.fnZTimeBackRow.named == Tryz.prog.varsNamed 3)) = true := by kernel_rfl
theorem tmb_j13 : ((Rows.fnZTimeBackRow.maps == (Tryz.f3.params.toList ++ Rows.fnZTimeBackSpec.plain.varTypes Tryz.prog).any (Tryz.prog.mapsRec ·))) = true := by kernel_rfl
theorem tmb_j14 : ((Rows.fnZTimeBackRow.ifaces == (Tryz.f3.params.toList ++ Rows.fnZTimeBackSpec.plain.varTypes Tryz.prog).any (Tryz.prog.ifacesRec ·))) = true := by kernel_rfl
theorem tmb_j15 : ((Rows.fnZTimeBackRow.mapsOut == Tryz.prog.mapsAmong Tryz.f3.resultTypes.toList)) = true := by kernel_rfl
theorem tmb_j16 : ((Rows.fnZTimeBackRow.loops == (Tryz.f3.params.toList ++ Rows.fnZTimeBackSpec.plain.varTypes Tryz.prog).any (Tryz.prog.loopsFrom ·))) = true := by kernel_rfl
theorem tmb_j17 : ((Rows.fnZTimeBackRow.wideKeys == (Tryz.f3.params.toList ++ Rows.fnZTimeBackSpec.plain.varTypes Tryz.prog ++ Tryz.f3.resultTypes.toList).any (Tryz.prog.wideKeysFrom ·))) = true := by kernel_rfl
theorem tmb_j18 : (Rows.fnZTimeBackSpec.vars.all (Tryz.prog.varReadable ·)) = true := by kernel_rfl
theorem tmb_j19 : (Tryz.f3.resultTypes.all (fun t => Tryz.prog.readableRec t && decide (t < Tryz.prog.types.size))) = true := by kernel_rfl
theorem tmb_j20 : ((Rows.fnZTimeBackRow.ifacesOut == Tryz.f3.resultTypes.toList.any (Tryz.prog.ifacesRec ·))) = true := by kernel_rfl
theorem tmb_j21 : ((Rows.fnZTimeBackRow.loopsOut == Tryz.f3.resultTypes.toList.any (Tryz.prog.loopsFrom ·))) = true := by kernel_rfl
theorem tmb_j22 : ((Rows.fnZTimeBackRow.plainKeys == Tryz.prog.plainKeys)) = true := by kernel_rfl
theorem tmb_j23 : (Rows.fnZTimeBackRow.shortTexts.isNone) = true := by kernel_rfl
theorem tmb_j24 : (Tryz.prog.stopsHeard) = true := by kernel_rfl
theorem tmb_j25 : (Tryz.prog.mayEnter) = true := by kernel_rfl
theorem tmb_j26 : ((Rows.fnZTimeBackRow.lifted == Tryz.prog.liftsFinal)) = true := by kernel_rfl
theorem tmb_j27 : ((Tryz.prog.make == some Rows.fnZTimeBackRow.make)) = true := by kernel_rfl
theorem tmb_j28 : ((Rows.fnZTimeBackRow.kinds == (if Rows.fnZTimeBackRow.domain.isEmpty then [] else Tryz.f3.params.toList.map fun t => match Tryz.prog.underlying t with | some (.int k) => some k | _ => Option.none))) = true := by kernel_rfl
theorem tmb_j29 : ((Rows.fnZTimeBackRow.pinned == Rows.fnZTimeBackRow.pinnedBy)) = true := by kernel_rfl
theorem tmb_j30 : ((Rows.fnZTimeBackRow.veiled == (Tryz.f3.params.toList ++ Rows.fnZTimeBackSpec.plain.varTypes Tryz.prog ++ Tryz.f3.resultTypes.toList).any (Tryz.prog.veiledRec ·))) = true := by kernel_rfl
theorem tmb_j31 : (Rows.fnZTimeBackRow.veiledFits Tryz.prog Tryz.f3.params.toList (Tryz.f3.params.toList ++ Rows.fnZTimeBackSpec.plain.varTypes Tryz.prog ++ Tryz.f3.resultTypes.toList)) = true := by kernel_rfl
theorem tmb_joined : joinedFacts Tryz.prog 3 Tryz.f3 Rows.fnZTimeBackSpec Rows.fnZTimeBackRow = true := by
  simp only [joinedFacts, Bool.and_eq_true]
  exact ⟨⟨⟨⟨⟨⟨⟨⟨⟨⟨⟨⟨⟨⟨⟨⟨⟨⟨⟨⟨⟨⟨⟨⟨⟨⟨⟨⟨⟨⟨⟨tmb_j0, tmb_j1⟩, tmb_j2⟩, tmb_j3⟩, tmb_j4⟩, tmb_j5⟩, tmb_j6⟩, tmb_j7⟩, tmb_j8⟩, tmb_j9⟩, tmb_j10⟩, tmb_j11⟩, tmb_j12⟩, tmb_j13⟩, tmb_j14⟩, tmb_j15⟩, tmb_j16⟩, tmb_j17⟩, tmb_j18⟩, tmb_j19⟩, tmb_j20⟩, tmb_j21⟩, tmb_j22⟩, tmb_j23⟩, tmb_j24⟩, tmb_j25⟩, tmb_j26⟩, tmb_j27⟩, tmb_j28⟩, tmb_j29⟩, tmb_j30⟩, tmb_j31⟩
end Go.Proofs.YtieidjlmgalihaaGreatDoor
