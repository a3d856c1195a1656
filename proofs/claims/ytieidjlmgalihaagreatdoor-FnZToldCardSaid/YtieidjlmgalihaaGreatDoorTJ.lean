/- The rows' frame: the program's closed facts, the start that fits, the table. -/
import Derived.Test.YtieidjlmgalihaaGreatDoorRows
import Derived.Test.YtieidjlmgalihaaGreatDoorKit
import Derived.ProofKit
import Derived.LaidMore
import Derived.OpenShut
import Derived.OpenVars
import Derived.Stop.Joined
import Derived.Test.YtieidjlmgalihaaGreatDoorFrm
import Derived.Lib.LaidTab
import Derived.Stop.LaidErr
import Derived.Lib.AppendIntMem
namespace Go.Proofs.YtieidjlmgalihaaGreatDoor
open Go.ChangeShapes Go.WideShapes Go.ChangeAt Go.RowKit
set_option maxRecDepth 100000
theorem told_j0 : (Rows.fnZToldRow.wf (OpenSpec.ofChange Rows.fnZToldSpec)) = true := by kernel_rfl
theorem told_j1 : (laidOutB Tryz.prog) = true := by kernel_rfl
theorem told_j2 : (mapsRowed Tryz.prog) = true := by kernel_rfl
theorem told_j3 : (Tryz.f5.params.all (Tryz.prog.readableRec ·)) = true := by kernel_rfl
theorem told_j4 : (namedTie Tryz.prog Rows.fnZToldRow.named Rows.fnZToldSpec.vars) = true := by kernel_rfl
theorem told_j5 : ((Rows.fnZToldRow.stops == [])) = true := by kernel_rfl
theorem told_j6 : ((Tryz.prog.stops == [])) = true := by kernel_rfl
theorem told_j7 : ((Rows.fnZToldRow.knobs == [])) = true := by kernel_rfl
theorem told_j8 : ((Tryz.prog.stopKnobs == [])) = true := by kernel_rfl
theorem told_j9 : ((Rows.fnZToldRow.inPlace == Tryz.prog.inPlace 5)) = true := by kernel_rfl
theorem told_j10 : ((Rows.fnZToldRow.unfollowed == Tryz.prog.unfollowed 5)) = true := by kernel_rfl
theorem told_j11 : ((Rows.fnZToldRow.recurses == Tryz.prog.recurses 5)) = true := by kernel_rfl
theorem told_j12 : ((Rows.fnZToldRow.named == Tryz.prog.varsNamed 5)) = true := by kernel_rfl
theorem told_j13 : ((Rows.fnZToldRow.maps == (Tryz.f5.params.toList ++ Rows.fnZToldSpec.plain.varTypes Tryz.prog).any (Tryz.prog.mapsRec ·))) = true := by kernel_rfl
theorem told_j14 : ((Rows.fnZToldRow.ifaces == (Tryz.f5.params.toList ++ Rows.fnZToldSpec.plain.varTypes Tryz.prog).any (Tryz.prog.ifacesRec ·))) = true := by kernel_rfl
theorem told_j15 : ((Rows.fnZToldRow.mapsOut == Tryz.prog.mapsAmong Tryz.f5.resultTypes.toList)) = true := by kernel_rfl
theorem told_j16 : ((Rows.fnZToldRow.loops == (Tryz.f5.params.toList ++ Rows.fnZToldSpec.plain.varTypes Tryz.prog).any (Tryz.prog.loopsFrom ·))) = true := by kernel_rfl
theorem told_j17 : ((Rows.fnZToldRow.wideKeys == (Tryz.f5.params.toList ++ Rows.fnZToldSpec.plain.varTypes Tryz.prog ++ Tryz.f5.resultTypes.toList).any (Tryz.prog.wideKeysFrom ·))) = true := by kernel_rfl
theorem told_j18 : (Rows.fnZToldSpec.vars.all (Tryz.prog.varReadable ·)) = true := by kernel_rfl
theorem told_j19 : (Tryz.f5.resultTypes.all (fun t => Tryz.prog.readableRec t && decide (t < Tryz.prog.types.size))) = true := by kernel_rfl
theorem told_j20 : ((Rows.fnZToldRow.ifacesOut == Tryz.f5.resultTypes.toList.any (Tryz.prog.ifacesRec ·))) = true := by kernel_rfl
theorem told_j21 : ((Rows.fnZToldRow.loopsOut == Tryz.f5.resultTypes.toList.any (Tryz.prog.loopsFrom ·))) = true := by kernel_rfl
theorem told_j22 : ((Rows.fnZToldRow.plainKeys == Tryz.prog.plainKeys)) = true := by kernel_rfl
theorem told_j23 : (Rows.fnZToldRow.shortTexts.isNone) = true := by kernel_rfl
theorem told_j24 : (Tryz.prog.stopsHeard) = true := by kernel_rfl
theorem told_j25 : (Tryz.prog.mayEnter) = true := by kernel_rfl
theorem told_j26 : ((Rows.fnZToldRow.lifted == Tryz.prog.liftsFinal)) = true := by kernel_rfl
theorem told_j27 : ((Tryz.prog.make == some Rows.fnZToldRow.make)) = true := by kernel_rfl
theorem told_j28 : ((Rows.fnZToldRow.kinds == (if Rows.fnZToldRow.domain.isEmpty then [] else Tryz.f5.params.toList.map fun t => match Tryz.prog.underlying t with | some (.int k) => some k | _ => Option.none))) = true := by kernel_rfl
theorem told_j29 : ((Rows.fnZToldRow.pinned == Rows.fnZToldRow.pinnedBy)) = true := by kernel_rfl
theorem told_j30 : ((Rows.fnZToldRow.veiled == (Tryz.f5.params.toList ++ Rows.fnZToldSpec.plain.varTypes Tryz.prog ++ Tryz.f5.resultTypes.toList).any (Tryz.prog.veiledRec ·))) = true := by kernel_rfl
theorem told_j31 : (Rows.fnZToldRow.veiledFits Tryz.prog Tryz.f5.params.toList (Tryz.f5.params.toList ++ Rows.fnZToldSpec.plain.varTypes Tryz.prog ++ Tryz.f5.resultTypes.toList)) = true := by kernel_rfl
theorem told_joined : joinedFacts Tryz.prog 5 Tryz.f5 Rows.fnZToldSpec Rows.fnZToldRow = true := by
  simp only [joinedFacts, Bool.and_eq_true]
  exact ⟨⟨⟨⟨⟨⟨⟨⟨⟨⟨⟨⟨⟨⟨⟨⟨⟨⟨⟨⟨⟨⟨⟨⟨⟨⟨⟨⟨⟨⟨⟨told_j0, told_j1⟩, told_j2⟩, told_j3⟩, told_j4⟩, told_j5⟩, told_j6⟩, told_j7⟩, told_j8⟩, told_j9⟩, told_j10⟩, told_j11⟩, told_j12⟩, told_j13⟩, told_j14⟩, told_j15⟩, told_j16⟩, told_j17⟩, told_j18⟩, told_j19⟩, told_j20⟩, told_j21⟩, told_j22⟩, told_j23⟩, told_j24⟩, told_j25⟩, told_j26⟩, told_j27⟩, told_j28⟩, told_j29⟩, told_j30⟩, told_j31⟩
end Go.Proofs.YtieidjlmgalihaaGreatDoor
