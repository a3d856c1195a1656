/- FnZTees: the row's closed facts. -/
import Derived.Test.YtieidjlmgalihaaGreatDoorRows
import Derived.Test.YtieidjlmgalihaaGreatDoorKit3
import Derived.ProofKit
import Derived.LaidMore
import Derived.OpenShut
import Derived.OpenVars
import Derived.Stop.Joined
import Derived.Test.YtieidjlmgalihaaGreatDoorFrm2
import Derived.Lib.LaidTab
import Derived.Stop.LaidErr
import Derived.Lib.AppendIntMem
set_option linter.all false
namespace Go.Proofs.YtieidjlmgalihaaGreatDoor
open Go.ChangeShapes Go.WideShapes Go.ChangeAt Go.RowKit
set_option maxRecDepth 100000
theorem tees_j0 : (Rows.fnZTeesRow.wf (OpenSpec.ofChange Rows.fnZTeesSpec)) = true := by kernel_rfl
theorem tees_j1 : (laidOutB Tryz.prog) = true := by kernel_rfl
theorem tees_j2 : (mapsRowed Tryz.prog) = true := by kernel_rfl
theorem tees_j3 : (Tryz.f10.params.all (Tryz.prog.readableRec ·)) = true := by kernel_rfl
theorem tees_j4 : (namedTie Tryz.prog Rows.fnZTeesRow.named Rows.fnZTeesSpec.vars) = true := by kernel_rfl
theorem tees_j5 : ((Rows.fnZTeesRow.stops == [])) = true := by kernel_rfl
theorem tees_j6 : ((Tryz.prog.stops == [])) = true := by kernel_rfl
theorem tees_j7 : ((Rows.fnZTeesRow.knobs == [])) = true := by kernel_rfl
theorem tees_j8 : ((Tryz.prog.stopKnobs == [])) = true := by kernel_rfl
theorem tees_j9 : ((Rows.fnZTeesRow.inPlace == Tryz.prog.inPlace 10)) = true := by kernel_rfl
theorem tees_j10 : ((Rows.fnZTeesRow.unfollowed == Tryz.prog.unfollowed 10)) = true := by kernel_rfl
theorem tees_j11 : ((Rows.fnZTeesRow.recurses == Tryz.prog.recurses 10)) = true := by kernel_rfl
theorem tees_j12 : ((Rows.fnZTeesRow.named == Tryz.prog.varsNamed 10)) = true := by kernel_rfl
theorem tees_j13 : ((Rows.fnZTeesRow.maps == (Tryz.f10.params.toList ++ Rows.fnZTeesSpec.plain.varTypes Tryz.prog).any (Tryz.prog.mapsRec ·))) = true := by kernel_rfl
theorem tees_j14 : ((Rows.fnZTeesRow.ifaces == (Tryz.f10.params.toList ++ Rows.fnZTeesSpec.plain.varTypes Tryz.prog).any (Tryz.prog.ifacesRec ·))) = true := by kernel_rfl
theorem tees_j15 : ((Rows.fnZTeesRow.mapsOut == Tryz.prog.mapsAmong Tryz.f10.resultTypes.toList)) = true := by kernel_rfl
theorem tees_j16 : ((Rows.fnZTeesRow.loops == (Tryz.f10.params.toList ++ Rows.fnZTeesSpec.plain.varTypes Tryz.prog).any (Tryz.prog.loopsFrom ·))) = true := by kernel_rfl
theorem tees_j17 : ((Rows.fnZTeesRow.wideKeys == (Tryz.f10.params.toList ++ Rows.fnZTeesSpec.plain.varTypes Tryz.prog ++ Tryz.f10.resultTypes.toList).any (Tryz.prog.wideKeysFrom ·))) = true := by kernel_rfl
theorem tees_j18 : (Rows.fnZTeesSpec.vars.all (Tryz.prog.varReadable ·)) = true := by kernel_rfl
theorem tees_j19 : (Tryz.f10.resultTypes.all (fun t => Tryz.prog.readableRec t && decide (t < Tryz.prog.types.size))) = true := by kernel_rfl
theorem tees_j20 : ((Rows.fnZTeesRow.ifacesOut == Tryz.f10.resultTypes.toList.any (Tryz.prog.ifacesRec ·))) = true := by kernel_rfl
theorem tees_j21 : ((Rows.fnZTeesRow.loopsOut == Tryz.f10.resultTypes.toList.any (Tryz.prog.loopsFrom ·))) = true := by kernel_rfl
theorem tees_j22 : ((Rows.fnZTeesRow.plainKeys == Tryz.prog.plainKeys)) = true := by kernel_rfl
theorem tees_j23 : (Rows.fnZTeesRow.shortTexts.isNone) = true := by kernel_rfl
theorem tees_j24 : (Tryz.prog.stopsHeard) = true := by kernel_rfl
theorem tees_j25 : (Tryz.prog.mayEnter) = true := by kernel_rfl
theorem tees_j26 : ((Rows.fnZTeesRow.lifted == Tryz.prog.liftsFinal)) = true := by kernel_rfl
theorem tees_j27 : ((Tryz.prog.make == some Rows.fnZTeesRow.make)) = true := by kernel_rfl
theorem tees_j28 : ((Rows.fnZTeesRow.kinds == (if Rows.fnZTeesRow.domain.isEmpty then [] else Tryz.f10.params.toList.map fun t => match Tryz.prog.underlying t with | some (.int k) => some k | _ => Option.none))) = true := by kernel_rfl
theorem tees_j29 : ((Rows.fnZTeesRow.pinned == Rows.fnZTeesRow.pinnedBy)) = true := by kernel_rfl
theorem tees_j30 : ((Rows.fnZTeesRow.veiled == (Tryz.f10.params.toList ++ Rows.fnZTeesSpec.plain.varTypes Tryz.prog ++ Tryz.f10.resultTypes.toList).any (Tryz.prog.veiledRec ·))) = true := by kernel_rfl
theorem tees_j31 : (Rows.fnZTeesRow.veiledFits Tryz.prog Tryz.f10.params.toList (Tryz.f10.params.toList ++ Rows.fnZTeesSpec.plain.varTypes Tryz.prog ++ Tryz.f10.resultTypes.toList)) = true := by kernel_rfl
theorem tees_joined : joinedFacts Tryz.prog 10 Tryz.f10 Rows.fnZTeesSpec Rows.fnZTeesRow = true := by
  simp only [joinedFacts, Bool.and_eq_true]
  exact ⟨⟨⟨⟨⟨⟨⟨⟨⟨⟨⟨⟨⟨⟨⟨⟨⟨⟨⟨⟨⟨⟨⟨⟨⟨⟨⟨⟨⟨⟨⟨tees_j0, tees_j1⟩, tees_j2⟩, tees_j3⟩, tees_j4⟩, tees_j5⟩, tees_j6⟩, tees_j7⟩, tees_j8⟩, tees_j9⟩, tees_j10⟩, tees_j11⟩, tees_j12⟩, tees_j13⟩, tees_j14⟩, tees_j15⟩, tees_j16⟩, tees_j17⟩, tees_j18⟩, tees_j19⟩, tees_j20⟩, tees_j21⟩, tees_j22⟩, tees_j23⟩, tees_j24⟩, tees_j25⟩, tees_j26⟩, tees_j27⟩, tees_j28⟩, tees_j29⟩, tees_j30⟩, tees_j31⟩
end Go.Proofs.YtieidjlmgalihaaGreatDoor
