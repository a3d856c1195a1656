/- FnZWithTwice: the row's closed facts. -/
import Derived.Test.YtieidjlmgalihaaGreatDoorRows
import Derived.Test.YtieidjlmgalihaaGreatDoorKit3
import Derived.ProofKit
import Derived.LaidMore
import Derived.OpenShut
import Derived.OpenVars
import Derived.Stop.Joined
import Derived.Test.YtieidjlmgalihaaGreatDoorFrm2
import Derived.Lib.LaidTab
import Derived.Stop.LaidErr
import Derived.Lib.AppendIntMem
set_option linter.all false
namespace Go.Proofs.YtieidjlmgalihaaGreatDoor
open Go.ChangeShapes Go.WideShapes Go.ChangeAt Go.RowKit
set_option maxRecDepth 100000
theorem twice_j0 : (Rows.fnZWithTwiceRow.wf (OpenSpec.ofChange Rows.fnZWithTwiceSpec)) = true := by kernel_rfl
theorem twice_j1 : (laidOutB Tryz.prog) = true := by kernel_rfl
theorem twice_j2 : (mapsRowed Tryz.prog) = true := by kernel_rfl
theorem twice_j3 : (Tryz.f11.params.all (Tryz.prog.readableRec ·)) = true := by kernel_rfl
theorem twice_j4 : (namedTie Tryz.prog Rows.fnZWithTwiceRow.named Rows.fnZWithTwiceSpec.vars) = true := by kernel_rfl
theorem twice_j5 : ((Rows.fnZWithTwiceRow.stops == [])) = true := by kernel_rfl
theorem twice_j6 : ((Tryz.prog.stops == [])) = true := by kernel_rfl
theorem twice_j7 : ((Rows.fnZWithTwiceRow.knobs == [])) = true := by kernel_rfl
theorem twice_j8 : ((Tryz.prog.stopKnobs == [])) = true := by kernel_rfl
theorem twice_j9 : ((Rows.fnZWithTwiceRow.inPlace == Tryz.prog.inPlace 11)) = true := by kernel_rfl
theorem twice_j10 : ((Rows.fnZWithTwiceRow.unfollowed == Tryz.prog.unfollowed 11)) = true := by kernel_rfl
theorem twice_j11 : ((Rows.fnZWithTwiceRow.recurses == Tryz.prog.recurses 11)) = true := by kernel_rfl
theorem twice_j12 : ((Rows.fnZWithTwiceRow.named == Tryz.prog.varsNamed 11)) = true := by kernel_rfl
theorem twice_j13 : ((Rows.fnZWithTwiceRow.maps == (Tryz.f11.params.toList ++ Rows.fnZWithTwiceSpec.plain.varTypes Tryz.prog).any (Tryz.prog.mapsRec ·))) = true := by kernel_rfl
theorem twice_j14 : ((Rows.fnZWithTwiceRow.ifaces == (Tryz.f11.params.toList ++ Rows.fnZWithTwiceSpec.plain.varTypes Tryz.prog).any (Tryz.prog.ifacesRec ·))) = true := by kernel_rfl
theorem twice_j15 : ((Rows.fnZWithTwiceRow.mapsOut == Tryz.prog.mapsAmong Tryz.f11.resultTypes.toList)) = true := by kernel_rfl
theorem twice_j16 : ((Rows.fnZWithTwiceRow.loops == (Tryz.f11.params.toList ++ Rows.fnZWithTwiceSpec.plain.varTypes Tryz.prog).any (Tryz.prog.loopsFrom ·))) = true := by kernel_rfl
theorem twice_j17 : ((Rows.fnZWithTwiceRow.wideKeys == (Tryz.f11.params.toList ++ Rows.fnZWithTwiceSpec.plain.varTypes Tryz.prog ++ Tryz.f11.resultTypes.toList).any (Tryz.prog.wideKeysFrom ·))) = true := by kernel_rfl
theorem twice_j18 : (Rows.fnZWithTwiceSpec.vars.all (Tryz.prog.varReadable ·)) = true := by kernel_rfl
theorem twice_j19 : (Tryz.f11.resultTypes.all (fun t => Tryz.prog.readableRec t && decide (t < Tryz.prog.types.size))) = true := by kernel_rfl
theorem twice_j20 : ((Rows.fnZWithTwiceRow.ifacesOut == Tryz.f11.resultTypes.toList.any (Tryz.prog.ifacesRec ·))) = true := by kernel_rfl
theorem twice_j21 : ((Rows.fnZWithTwiceRow.loopsOut == Tryz.f11.resultTypes.toList.any (Tryz.prog.loopsFrom ·))) = true := by kernel_rfl
theorem twice_j22 : ((Rows.fnZWithTwiceRow.plainKeys == Tryz.prog.plainKeys)) = true := by kernel_rfl
theorem twice_j23 : (Rows.fnZWithTwiceRow.shortTexts.isNone) = true := by kernel_rfl
theorem twice_j24 : (Tryz.prog.stopsHeard) = true := by kernel_rfl
theorem twice_j25 : (Tryz.prog.mayEnter) = true := by kernel_rfl
theorem twice_j26 : ((Rows.fnZWithTwiceRow.lifted == Tryz.prog.liftsFinal)) = true := by kernel_rfl
theorem twice_j27 : ((Tryz.prog.make == some Rows.fnZWithTwiceRow.make)) = true := by kernel_rfl
theorem twice_j28 : ((Rows.fnZWithTwiceRow.kinds == (if Rows.fnZWithTwiceRow.domain.isEmpty then [] else Tryz.f11.params.toList.map fun t => match Tryz.prog.underlying t with | some (.int k) => some k | _ => Option.none))) = true := by kernel_rfl
theorem twice_j29 : ((Rows.fnZWithTwiceRow.pinned == Rows.fnZWithTwiceRow.pinnedBy)) = true := by kernel_rfl
theorem twice_j30 : ((Rows.fnZWithTwiceRow.veiled == (Tryz.f11.params.toList ++ Rows.fnZWithTwiceSpec.plain.varTypes Tryz.prog ++ Tryz.f11.resultTypes.toList).any (Tryz.prog.veiledRec ·))) = true := by kernel_rfl
theorem twice_j31 : (Rows.fnZWithTwiceRow.veiledFits Tryz.prog Tryz.f11.params.toList (Tryz.f11.params.toList ++ Rows.fnZWithTwiceSpec.plain.varTypes Tryz.prog ++ Tryz.f11.resultTypes.toList)) = true := by kernel_rfl
theorem twice_joined : joinedFacts Tryz.prog 11 Tryz.f11 Rows.fnZWithTwiceSpec Rows.fnZWithTwiceRow = true := by
  simp only [joinedFacts, Bool.and_eq_true]
  exact ⟨⟨⟨⟨⟨⟨⟨⟨⟨⟨⟨⟨⟨⟨⟨⟨⟨⟨⟨⟨⟨⟨⟨⟨⟨⟨⟨⟨⟨⟨⟨twice_j0, twice_j1⟩, twice_j2⟩, twice_j3⟩, twice_j4⟩, twice_j5⟩, twice_j6⟩, twice_j7⟩, twice_j8⟩, twice_j9⟩, twice_j10⟩, twice_j11⟩, twice_j12⟩, twice_j13⟩, twice_j14⟩, twice_j15⟩, twice_j16⟩, twice_j17⟩, twice_j18⟩, twice_j19⟩, twice_j20⟩, twice_j21⟩, twice_j22⟩, twice_j23⟩, twice_j24⟩, twice_j25⟩, twice_j26⟩, twice_j27⟩, twice_j28⟩, twice_j29⟩, twice_j30⟩, twice_j31⟩
end Go.Proofs.YtieidjlmgalihaaGreatDoor
