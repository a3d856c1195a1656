/- The rows' frame: the program's closed facts, the start that fits, the table. -/
import Derived.Test.YtieidjlmgalihaaGreatDoorRows
import Derived.Test.YtieidjlmgalihaaGreatDoorKit
import Derived.ProofKit
import Derived.LaidMore
import Derived.OpenShut
import Derived.OpenVars
import Derived.Stop.Joined
import Derived.Test.YtieidjlmgalihaaGreatDoorFrm
import Derived.Lib.LaidTab
import Derived.Stop.LaidErr
import Derived.Lib.AppendIntMem
namespace Go.Proofs.YtieidjlmgalihaaGreatDoor
open Go.ChangeShapes Go.WideShapes Go.ChangeAt Go.RowKit
set_option maxRecDepth 100000
theorem hooked_j0 : (Rows.fnZHookedRow.wf (OpenSpec.ofChange Rows.fnZHookedSpec)) = true := by kernel_rfl
theorem hooked_j1 : (laidOutB Tryz.prog) = true := by kernel_rfl
theorem hooked_j2 : (mapsRowed Tryz.prog) = true := by kernel_rfl
theorem hooked_j3 : (Tryz.f8.params.all (Tryz.prog.readableRec ·)) = true := by kernel_rfl
theorem hooked_j4 : (namedTie Tryz.prog Rows.fnZHookedRow.named Rows.fnZHookedSpec.vars) = true := by kernel_rfl
theorem hooked_j5 : ((Rows.fnZHookedRow.stops == [])) = true := by kernel_rfl
theorem hooked_j6 : ((Tryz.prog.stops == [])) = true := by kernel_rfl
theorem hooked_j7 : ((Rows.fnZHookedRow.knobs == [])) = true := by kernel_rfl
theorem hooked_j8 : ((Tryz.prog.stopKnobs == [])) = true := by kernel_rfl
theorem hooked_j9 : ((Rows.fnZHookedRow.inPlace == Tryz.prog.inPlace 8)) = true := by kernel_rfl
theorem hooked_j10 : ((Rows.fnZHookedRow.unfollowed == Tryz.prog.unfollowed 8)) = true := by kernel_rfl
theorem hooked_j11 : ((Rows.fnZHookedRow.recurses == Tryz.prog.recurses 8)) = true := by kernel_rfl
theorem hooked_j12 : ((Rows.fnZHookedRow.named == Tryz.prog.varsNamed 8)) = true := by kernel_rfl
theorem hooked_j13 : ((Rows.fnZHookedRow.maps == (Tryz.f8.params.toList ++ Rows.fnZHookedSpec.plain.varTypes Tryz.prog).any (Tryz.prog.mapsRec ·))) = true := by kernel_rfl
theorem hooked_j14 : ((Rows.fnZHookedRow.ifaces == (Tryz.f8.params.toList ++ Rows.fnZHookedSpec.plain.varTypes Tryz.prog).any (Tryz.prog.ifacesRec ·))) = true := by kernel_rfl
theorem hooked_j15 : ((Rows.fnZHookedRow.mapsOut == Tryz.prog.mapsAmong Tryz.f8.resultTypes.toList)) = true := by kernel_rfl
theorem hooked_j16 : ((Rows.fnZHookedRow.loops == (Tryz.f8.params.toList ++ Rows.fnZHookedSpec.plain.varTypes Tryz.prog).any (Tryz.prog.loopsFrom ·))) = true := by kernel_rfl
theorem hooked_j17 : ((Rows.fnZHookedRow.wideKeys == (Tryz.f8.params.toList ++ Rows.fnZHookedSpec.plain.varTypes Tryz.prog ++ Tryz.f8.resultTypes.toList).any (Tryz.prog.wideKeysFrom ·))) = true := by kernel_rfl
theorem hooked_j18 : (Rows.fnZHookedSpec.vars.all (Tryz.prog.varReadable ·)) = true := by kernel_rfl
theorem hooked_j19 : (Tryz.f8.resultTypes.all (fun t => Tryz.prog.readableRec t && decide (t < Tryz.prog.types.size))) = true := by kernel_rfl
theorem hooked_j20 : ((Rows.fnZHookedRow.ifacesOut == Tryz.f8.resultTypes.toList.any (Tryz.prog.ifacesRec ·))) = true := by kernel_rfl
theorem hooked_j21 : ((Rows.fnZHookedRow.loopsOut == Tryz.f8.resultTypes.toList.any (Tryz.prog.loopsFrom ·))) = true := by kernel_rfl
theorem hooked_j22 : ((Rows.fnZHookedRow.plainKeys == Tryz.prog.plainKeys)) = true := by kernel_rfl
theorem hooked_j23 : (Rows.fnZHookedRow.shortTexts.isNone) = true := by kernel_rfl
theorem hooked_j24 : (Tryz.prog.stopsHeard) = true := by kernel_rfl
theorem hooked_j25 : (Tryz.prog.mayEnter) = true := by kernel_rfl
theorem hooked_j26 : ((Rows.fnZHookedRow.lifted == Tryz.prog.liftsFinal)) = true := by kernel_rfl
theorem hooked_j27 : ((Tryz.prog.make == some Rows.fnZHookedRow.make)) = true := by kernel_rfl
theorem hooked_j28 : ((Rows.fnZHookedRow.kinds == (if Rows.fnZHookedRow.domain.isEmpty then [] else Tryz.f8.params.toList.map fun t => match Tryz.prog.underlying t with | some (.int k) => some k | _ => Option.none))) = true := by kernel_rfl
theorem hooked_j29 : ((Rows.fnZHookedRow.pinned == Rows.fnZHookedRow.pinnedBy)) = true := by kernel_rfl
theorem hooked_j30 : ((Rows.fnZHookedRow.veiled == (Tryz.f8.params.toList ++ Rows.fnZHookedSpec.plain.varTypes Tryz.prog ++ Tryz.f8.resultTypes.toList).any (Tryz.prog.veiledRec ·))) = true := by kernel_rfl
theorem hooked_j31 : (Rows.fnZHookedRow.veiledFits Tryz.prog Tryz.f8.params.toList (Tryz.f8.params.toList ++ Rows.fnZHookedSpec.plain.varTypes Tryz.prog ++ Tryz.f8.resultTypes.toList)) = true := by kernel_rfl
theorem hooked_joined : joinedFacts Tryz.prog 8 Tryz.f8 Rows.fnZHookedSpec Rows.fnZHookedRow = true := by
  simp only [joinedFacts, Bool.and_eq_true]
  exact ⟨⟨⟨⟨⟨⟨⟨⟨⟨⟨⟨⟨⟨⟨⟨⟨⟨⟨⟨⟨⟨⟨⟨⟨⟨⟨⟨⟨⟨⟨⟨hooked_j0, hooked_j1⟩, hooked_j2⟩, hooked_j3⟩, hooked_j4⟩, hooked_j5⟩, hooked_j6⟩, hooked_j7⟩, hooked_j8⟩, hooked_j9⟩, hooked_j10⟩, hooked_j11⟩, hooked_j12⟩, hooked_j13⟩, hooked_j14⟩, hooked_j15⟩, hooked_j16⟩, hooked_j17⟩, hooked_j18⟩, hooked_j19⟩, hooked_j20⟩, hooked_j21⟩, hooked_j22⟩, hooked_j23⟩, hooked_j24⟩, hooked_j25⟩, hooked_j26⟩, hooked_j27⟩, hooked_j28⟩, hooked_j29⟩, hooked_j30⟩, hooked_j31⟩
end Go.Proofs.YtieidjlmgalihaaGreatDoor
