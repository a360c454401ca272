/- The closed facts of FnNetMatch's row, one by one. -/
import Derived.Test.YtdmnoagahjbjhaaGreatDoorCards
import Derived.JoinedOf
set_option linter.unusedVariables false
open Go
namespace Go.Proofs.YtdmnoagahjbjhaaGreatDoor
theorem j1 : (Rows.fnNetMatchRow.wf (OpenSpec.ofChange Rows.fnNetMatchSpec)) = true := by kernel_rfl
theorem j2 : (laidOutB Tryz.prog) = true := by kernel_rfl
theorem j3 : (mapsRowed Tryz.prog) = true := by kernel_rfl
theorem j4 : (Tryz.f3.params.all (Tryz.prog.readableRec ·)) = true := by kernel_rfl
theorem j5 : (namedTie Tryz.prog Rows.fnNetMatchRow.named Rows.fnNetMatchSpec.vars) = true := by kernel_rfl
theorem j6 : ((Rows.fnNetMatchRow.stops == [])) = true := by kernel_rfl
theorem j7 : ((Tryz.prog.stops == [])) = true := by kernel_rfl
theorem j8 : ((Rows.fnNetMatchRow.knobs == [])) = true := by kernel_rfl
theorem j9 : ((Tryz.prog.stopKnobs == [])) = true := by kernel_rfl
theorem j10 : ((Rows.fnNetMatchRow.inPlace == Tryz.prog.inPlace 3)) = true := by kernel_rfl
theorem j11 : ((Rows.fnNetMatchRow.unfollowed == Tryz.prog.unfollowed 3)) = true := by kernel_rfl
theorem j12 : ((Rows.fnNetMatchRow.recurses == Tryz.prog.recurses 3)) = true := by kernel_rfl
theorem j13 : ((Rows.fnNetMatchRow.named == Tryz.prog.varsNamed 3)) = true := by kernel_rfl
theorem j14 : ((Rows.fnNetMatchRow.maps == (Tryz.f3.params.toList ++ Rows.fnNetMatchSpec.plain.varTypes Tryz.prog).any (Tryz.prog.mapsRec ·))) = true := by kernel_rfl
theorem j15 : ((Rows.fnNetMatchRow.ifaces == (Tryz.f3.params.toList ++ Rows.fnNetMatchSpec.plain.varTypes Tryz.prog).any (Tryz.prog.ifacesRec ·))) = true := by kernel_rfl
theorem j16 : ((Rows.fnNetMatchRow.mapsOut == Tryz.prog.mapsAmong Tryz.f3.resultTypes.toList)) = true := by kernel_rfl
end Go.Proofs.YtdmnoagahjbjhaaGreatDoor
