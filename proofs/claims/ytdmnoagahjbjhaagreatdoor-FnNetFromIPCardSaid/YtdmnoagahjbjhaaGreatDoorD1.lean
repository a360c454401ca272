/- The closed facts of FnNetFromIP's row, one by one. -/
import Derived.Test.YtdmnoagahjbjhaaGreatDoorCards
import Derived.JoinedOf
set_option linter.unusedVariables false
open Go
namespace Go.Proofs.YtdmnoagahjbjhaaGreatDoor
theorem j1 : (Rows.fnNetFromIPRow.wf (OpenSpec.ofChange Rows.fnNetFromIPSpec)) = true := by kernel_rfl
theorem j2 : (laidOutB Tryz.prog) = true := by kernel_rfl
theorem j3 : (mapsRowed Tryz.prog) = true := by kernel_rfl
theorem j4 : (Tryz.f4.params.all (Tryz.prog.readableRec ·)) = true := by kernel_rfl
theorem j5 : (namedTie Tryz.prog Rows.fnNetFromIPRow.named Rows.fnNetFromIPSpec.vars) = true := by kernel_rfl
theorem j6 : ((Rows.fnNetFromIPRow.stops == [])) = true := by kernel_rfl
theorem j7 : ((Tryz.prog.stops == [])) = true := by kernel_rfl
theorem j8 : ((Rows.fnNetFromIPRow.knobs == [])) = true := by kernel_rfl
theorem j9 : ((Tryz.prog.stopKnobs == [])) = true := by kernel_rfl
theorem j10 : ((Rows.fnNetFromIPRow.inPlace == Tryz.prog.inPlace 4)) = true := by kernel_rfl
theorem j11 : ((Rows.fnNetFromIPRow.unfollowed == Tryz.prog.unfollowed 4)) = true := by kernel_rfl
theorem j12 : ((Rows.fnNetFromIPRow.recurses == Tryz.prog.recurses 4)) = true := by kernel_rfl
theorem j13 : ((Rows.fnNetFromIPRow.named == Tryz.prog.varsNamed 4)) = true := by kernel_rfl
theorem j14 : ((Rows.fnNetFromIPRow.maps == (Tryz.f4.params.toList ++ Rows.fnNetFromIPSpec.plain.varTypes Tryz.prog).any (Tryz.prog.mapsRec ·))) = true := by kernel_rfl
theorem j15 : ((Rows.fnNetFromIPRow.ifaces == (Tryz.f4.params.toList ++ Rows.fnNetFromIPSpec.plain.varTypes Tryz.prog).any (Tryz.prog.ifacesRec ·))) = true := by kernel_rfl
theorem j16 : ((Rows.fnNetFromIPRow.mapsOut == Tryz.prog.mapsAmong Tryz.f4.resultTypes.toList)) = true := by kernel_rfl
end Go.Proofs.YtdmnoagahjbjhaaGreatDoor
