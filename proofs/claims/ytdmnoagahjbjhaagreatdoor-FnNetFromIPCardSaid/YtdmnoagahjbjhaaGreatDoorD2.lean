/- The closed facts of FnNetFromIP's row, the second half. -/
import Derived.Test.YtdmnoagahjbjhaaGreatDoorCards
import Derived.JoinedOf
set_option linter.unusedVariables false
open Go
namespace Go.Proofs.YtdmnoagahjbjhaaGreatDoor
theorem j17 : ((Rows.fnNetFromIPRow.loops == (Tryz.f4.params.toList ++ Rows.fnNetFromIPSpec.plain.varTypes Tryz.prog).any (Tryz.prog.loopsFrom ·))) = true := by kernel_rfl
theorem j18 : ((Rows.fnNetFromIPRow.wideKeys == (Tryz.f4.params.toList ++ Rows.fnNetFromIPSpec.plain.varTypes Tryz.prog ++ Tryz.f4.resultTypes.toList).any (Tryz.prog.wideKeysFrom ·))) = true := by kernel_rfl
theorem j19 : (Rows.fnNetFromIPSpec.vars.all (Tryz.prog.varReadable ·)) = true := by kernel_rfl
theorem j20 : (Tryz.f4.resultTypes.all (fun t => Tryz.prog.readableRec t && decide (t < Tryz.prog.types.size))) = true := by kernel_rfl
theorem j21 : ((Rows.fnNetFromIPRow.ifacesOut == Tryz.f4.resultTypes.toList.any (Tryz.prog.ifacesRec ·))) = true := by kernel_rfl
theorem j22 : ((Rows.fnNetFromIPRow.loopsOut == Tryz.f4.resultTypes.toList.any (Tryz.prog.loopsFrom ·))) = true := by kernel_rfl
theorem j23 : ((Rows.fnNetFromIPRow.plainKeys == Tryz.prog.plainKeys)) = true := by kernel_rfl
theorem j24 : (Rows.fnNetFromIPRow.shortTexts.isNone) = true := by kernel_rfl
theorem j25 : (Tryz.prog.stopsHeard) = true := by kernel_rfl
theorem j26 : (Tryz.prog.mayEnter) = true := by kernel_rfl
theorem j27 : ((Rows.fnNetFromIPRow.lifted == Tryz.prog.liftsFinal)) = true := by kernel_rfl
theorem j28 : ((Tryz.prog.make == some Rows.fnNetFromIPRow.make)) = true := by kernel_rfl
theorem j29 : ((Rows.fnNetFromIPRow.kinds == (if Rows.fnNetFromIPRow.domain.isEmpty then [] else Tryz.f4.params.toList.map fun t => match Tryz.prog.underlying t with | some (.int k) => some k | _ => none))) = true := by kernel_rfl
theorem j30 : ((Rows.fnNetFromIPRow.pinned == Rows.fnNetFromIPRow.pinnedBy)) = true := by kernel_rfl
theorem j31 : ((Rows.fnNetFromIPRow.veiled == (Tryz.f4.params.toList ++ Rows.fnNetFromIPSpec.plain.varTypes Tryz.prog ++ Tryz.f4.resultTypes.toList).any (Tryz.prog.veiledRec ·))) = true := by kernel_rfl
theorem j32 : (Rows.fnNetFromIPRow.veiledFits Tryz.prog Tryz.f4.params.toList (Tryz.f4.params.toList ++ Rows.fnNetFromIPSpec.plain.varTypes Tryz.prog ++ Tryz.f4.resultTypes.toList)) = true := by kernel_rfl
end Go.Proofs.YtdmnoagahjbjhaaGreatDoor
