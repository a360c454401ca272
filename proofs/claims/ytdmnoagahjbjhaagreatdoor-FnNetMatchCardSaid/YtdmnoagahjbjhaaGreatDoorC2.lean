/- The closed facts of FnNetMatch's row, the second half. -/
import Derived.Test.YtdmnoagahjbjhaaGreatDoorCards
import Derived.JoinedOf
set_option linter.unusedVariables false
open Go
namespace Go.Proofs.YtdmnoagahjbjhaaGreatDoor
theorem j17 : ((Rows.fnNetMatchRow.loops == (Tryz.f3.params.toList ++ Rows.fnNetMatchSpec.plain.varTypes Tryz.prog).any (Tryz.prog.loopsFrom ·))) = true := by kernel_rfl
theorem j18 : ((Rows.fnNetMatchRow.wideKeys == (Tryz.f3.params.toList ++ Rows.fnNetMatchSpec.plain.varTypes Tryz.prog ++ Tryz.f3.resultTypes.toList).any (Tryz.prog.wideKeysFrom ·))) = true := by kernel_rfl
theorem j19 : (Rows.fnNetMatchSpec.vars.all (Tryz.prog.varReadable ·)) = true := by kernel_rfl
theorem j20 : (Tryz.f3.resultTypes.all (fun t => Tryz.prog.readableRec t && decide (t < Tryz.prog.types.size))) = true := by kernel_rfl
theorem j21 : ((Rows.fnNetMatchRow.ifacesOut == Tryz.f3.resultTypes.toList.any (Tryz.prog.ifacesRec ·))) = true := by kernel_rfl
theorem j22 : ((Rows.fnNetMatchRow.loopsOut == Tryz.f3.resultTypes.toList.any (Tryz.prog.loopsFrom ·))) = true := by kernel_rfl
theorem j23 : ((Rows.fnNetMatchRow.plainKeys == Tryz.prog.plainKeys)) = true := by kernel_rfl
theorem j24 : (Rows.fnNetMatchRow.shortTexts.isNone) = true := by kernel_rfl
theorem j25 : (Tryz.prog.stopsHeard) = true := by kernel_rfl
theorem j26 : (Tryz.prog.mayEnter) = true := by kernel_rfl
theorem j27 : ((Rows.fnNetMatchRow.lifted == Tryz.prog.liftsFinal)) = true := by kernel_rfl
theorem j28 : ((Tryz.prog.make == some Rows.fnNetMatchRow.make)) = true := by kernel_rfl
theorem j29 : ((Rows.fnNetMatchRow.kinds == (if Rows.fnNetMatchRow.domain.isEmpty then [] else Tryz.f3.params.toList.map fun t => match Tryz.prog.underlying t with | some (.int k) => some k | _ => none))) = true := by kernel_rfl
theorem j30 : ((Rows.fnNetMatchRow.pinned == Rows.fnNetMatchRow.pinnedBy)) = true := by kernel_rfl
theorem j31 : ((Rows.fnNetMatchRow.veiled == (Tryz.f3.params.toList ++ Rows.fnNetMatchSpec.plain.varTypes Tryz.prog ++ Tryz.f3.resultTypes.toList).any (Tryz.prog.veiledRec ·))) = true := by kernel_rfl
theorem j32 : (Rows.fnNetMatchRow.veiledFits Tryz.prog Tryz.f3.params.toList (Tryz.f3.params.toList ++ Rows.fnNetMatchSpec.plain.varTypes Tryz.prog ++ Tryz.f3.resultTypes.toList)) = true := by kernel_rfl
end Go.Proofs.YtdmnoagahjbjhaaGreatDoor
