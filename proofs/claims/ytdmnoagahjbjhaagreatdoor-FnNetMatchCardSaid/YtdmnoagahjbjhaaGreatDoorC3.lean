/- The closed facts of FnNetMatch's row, beside those. -/
import Derived.Test.YtdmnoagahjbjhaaGreatDoorCards
import Derived.JoinedOf
set_option linter.unusedVariables false
open Go
namespace Go.Proofs.YtdmnoagahjbjhaaGreatDoor
theorem named3 : Tryz.prog.funcNamed "pub-brocade/laws.FnNetMatch" = some 3 := by kernel_rfl
theorem inst3 : Tryz.f3.isInstance Tryz.prog Rows.fnNetMatchRow.origin Rows.fnNetMatchRow.targs := of_decide_eq_true (by kernel_rfl)
theorem wrap3 : Tryz.f3.isWrapper Tryz.prog Rows.fnNetMatchRow.wrapper Rows.fnNetMatchRow.mainSum := by
  unfold Func.isWrapper
  rw [if_neg (of_decide_eq_false (by kernel_rfl))]
  exact ⟨rfl, rfl⟩
theorem wfText : Rows.fnNetMatchRow.wfByText (OpenSpec.ofChange Rows.fnNetMatchSpec) = true := by kernel_rfl
theorem mainIs3 : Tryz.prog.mainIs = some (true, "1746c496b2453f4e6db985d80afc1499441837c4bb4f218e868f48d6a59b2b5d".toList) := by kernel_rfl
theorem looks3 : true = Tryz.prog.looks [] := by kernel_rfl
theorem goes3 : false = Rows.fnNetMatchRow.goesBy Tryz.prog := by kernel_rfl
theorem wants3 : ([22, 23].all fun u => !Tryz.prog.wantsStandIn u) = true := by kernel_rfl
theorem noInit3 : Tryz.prog.inits.idxOf? 3 = none := by kernel_rfl
theorem readable22 : Tryz.prog.readableRec 22 = true := by kernel_rfl
theorem readable23 : Tryz.prog.readableRec 23 = true := by kernel_rfl
theorem types22 : 22 < Tryz.prog.types.size := of_decide_eq_true (by kernel_rfl)
theorem types23 : 23 < Tryz.prog.types.size := of_decide_eq_true (by kernel_rfl)
theorem cells22 : Tryz.prog.cellsOf 22 = 1 := by kernel_rfl
theorem bytes22 : 0 < Tryz.prog.bytesOf 22 := of_decide_eq_true (by kernel_rfl)
end Go.Proofs.YtdmnoagahjbjhaaGreatDoor
