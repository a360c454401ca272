/- The closed facts of FnNetFromIP's row, beside those. -/
import Derived.Test.YtdmnoagahjbjhaaGreatDoorCards
import Derived.JoinedOf
set_option linter.unusedVariables false
open Go
namespace Go.Proofs.YtdmnoagahjbjhaaGreatDoor
theorem named4 : Tryz.prog.funcNamed "pub-brocade/laws.FnNetFromIP" = some 4 := by kernel_rfl
theorem inst4 : Tryz.f4.isInstance Tryz.prog Rows.fnNetFromIPRow.origin Rows.fnNetFromIPRow.targs := of_decide_eq_true (by kernel_rfl)
theorem wrap4 : Tryz.f4.isWrapper Tryz.prog Rows.fnNetFromIPRow.wrapper Rows.fnNetFromIPRow.mainSum := by
  unfold Func.isWrapper
  rw [if_neg (of_decide_eq_false (by kernel_rfl))]
  exact ⟨rfl, rfl⟩
theorem wfText : Rows.fnNetFromIPRow.wfByText (OpenSpec.ofChange Rows.fnNetFromIPSpec) = true := by kernel_rfl
theorem mainIs4 : Tryz.prog.mainIs = some (true, "1746c496b2453f4e6db985d80afc1499441837c4bb4f218e868f48d6a59b2b5d".toList) := by kernel_rfl
theorem looks4 : true = Tryz.prog.looks [] := by kernel_rfl
theorem goes4 : false = Rows.fnNetFromIPRow.goesBy Tryz.prog := by kernel_rfl
theorem wants4 : ([31].all fun u => !Tryz.prog.wantsStandIn u) = true := by kernel_rfl
theorem noInit4 : Tryz.prog.inits.idxOf? 4 = none := by kernel_rfl
theorem readable31 : Tryz.prog.readableRec 31 = true := by kernel_rfl
theorem types31 : 31 < Tryz.prog.types.size := of_decide_eq_true (by kernel_rfl)
end Go.Proofs.YtdmnoagahjbjhaaGreatDoor
