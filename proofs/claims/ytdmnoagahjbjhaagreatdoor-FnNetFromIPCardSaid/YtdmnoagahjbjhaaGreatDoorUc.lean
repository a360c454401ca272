/- The tie of FnNetFromIP: the variables read as listed. -/
import Derived.Test.YtdmnoagahjbjhaaGreatDoorUa
set_option linter.unusedVariables false
set_option linter.unusedSimpArgs false
namespace Go.Proofs.YtdmnoagahjbjhaaGreatDoor
open Go
theorem fUc : ∀ os tape, (DataW.laidRun Tryz.prog (varsWorld Tryz.prog 400 (varsId Tryz.prog) os tape).memory 8 (tieL.map (·.1))).map (·.1) = some tieL := fun _ _ => by kernel_rfl
end Go.Proofs.YtdmnoagahjbjhaaGreatDoor
