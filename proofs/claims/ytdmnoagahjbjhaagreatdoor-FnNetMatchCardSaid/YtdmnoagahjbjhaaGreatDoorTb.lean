/- The tie of FnNetMatch: the door comes to its end. -/
import Derived.Test.YtdmnoagahjbjhaaGreatDoorTa
set_option linter.unusedVariables false
set_option linter.unusedSimpArgs false
namespace Go.Proofs.YtdmnoagahjbjhaaGreatDoor
open Go
theorem fTb : ∀ os tape, varsDone Tryz.prog 400 (varsId Tryz.prog) os tape = true := fun _ _ => by kernel_rfl
end Go.Proofs.YtdmnoagahjbjhaaGreatDoor
