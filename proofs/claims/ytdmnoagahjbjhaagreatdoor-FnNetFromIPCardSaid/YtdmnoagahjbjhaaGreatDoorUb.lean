/- The tie of FnNetFromIP: the door comes to its end. -/
import Derived.Test.YtdmnoagahjbjhaaGreatDoorUa
set_option linter.unusedVariables false
set_option linter.unusedSimpArgs false
namespace Go.Proofs.YtdmnoagahjbjhaaGreatDoor
open Go
theorem fUb : ∀ os tape, varsDone Tryz.prog 400 (varsId Tryz.prog) os tape = true := fun _ _ => by kernel_rfl
end Go.Proofs.YtdmnoagahjbjhaaGreatDoor
