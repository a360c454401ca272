/- Joined texts: Tb. -/
import Derived.Test.YtnklanajebphpaaGreatDoorW20
set_option maxRecDepth 100000
set_option maxHeartbeats 4000000
set_option linter.unusedVariables false
set_option linter.unusedSimpArgs false
namespace Go.Proofs.YtnklanajebphpaaGreatDoor
open IntKind
open Go
theorem OO:∀os tape,varsDone Tryz.prog 400 (varsId Tryz.prog) os tape=true:=fun _ _=>by kernel_rfl
end Go.Proofs.YtnklanajebphpaaGreatDoor
