/- Joined texts: Tc. -/
import Derived.Test.YtnklanajebphpaaGreatDoorW20
set_option maxRecDepth 100000
set_option maxHeartbeats 4000000
set_option linter.unusedVariables false
set_option linter.unusedSimpArgs false
namespace Go.Proofs.YtnklanajebphpaaGreatDoor
open IntKind
open Go
theorem OP:∀os tape,(DataW.laidRun Tryz.prog (varsWorld Tryz.prog 400 (varsId Tryz.prog) os tape).memory 8 (ml.map (·.1))).map (·.1)=some ml:=fun _ _=>by kernel_rfl
end Go.Proofs.YtnklanajebphpaaGreatDoor
