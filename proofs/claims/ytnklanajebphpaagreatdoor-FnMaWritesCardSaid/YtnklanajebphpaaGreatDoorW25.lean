/- Joined texts: Tf. -/
import Derived.Test.YtnklanajebphpaaGreatDoorW24
set_option maxRecDepth 100000
set_option maxHeartbeats 4000000
set_option linter.unusedVariables false
set_option linter.unusedSimpArgs false
namespace Go.Proofs.YtnklanajebphpaaGreatDoor
open IntKind
open Go
theorem OS:∀os tape,(DataW.laidRun Tryz.prog (varsWorld Tryz.prog 400 (varsId Tryz.prog) os tape).memory 8 ((ml.take 9).map (·.1))).map (fun x=>eW Tryz.prog (varsWorld Tryz.prog 400 (varsId Tryz.prog) os tape).memory 100000 #[] x.2)=some true:=fun _ _=>by kernel_rfl
end Go.Proofs.YtnklanajebphpaaGreatDoor
