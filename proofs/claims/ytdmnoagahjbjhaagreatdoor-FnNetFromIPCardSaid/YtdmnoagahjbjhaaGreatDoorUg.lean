/- The tie of FnNetFromIP: the places are rows. -/
import Derived.Test.YtdmnoagahjbjhaaGreatDoorUe
set_option linter.unusedVariables false
set_option linter.unusedSimpArgs false
namespace Go.Proofs.YtdmnoagahjbjhaaGreatDoor
open Go
theorem fUg : ∀ os tape, (DataW.laidRun Tryz.prog (varsWorld Tryz.prog 400 (varsId Tryz.prog) os tape).memory 8 ((tieL.drop 9).map (·.1))).map (fun x => rowsFast Tryz.prog (varsWorld Tryz.prog 400 (varsId Tryz.prog) os tape).memory 100000 #[] x.2) = some true := fun _ _ => by kernel_rfl
end Go.Proofs.YtdmnoagahjbjhaaGreatDoor
