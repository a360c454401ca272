/- The closed facts of FnNetFromIP's row, together. -/
import Derived.Test.YtdmnoagahjbjhaaGreatDoorCards
import Derived.JoinedOf
import Derived.Test.YtdmnoagahjbjhaaGreatDoorD1
import Derived.Test.YtdmnoagahjbjhaaGreatDoorD2
import Derived.Test.YtdmnoagahjbjhaaGreatDoorD3
set_option linter.unusedVariables false
open Go
namespace Go.Proofs.YtdmnoagahjbjhaaGreatDoor
set_option maxRecDepth 100000 in
theorem closed : joinedFacts Tryz.prog 4 Tryz.f4 Rows.fnNetFromIPSpec Rows.fnNetFromIPRow = true := by
  unfold joinedFacts
  simp only [Bool.and_eq_true]
  exact ⟨⟨⟨⟨⟨⟨⟨⟨⟨⟨⟨⟨⟨⟨⟨⟨⟨⟨⟨⟨⟨⟨⟨⟨⟨⟨⟨⟨⟨⟨⟨j1, j2⟩, j3⟩, j4⟩, j5⟩, j6⟩, j7⟩, j8⟩, j9⟩, j10⟩, j11⟩, j12⟩, j13⟩, j14⟩, j15⟩, j16⟩, j17⟩, j18⟩, j19⟩, j20⟩, j21⟩, j22⟩, j23⟩, j24⟩, j25⟩, j26⟩, j27⟩, j28⟩, j29⟩, j30⟩, j31⟩, j32⟩
end Go.Proofs.YtdmnoagahjbjhaaGreatDoor
