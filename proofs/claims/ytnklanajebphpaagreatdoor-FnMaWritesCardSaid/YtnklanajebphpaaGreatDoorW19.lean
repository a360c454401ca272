/- Joined texts: EW4. -/
import Derived.Test.YtnklanajebphpaaGreatDoorCards
import Derived.JoinedOf
import Derived.Test.YtnklanajebphpaaGreatDoorW16
import Derived.Test.YtnklanajebphpaaGreatDoorW17
import Derived.Test.YtnklanajebphpaaGreatDoorW18
set_option maxRecDepth 100000
set_option maxHeartbeats 4000000
set_option linter.unusedVariables false
set_option linter.unusedSimpArgs false
namespace Go.Proofs.YtnklanajebphpaaGreatDoor
open IntKind
open Go
theorem Ig:joinedFacts Tryz.prog 5 Tryz.f5 Rows.fnMaWritesSpec Rows.fnMaWritesRow=true:=by
 unfold joinedFacts
 simp only[Bool.and_eq_true]
 exact⟨⟨⟨⟨⟨⟨⟨⟨⟨⟨⟨⟨⟨⟨⟨⟨⟨⟨⟨⟨⟨⟨⟨⟨⟨⟨⟨⟨⟨⟨⟨j1,j2⟩,j3⟩,j4⟩,j5⟩,j6⟩,j7⟩,j8⟩,j9⟩,OZ⟩,O0⟩,O1⟩,O2⟩,O3⟩,O5⟩,O7⟩,O8⟩,O9⟩,Pa⟩,Pb⟩,Pc⟩,Pd⟩,Pe⟩,Pf⟩,Pg⟩,Ph⟩,Pi⟩,Pj⟩,Pk⟩,Pm⟩,Pn⟩,Po⟩
end Go.Proofs.YtnklanajebphpaaGreatDoor
