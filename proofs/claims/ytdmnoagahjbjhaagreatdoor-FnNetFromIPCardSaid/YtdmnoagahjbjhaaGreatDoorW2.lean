/- The witness of FnNetFromIP's row: a nil slice in the world that the list lays. -/
import Derived.Test.YtdmnoagahjbjhaaGreatDoorCards
import Derived.OpenVars
import Derived.OpenShut
import Derived.LaidMore
import Derived.Lay
import Derived.Test.YtdmnoagahjbjhaaGreatDoorJ9
import Derived.Test.YtdmnoagahjbjhaaGreatDoorL1
set_option linter.unusedVariables false
set_option linter.unusedSimpArgs false
open Go Go.ChangeShapes Go.WideShapes Go.ChangeAt Go.RowKit
namespace Go.Proofs.YtdmnoagahjbjhaaGreatDoor

theorem own : ownKnob Tryz.prog.godebug = none := by kernel_rfl
theorem laidOut : laidOutB Tryz.prog = true := by kernel_rfl
theorem cells5 : Tryz.prog.cellsOf 5 = 1 := by kernel_rfl
theorem bytes5 : 0 < Tryz.prog.bytesOf 5 := of_decide_eq_true (by kernel_rfl)

noncomputable def wit (os : Os) : World := (World.laidAll Tryz.prog os Rows.fnNetFromIPRow.laid).forCall (fun _ _ => 0) ⟨#[], #[.slice none 0 0], []⟩
theorem witShape (os : Os) : (wit os).Shaped Tryz.checked.prog := World.shaped_of_ZipB (by kernel_rfl) (by kernel_rfl)
theorem witOk (os : Os) : Input.okWideB Tryz.checked.prog (wit os) 4 ⟨#[], #[.slice none 0 0], []⟩ = true := by kernel_rfl
theorem witPre (os : Os) (H : Type) (enc : TypeId × Value → H) : Rows.fnNetFromIPSpec.preB enc Tryz.checked.prog Tryz.f4 [] false (wit os).memory #[.slice none 0 0] 8 = true := by kernel_rfl
theorem witSize (os : Os) (H : Type) (enc : TypeId × Value → H) : Rows.fnNetFromIPSpec.sizedB enc Tryz.checked.prog Tryz.f4 false (wit os).memory #[.slice none 0 0] 8 = true := by kernel_rfl
theorem witLaid (os : Os) : laidMetH Tryz.prog Rows.fnNetFromIPRow.laid (wit os).memory := by
  rw [MakeChecks.laidMetH_plain _ _ _ (by kernel_rfl)]
  exact laidMet_laidAll _ (by kernel_rfl) (by kernel_rfl)
end Go.Proofs.YtdmnoagahjbjhaaGreatDoor
