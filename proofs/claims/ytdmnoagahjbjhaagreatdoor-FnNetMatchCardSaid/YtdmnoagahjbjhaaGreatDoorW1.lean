/- The witness of FnNetMatch's row: two nil slices in the world that the list lays. -/
import Derived.Test.YtdmnoagahjbjhaaGreatDoorCards
import Derived.OpenVars
import Derived.OpenShut
import Derived.LaidMore
import Derived.Lay
import Derived.Clock
import Derived.Test.YtdmnoagahjbjhaaGreatDoorMOpen
set_option linter.unusedVariables false
set_option linter.unusedSimpArgs false
open Go Go.ChangeShapes Go.WideShapes Go.ChangeAt Go.RowKit Go.Clock
namespace Go.Proofs.YtdmnoagahjbjhaaGreatDoor

theorem own : ownKnob Tryz.prog.godebug = none := by kernel_rfl
theorem laidOut : laidOutB Tryz.prog = true := by kernel_rfl
theorem compTypes : Rx.CompTypes Tryz.prog 22 35 5 { name := "Code", type := 3, offset := 0, embedded := false, tag := "", pkgPath := "", byteOffset := 0 }
    { name := "Value", type := 31, offset := 1, embedded := false, tag := "", pkgPath := "", byteOffset := 8 } where
  t := Tryz.underlying22
  e := Tryz.underlying35
  ec := by kernel_rfl
  eb := of_decide_eq_true (by kernel_rfl)
  i := Tryz.underlying3
  io := rfl
  ic := by kernel_rfl
  y := Tryz.underlying31
  yo := rfl
  yc := by kernel_rfl
  u := Tryz.underlying5
  uc := by kernel_rfl
  ub := of_decide_eq_true (by kernel_rfl)

noncomputable def wit (os : Os) : World := (World.laidAll Tryz.prog os Rows.fnNetMatchRow.laid).forCall (fun _ _ => 0) ⟨#[], #[.slice none 0 0, .slice none 0 0], []⟩
theorem witShape (os : Os) : (wit os).Shaped Tryz.checked.prog := World.shaped_of_ZipB (by kernel_rfl) (by kernel_rfl)
theorem witOk (os : Os) : Input.okWideB Tryz.checked.prog (wit os) 3 ⟨#[], #[.slice none 0 0, .slice none 0 0], []⟩ = true := by kernel_rfl
theorem witPre (os : Os) (H : Type) (enc : TypeId × Value → H) : Rows.fnNetMatchSpec.preB enc Tryz.checked.prog Tryz.f3 [] false (wit os).memory #[.slice none 0 0, .slice none 0 0] 8 = true := by kernel_rfl
theorem witSize (os : Os) (H : Type) (enc : TypeId × Value → H) : Rows.fnNetMatchSpec.sizedB enc Tryz.checked.prog Tryz.f3 false (wit os).memory #[.slice none 0 0, .slice none 0 0] 8 = true := by kernel_rfl
theorem witLaid (os : Os) : laidMetH Tryz.prog Rows.fnNetMatchRow.laid (wit os).memory := by
  rw [MakeChecks.laidMetH_plain _ _ _ (by kernel_rfl)]
  exact laidMet_laidAll _ (by kernel_rfl) (by kernel_rfl)
end Go.Proofs.YtdmnoagahjbjhaaGreatDoor
