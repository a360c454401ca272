/- Joined texts: WW3. -/
import Derived.Test.YtnklanajebphpaaGreatDoorCards
import Derived.OpenVars
import Derived.OpenShut
import Derived.LaidMore
import Derived.Lay
import Derived.Test.YtnklanajebphpaaGreatDoorW12
import Derived.Test.YtnklanajebphpaaGreatDoorW13
set_option maxRecDepth 100000
set_option maxHeartbeats 4000000
set_option linter.unusedVariables false
set_option linter.unusedSimpArgs false
namespace Go.Proofs.YtnklanajebphpaaGreatDoor
open IntKind
open Go Go.ChangeShapes Go.WideShapes Go.ChangeAt Go.RowKit
theorem Mo:ownKnob Tryz.prog.godebug=none:=by kernel_rfl
theorem Fr:laidOutB Tryz.prog=true:=by kernel_rfl
theorem Ie:Tryz.prog.cellsOf 5=1:=by kernel_rfl
noncomputable def L4(os:Os):World:=(World.laidAll Tryz.prog os Rows.fnMaWritesRow.laid).forCall (fun _ _=>0) ⟨#[],#[.slice none 0 0],[]⟩
theorem Ek(os:Os):(L4 os).Shaped Tryz.checked.prog:=World.shaped_of_ZipB (by kernel_rfl) (by kernel_rfl)
theorem L5(os:Os):Input.okWideB Tryz.checked.prog (L4 os) 5 ⟨#[],#[.slice none 0 0],[]⟩=true:=by kernel_rfl
theorem Jp(os:Os)(H:Type)(enc:TypeId×Value->H):Rows.fnMaWritesSpec.preB enc Tryz.checked.prog Tryz.f5 [] false (L4 os).memory #[.slice none 0 0] 8=true:=by kernel_rfl
theorem FR(os:Os)(H:Type)(enc:TypeId×Value->H):Rows.fnMaWritesSpec.sizedB enc Tryz.checked.prog Tryz.f5 false (L4 os).memory #[.slice none 0 0] 8=true:=by kernel_rfl
theorem FQ(os:Os):laidMetH Tryz.prog Rows.fnMaWritesRow.laid (L4 os).memory:=by
 rw[MakeChecks.laidMetH_plain _ _ _ (by kernel_rfl)]
 exact laidMet_laidAll _ (by kernel_rfl) (by kernel_rfl)
end Go.Proofs.YtnklanajebphpaaGreatDoor
