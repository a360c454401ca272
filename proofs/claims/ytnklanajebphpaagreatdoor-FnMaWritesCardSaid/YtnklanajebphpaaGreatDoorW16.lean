/- Joined texts: EW1. -/
import Derived.Test.YtnklanajebphpaaGreatDoorCards
import Derived.JoinedOf
set_option maxRecDepth 100000
set_option maxHeartbeats 4000000
set_option linter.unusedVariables false
set_option linter.unusedSimpArgs false
namespace Go.Proofs.YtnklanajebphpaaGreatDoor
open IntKind
open Go
theorem j1:(Rows.fnMaWritesRow.wf (OpenSpec.ofChange Rows.fnMaWritesSpec))=true:=by kernel_rfl
theorem j2:(laidOutB Tryz.prog)=true:=by kernel_rfl
theorem j3:(mapsRowed Tryz.prog)=true:=by kernel_rfl
theorem j4:(Tryz.f5.params.all (Tryz.prog.readableRec ·))=true:=by kernel_rfl
theorem j5:(namedTie Tryz.prog Rows.fnMaWritesRow.named Rows.fnMaWritesSpec.vars)=true:=by kernel_rfl
theorem j6:((Rows.fnMaWritesRow.stops == []))=true:=by kernel_rfl
theorem j7:((Tryz.prog.stops == []))=true:=by kernel_rfl
theorem j8:((Rows.fnMaWritesRow.knobs == []))=true:=by kernel_rfl
theorem j9:((Tryz.prog.stopKnobs == []))=true:=by kernel_rfl
theorem OZ:((Rows.fnMaWritesRow.inPlace == Tryz.prog.inPlace 5))=true:=by kernel_rfl
theorem O0:((Rows.fnMaWritesRow.unfollowed == Tryz.prog.unfollowed 5))=true:=by kernel_rfl
theorem O1:((Rows.fnMaWritesRow.recurses == Tryz.prog.recurses 5))=true:=by kernel_rfl
theorem O2:((Rows.fnMaWritesRow.named == Tryz.prog.varsNamed 5))=true:=by kernel_rfl
theorem O3:((Rows.fnMaWritesRow.maps == (Tryz.f5.params.toList++Rows.fnMaWritesSpec.plain.varTypes Tryz.prog).any (Tryz.prog.mapsRec ·)))=true:=by kernel_rfl
theorem O5:((Rows.fnMaWritesRow.ifaces == (Tryz.f5.params.toList++Rows.fnMaWritesSpec.plain.varTypes Tryz.prog).any (Tryz.prog.ifacesRec ·)))=true:=by kernel_rfl
theorem O7:((Rows.fnMaWritesRow.mapsOut == Tryz.prog.mapsAmong Tryz.f5.resultTypes.toList))=true:=by kernel_rfl
end Go.Proofs.YtnklanajebphpaaGreatDoor
