/- Joined texts: EW2. -/
import Derived.Test.YtnklanajebphpaaGreatDoorCards
import Derived.JoinedOf
set_option maxRecDepth 100000
set_option maxHeartbeats 4000000
set_option linter.unusedVariables false
set_option linter.unusedSimpArgs false
namespace Go.Proofs.YtnklanajebphpaaGreatDoor
open IntKind
open Go
theorem O8:((Rows.fnMaWritesRow.loops == (Tryz.f5.params.toList++Rows.fnMaWritesSpec.plain.varTypes Tryz.prog).any (Tryz.prog.loopsFrom ·)))=true:=by kernel_rfl
theorem O9:((Rows.fnMaWritesRow.wideKeys == (Tryz.f5.params.toList++Rows.fnMaWritesSpec.plain.varTypes Tryz.prog++Tryz.f5.resultTypes.toList).any (Tryz.prog.wideKeysFrom ·)))=true:=by kernel_rfl
theorem Pa:(Rows.fnMaWritesSpec.vars.all (Tryz.prog.varReadable ·))=true:=by kernel_rfl
theorem Pb:(Tryz.f5.resultTypes.all (fun t=>Tryz.prog.readableRec t && decide (t<Tryz.prog.types.size)))=true:=by kernel_rfl
theorem Pc:((Rows.fnMaWritesRow.ifacesOut == Tryz.f5.resultTypes.toList.any (Tryz.prog.ifacesRec ·)))=true:=by kernel_rfl
theorem Pd:((Rows.fnMaWritesRow.loopsOut == Tryz.f5.resultTypes.toList.any (Tryz.prog.loopsFrom ·)))=true:=by kernel_rfl
theorem Pe:((Rows.fnMaWritesRow.plainKeys == Tryz.prog.plainKeys))=true:=by kernel_rfl
theorem Pf:(Rows.fnMaWritesRow.shortTexts.isNone)=true:=by kernel_rfl
theorem Pg:(Tryz.prog.stopsHeard)=true:=by kernel_rfl
theorem Ph:(Tryz.prog.mayEnter)=true:=by kernel_rfl
theorem Pi:((Rows.fnMaWritesRow.lifted == Tryz.prog.liftsFinal))=true:=by kernel_rfl
theorem Pj:((Tryz.prog.make == some Rows.fnMaWritesRow.make))=true:=by kernel_rfl
theorem Pk:((Rows.fnMaWritesRow.kinds == (if Rows.fnMaWritesRow.domain.isEmpty then[] else Tryz.f5.params.toList.map fun t=>match Tryz.prog.underlying t with |some (.int k)=>some k |_=>none)))=true:=by kernel_rfl
theorem Pm:((Rows.fnMaWritesRow.pinned == Rows.fnMaWritesRow.pinnedBy))=true:=by kernel_rfl
theorem Pn:((Rows.fnMaWritesRow.veiled == (Tryz.f5.params.toList++Rows.fnMaWritesSpec.plain.varTypes Tryz.prog++Tryz.f5.resultTypes.toList).any (Tryz.prog.veiledRec ·)))=true:=by kernel_rfl
theorem Po:(Rows.fnMaWritesRow.veiledFits Tryz.prog Tryz.f5.params.toList (Tryz.f5.params.toList++Rows.fnMaWritesSpec.plain.varTypes Tryz.prog++Tryz.f5.resultTypes.toList))=true:=by kernel_rfl
end Go.Proofs.YtnklanajebphpaaGreatDoor
