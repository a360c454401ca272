/- Joined texts: EW3. -/
import Derived.Test.YtnklanajebphpaaGreatDoorCards
import Derived.JoinedOf
set_option maxRecDepth 100000
set_option maxHeartbeats 4000000
set_option linter.unusedVariables false
set_option linter.unusedSimpArgs false
namespace Go.Proofs.YtnklanajebphpaaGreatDoor
open IntKind
open Go
theorem Dt:Tryz.prog.funcNamed "pub-brocade/laws.FnMaWrites" = some 5:=by kernel_rfl
theorem Kl:Tryz.f5.isInstance Tryz.prog Rows.fnMaWritesRow.origin Rows.fnMaWritesRow.targs:=of_decide_eq_true (by kernel_rfl)
theorem L6:Tryz.f5.isWrapper Tryz.prog Rows.fnMaWritesRow.wrapper Rows.fnMaWritesRow.mainSum:=by
 unfold Func.isWrapper
 rw[if_neg (of_decide_eq_false (by kernel_rfl))]
 exact⟨rfl,rfl⟩
theorem Jo:Rows.fnMaWritesRow.wfByText (OpenSpec.ofChange Rows.fnMaWritesSpec)=true:=by kernel_rfl
theorem Fx:Tryz.prog.mainIs=some (true,"63bde2e737bd9909744d5f094d0b10f2b1d1ffe7c451eb05203f24bd37ecaa63".toList):=by kernel_rfl
theorem IY:true=Tryz.prog.looks []:=by kernel_rfl
theorem JZ:false=Rows.fnMaWritesRow.goesBy Tryz.prog:=by kernel_rfl
theorem Jn:([24].all fun u=>!Tryz.prog.wantsStandIn u)=true:=by kernel_rfl
theorem FA:Tryz.prog.inits.idxOf? 5=none:=by kernel_rfl
theorem yH:Tryz.prog.readableRec 24=true:=by kernel_rfl
theorem FK:24<Tryz.prog.types.size:=of_decide_eq_true (by kernel_rfl)
end Go.Proofs.YtnklanajebphpaaGreatDoor
