/- Closed facts. -/
import Derived.Test.YtnklanajebphpaaGreatDoorCards
import Derived.JoinedOf
set_option maxRecDepth 100000
set_option maxHeartbeats 4000000
set_option linter.unusedVariables false
set_option linter.unusedSimpArgs false
namespace Go.Proofs.YtnklanajebphpaaGreatDoor
open IntKind
section
open Go
theorem j1:(Rows.fnMaComponentRow.wf (OpenSpec.ofChange Rows.fnMaComponentSpec))=true:=by kernel_rfl
theorem j2:(laidOutB Tryz.prog)=true:=by kernel_rfl
theorem j3:(mapsRowed Tryz.prog)=true:=by kernel_rfl
theorem j4:(Tryz.f4.params.all (Tryz.prog.readableRec ·))=true:=by kernel_rfl
theorem j5:(namedTie Tryz.prog Rows.fnMaComponentRow.named Rows.fnMaComponentSpec.vars)=true:=by kernel_rfl
theorem j6:((Rows.fnMaComponentRow.stops == []))=true:=by kernel_rfl
theorem j7:((Tryz.prog.stops == []))=true:=by kernel_rfl
theorem j8:((Rows.fnMaComponentRow.knobs == []))=true:=by kernel_rfl
theorem j9:((Tryz.prog.stopKnobs == []))=true:=by kernel_rfl
theorem PQ:((Rows.fnMaComponentRow.inPlace == Tryz.prog.inPlace 4))=true:=by kernel_rfl
theorem PR:((Rows.fnMaComponentRow.unfollowed == Tryz.prog.unfollowed 4))=true:=by kernel_rfl
theorem PT:((Rows.fnMaComponentRow.recurses == Tryz.prog.recurses 4))=true:=by kernel_rfl
theorem PW:((Rows.fnMaComponentRow.named == Tryz.prog.varsNamed 4))=true:=by kernel_rfl
theorem PY:((Rows.fnMaComponentRow.maps == (Tryz.f4.params.toList++Rows.fnMaComponentSpec.plain.varTypes Tryz.prog).any (Tryz.prog.mapsRec ·)))=true:=by kernel_rfl
theorem P0:((Rows.fnMaComponentRow.ifaces == (Tryz.f4.params.toList++Rows.fnMaComponentSpec.plain.varTypes Tryz.prog).any (Tryz.prog.ifacesRec ·)))=true:=by kernel_rfl
theorem P3:((Rows.fnMaComponentRow.mapsOut == Tryz.prog.mapsAmong Tryz.f4.resultTypes.toList))=true:=by kernel_rfl
end
section
open Go
theorem P4:((Rows.fnMaComponentRow.loops == (Tryz.f4.params.toList++Rows.fnMaComponentSpec.plain.varTypes Tryz.prog).any (Tryz.prog.loopsFrom ·)))=true:=by kernel_rfl
theorem P5:((Rows.fnMaComponentRow.wideKeys == (Tryz.f4.params.toList++Rows.fnMaComponentSpec.plain.varTypes Tryz.prog++Tryz.f4.resultTypes.toList).any (Tryz.prog.wideKeysFrom ·)))=true:=by kernel_rfl
theorem P7:(Rows.fnMaComponentSpec.vars.all (Tryz.prog.varReadable ·))=true:=by kernel_rfl
theorem P8:(Tryz.f4.resultTypes.all (fun t=>Tryz.prog.readableRec t && decide (t<Tryz.prog.types.size)))=true:=by kernel_rfl
theorem P9:((Rows.fnMaComponentRow.ifacesOut == Tryz.f4.resultTypes.toList.any (Tryz.prog.ifacesRec ·)))=true:=by kernel_rfl
theorem Qa:((Rows.fnMaComponentRow.loopsOut == Tryz.f4.resultTypes.toList.any (Tryz.prog.loopsFrom ·)))=true:=by kernel_rfl
theorem Qb:((Rows.fnMaComponentRow.plainKeys == Tryz.prog.plainKeys))=true:=by kernel_rfl
theorem Qc:(Rows.fnMaComponentRow.shortTexts.isNone)=true:=by kernel_rfl
theorem Qd:(Tryz.prog.stopsHeard)=true:=by kernel_rfl
theorem Qe:(Tryz.prog.mayEnter)=true:=by kernel_rfl
theorem Qf:((Rows.fnMaComponentRow.lifted == Tryz.prog.liftsFinal))=true:=by kernel_rfl
theorem Qg:((Tryz.prog.make == some Rows.fnMaComponentRow.make))=true:=by kernel_rfl
theorem Qh:((Rows.fnMaComponentRow.kinds == (if Rows.fnMaComponentRow.domain.isEmpty then[] else Tryz.f4.params.toList.map fun t=>match Tryz.prog.underlying t with |some (.int k)=>some k |_=>none)))=true:=by kernel_rfl
theorem Qi:((Rows.fnMaComponentRow.pinned == Rows.fnMaComponentRow.pinnedBy))=true:=by kernel_rfl
theorem Qj:((Rows.fnMaComponentRow.veiled == (Tryz.f4.params.toList++Rows.fnMaComponentSpec.plain.varTypes Tryz.prog++Tryz.f4.resultTypes.toList).any (Tryz.prog.veiledRec ·)))=true:=by kernel_rfl
theorem Qk:(Rows.fnMaComponentRow.veiledFits Tryz.prog Tryz.f4.params.toList (Tryz.f4.params.toList++Rows.fnMaComponentSpec.plain.varTypes Tryz.prog++Tryz.f4.resultTypes.toList))=true:=by kernel_rfl
end
section
open Go
theorem Ei:Tryz.prog.funcNamed "pub-brocade/laws.FnMaComponent" = some 4:=by kernel_rfl
theorem KU:Tryz.f4.isInstance Tryz.prog Rows.fnMaComponentRow.origin Rows.fnMaComponentRow.targs:=of_decide_eq_true (by kernel_rfl)
theorem MH:Tryz.f4.isWrapper Tryz.prog Rows.fnMaComponentRow.wrapper Rows.fnMaComponentRow.mainSum:=by
 unfold Func.isWrapper
 rw[if_neg (of_decide_eq_false (by kernel_rfl))]
 exact⟨rfl,rfl⟩
theorem J0:Rows.fnMaComponentRow.wfByText (OpenSpec.ofChange Rows.fnMaComponentSpec)=true:=by kernel_rfl
theorem Gd:Tryz.prog.mainIs=some (true,"63bde2e737bd9909744d5f094d0b10f2b1d1ffe7c451eb05203f24bd37ecaa63".toList):=by kernel_rfl
theorem JB:true=Tryz.prog.looks []:=by kernel_rfl
theorem Ky:false=Rows.fnMaComponentRow.goesBy Tryz.prog:=by kernel_rfl
theorem JZ:([31].all fun u=>!Tryz.prog.wantsStandIn u)=true:=by kernel_rfl
theorem Gi:Tryz.prog.inits.idxOf? 4=none:=by kernel_rfl
theorem zo:Tryz.prog.readableRec 31=true:=by kernel_rfl
theorem Gu:31<Tryz.prog.types.size:=of_decide_eq_true (by kernel_rfl)
end
section
open Go
theorem I5:joinedFacts Tryz.prog 4 Tryz.f4 Rows.fnMaComponentSpec Rows.fnMaComponentRow=true:=by
 unfold joinedFacts
 simp only[Bool.and_eq_true]
 exact⟨⟨⟨⟨⟨⟨⟨⟨⟨⟨⟨⟨⟨⟨⟨⟨⟨⟨⟨⟨⟨⟨⟨⟨⟨⟨⟨⟨⟨⟨⟨j1,j2⟩,j3⟩,j4⟩,j5⟩,j6⟩,j7⟩,j8⟩,j9⟩,PQ⟩,PR⟩,PT⟩,PW⟩,PY⟩,P0⟩,P3⟩,P4⟩,P5⟩,P7⟩,P8⟩,P9⟩,Qa⟩,Qb⟩,Qc⟩,Qd⟩,Qe⟩,Qf⟩,Qg⟩,Qh⟩,Qi⟩,Qj⟩,Qk⟩
end
end Go.Proofs.YtnklanajebphpaaGreatDoor
