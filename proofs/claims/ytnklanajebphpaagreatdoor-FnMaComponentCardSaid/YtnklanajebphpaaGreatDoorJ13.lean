/- Joined texts: MOpen L1. -/
import Derived.Test.YtnklanajebphpaaGreatDoorJ2
import Derived.Deep.Slices
import Derived.ChangeSame
import Derived.OpenVars
import Derived.OpenShut
import Derived.Handed
import Derived.SizedLaws
import Derived.Clock
set_option maxRecDepth 100000
set_option maxHeartbeats 4000000
set_option linter.unusedVariables false
set_option linter.unusedSimpArgs false
namespace Go.Rx
open IntKind
section
open Go.ChangeShapes Go.WideShapes
instance:Inhabited Comp:=⟨⟨0,[]⟩⟩
theorem ze{w:World}{a:Addr}{v:Value}(h:w.cell? a=some v):a.block<w.heap.size:=by
 refine Decidable.byContradiction fun hn=>?_
 have:w.heap[a.block]?=none:=by simp;omega
 simp[World.cell?,this]at h
structure CompTypes (P:Program) (T E U:TypeId) (f0 f1:Field):Prop where
 t:P.underlying T=some (.slice E)
 e:P.underlying E=some (.struct #[f0,f1])
 ec:P.cellsOf E=2
 eb:0<P.bytesOf E
 i:P.underlying f0.type=some (.int .i64)
 io:f0.offset=0
 ic:P.cellsOf f0.type=1
 y:P.underlying f1.type=some (.slice U)
 yo:f1.offset=1
 yc:P.cellsOf f1.type=1
 u:P.underlying U=some (.int .u8)
 uc:P.cellsOf U=1
 ub:0<P.bytesOf U
section
variable {H:Type}{enc:TypeId×Value->H}{P:Program}{w:World}{fuel:Nat}{cs:List Value}{x:DataW H×List MemPlace}
theorem bts_of_trod{T U:TypeId}(hT:P.underlying T=some (.slice U))(hU:P.underlying U=some (.int .u8))(hUc:P.cellsOf U=1)(hb:0<P.bytesOf U)
  (h:DataW.trod enc P w 0 (fun _=>true) true fuel T cs=some x) (hsz:∀n∈x.1.weights P T,n<=reachBytes) :
  ∃A n cap l,cs=[.slice A n cap]/\Bts w w.heap.size A n l/\n<=reachBytes:=by
 rcases open_ints hT hU hUc h with⟨rfl,_⟩ |⟨a,len,cap,zs,rfl,_,hl,hm,hz,rfl,hc,hwf⟩
 ·exact⟨none,0,0,[],rfl,⟨rfl,fun h=>absurd h (Nat.lt_irrefl 0)⟩,Nat.zero_le _⟩
 ·simp only[if_true]at hz
  refine⟨some a,len,cap,(zs.take len).map (fun n=>UInt8.ofNat n.toNat),rfl,⟨by simp;omega,fun hn=>⟨a,rfl,?_,?_⟩⟩,?_⟩
  ·have:=ze (hc 0 (by omega))
   simpa [Addr.add] using this
  ·intro i b hi
   rw[Nat.mul_one]
   simp only[List.getElem?_map,Option.map_eq_some_iff]at hi
   obtain⟨z,hz',rfl⟩:=hi
   rw[List.getElem?_take]at hz'
   split at hz'
   ·have h1:=hwf z (List.mem_of_getElem? hz')
    have h2:0<=z/\z<=255:=by simpa [Lit.wf,IntKind.min,IntKind.max,IntKind.bits,IntKind.signed] using h1
    have h3:=hc i (List.getElem?_eq_some_iff.1 hz').1
    rw[List.getD_eq_getElem?_getD,hz']at h3
    rw[h3]
    simp
    omega
   ·cases hz'
  ·have:=hsz (((lits (H:=H) .u8 (zs.take len)).length+(lits (H:=H) .u8 (zs.drop len)).length)*P.bytesOf U) (by simp[DataW.weights,hT])
   simp only[lits,List.length_map,List.length_take,List.length_drop]at this
   have h2:len*1<=(min len zs.length+(zs.length-len))*P.bytesOf U:=Nat.mul_le_mul (by omega) hb
   omega
end
end
section
open Go Go.ChangeShapes Go.WideShapes Go.ChangeAt Go.RowKit
theorem ya(P:Program)(m:Machine):({}:Assume).holds P m:=by
 simp only[Assume.holds]
 exact⟨by simp,by simp,by simp,by simp,by simp,by simp⟩
section
variable {H:Type}{enc:TypeId×Value->H}{f:FuncId}{fn:Func}
theorem sI{C:Checked}{os:Os}{s:ChangeSpec}{conds:List PathCond}{apart:Bool}{X:World->Array Value->Prop}(w0:World)(args:Array Value)(fuel:Nat)(hos:w0.os=os)
  (hsh:(w0.forCall (fun _ _=>0) ⟨#[],args,[]⟩).Shaped C.prog)
  (hok:Input.okWideB C.prog (w0.forCall (fun _ _=>0) ⟨#[],args,[]⟩) f ⟨#[],args,[]⟩=true)
  (hpre:s.preB enc C.prog fn conds apart (w0.forCall (fun _ _=>0) ⟨#[],args,[]⟩).memory args fuel=true)
  (hsz:s.sizedB enc C.prog fn apart (w0.forCall (fun _ _=>0) ⟨#[],args,[]⟩).memory args fuel=true)
  (hx:X (w0.forCall (fun _ _=>0) ⟨#[],args,[]⟩).memory args) :
  ∃(w:World) (tape:Tape) (i:Input),w.os=os/\(w.forCall tape i).Shaped C.prog/\i.vars=[]/\Input.okWide C.prog (w.forCall tape i) .any w.heap.size f i /\
   ((s.pre enc C.prog fn conds apart (w.forCall tape i).memory i.args/\X (w.forCall tape i).memory i.args)/\sizedMet enc C.prog fn (OpenSpec.ofChange s) apart (w.forCall tape i).memory i.args)/\({}:Assume).holds C.prog (lone (Frame.enter C.prog f i.args .normal) [] (w.forCall tape i)):=
 ⟨w0,fun _ _=>0,⟨#[],args,[]⟩,hos,hsh,(Input.okWide_of_okWideB (base:=0) hok).1,(Input.okWide_of_okWideB hok).2,⟨⟨ChangeSpec.pre_of_preB hpre,hx⟩,sizedMet_of_sizedB hsz⟩,ya _ _⟩
theorem rp{a:Assume}{C:Checked}{os:Os}{s:ChangeSpec}{conds:List PathCond}{apart fresh handsOn again:Bool}{X:World->Array Value->Prop}
  (hX:∀(w w':World) (args:Array Value),w.heap=w'.heap->X w args->X w' args)
  (M5:ownKnob C.prog.godebug=none) (started:os.Started) (noInit:C.prog.inits.idxOf? f=none) (hfn:C.prog.funcs[f]?=some fn)
  (witness:∃(w:World) (tape:Tape) (i:Input),w.os=os/\(w.forCall tape i).Shaped C.prog/\i.vars=[]/\Input.okWide C.prog (w.forCall tape i) .any w.heap.size f i /\
   ((s.pre enc C.prog fn conds apart (w.forCall tape i).memory i.args/\X (w.forCall tape i).memory i.args)/\sizedMet enc C.prog fn (OpenSpec.ofChange s) apart (w.forCall tape i).memory i.args)/\a.holds C.prog (lone (Frame.enter C.prog f i.args .normal) [] (w.forCall tape i)))
  (contract:∀(W:World) (base:Nat) (args:Array Value) (ds gs:List (DataW H)) (before:List MemPlace),
   (∀(j:Nat) t v,fn.params[j]?=some t->args[j]?=some v->Value.okWide C.prog W .any base t v) ->
   DataW.Whole enc C.prog fn.params.toList s.vars apart W args.toList ds gs before ->
   conds.all (PathCond.test C.prog ⟨fn.params.toList,ds,s.plain.varTypes C.prog,gs⟩)=true ->
   (DataW.weightsEach C.prog (fn.params.toList++s.plain.varTypes C.prog) (ds++gs)).all (·<=reachBytes)=true->X W args->W.ShapedOpen C.prog ->
   Calls C.prog f args W fun e W'=>∃v,e=.returned v/\s.post enc C.prog fn apart fresh handsOn again W args v W') :
  ReturnsInHanded a C os f .any (fun w args=>(s.pre enc C.prog fn conds apart w args/\X w args)/\sizedMet enc C.prog fn (OpenSpec.ofChange s) apart w args) (s.post enc C.prog fn apart fresh handsOn again):=by
 refine returnsInHanded_of_calls M5 started noInit witness ?_
 intro w tape i _ hsh _ hok hpre _
 obtain⟨_,_,_,fn',hfn',_,_,_,_,hval⟩:=hok
 have e:fn'=fn:=Option.some.inj (hfn'.symm.trans hfn)
 subst e
 obtain⟨⟨⟨ds,gs,before,hw,hc⟩,hx⟩,hz⟩:=hpre
 have hw':=DataW.Whole.of_heap (w':=w.forCall tape i) (by rfl) hw
 refine(contract (w.forCall tape i) w.heap.size i.args ds gs before hval hw' hc (hz.weights hw) (hX _ _ _ (by rfl) hx) hsh).mono fun e W' ⟨v,he,hp⟩=>?_
 subst he
 exact ChangeSpec.post_blind hp
end
end
end Go.Rx
