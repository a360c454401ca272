/- FnMaWrites answers true, whatever its argument holds; the argument reads afterwards as it did. Condition: the listed variables hold what the program text lays in them (the card ties that). -/
import Derived.Test.YtnklanajebphpaaGreatDoorW11
import Derived.Test.YtnklanajebphpaaGreatDoorW14
import Derived.Test.YtnklanajebphpaaGreatDoorW15
import Derived.Test.YtnklanajebphpaaGreatDoorW19
import Derived.Test.YtnklanajebphpaaGreatDoorW27
set_option maxRecDepth 100000
set_option maxHeartbeats 4000000
set_option linter.unusedVariables false
set_option linter.unusedSimpArgs false
namespace Go.Proofs.YtnklanajebphpaaGreatDoor
open IntKind
open Go Go.ChangeShapes Go.WideShapes Go.ChangeAt Go.RowKit Go.Rx
theorem BS{H:Type}{enc:TypeId×Value->H}{w:World}{fuel:Nat}{cs:List Value}{x:DataW H×List MemPlace}{A:Option Addr}{n c:Nat}(h:DataW.trod enc Tryz.prog w 0 (fun _=>true) true fuel 22 cs=some x)(he:cs=[.slice A n c]):n<=c/\(A=none->c=0):=by
 rcases open_ints Tryz.underlying22 Tryz.underlying5 Ie h with⟨h0,_⟩ |⟨a,len,cap,zs,h1,_,hle,_⟩
 ·rw[he]at h0
  cases h0
  exact⟨Nat.le_refl _,fun _=>rfl⟩
 ·rw[he]at h1
  cases h1
  exact⟨hle,fun h=>by cases h⟩
theorem rP:Rx.CompTypes Tryz.prog 24 31 5 { name := "Code",type:=3,offset:=0,embedded:=false,tag := "",pkgPath := "",byteOffset:=0 }
  {name := "Value",type:=22,offset:=1,embedded:=false,tag := "",pkgPath := "",byteOffset:=8 } where
 t:=Tryz.underlying24
 e:=Tryz.underlying31
 ec:=by kernel_rfl
 eb:=of_decide_eq_true (by kernel_rfl)
 i:=Tryz.underlying3
 io:=rfl
 ic:=by kernel_rfl
 y:=Tryz.underlying22
 yo:=rfl
 yc:=by kernel_rfl
 u:=Tryz.underlying5
 uc:=by kernel_rfl
 ub:=of_decide_eq_true (by kernel_rfl)
theorem sW{H:Type}{enc:TypeId×Value->H}{w:World}{fuel:Nat}{cs:List Value}{x:DataW H×List MemPlace}(h:DataW.trod enc Tryz.prog w 0 (fun _=>true) true fuel 31 cs=some x)(hsz:∀n∈x.1.weights Tryz.prog 31,n<=reachBytes) :
  ∃z A n c l,cs=[.int .i64 z,.slice A n c]/\Bts w w.heap.size A n l/\n<=c/\(A=none->c=0)/\n<=reachBytes:=by
 have k:=rP
 obtain⟨y0,y1,n',he,hlen,h3,h4⟩:=trod_struct2 k.e h
 rw[k.io,k.ic]at h3
 rw[k.yo,k.yc]at h4
 rw[k.ec]at hlen
 obtain⟨z,e0,_,_⟩:=DataW.trod_int k.i h3
 have hD:x.1=.agg [y0.1,y1.1]:=congrArg Prod.fst he
 obtain⟨A,n1,cap1,l,e1,hbt,hr⟩:=Rx.bts_of_trod k.y k.u k.uc k.ub h4 (fun v hv=>by
  refine hsz v ?_
  rw[hD]
  simp only[DataW.weights,k.e,DataW.weightsEach,List.map_cons,List.map_nil,List.mem_append]
  exact .inr (.inl hv))
 obtain⟨hc1,hc2⟩:=BS h4 e1
 match cs,hlen,e0,e1 with
 |[c0,c1],_,e0,e1=>
  simp at e0 e1
  subst e0 e1
  exact⟨z,A,n1,cap1,l,rfl,hbt,hc1,hc2,hr⟩
theorem wN{H:Type}{enc:TypeId×Value->H}{w:World}{fuel:Nat}{cs:List Value}{x:DataW H×List MemPlace}(h:DataW.trod enc Tryz.prog w 0 (fun _=>true) true fuel 24 cs=some x)(hsz:∀n∈x.1.weights Tryz.prog 24,n<=reachBytes) :
  ∃A n cap l,cs=[.slice A n cap]/\CcAt w w.heap.size A n l/\n<=reachBytes:=by
 have k:=rP
 rcases Go.Deep.open_slice k.t h with⟨rfl,_⟩ |⟨a,len,cap,m,n,D,Pl,rfl,_,hl,hm,hmm,rfl,hx⟩
 ·exact⟨none,0,0,[],rfl,⟨rfl,fun h=>absurd h (Nat.lt_irrefl 0)⟩,Nat.zero_le _⟩
 ·simp only[if_true]at hmm
  subst hmm
  rw[k.ec]at hx
  have hone:∀i,i<len->∃c:Comp,CompAt w w.heap.size (a.add (i*2)) c/\iO w ((a.add (i*2)).add 1)<=m8 w ((a.add (i*2)).add 1)/\(kD w ((a.add (i*2)).add 1)=none->m8 w ((a.add (i*2)).add 1)=0):=by
   intro i hi
   obtain⟨cs',h1,h2⟩:=hx i (by omega)
   obtain⟨_,hlen,hcell⟩:=World.cells?_some h1
   obtain⟨z,A,n1,cap1,l,rfl,hbt,hc1,hc2,hr⟩:=sW h2 (fun v hv=>by
    refine hsz v ?_
    simp only[DataW.weights,k.t,List.mem_cons,List.mem_append]
    exact .inr (.inl (Rx.weightsAll_of (List.mem_map.2 ⟨i,List.mem_range.2 hi,rfl⟩) v hv)))
   have g0:=hcell 0 (by omega)
   have g1:=hcell 1 (by omega)
   simp only[List.getElem?_cons_zero]at g0
   simp only[List.getElem?_cons_succ,List.getElem?_cons_zero]at g1
   refine⟨⟨z,l⟩,⟨?_,by simpa [Addr.add] using g0,⟨A,n1,cap1,g1,hbt⟩,?_⟩,?_⟩
   ·have:=Rx.lt_of_cell g0
    simpa [aD] using this
   ·have:=hbt.1
    have:reachBytes<2^48:=by decide
    show(l.length:Int)<2^48
    omega
   ·simp only[kD,iO,m8,g1]
    exact⟨hc1,hc2⟩
  obtain⟨f,hf⟩:=Go.Deep.choose_lt hone
  refine⟨some a,len,m,(List.range len).map f,rfl,⟨by simp,fun hn=>⟨a,rfl,?_,fun i c hi=>?_⟩⟩,?_⟩
  ·have:=(hf 0 hn).1.1
   simpa [aD] using this
  ·simp only[List.getElem?_map,Option.map_eq_some_iff]at hi
   obtain⟨j,hj,rfl⟩:=hi
   obtain⟨h1,h2⟩:=List.getElem?_eq_some_iff.1 hj
   simp at h1 h2
   subst h2
   exact hf i h1
  ·have:=hsz _ (by simp only[DataW.weights,k.t];exact List.mem_cons_self ..)
   simp only[List.length_map,List.length_range]at this
   have h2:len*1<=(len+(m-len))*Tryz.prog.bytesOf 31:=Nat.mul_le_mul (by omega) k.eb
   omega
theorem Dy{v:Value}{a:Option Addr}{n c:Nat}(h:v.cells.toList=[.slice a n c])(hv:∃a' m d,v=.slice a' m d):v=.slice a n c:=by
 obtain⟨a',m,d,rfl⟩:=hv
 simpa [Value.cells] using h
theorem lifted(os:Os)(started:os.Started)(H:Type)(enc:TypeId×Value->H) :
  ReturnsInHanded {} Tryz.checked os 5 .any (fun w args=>(Rows.fnMaWritesSpec.pre enc Tryz.prog Tryz.f5 [] false w args/\laidMetH Tryz.prog Rows.fnMaWritesRow.laid w)/\sizedMet enc Tryz.prog Tryz.f5 (OpenSpec.ofChange Rows.fnMaWritesSpec) false w args)
   (Rows.fnMaWritesSpec.post enc Tryz.prog Tryz.f5 false true false false):=by
 refine qx (C:=Tryz.checked) (X:=fun w _=>laidMetH Tryz.prog Rows.fnMaWritesRow.laid w) (fun _ _ _ hh h=>h.of_heap hh) Mo started FA Tryz.func5
  (rK (enc:=enc) (C:=Tryz.checked) (X:=fun w _=>laidMetH Tryz.prog Rows.fnMaWritesRow.laid w) (World.laidAll Tryz.prog os Rows.fnMaWritesRow.laid) #[.slice none 0 0] 8 (World.laidAll_os _ _ _) (Ek os) (L5 os) (Jp os H enc) (FR os H enc) (FQ os)) ?_
 intro W base args ds gs before hval0 hW _ hsz hL hsh
 have hval:∀(j:Nat) t v,Tryz.f5.params[j]?=some t->args[j]?=some v->Value.okWide Tryz.prog W .any base t v:=hval0
 have hW':=hW
 obtain⟨p,q,hA0,hV,rfl,_,_⟩:=hW
 have hA:DataW.TrodAll enc Tryz.prog W 0 (fun _=>true) true Tryz.f5.params.toList args.toList ds p:=hA0
 rw[Tryz.params5]at hA hval
 obtain⟨v0,d0,rfl,rfl,h0⟩:=trodAll_one hA
 obtain⟨rfl,rfl⟩:=trodVars_none hV
 have hsz':(DataW.weightsEach Tryz.prog [24] [d0]).all (·<=reachBytes)=true:=by
  have:=hsz
  rw[show Tryz.checked.prog=Tryz.prog from rfl,Tryz.params5]at this
  exact this
 have hw0:∀n∈d0.weights Tryz.prog 24,n<=reachBytes:=fun n hn=>by
  have:=List.all_eq_true.1 hsz' n (by simp[DataW.weightsEach,hn])
  simpa using this
 obtain⟨fu0,hf0⟩:=id h0
 obtain⟨A,n,c,l,e0,hc,hr⟩:=wN hf0 hw0
 obtain rfl:=Dy e0 (okWide_slice Tryz.underlying24 (hval 0 24 v0 rfl rfl))
 have hrb:reachBytes<2^48:=by decide
 refine(th A n c l W.heap.size W hc (Nat.le_refl _) (by omega) (FH hL hsh)).mono ?_
 rintro e W' ⟨v,rfl,⟨b,rfl,rfl⟩,hb⟩
 have hlt:∀x∈p,x.block<W.heap.size:=hA0.lt
 refine⟨_,rfl,_,_,_,[],p,[],hW',trodAll_mk1 (shut_bool Tryz.underlying4 _),?_,rfl,hb.frame _,fun h=>by cases h⟩
 exact trodAll_mk1 (hb.trod Fr yH FK h0 fun x hx=>hlt x hx)
theorem holds:Rows.FnMaWritesSaid:=
 OpenClaim.holds_of_wide 5 Tryz.f5 rfl rfl rfl rfl rfl rfl rfl ⟨rfl,rfl,rfl,rfl,rfl⟩ rfl rfl rfl rfl rfl Dt Tryz.func5 Ig Kl L6
  (fun os started H enc _=>lifted os started H enc)
theorem fnMaWrites_holds:Rows.FnMaWritesCardSaid:=
 Claim7.holds_tied_plain_at .later [] [.data,.data,.data,.sentinel,.sentinel,.sentinel,.pinned,.data,.sentinel,.data,.sentinel,.sentinel,.sentinel,.sentinel,.sentinel,.sentinel,.data,.data,.sentinel,.sentinel,.sentinel,.sentinel] true
  (true,"63bde2e737bd9909744d5f094d0b10f2b1d1ffe7c451eb05203f24bd37ecaa63") true holds (fun _ h=>by cases h) Jo (fun _ h=>by cases h) kN rfl ⟨rfl,rfl⟩ Fx rfl
  (fun f fn hf hfn=>by
   obtain rfl:f=5:=Option.some.inj (Dt.symm.trans hf) |>.symm
   obtain rfl:fn=Tryz.f5:=(Option.some.inj (Tryz.func5.symm.trans hfn)).symm
   exact⟨IY,fun j t ht=>by
    rw[Tryz.params5]at ht
    have hm:t∈[24]:=by simpa using Array.mem_of_getElem? ht
    exact(show Tryz.prog.wantsStandIn t=false by simpa using List.all_eq_true.1 Jn t hm)⟩)
  JZ
#print axioms fnMaWrites_holds
end Go.Proofs.YtnklanajebphpaaGreatDoor
