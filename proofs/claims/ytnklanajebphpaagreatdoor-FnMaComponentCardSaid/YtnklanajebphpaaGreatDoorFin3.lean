/- FnMaComponent answers true, whatever its argument holds; the argument reads afterwards as it did. The row lists variables: they hold what the text lays in them (the card ties that). -/
import Derived.Test.YtnklanajebphpaaGreatDoorCards
import Derived.OpenVars
import Derived.OpenShut
import Derived.LaidMore
import Derived.Lay
import Derived.Test.YtnklanajebphpaaGreatDoorJ13
import Derived.Test.YtnklanajebphpaaGreatDoorJ6
import Derived.Lib.LaidTab
import Derived.Stop.LaidErr
import Derived.JoinedOf
import Derived.Test.YtnklanajebphpaaGreatDoorQ1
import Derived.Test.YtnklanajebphpaaGreatDoorQ2
import Derived.Test.YtnklanajebphpaaGreatDoorJ12
set_option maxRecDepth 100000
set_option maxHeartbeats 4000000
set_option linter.unusedVariables false
set_option linter.unusedSimpArgs false
namespace Go.Proofs.YtnklanajebphpaaGreatDoor
open IntKind
section
open Go Go.ChangeShapes Go.WideShapes Go.ChangeAt Go.RowKit
theorem M5:ownKnob Tryz.prog.godebug=none:=by kernel_rfl
theorem F7:laidOutB Tryz.prog=true:=by kernel_rfl
theorem I4:Tryz.prog.cellsOf 5=1:=by kernel_rfl
noncomputable def MF(os:Os):World:=(World.laidAll Tryz.prog os Rows.fnMaComponentRow.laid).forCall (fun _ _=>0) ⟨#[],#[.agg #[.int .i64 0,.slice none 0 0]],[]⟩
theorem E6(os:Os):(MF os).Shaped Tryz.checked.prog:=World.shaped_of_ZipB (by kernel_rfl) (by kernel_rfl)
theorem MG(os:Os):Input.okWideB Tryz.checked.prog (MF os) 4 ⟨#[],#[.agg #[.int .i64 0,.slice none 0 0]],[]⟩=true:=by kernel_rfl
theorem J1(os:Os)(H:Type)(enc:TypeId×Value->H):Rows.fnMaComponentSpec.preB enc Tryz.checked.prog Tryz.f4 [] false (MF os).memory #[.agg #[.int .i64 0,.slice none 0 0]] 8=true:=by kernel_rfl
theorem Gz(os:Os)(H:Type)(enc:TypeId×Value->H):Rows.fnMaComponentSpec.sizedB enc Tryz.checked.prog Tryz.f4 false (MF os).memory #[.agg #[.int .i64 0,.slice none 0 0]] 8=true:=by kernel_rfl
theorem Gy(os:Os):laidMetH Tryz.prog Rows.fnMaComponentRow.laid (MF os).memory:=by
 rw[MakeChecks.laidMetH_plain _ _ _ (by kernel_rfl)]
 exact laidMet_laidAll _ (by kernel_rfl) (by kernel_rfl)
end
section
open Go Go.ChangeShapes Go.WideShapes Go.ChangeAt Go.RowKit Go.Rx
theorem Kt:Tryz.prog.globalNamed "internal/strconv.uint64pow10" = some 14:=by kernel_rfl
theorem Kw:(Tryz.prog.globals[14]?).map (·.type)=some 280:=by kernel_rfl
theorem Kv:Tryz.prog.cellsOf 280=20:=by kernel_rfl
theorem Ku:(((begin Tryz.prog (fun _ _=>0) default).world.heap[14]?).bind Obj.row?).map (·.2)=some 280:=by kernel_rfl
theorem Kx:14<Tryz.prog.globals.size:=of_decide_eq_true (by kernel_rfl)
theorem FS:Tryz.prog.cellsOf 74=1:=by kernel_rfl
theorem xG{P:Program}{W:World}{n:String}{g:Nat}{cs:Array Value}{t:TypeId}(hg:P.globalNamed n=some g)(hv:W.var? P n=some cs)(hs:W.ShapedOpen P)(hlt:g<P.globals.size)
  (h0:(((begin P (fun _ _=>0) default).world.heap[g]?).bind Obj.row?).map (·.2)=some t):W.heap[g]?=some (.cells cs t (0,0)):=by
 obtain⟨⟨zero,t'⟩,hz,rfl⟩:=Option.map_eq_some_iff.1 h0
 obtain⟨cs',h1,_⟩:=hs.1 g zero t' hlt hz
 unfold World.var? at hv
 rw[hg,Option.bind_some,h1]at hv
 cases hv
 exact h1
theorem Gr{W:World}(hL:laidMetH Tryz.prog Rows.fnMaComponentRow.laid W)(hs:W.ShapedOpen Tryz.prog):Tens W:=by
 rw[MakeChecks.laidMetH_plain _ _ _ (by kernel_rfl)]at hL
 have hT:Lib.TabIs Tryz.prog W "internal/strconv.uint64pow10" .u64 tens:=Lib.tabIs_of_head Kt Kw Tryz.underlying280 Tryz.underlying74 FS Kv hL
 exact xG Kt hT hs Kx Ku
end
section
open Go Go.ChangeShapes Go.WideShapes Go.ChangeAt Go.RowKit Go.Rx
theorem CS{H:Type}{enc:TypeId×Value->H}{w:World}{fuel:Nat}{cs:List Value}{x:DataW H×List MemPlace}{A:Option Addr}{n c:Nat}(h:DataW.trod enc Tryz.prog w 0 (fun _=>true) true fuel 22 cs=some x)(he:cs=[.slice A n c]):n<=c/\(A=none->c=0):=by
 rcases open_ints Tryz.underlying22 Tryz.underlying5 I4 h with⟨h0,_⟩ |⟨a,len,cap,zs,h1,_,hle,_⟩
 ·rw[he]at h0
  cases h0
  exact⟨Nat.le_refl _,fun _=>rfl⟩
 ·rw[he]at h1
  cases h1
  exact⟨hle,fun h=>by cases h⟩
theorem Ch:Rx.CompTypes Tryz.prog 24 31 5 { name := "Code",type:=3,offset:=0,embedded:=false,tag := "",pkgPath := "",byteOffset:=0 }
  {name := "Value",type:=22,offset:=1,embedded:=false,tag := "",pkgPath := "",byteOffset:=8 } where
 t:=Tryz.underlying24
 e:=Tryz.underlying31
 ec:=by kernel_rfl
 eb:=of_decide_eq_true (by kernel_rfl)
 i:=Tryz.underlying3
 io:=rfl
 ic:=by kernel_rfl
 y:=Tryz.underlying22
 yo:=rfl
 yc:=by kernel_rfl
 u:=Tryz.underlying5
 uc:=by kernel_rfl
 ub:=of_decide_eq_true (by kernel_rfl)
theorem tU{H:Type}{enc:TypeId×Value->H}{w:World}{fuel:Nat}{cs:List Value}{x:DataW H×List MemPlace}(h:DataW.trod enc Tryz.prog w 0 (fun _=>true) true fuel 31 cs=some x)(hsz:∀n∈x.1.weights Tryz.prog 31,n<=reachBytes) :
  ∃z A n c l,cs=[.int .i64 z,.slice A n c]/\Bts w w.heap.size A n l/\n<=c/\(A=none->c=0):=by
 have k:=Ch
 obtain⟨y0,y1,n',he,hlen,h3,h4⟩:=trod_struct2 k.e h
 rw[k.io,k.ic]at h3
 rw[k.yo,k.yc]at h4
 rw[k.ec]at hlen
 obtain⟨z,e0,_,_⟩:=DataW.trod_int k.i h3
 have hD:x.1=.agg [y0.1,y1.1]:=congrArg Prod.fst he
 obtain⟨A,n1,cap1,l,e1,hbt,hr⟩:=Rx.bts_of_trod k.y k.u k.uc k.ub h4 (fun v hv=>by
  refine hsz v ?_
  rw[hD]
  simp only[DataW.weights,k.e,DataW.weightsEach,List.map_cons,List.map_nil,List.mem_append]
  exact .inr (.inl hv))
 obtain⟨hc1,hc2⟩:=CS h4 e1
 match cs,hlen,e0,e1 with
 |[c0,c1],_,e0,e1=>
  simp at e0 e1
  subst e0 e1
  exact⟨z,A,n1,cap1,l,rfl,hbt,hc1,hc2⟩
theorem CX{v:Value}{z:Int}{a:Option Addr}{n c:Nat}(h:v.cells.toList=[.int .i64 z,.slice a n c])(hv:∃cs,v=.agg cs/\cs.size=Tryz.prog.cellsOf 31):v=.agg #[.int .i64 z,.slice a n c]:=by
 obtain⟨cs,rfl,_⟩:=hv
 have h':cs.toList=[.int .i64 z,.slice a n c]:=h
 have:cs=#[.int .i64 z,.slice a n c]:=Array.ext' h'
 rw[this]
theorem lifted(os:Os)(started:os.Started)(H:Type)(enc:TypeId×Value->H) :
  ReturnsInHanded {} Tryz.checked os 4 .any (fun w args=>(Rows.fnMaComponentSpec.pre enc Tryz.prog Tryz.f4 [] false w args/\laidMetH Tryz.prog Rows.fnMaComponentRow.laid w)/\sizedMet enc Tryz.prog Tryz.f4 (OpenSpec.ofChange Rows.fnMaComponentSpec) false w args)
   (Rows.fnMaComponentSpec.post enc Tryz.prog Tryz.f4 false true false false):=by
 refine rp (C:=Tryz.checked) (X:=fun w _=>laidMetH Tryz.prog Rows.fnMaComponentRow.laid w) (fun _ _ _ hh h=>h.of_heap hh) M5 started Gi Tryz.func4
  (sI (enc:=enc) (C:=Tryz.checked) (X:=fun w _=>laidMetH Tryz.prog Rows.fnMaComponentRow.laid w) (World.laidAll Tryz.prog os Rows.fnMaComponentRow.laid) #[.agg #[.int .i64 0,.slice none 0 0]] 8 (World.laidAll_os _ _ _) (E6 os) (MG os) (J1 os H enc) (Gz os H enc) (Gy os)) ?_
 intro W base args ds gs before hval0 hW _ hsz hL hsh
 have hval:∀(j:Nat) t v,Tryz.f4.params[j]?=some t->args[j]?=some v->Value.okWide Tryz.prog W .any base t v:=hval0
 have hW':=hW
 obtain⟨p,q,hA0,hV,rfl,_,_⟩:=hW
 have hA:DataW.TrodAll enc Tryz.prog W 0 (fun _=>true) true Tryz.f4.params.toList args.toList ds p:=hA0
 rw[Tryz.params4]at hA hval
 obtain⟨v0,d0,rfl,rfl,h0⟩:=trodAll_one hA
 obtain⟨rfl,rfl⟩:=trodVars_none hV
 have hsz':(DataW.weightsEach Tryz.prog [31] [d0]).all (·<=reachBytes)=true:=by
  have:=hsz
  rw[show Tryz.checked.prog=Tryz.prog from rfl,Tryz.params4]at this
  exact this
 have hw0:∀n∈d0.weights Tryz.prog 31,n<=reachBytes:=fun n hn=>by
  have:=List.all_eq_true.1 hsz' n (by simp[DataW.weightsEach,hn])
  simpa using this
 obtain⟨fu0,hf0⟩:=id h0
 obtain⟨z,A,n,c,l,e0,hb,hc1,hc2⟩:=tU hf0 hw0
 obtain rfl:=CX e0 (okWide_struct Tryz.underlying31 (hval 0 31 v0 rfl rfl))
 refine(mj z A n c l W.heap.size W hb (Nat.le_refl _) hc1 hc2 (Gr hL hsh)).mono ?_
 rintro e W' ⟨v,rfl,⟨b,rfl,rfl⟩,hb⟩
 have hlt:∀x∈p,x.block<W.heap.size:=hA0.lt
 refine⟨_,rfl,_,_,_,[],p,[],hW',trodAll_mk1 (shut_bool Tryz.underlying4 _),?_,rfl,hb.frame _,fun h=>by cases h⟩
 exact trodAll_mk1 (hb.trod F7 zo Gu h0 fun x hx=>hlt x hx)
theorem holds:Rows.FnMaComponentSaid:=
 OpenClaim.holds_of_wide 4 Tryz.f4 rfl rfl rfl rfl rfl rfl rfl ⟨rfl,rfl,rfl,rfl,rfl⟩ rfl rfl rfl rfl rfl Ei Tryz.func4 I5 KU MH
  (fun os started H enc _=>lifted os started H enc)
theorem fnMaComponent_holds:Rows.FnMaComponentCardSaid:=
 Claim7.holds_tied_plain_at .later [] [.data,.data,.data,.sentinel,.sentinel,.sentinel,.pinned,.data,.sentinel,.data,.sentinel,.sentinel,.sentinel,.sentinel,.sentinel,.sentinel,.data,.data,.sentinel,.sentinel,.sentinel,.sentinel] true
  (true,"63bde2e737bd9909744d5f094d0b10f2b1d1ffe7c451eb05203f24bd37ecaa63") true holds (fun _ h=>by cases h) J0 (fun _ h=>by cases h) jq rfl ⟨rfl,rfl⟩ Gd rfl
  (fun f fn hf hfn=>by
   obtain rfl:f=4:=Option.some.inj (Ei.symm.trans hf) |>.symm
   obtain rfl:fn=Tryz.f4:=(Option.some.inj (Tryz.func4.symm.trans hfn)).symm
   exact⟨JB,fun j t ht=>by
    rw[Tryz.params4]at ht
    have hm:t∈[31]:=by simpa using Array.mem_of_getElem? ht
    exact(show Tryz.prog.wantsStandIn t=false by simpa using List.all_eq_true.1 JZ t hm)⟩)
  Ky
#print axioms fnMaComponent_holds
end
end Go.Proofs.YtnklanajebphpaaGreatDoor
