/- Joined texts: M24 M9 M10 M13 K6 M25 M19 M4 M23 M27 M28 K7 K8 K9 N3 M29 M30 M31. -/
import Derived.Test.YtnklanajebphpaaGreatDoorJ3
import Derived.Test.YtnklanajebphpaaGreatDoorJ4
import Derived.Test.YtnklanajebphpaaGreatDoorJ5
import Derived.Lib.ItoaLen
set_option maxRecDepth 100000
set_option maxHeartbeats 4000000
set_option linter.unusedVariables false
set_option linter.unusedSimpArgs false
namespace Go.Proofs.YtnklanajebphpaaGreatDoor
open IntKind
section
open Go Go.Rx Go.RowKit
def tens:List Int:=[1,10,100,1000,10000,100000,1000000,10000000,100000000,1000000000,10000000000,100000000000,1000000000000,10000000000000,100000000000000,1000000000000000,10000000000000000,100000000000000000,1000000000000000000,10000000000000000000]
def tp:SObj:=.cells (tens.map fun n=>.int .u64 n true) 20 280 0 0
def cU(n:Nat):List UInt8:=if n<10 then[UInt8.ofNat (48+n)] else if n<100 then[UInt8.ofNat (48+n/10),UInt8.ofNat (48+n%10)] else[UInt8.ofNat (48+n/100),UInt8.ofNat (48+n/10%10),UInt8.ofNat (48+n%10)]
def dg(n:Nat)(w:World):T:=
 .leaf .ret [.str ⟨(cU n).toArray⟩ true] (SS.mk (if n<100 then[tp] else[tp,.cells ([.int .u8 0 true]++(cU n).map (fun b=>.int .u8 (b.toNat:Int) true)++List.replicate 20 (.int .u8 0 true)) 24 227 0 0]) [(14,0)] true w [14])
theorem Cw(w:World):(List.range 32).map (fun(j:Nat)=>al Tryz.prog ar 500 215 [.int .i64 ((0+j:Nat):Int) true] (SS.mk [tp] [(14,0)] true w [14]))=(List.range 32).map (fun(j:Nat)=>dg (0+j) w):=by kernel_rfl
theorem Cx(w:World):(List.range 32).map (fun(j:Nat)=>al Tryz.prog ar 500 215 [.int .i64 ((32+j:Nat):Int) true] (SS.mk [tp] [(14,0)] true w [14]))=(List.range 32).map (fun(j:Nat)=>dg (32+j) w):=by kernel_rfl
theorem Cy(w:World):(List.range 32).map (fun(j:Nat)=>al Tryz.prog ar 500 215 [.int .i64 ((64+j:Nat):Int) true] (SS.mk [tp] [(14,0)] true w [14]))=(List.range 32).map (fun(j:Nat)=>dg (64+j) w):=by kernel_rfl
theorem Cz(w:World):(List.range 32).map (fun(j:Nat)=>al Tryz.prog ar 500 215 [.int .i64 ((96+j:Nat):Int) true] (SS.mk [tp] [(14,0)] true w [14]))=(List.range 32).map (fun(j:Nat)=>dg (96+j) w):=by kernel_rfl
theorem CA(w:World):(List.range 32).map (fun(j:Nat)=>al Tryz.prog ar 500 215 [.int .i64 ((128+j:Nat):Int) true] (SS.mk [tp] [(14,0)] true w [14]))=(List.range 32).map (fun(j:Nat)=>dg (128+j) w):=by kernel_rfl
theorem CB(w:World):(List.range 32).map (fun(j:Nat)=>al Tryz.prog ar 500 215 [.int .i64 ((160+j:Nat):Int) true] (SS.mk [tp] [(14,0)] true w [14]))=(List.range 32).map (fun(j:Nat)=>dg (160+j) w):=by kernel_rfl
theorem CC(w:World):(List.range 32).map (fun(j:Nat)=>al Tryz.prog ar 500 215 [.int .i64 ((192+j:Nat):Int) true] (SS.mk [tp] [(14,0)] true w [14]))=(List.range 32).map (fun(j:Nat)=>dg (192+j) w):=by kernel_rfl
theorem CD(w:World):(List.range 32).map (fun(j:Nat)=>al Tryz.prog ar 500 215 [.int .i64 ((224+j:Nat):Int) true] (SS.mk [tp] [(14,0)] true w [14]))=(List.range 32).map (fun(j:Nat)=>dg (224+j) w):=by kernel_rfl
theorem F5(n:Nat)(hn:n<256)(w:World):al Tryz.prog ar 500 215 [.int .i64 (n:Int) true] (SS.mk [tp] [(14,0)] true w [14])=dg n w:=by
 have key:∀(k:Nat),(List.range 32).map (fun(j:Nat)=>al Tryz.prog ar 500 215 [.int .i64 ((k+j:Nat):Int) true] (SS.mk [tp] [(14,0)] true w [14]))=(List.range 32).map (fun(j:Nat)=>dg (k+j) w)->k<=n->n<k+32 ->
   al Tryz.prog ar 500 215 [.int .i64 (n:Int) true] (SS.mk [tp] [(14,0)] true w [14])=dg n w:=by
  intro k h h1 h2
  have h:=congrArg (fun l=>l[n-k]?) h
  simp only[List.getElem?_map,List.getElem?_range (show n-k<32 by omega),Option.map_some,Option.some.injEq]at h
  rw[show k+(n-k)=n by omega]at h
  exact h
 rcases(by omega:n<32∨(32<=n/\n<64)∨(64<=n/\n<96)∨(96<=n/\n<128)∨(128<=n/\n<160)∨(160<=n/\n<192)∨(192<=n/\n<224)∨(224<=n/\n<256)) with h |h |h |h |h |h |h |h
 ·exact key 0 (Cw w) (by omega) (by omega)
 ·exact key 32 (Cx w) (by omega) (by omega)
 ·exact key 64 (Cy w) (by omega) (by omega)
 ·exact key 96 (Cz w) (by omega) (by omega)
 ·exact key 128 (CA w) (by omega) (by omega)
 ·exact key 160 (CB w) (by omega) (by omega)
 ·exact key 192 (CC w) (by omega) (by omega)
 ·exact key 224 (CD w) (by omega) (by omega)
def Tens(w:World):Prop:=w.heap[14]?=some (.cells (tens.map (Value.int .u64)).toArray 280 (0,0))
theorem Tens.below{w w':World}{B:Nat}(h:Tens w)(hb:Below B w w')(hB:14<B):Tens w':=by
 unfold Tens at *
 rw[hb.block 14 hB]
 exact h
theorem Tens.lt{w:World}(h:Tens w):14<w.heap.size:=(Array.getElem?_eq_some_iff.1 h).1
theorem EX{β:Nat->Nat}{x:Option Obj}:tp.At β x ↔ x=some (.cells (tens.map (Value.int .u64)).toArray 280 (0,0)):=by
 unfold tp SObj.At
 constructor
 ·rintro⟨rest,h1,h2⟩
  have hr:rest=[]:=List.eq_nil_of_length_eq_zero (by simp[tens]at h2;simp[h2])
  subst hr
  rw[h1]
  congr 2
 ·intro h
  refine⟨[],?_,by simp[tens]⟩
  rw[h]
  congr 2
theorem St.tens{P:Program}{Q:SE->List Value->World->Prop}{w:World}(h:Tens w):St { P:=P,β0:=fun _=>14,n0:=1,Q:=Q } (fun _=>14) (SS.mk [tp] [(14,0)] true w [14]) w where
 lt i hi:=h.lt
 inj i j hi hj _:=by simp[SS.n]at hi hj;omega
 at_ i o hi:=by
  match i,hi with
  |0,hi=>
   simp at hi
   subst hi
   exact EX.2 h
  |i+1,hi=>simp at hi
 ok i o hi:=by
  match i,hi with
  |0,hi=>
   simp at hi
   subst hi
   show be _ (YtnklanajebphpaaGreatDoor.tens.map fun n=>SV.int .u64 n true)
   rw[eR]
   intro v hv
   obtain⟨n,_,rfl⟩:=List.mem_map.1 hv
   trivial
  |i+1,hi=>simp at hi
 gl p hp:=by
  simp at hp
  subst hp
  exact⟨by simp[SS.n],rfl⟩
 old _:=
      {fr:=fun _ _ _=>rfl,sz:=Nat.le_refl _,tape:=rfl,os:=rfl,out:=rfl,
       pre:=fun i b hi=>by
        match i,hi with
        |0,hi=>simpa using hi
        |i+1,hi=>simp at hi
       pren:=by simp[SS.n]
       new:=fun i hi hin=>by simp[SS.n]at hi hin;omega }
 base i hi:=rfl
 n0:=by simp[SS.n]
theorem EW{Γ:Ctx}{β:Nat->Nat}{s:SS}{w w':World}(hs:St Γ β s w')(h0:s.objs[0]?=some tp)(hext:s.ext=true)(hw0:s.w0=w)(hpre:s.pre=[14])(ht:Tens w):Below w.heap.size w w':=by
 subst hw0
 have o:=hs.old hext
 have hb0:β 0=14:=o.pre 0 14 (by rw[hpre];rfl)
 refine⟨o.os,o.tape,o.out,o.sz,fun b hb=>?_⟩
 by_cases h9:b=14
 ·subst h9
  have:=EX.1 (hs.at_ 0 _ h0)
  rw[hb0]at this
  rw[this]
  exact ht.symm
 ·refine o.fr b hb fun i hi he=>?_
  by_cases hi0:i=0
  ·subst hi0
   omega
  ·have:=o.new i (by rw[hpre];simp;omega) hi
   omega
theorem DN(n:Nat)(hn:n<256)(w:World)(ht:Tens w):Calls Tryz.prog 215 #[.int .i64 (n:Int)] w (bB (fun v _=>v=.string ⟨(cU n).toArray⟩) w):=by
 have h:=F5 n hn w
 refine(fV (hk:=ar) (n:=500) (args:=[.int .i64 (n:Int) true]) (Q:=fun v w'=>v=.string ⟨(cU n).toArray⟩/\Below w.heap.size w w') (St.tens ht) ⟨trivial,trivial⟩ ?_).mono ?_
 ·rw[h]
  intro β w' hs _
  refine⟨_,rfl,rfl,EW hs ?_ rfl rfl rfl ht⟩
  show(if n<100 then[tp] else[tp,_])[0]?=some tp
  split <;> rfl
 ·rintro e w' ⟨v,rfl,h1,h2⟩
  exact⟨v,rfl,h1,h2⟩
end
section
open Go Go.Rx Go.RowKit
structure MV where
 s:ByteArray
 p:Addr
 at':Int
@[reducible] def JE:Hook:={ X:=MV,out:=fun _ s x=>(.agg [.str x.s false,.xp x.p,.int .i64 x.at' false],s.objs) }
def cz:Hooks:={ calls:=fun f=>if f=39 then some JE else none,loops:=fun _ _=>none }
def MaR(w:World)(B:Nat)(x:Comp)(vs:List Value):Prop:=∃pre p,vs=[.string ⟨(pre++x.val).toArray⟩,.pointer (some p),.int .i64 (pre.length:Int)]/\ProtAt w B p x.code/\pre.length<=26
theorem ProtAt.sub{w w':World}{B B':Nat}{p:Addr}{k:Int}(h:ProtAt w B p k)(hs:Sub B w w')(hB:B<=B'):ProtAt w' B' p k:=by
 obtain⟨h1,x,h2⟩:=h
 exact⟨by omega,x,fun i v hi=>hs _ _ (by rw[aL];exact h1) (h2 i v hi)⟩
theorem MaR.sub(B B':Nat)(a b:World)(x:Comp)(vs:List Value)(hs:Sub B a b)(hB:B<=B')(h:MaR a B x vs):MaR b B' x vs:=by
 obtain⟨pre,p,h1,h2,h3⟩:=h
 exact⟨pre,p,h1,h2.sub hs hB,h3⟩
theorem MaR.len{w:World}{B:Nat}(x:Comp)(vs:List Value)(h:MaR w B x vs):vs.length=3:=by
 obtain⟨pre,p,rfl,_⟩:=h
 rfl
def MasAt(w:World)(B:Nat)(A:Option Addr)(n:Nat)(l:List Comp):Prop:=SeqAt (CellsAt (MaR w B) w B) 3 B A n l
theorem MasAt.sub{w w':World}{B B':Nat}{A:Option Addr}{n:Nat}{l:List Comp}(h:MasAt w B A n l)(hs:Sub B w w')(hB:B<=B'):MasAt w' B' A n l:=
 h.imp hB fun a x _ hx=>hx.sub hs hB fun x vs=>MaR.sub _ _ _ _ x vs hs hB
end
section
open Go Go.Rx Go.RowKit
structure CV where
 code:Int
 A:Option Addr
 n:Nat
 c:Nat
@[reducible] def Dp:Hook:={ X:=CV,out:=fun _ s x=>(.agg [.int .i64 x.code false,.xs x.A x.n x.c],s.objs) }
noncomputable abbrev Ax(w:World)(a:Addr)(c0:Nat):List SV:=[(.int .i64 (aj w (((cP w ((a.add 1).add 0)).add 1).add 0)) false),(.slc 1 0 (((bK w ((a.add 0).add 0)).extract (aj w ((a.add 2).add 0)).toNat (bK w ((a.add 0).add 0)).size).size) c0 false false)]
theorem Mk(a:Addr)(w:World):al Tryz.prog ar 1000 46 [.xp a] (SS.mk [] [] true w []) =
(.need (canRead w [] (a.add 1) [SV.xp (cP w ((a.add 1).add 0))]) (.need (canRead w [] (a.add 1) [SV.xp (cP w ((a.add 1).add 0))]) (.need (canRead w [] ((cP w ((a.add 1).add 0)).add 1) [SV.int i64 (aj w (((cP w ((a.add 1).add 0)).add 1).add 0)) false]) (.need (canRead w [] (a.add 0) [SV.str (bK w ((a.add 0).add 0)) false]) (.need (canRead w [] (a.add 2) [SV.int i64 (aj w ((a.add 2).add 0)) false]) (.need ((0:Int)<=aj w ((a.add 2).add 0)/\aj w ((a.add 2).add 0)<=(↑(bK w ((a.add 0).add 0)).size:Int)) (.choose (.appendCap (((bK w ((a.add 0).add 0)).extract (aj w ((a.add 2).add 0)).toNat (bK w ((a.add 0).add 0)).size).size) 0 5) fun c0=>(.leaf .ret [(.agg (Ax w a c0))] (SS.mk [(.cells (Ax w a c0) 2 31 0 0),(.ints .u8 (List.map (fun b=>(↑b.toNat:Int)) (#[].extract 0 0++(bK w ((a.add 0).add 0)).data.extract (aj w ((a.add 2).add 0)).toNat ((aj w ((a.add 2).add 0)).toNat+((bK w ((a.add 0).add 0)).size-(aj w ((a.add 2).add 0)).toNat))++#[].extract (0+min ((bK w ((a.add 0).add 0)).size-(aj w ((a.add 2).add 0)).toNat) ((bK w ((a.add 0).add 0)).data.size-(aj w ((a.add 2).add 0)).toNat)) 0).toList++List.replicate (c0-((bK w ((a.add 0).add 0)).extract (aj w ((a.add 2).add 0)).toNat (bK w ((a.add 0).add 0)).size).size) (0:Int)) 5 c0 (c0+1))] [] true w []))))))))):=by kernel_rfl
theorem Q8(a:Addr)(w:World):(by have h:=Mk a w;unfold Ax at h;exact type_of% h):=Mk a w
theorem MaR.lasts:Lasts MaR 3:=⟨MaR.sub,fun w B x vs=>MaR.len x vs,by omega⟩
def AddrR(w:World)(B:Nat)(l:List Comp)(vs:List Value):Prop:=∃A n c,vs=[.slice A n c]/\RowAt MaR 3 w B A n l
theorem AddrR.lasts:Lasts AddrR 1 where
 sub _ _ _ _ _ _ hs hB:=by
  rintro⟨A,n,c,h1,h2⟩
  exact⟨A,n,c,h1,h2.sub MaR.lasts hs hB⟩
 len _ _ _ _:=by
  rintro⟨A,n,c,rfl,_⟩
  rfl
 pos:=by omega
def CompR(w:World)(B:Nat)(x:Comp)(vs:List Value):Prop:=∃A n c,vs=[.int .i64 x.code,.slice A n c]/\Bts w B A n x.val
theorem CompR.lasts:Lasts CompR 2 where
 sub _ _ _ _ _ _ hs hB:=by
  rintro⟨A,n,c,h1,h2⟩
  exact⟨A,n,c,h1,h2.sub hs hB⟩
 len _ _ _ _:=by
  rintro⟨A,n,c,rfl,_⟩
  rfl
 pos:=by omega
def ListR(w:World)(B:Nat)(l:List Comp)(vs:List Value):Prop:=∃A n c,vs=[.slice A n c]/\RowAt CompR 2 w B A n l
theorem ListR.lasts:Lasts ListR 1 where
 sub _ _ _ _ _ _ hs hB:=by
  rintro⟨A,n,c,h1,h2⟩
  exact⟨A,n,c,h1,h2.sub CompR.lasts hs hB⟩
 len _ _ _ _:=by
  rintro⟨A,n,c,rfl,_⟩
  rfl
 pos:=by omega
theorem db{w:World}{pre:List Nat}{a:Addr}{v:SV}(hb:a.block<w.heap.size)(hp:a.block ∉ pre)(hc:w.cell? a=some (v.den id)):canRead w pre a [v]:=
 ⟨hb,hp,fun j u hj=>match j,hj with
  |0,hj=>by
   simp only[List.getElem?_cons_zero,Option.some.injEq]at hj
   subst hj
   exact hc
  |j+1,hj=>by simp at hj⟩
theorem Bts.since{w w':World}{B:Nat}{A:Option Addr}{n:Nat}{l:List UInt8}(h:Bts w' B A n l)(hf:Fresh w A):Bts (Rx.since w w') B A n l:=by
 refine⟨h.1,fun hn=>?_⟩
 obtain⟨a,ha,hb,hx⟩:=h.2 hn
 exact⟨a,ha,hb,fun i x hi=>(dd _ _ _ _).2 ⟨by rw[aL];exact hf a ha,hx i x hi⟩⟩
theorem Lu(a:Addr)(x:Comp)(B:Nat)(w:World)(h:CellsAt (MaR w B) w B a x)(hB:B<=w.heap.size) :
  Calls Tryz.prog 46 #[.pointer (some a)] w (bB (fun v w'=>∃A n c,v=.agg #[.int .i64 x.code,.slice A n c]/\Bts (Rx.since w w') w'.heap.size A n x.val) w):=by
 obtain⟨h1,vs,⟨pre,p,rfl,⟨hp1,y,hp2⟩,hlen⟩,hcell⟩:=h
 have c0:w.cell? ((a.add 0).add 0)=some (.string ⟨(pre++x.val).toArray⟩):=hcell 0 _ rfl
 have c1:w.cell? ((a.add 1).add 0)=some (.pointer (some p)):=hcell 1 _ rfl
 have c2:w.cell? ((a.add 2).add 0)=some (.int .i64 (pre.length:Int)):=hcell 2 _ rfl
 have c3:w.cell? ((p.add 1).add 0)=some (.int .i64 x.code):=hp2 1 _ rfl
 have e0:bK w ((a.add 0).add 0)=⟨(pre++x.val).toArray⟩:=by simp[bK,c0]
 have e1:cP w ((a.add 1).add 0)=p:=by simp[cP,c1]
 have e2:aj w ((a.add 2).add 0)=(pre.length:Int):=by simp[aj,c2]
 have e3:aj w ((p.add 1).add 0)=x.code:=by simp[aj,c3]
 refine aF (hk:=ar) (n:=1000) (args:=[.xp a]) ⟨trivial,trivial⟩ ?_
 refine ah (Q8 a w) ?_
 rw[e0,e1,e2,e3]
 refine aa (db (by rw[aL];omega) (by simp) c1) (aa (db (by rw[aL];omega) (by simp) c1) (aa (db (by rw[aL];omega) (by simp) c3) (aa (db (by rw[aL];omega) (by simp) c0) (aa (db (by rw[aL];omega) (by simp) c2) (aa ?_ (aD ?_))))))
 ·exact⟨by omega,by simp[ByteArray.size];omega⟩
 rintro cc ⟨t,hcc⟩
 refine aQ (Fine.start _ _) fun β w' hst hb=>?_
 have hz:((⟨(pre++x.val).toArray⟩:ByteArray).extract ((pre.length:Int)).toNat (⟨(pre++x.val).toArray⟩:ByteArray).size).size=x.val.length:=by simp[ByteArray.size_extract,ByteArray.size]
 have o:=hst.old rfl
 have h0:=hst.at_ 1 _ rfl
 have hfr:Fresh w (some ⟨β 1,0,none⟩):=fun a ha=>by
  cases ha
  exact(Fine.start w _).new o 1 (by simp[SS.n])
 refine⟨some ⟨β 1,0,none⟩,x.val.length,cc,?_,?_⟩
 ·simp only[SV.den,af]
  rw[hz]
 ·have hL:=da (k:=x.val.length) h0 ?_ ?_ (hst.lt 1 (by simp[SS.n]))
  ·refine Bts.since ?_ hfr
   refine cast ?_ hL
   congr 1
   simp[ByteArray.size,Function.comp_def]
  ·intro v hv
   rcases List.mem_append.1 hv with h |h
   ·obtain⟨b,_,rfl⟩:=List.mem_map.1 h
    have:=b.toNat_lt
    omega
   ·have:=List.eq_of_mem_replicate h
    omega
  ·simp[ByteArray.size]
theorem AV{w:World}{b:Nat}{vs rest:List Value}{e:TypeId}{fr:Nat×Nat}(h:w.heap[b]?=some (.cells (vs++rest).toArray e fr)):∀j v,vs[j]?=some v->w.cell? (Addr.add ⟨b,0,none⟩ j)=some v:=by
 intro j v hj
 have ha:(Addr.add ⟨b,0,none⟩ j)=⟨b,j,none⟩:=by unfold Addr.add;split <;> simp_all
 rw[ha]
 simp only[World.cell?,h]
 simp[List.getElem?_append_left (List.getElem?_eq_some_iff.1 hj).1,hj]
end
section
open Go Go.Rx Go.RowKit
theorem hO{Γ:Ctx}{w:World}{f:FuncId}{args:List SV}{X:Type}{out:X->SV×List SObj}{k:X->World->List Nat->T}{R:X->World->World->Prop}(hout:∀x,(out x).2=[]/\(out x).1.ok 0)
  (hc:∀β w0,Below w.heap.size w w0->Calls Γ.P f (af β args).toArray w0 fun e w'=>∃x,e=.returned ((out x).1.den β)/\Below w0.heap.size w0 w'/\R x w0 w')
  (hk:∀x w0 w',Below w.heap.size w w0->R x w0 w'->Below w0.heap.size w0 w'->(k x w' []).holds Γ):(T.call f args (SS.mk [] [] true w []) X out k).holds Γ:=by
 intro β w0 hs hargs
 have o:=hs.old rfl
 have hbw:Below w.heap.size w w0:=o.belowB (Below.refl _ _) (Nat.le_refl _) (by simp)
 refine(hc β w0 hbw).mono ?_
 rintro e w' ⟨x,rfl,hb,hr⟩
 obtain⟨ho1,ho2⟩:=hout x
 refine⟨x,β,[],rfl,⟨?_,?_,fun _ _=>rfl⟩,?_,hk x w0 w' hbw hr hb⟩
 ·rw[ho1];exact hs.rebase hb
 ·exact Nat.zero_le _
 ·rw[ho1];exact ho2
end
section
open Go Go.Rx Go.RowKit
def yZ(args:List SV)(l:List SObj)(v:List Int):List SObj:=
 match args with
 |[.slc id _ _ _ _ _,_]=>l.set id (.ints .u8 v 227 0 0)
 |_=>l
@[reducible] def Dy:Hook:={ X:=List Int,out:=fun args s x=>(.tup [],yZ args s.objs x) }
def O0:Hooks:={ calls:=fun f=>if f=308 then some aR else if f=309 then some bD else if f=310 then some Dy else none,loops:=fun _ _=>none }
def KL:Hooks:={ calls:=fun f=>if f=243 then some iK else none,loops:=fun _ _=>none }
noncomputable abbrev Fz:SObj:=(.cells [(.int .u8 0 true),(.int .u8 0 true),(.int .u8 0 true),(.int .u8 0 true),(.int .u8 0 true),(.int .u8 0 true),(.int .u8 0 true),(.int .u8 0 true),(.int .u8 0 true),(.int .u8 0 true),(.int .u8 0 true),(.int .u8 0 true),(.int .u8 0 true),(.int .u8 0 true),(.int .u8 0 true),(.int .u8 0 true),(.int .u8 0 true),(.int .u8 0 true),(.int .u8 0 true),(.int .u8 0 true),(.int .u8 0 true),(.int .u8 0 true),(.int .u8 0 true),(.int .u8 0 true)] 24 227 0 0)
theorem K1(n:Nat)(w:World):al Tryz.prog O0 500 211 [.int .u64 n false,.int .i64 10 true] (SS.mk [] [] true w []) =
(.split (decide ((↑n:Int)<(100:Int))) (.hc 308 [(.int .i64 (i64.wrap (↑n:Int)) false)] (SS.mk [] [] true w []) (aR) fun x0 w0 b0=>(.leaf .ret [(.str x0 false)] (SS.mk [] [] true w0 b0))) (.hc 309 [(.int .u64 ((↑n:Int)) false)] (SS.mk [Fz] [] true w []) (bD) fun x0 w0 b0=>(.need ((0:Int)<=(↑x0:Int)/\(↑x0:Int)<=(↑(24:Nat):Int)) (.hc 310 [(.slc 0 0 ((↑x0:Int).toNat-0) 24 false true),(.int .u64 ((↑n:Int)) false)] (SS.mk [Fz] [] true w0 b0) (Dy) fun x1 w1 b1=>(.need ((0:Int)<=(↑x0:Int)/\(↑x0:Int)<=(↑(24:Nat):Int)) (.need (0+((↑x0:Int).toNat-0)<=List.length x1) (.leaf .ret [(.str (bytesOf (List.take ((↑x0:Int).toNat-0) (List.drop 0 x1))) false)] (SS.mk [(.ints .u8 x1 227 0 0)] [] true w1 b1)))))))):=by kernel_rfl
theorem Qn(n:Nat)(w:World):(by have h:=K1 n w;unfold Fz at h;exact type_of% h):=K1 n w
theorem Qo(s:ByteArray)(b:Int)(w:World):al Tryz.prog KL 500 208 [.str s false,.int .i64 10 true,.int .i64 b true] (SS.mk [] [] true w []) =
 (.hc 243 [(.str s false),(.int .i64 10 true),(.int .i64 b true)] (SS.mk [] [] true w []) (iK) fun x0 w0 b0=>
 (.leaf .ret [(.tup [(.int .u64 ((↑x0:Int)) false),(.one .nilIface rfl)])] (SS.mk [] [] true w0 b0))):=by kernel_rfl
open Go.Sort in
theorem JM{w:World}(h:Tens w):Lib.TabIs Tryz.prog w "internal/strconv.uint64pow10" .u64 Lib.pow10Tab:=by
 have hg:Tryz.prog.globalNamed "internal/strconv.uint64pow10" = some 14:=by kernel_rfl
 have he:tens=Lib.pow10Tab:=by decide +kernel
 unfold Lib.TabIs World.var?
 rw[hg]
 show(match w.heap[14]? with |some (.cells cs _ _)=>some cs |_=>none)=_
 rw[h,he]
theorem qA:∀(l:List Int) (r:ByteArray),l.foldl (fun r n=>r.push (UInt8.ofNat n.toNat)) r=⟨(r.data.toList++l.map fun n=>UInt8.ofNat n.toNat).toArray⟩
 |[],r=>by simp
 |n :: l,r=>by
  rw[List.foldl_cons,qA l]
  simp[ByteArray.push]
theorem gz(l:List Int):bytesOf l=⟨(l.map fun n=>UInt8.ofNat n.toNat).toArray⟩:=by
 unfold bytesOf
 rw[qA]
 rfl
def mi(d:Array UInt8)(l:List Int):List Int:=l.mapIdx fun k z=>if k<d.size then(d[k]!.toNat:Int) else z
theorem Cm(d:Array UInt8)(l:List Int):(mi d l).length=l.length:=by simp[mi]
theorem Ji{w:World}{b:Nat}{l:List Int}{t:TypeId}{fr:Nat×Nat}(d:Array UInt8)(h:w.heap[b]?=some (.cells (l.map (Value.int .u8)).toArray t fr)) :
  (Sort.putRow (fun(b:UInt8)=>Value.int .u8 (b.toNat:Int)) w b 0 d).heap[b]?=some (.cells ((mi d l).map (Value.int .u8)).toArray t fr):=by
 show(w.heap.modify b _)[b]?=_
 rw[Array.getElem?_modify,if_pos rfl,h]
 simp only[Option.map_some,Sort.onCells,Option.some.injEq,Obj.cells.injEq,and_true]
 apply Array.ext
 ·simp[Sort.putCells,mi]
 ·intro i h1 h2
  simp only[Sort.putCells,mi,Array.getElem_mapIdx,List.getElem_toArray,List.getElem_map,List.getElem_mapIdx,Nat.zero_le,true_and,Nat.zero_add,Nat.sub_zero]
  split <;> rfl
theorem Dz{w:World}{b k:Nat}(d:Array UInt8)(h:k≠b):(Sort.putRow (fun(b:UInt8)=>Value.int .u8 (b.toNat:Int)) w b 0 d).heap[k]?=w.heap[k]?:=by
 show(w.heap.modify b _)[k]?=_
 rw[Array.getElem?_modify,if_neg (Ne.symm h)]
theorem FX{n v':Nat}{dk:Array UInt8}(h:Lib.FmtInv (Lib.nDigits n) n 0 v' dk)(l:List Int)(hl:Lib.nDigits n<=l.length):bytesOf ((mi dk l).take (Lib.nDigits n))=⟨(Lib.decDigits n).toArray⟩:=by
 rw[gz]
 congr 2
 apply List.ext_getElem
 ·simp[mi,Lib.decDigits_length]
  omega
 ·intro i h1 h2
  rw[Lib.decDigits_length]at h2
  rw[Lib.row_is_numeral h i (by rw[Lib.decDigits_length];exact h2)]
  simp only[mi,List.getElem_map,List.getElem_take,List.getElem_mapIdx,h.size,if_pos h2]
  simp
theorem Dl{w:World}{b N j:Nat}{t:TypeId}{fr:Nat×Nat}(h:w.heap[b]?=some (.cells ((List.replicate N (0:Int)).map (Value.int .u8)).toArray t fr))(hj:j<N):w.cell? ⟨b,j,none⟩=some (.int .u8 0):=by
 simp only[World.cell?,h,List.map_replicate]
 simp[hj]
theorem Ks(n:Nat)(hn:n<2^64)(w:World)(ht:Tens w):Calls Tryz.prog 211 #[.int .u64 n,.int .i64 10] w (bB (fun v _=>v=.string ⟨(Lib.decDigits n).toArray⟩) w):=by
 refine aF (hk:=O0) (n:=500) (args:=[.int .u64 n false,.int .i64 10 true]) ⟨trivial,trivial,trivial⟩ ?_
 refine ah (Qn n w) (ak (fun h=>?_) (fun h=>?_))
 ·refine hO (R:=fun(s:ByteArray) _ _=>s=⟨(Lib.decDigits n).toArray⟩) (fun x=>⟨rfl,trivial⟩) (fun β wc hb=>?_) ?_
  ·rw[aq (by omega) (by omega)]
   refine(Tryz.internal_strconv_small n (by omega) wc).mono ?_
   rintro e w' ⟨rfl,rfl⟩
   exact⟨_,rfl,Below.refl _ _,rfl⟩
  ·rintro s wc w1 hwc rfl hb
   exact aQ (Fine.nil (hwc.trans (hb.mono hwc.size))) fun β w' _ _=>rfl
 ·have hd20:=Lib.nDigits_le20 n hn
  refine mt (fun r=>r=Lib.nDigits n) (Fine.start _ _) rfl (fun β w0 hb=>?_) ?_
  ·refine(Tryz.internal_strconv_numDigits n (by omega) hn w0 (JM (ht.below hb ht.lt))).mono ?_
   rintro e w' ⟨rfl,rfl⟩
   exact⟨_,rfl,⟨_,rfl,rfl⟩,Below.refl _ _⟩
  rintro r w1 bs rfl hb1 hbs
  refine aa ⟨by omega,by omega⟩ ?_
  refine Kq (R:=fun(x:List Int) _ _=>bytesOf (x.take (Lib.nDigits n))=⟨(Lib.decDigits n).toArray⟩/\x.length=24) (Fine.mk' hb1 hbs) rfl (fun x=>⟨rfl,by simp[yZ,SObj.ok],trivial⟩) (fun β w0 hst ho hb=>?_) ?_
  ·obtain⟨rest,hx,hr⟩:=hst.at_ 0 _ rfl
   have:rest=[]:=List.eq_nil_of_length_eq_zero (by simpa using hr)
   subst this
   have hx':w0.heap[β 0]?=some (.cells ((List.replicate 24 (0:Int)).map (Value.int .u8)).toArray 227 (0,0)):=hx
   have hH:Sort.Holds (fun(b:UInt8)=>Value.int .u8 (b.toNat:Int)) w0 (β 0) 0 (Array.replicate (Lib.nDigits n) (0:UInt8)):=fun j hj=>by
    have hj':j<Lib.nDigits n:=by simpa using hj
    refine⟨?_,?_⟩
    ·rw[getElem!_pos _ j hj]
     rw[Nat.zero_add,Array.getElem_replicate]
     exact Dl hx' (by omega)
    ·simp[World.frozen?,hx']
   have hfmt:=Tryz.internal_strconv_formatBase10 (β 0) 0 24 n (Array.replicate (Lib.nDigits n) (0:UInt8)) w0 hH (by rw[Array.size_replicate];exact Lib.lt_pow_nDigits n) hn (by rw[Array.size_replicate];omega)
   rw[Array.size_replicate]at hfmt
   refine(show Calls Tryz.prog _ #[.slice (some ⟨β 0,0,none⟩) (Lib.nDigits n) 24,.int .u64 n] w0 _ from hfmt).mono ?_
   rintro e w' ⟨rfl,k,v',dk,rfl,hF⟩
   have hlt:=hst.lt 0 (by simp[SS.n])
   refine⟨mi dk (List.replicate 24 0),rfl,⟨rfl,rfl,rfl,?_,fun b hbl hnb=>?_⟩,?_,FX hF _ (by simp;omega),by rw[Cm];simp⟩
   ·show w0.heap.size<=(w0.heap.modify _ _).size
    simp
   ·refine Dz dk ?_
    rintro rfl
    exact hnb (by simp[ac,SS.n])
   ·intro i o hi
    match i,hi with
    |0,hi=>
     cases hi
     exact Ji dk hx'
    |i+1,hi=>exact absurd hi (by simp[yZ])
  ·rintro x w2 w3 b3 hb2 ⟨hx1,hx2⟩ hb3 hbs3
   refine aa ⟨by omega,by omega⟩ (aa (by rw[hx2];omega) ?_)
   refine aQ (Fine.mk' hb3 fun b hb=>(hbs3 b hb).1) fun β w' _ _=>?_
   show Value.string (bytesOf (List.take (((Lib.nDigits n:Nat):Int).toNat-0) (List.drop 0 x)))=_
   rw[show((Lib.nDigits n:Nat):Int).toNat-0=Lib.nDigits n by omega,List.drop_zero,hx1]
theorem xC(n:Nat):(⟨(Lib.decDigits n).toArray⟩:ByteArray).size=(Lib.decDigits n).length:=by simp[ByteArray.size]
theorem up(n b:Nat)(w:World)(h:∀w,Calls Tryz.prog 243 #[.string ⟨(Lib.decDigits n).toArray⟩,.int .i64 10,.int .i64 b] w fun e w'=>e=.returned (.tuple #[.int .u64 n,.nilIface])/\Below w.heap.size w w') :
  Calls Tryz.prog 208 #[.string ⟨(Lib.decDigits n).toArray⟩,.int .i64 10,.int .i64 b] w (bB (fun v _=>v=.tuple #[.int .u64 n,.nilIface]) w):=by
 refine aF (hk:=KL) (n:=500) (args:=[.str ⟨(Lib.decDigits n).toArray⟩ false,.int .i64 10 true,.int .i64 b true]) ⟨trivial,trivial,trivial,trivial⟩ ?_
 refine ah (Qo _ b w) ?_
 refine hO (R:=fun(m:Nat) _ _=>m=n) (fun x=>⟨rfl,trivial,trivial,trivial⟩) (fun β wc hb=>?_) ?_
 ·refine(h wc).mono ?_
  rintro e w' ⟨rfl,hb'⟩
  exact⟨_,rfl,hb',rfl⟩
 ·rintro s wc w1 hwc rfl hb
  exact aQ (Fine.nil (hwc.trans (hb.mono hwc.size))) fun β w' _ _=>rfl
theorem eo(w:World)(e:TypeId)(s:ByteArray):Below w.heap.size w (Lib.bytesWorld w e s):=
 ⟨rfl,rfl,rfl,by rw[Lib.bytesWorld_size];omega,fun k hk=>Lib.bytesWorld_at_old w e s k hk⟩
theorem BA:∀(l:List UInt8) (acc:Nat),Lib.parseUint10 acc l=Lib.parseUintM 18446744073709551615 acc l
 |[],acc=>rfl
 |c :: r,acc=>by
  simp only[Lib.parseUint10,Lib.parseUintM]
  split
  ·split
   ·rfl
   ·by_cases h:18446744073709551616<=acc*10+(c.toNat-48)
    ·rw[if_pos h,if_pos (by omega)]
    ·rw[if_neg h,if_neg (by omega),BA r]
  ·rfl
theorem t7(n:Nat):(⟨(Lib.decDigits n).toArray⟩:ByteArray).size≠0:=by
 rw[xC]
 intro h
 exact fJ n (List.eq_nil_of_length_eq_zero h)
theorem pA(n:Nat)(h:n<18446744073709551616):(⟨(Lib.decDigits n).toArray⟩:ByteArray).size<=9223372036854775806:=by
 rw[xC,Lib.decDigits_length]
 have:=Lib.nDigits_le20 n h
 omega
theorem JH(n:Nat)(h:n<2^64)(w:World):Calls Tryz.prog 208 #[.string ⟨(Lib.decDigits n).toArray⟩,.int .i64 10,.int .i64 64] w (bB (fun v _=>v=.tuple #[.int .u64 n,.nilIface]) w):=by
 refine up n 64 w fun w=>?_
 refine(Tryz.internal_strconv_ParseUint_10_b64 ⟨(Lib.decDigits n).toArray⟩ (t7 n) (pA n h) w).mono ?_
 rintro e w' ⟨rfl,rfl⟩
 refine⟨?_,eo _ _ _⟩
 rw[BA,show(⟨(Lib.decDigits n).toArray⟩:ByteArray).data.toList=Lib.decDigits n from rfl,fZ _ n (by omega) h]
 rfl
theorem JG(n:Nat)(h:n<2^16)(w:World):Calls Tryz.prog 208 #[.string ⟨(Lib.decDigits n).toArray⟩,.int .i64 10,.int .i64 16] w (bB (fun v _=>v=.tuple #[.int .u64 n,.nilIface]) w):=by
 refine up n 16 w fun w=>?_
 refine(Tryz.internal_strconv_ParseUint_10_b16 ⟨(Lib.decDigits n).toArray⟩ (t7 n) (pA n (by omega)) w).mono ?_
 rintro e w' ⟨rfl,rfl⟩
 refine⟨?_,eo _ _ _⟩
 rw[show(⟨(Lib.decDigits n).toArray⟩:ByteArray).data.toList=Lib.decDigits n from rfl,fZ _ n (by omega) (by omega)]
 rfl
theorem LI(n:Nat)(h:n<2^8)(w:World):Calls Tryz.prog 208 #[.string ⟨(Lib.decDigits n).toArray⟩,.int .i64 10,.int .i64 8] w (bB (fun v _=>v=.tuple #[.int .u64 n,.nilIface]) w):=by
 refine up n 8 w fun w=>?_
 refine(Tryz.internal_strconv_ParseUint_10_b8 ⟨(Lib.decDigits n).toArray⟩ (t7 n) (pA n (by omega)) w).mono ?_
 rintro e w' ⟨rfl,rfl⟩
 refine⟨?_,eo _ _ _⟩
 rw[show(⟨(Lib.decDigits n).toArray⟩:ByteArray).data.toList=Lib.decDigits n from rfl,fZ _ n (by omega) (by omega)]
 rfl
end
section
open Go Go.Rx Go.RowKit
structure HX where
 m:Nat
 s:ByteArray
 ok:Bool
def Kg:SE->List Nat
 | .normal=>[0,3,4]
 | .exit 0=>[3]
 |_=>[]
def D4:LoopHook:=cl 19 ByteArray (.exit 0) [3] (fun s=>[.str s false]) Unit .ret [] (fun _=>[])
def KF:Hooks:={ calls:=fun _=>none,loops:=fun _ _=>some D4 }
noncomputable abbrev vL(n:Nat):List SV:=([(.int .i64 ((↑n:Int)) false),(.tup []),(.str (ByteArray.mk #[]) true),(.str (ByteArray.mk #[]) true),(.bool true true)]++List.replicate 14 az)
theorem Mp(n:Nat)(w:World):al Tryz.prog KF 500 241 [.int .i64 n false] (SS.mk [] [] true w []) =
(.loop 241 (av Tryz.prog 241 4) (vL n) (SS.mk [] [] true w []) (LoopHook.X (D4)) (LoopHook.out (D4) (vL n) (SS.mk [] [] true w [])) (fun x0 w0 b0=>(.leaf .ret [(.str x0.fst false)] (SS.mk [] [] true w0 b0))) (LoopHook.Y (D4)) (LoopHook.out' (D4) (vL n) (SS.mk [] [] true w [])) (fun x0 w0 b0=>(.leaf .ret [(.raw (x0.snd 2))] (SS.mk [] [] true w0 b0)))):=by kernel_rfl
theorem t91(n:Nat)(w:World):(by have h:=Mp n w;unfold vL at h;exact type_of% h):=Mp n w
noncomputable abbrev oE(z:HX):Int:=(↑(BitVec.ofInt 64 (↑z.m:Int) &&& BitVec.ofInt 64 (15:Int)).toNat:Int)
noncomputable abbrev Ay:ByteArray:=(ByteArray.mk #[(48:UInt8),(49:UInt8),(50:UInt8),(51:UInt8),(52:UInt8),(53:UInt8),(54:UInt8),(55:UInt8),(56:UInt8),(57:UInt8),(97:UInt8),(98:UInt8),(99:UInt8),(100:UInt8),(101:UInt8),(102:UInt8)])
noncomputable abbrev oG(z:HX):Int:=(i64.wrap (oE z)+(1:Int))
theorem LZ(z:HX)(w:World)(g:Nat->Value):aO Tryz.prog ar 1000 241 (av Tryz.prog 241 4) (ay ((Kg .normal).zip [.int .i64 z.m false,.str z.s false,.bool z.ok false]) g 19 0) (fun e a s=>.leaf e (fG Kg e a) s) (SS.mk [] [] true w []) =
(.split z.ok (.need ((0:Int)<=i64.wrap (oG z)/\i64.wrap (oG z)<=(↑(16:Nat):Int)) (.need ((0:Int)<=i64.wrap (oE z)/\i64.wrap (oE z)<=(↑(i64.wrap (oG z)).toNat:Int)) (.need ((↑((Ay.extract (i64.wrap (oE z)).toNat (i64.wrap (oG z)).toNat).size+z.s.size):Int)<=i64.max) (.leaf .normal [(.int .i64 ((↑z.m:Int).fdiv ((2:Int)^4)) false),(.str (Ay.extract (i64.wrap (oE z)).toNat (i64.wrap (oG z)).toNat++z.s) false),(.bool (decide ((↑z.m:Int).fdiv ((2:Int)^4) > (0:Int))) false)] (SS.mk [] [] true w []))))) (.leaf (.exit 0) [(.str z.s false)] (SS.mk [] [] true w []))):=by kernel_rfl
theorem QQ(z:HX)(w:World)(g:Nat->Value):(by have h:=LZ z w g;unfold oG Ay oE at h;exact type_of% h):=LZ z w g
def ca(d:Nat):UInt8:=if d<10 then UInt8.ofNat (48+d) else UInt8.ofNat (87+d)
def ax(n:Nat):List UInt8:=if h:n<16 then[ca n] else ax (n/16)++[ca (n%16)]
termination_by n
decreasing_by omega
theorem eL{n:Nat}(h:n<16):ax n=[ca n]:=by
 rw[ax,dif_pos h]
theorem fK{n:Nat}(h:¬n<16):ax n=ax (n/16)++[ca (n%16)]:=by
 rw[ax,dif_neg h]
theorem cO(n:Nat):(ax n).length<=n+1:=by
 induction n using Nat.strongRecOn with
 |ind n ih=>
  by_cases h:n<16
  ·rw[eL h];simp
  ·rw[fK h]
   have:=ih (n/16) (by omega)
   simp
   omega
theorem Kn{m:Nat}(hm:m<2^62):(BitVec.ofInt 64 (m:Int) &&& BitVec.ofInt 64 (15:Int)).toNat=m%16:=by
 rw[BitVec.toNat_and]
 have e1:(BitVec.ofInt 64 (m:Int)).toNat=m:=by
  simp
  omega
 have e2:(BitVec.ofInt 64 (15:Int)).toNat=2^4-1:=by decide
 rw[e1,e2,Nat.and_two_pow_sub_one_eq_mod]
theorem A5:∀d:Nat,d<16->((ByteArray.mk #[(48:UInt8),(49:UInt8),(50:UInt8),(51:UInt8),(52:UInt8),(53:UInt8),(54:UInt8),(55:UInt8),(56:UInt8),(57:UInt8),(97:UInt8),(98:UInt8),(99:UInt8),(100:UInt8),(101:UInt8),(102:UInt8)]).extract d (d+1))=⟨#[ca d]⟩:=by
 intro d hd
 rcases(by omega:d=0∨d=1∨d=2∨d=3∨d=4∨d=5∨d=6∨d=7∨d=8∨d=9∨d=10∨d=11∨d=12∨d=13∨d=14∨d=15) with rfl |rfl |rfl |rfl |rfl |rfl |rfl |rfl |rfl |rfl |rfl |rfl |rfl |rfl |rfl |rfl <;> rfl
theorem Oj(m:Nat):(m:Int).fdiv ((2:Int)^4)=((m/16:Nat):Int):=by
 rw[show((2:Int)^4)=((16:Nat):Int) from rfl]
 cases m <;> rfl
def Jk(n:Nat)(z:HX):Prop:=z.m<2^62/\z.s.size<=n+1/\((z.ok=true/\ax n=ax z.m++z.s.data.toList)∨(z.ok=false/\z.s.data.toList=ax n))
theorem F0{n:Nat}{z:HX}(hz:z.ok=true)(h:Jk n z):Jk n ⟨z.m/16,⟨#[ca (z.m%16)]⟩++z.s,decide (((z.m/16:Nat):Int) > 0)⟩:=by
 obtain⟨h1,h2,h3⟩:=h
 have h3:ax n=ax z.m++z.s.data.toList:=by
  rcases h3 with⟨_,h⟩ |⟨h,_⟩
  ·exact h
  ·rw[hz]at h;cases h
 have hd:((⟨#[ca (z.m%16)]⟩:ByteArray)++z.s).data.toList=ca (z.m%16) :: z.s.data.toList:=by
  rw[ByteArray.data_append,Array.toList_append]
  rfl
 have hsz:((⟨#[ca (z.m%16)]⟩:ByteArray)++z.s).size=((⟨#[ca (z.m%16)]⟩:ByteArray)++z.s).data.toList.length:=by
  rw[Array.length_toList]
  rfl
 have hlen:=cO n
 by_cases h16:z.m<16
 ·rw[eL h16]at h3
  have e:ca (z.m%16)=ca z.m:=by rw[Nat.mod_eq_of_lt h16]
  refine⟨by show z.m/16<2^62;omega,?_,.inr ⟨?_,?_⟩⟩
  ·show((⟨#[ca (z.m%16)]⟩:ByteArray)++z.s).size<=n+1
   rw[hsz,hd,e,<- List.singleton_append,<- h3]
   exact hlen
  ·show decide (((z.m/16:Nat):Int) > 0)=false
   simp
   omega
  ·show((⟨#[ca (z.m%16)]⟩:ByteArray)++z.s).data.toList=ax n
   rw[hd,e,<- List.singleton_append,<- h3]
 ·rw[fK h16,List.append_assoc,List.singleton_append]at h3
  refine⟨by show z.m/16<2^62;omega,?_,.inl ⟨?_,?_⟩⟩
  ·show((⟨#[ca (z.m%16)]⟩:ByteArray)++z.s).size<=n+1
   rw[hsz,hd]
   rw[h3,List.length_append]at hlen
   omega
  ·show decide (((z.m/16:Nat):Int) > 0)=true
   simp
   omega
  ·show ax n=ax (z.m/16)++((⟨#[ca (z.m%16)]⟩:ByteArray)++z.s).data.toList
   rw[hd,h3]
theorem GC(n:Nat)(hn:n<2^60)(w:World):Calls Tryz.prog 241 #[.int .i64 (n:Int)] w (bB (fun v _=>v=.string ⟨(ax n).toArray⟩) w):=by
 refine aF (hk:=KF) (n:=500) (args:=[.int .i64 (n:Int) false]) ⟨trivial,trivial⟩ ?_
 refine ah (t91 n w) ?_
 refine ii (Fine.start _ _) Kg (α:=HX) (fun z=>[.int .i64 z.m false,.str z.s false,.bool z.ok false]) (fun z=>2*z.m+(if z.ok then 1 else 0)) (fun _ z _=>Jk n z)
  (fun w0 e lv w'=>e=.exit 0/\lv=[.string ⟨(ax n).toArray⟩]) (fun _=>ar) 1000 (by simp) (by simp[Kg]) (by simp[Kg]) (fun _=>⟨trivial,trivial,trivial,trivial⟩) rfl rfl rfl
  (by simp) (by simp) (fun _=>⟨trivial,trivial⟩) (fun _=>trivial) ?_ ?_ ?_
 ·rintro w0 z w1 g hbw0 hI hb0 hbw
  refine ah (QQ z w1 g) (ae (fun hz=>?_) (fun hz=>dp (Fine.nil hb0) (by simp) fun β w' _ _=>⟨rfl,?_⟩))
  ·have hm:=hI.1
   have hs:=hI.2.1
   rw[Kn hm,aq (n:=((z.m%16:Nat):Int)) (by omega) (by omega),aq (by omega) (by omega),Oj]
   rw[show((z.m%16:Nat):Int).toNat=z.m%16 from rfl,show(((z.m%16:Nat):Int)+1).toNat=z.m%16+1 from rfl,A5 _ (Nat.mod_lt _ (by omega))]
   refine aa (by omega) (aa (by omega) (aa ?_ (fY (Fine.nil hb0) fun β w' _ _=>⟨_,?_,rfl,F0 hz hI⟩)))
   ·rw[bj]
    have:(ByteArray.mk #[ca (z.m%16)]).size=1:=rfl
    rw[this]
    omega
   ·show 2*(z.m/16)+(if decide (((z.m/16:Nat):Int) > 0)=true then 1 else 0)<2*z.m+(if z.ok=true then 1 else 0)
    rw[if_pos hz]
    by_cases h0:z.m/16=0
    ·rw[h0];simp
    ·split <;> omega
  ·rcases hI.2.2 with⟨h,_⟩ |⟨_,h⟩
   ·rw[hz]at h;cases h
   ·simp only[af,SV.den]
    rw[<- h]
 ·intro β w0 hst hb
  refine⟨⟨n,⟨#[]⟩,true⟩,rfl,?_,?_,.inl ⟨rfl,by simp⟩⟩
  ·show n<2^62;omega
  ·show(⟨#[]⟩:ByteArray).size<=n+1
   simp[ByteArray.size]
 ·rintro β w0 hst hb e lv w' ⟨rfl,rfl⟩ hb0 hb1
  exact .inl ⟨⟨(ax n).toArray⟩,rfl,rfl,fun g bs hbs=>aQ (Fine.mk' hb1 hbs) fun β w' _ _=>rfl⟩
end
section
open Go Go.Rx Go.RowKit
def KC:Hooks:={ calls:=fun f=>if f=240 then some bx else none,loops:=fun _ _=>none }
theorem t72(A:Option Addr)(n c:Nat)(w:World):al Tryz.prog KC 500 206 [.xs A n c] (SS.mk [] [] true w []) =
 (.split ((↑n:Int) == (4:Int))
  (.leaf .ret [(.xs A n c)] (SS.mk [] [] true w []))
  (.split ((↑n:Int) == (16:Int))
  (.need ((0:Int)<=(10:Int)/\(10:Int)<=(↑c:Int))
  (.hc 240 [(.xs (if c=(0:Nat) then A else Option.map (fun x=>x.add (0:Nat)) A) 10 (c-(0:Nat)))] (SS.mk [] [] true w []) (bx) fun x0 w0 b0=>
  (.split x0
   (.need ((0:Int)<=(10:Int)/\(10:Int)<(↑n:Int))
   (.need (A.isSome=true)
   (.need (canRead w0 b0 ((A.getD default).add (10:Nat)) [SV.int u8 (aj w0 (((A.getD default).add (10:Nat)).add (0:Nat))) false])
   (.split (aj w0 (((A.getD default).add (10:Nat)).add (0:Nat)) == (255:Int))
   (.need ((0:Int)<=(11:Int)/\(11:Int)<(↑n:Int))
   (.need (A.isSome=true)
   (.need (canRead w0 b0 ((A.getD default).add (11:Nat)) [SV.int u8 (aj w0 (((A.getD default).add (11:Nat)).add (0:Nat))) false])
   (.split (aj w0 (((A.getD default).add (11:Nat)).add (0:Nat)) == (255:Int))
    (.need ((0:Int)<=(16:Int)/\(16:Int)<=(↑c:Int))
    (.leaf .ret [(.xs (if c=(12:Nat) then A else Option.map (fun x=>x.add (12:Nat)) A) 4 (c-(12:Nat)))] (SS.mk [] [] true w0 b0)))
    (.leaf .ret [(.one (.slice none 0 0) rfl)] (SS.mk [] [] true w0 b0))))))
   (.leaf .ret [(.one (.slice none 0 0) rfl)] (SS.mk [] [] true w0 b0))))))
   (.leaf .ret [(.one (.slice none 0 0) rfl)] (SS.mk [] [] true w0 b0)))))
  (.leaf .ret [(.one (.slice none 0 0) rfl)] (SS.mk [] [] true w [])))):=by kernel_rfl
theorem t46(a:Addr)(w:World):al Tryz.prog ar 500 44 [.xp a] (SS.mk [] [] true w []) =
 (.need (canRead w [] (a.add (0:Nat)) [SV.str (bK w ((a.add (0:Nat)).add (0:Nat))) false])
 (.need (canRead w [] (a.add (2:Nat)) [SV.int i64 (aj w ((a.add (2:Nat)).add (0:Nat))) false])
 (.need ((0:Int)<=aj w ((a.add (2:Nat)).add (0:Nat))/\aj w ((a.add (2:Nat)).add (0:Nat))<=(↑(bK w ((a.add (0:Nat)).add (0:Nat))).size:Int))
 (.choose (.appendCap (((bK w ((a.add (0:Nat)).add (0:Nat))).extract (aj w ((a.add (2:Nat)).add (0:Nat))).toNat (bK w ((a.add (0:Nat)).add (0:Nat))).size).size) 0 5) fun c0=>
 (.leaf .ret [(.slc 0 0 (((bK w ((a.add (0:Nat)).add (0:Nat))).extract (aj w ((a.add (2:Nat)).add (0:Nat))).toNat (bK w ((a.add (0:Nat)).add (0:Nat))).size).size) c0 false false)] (SS.mk [(.ints .u8 (List.map (fun b=>(↑b.toNat:Int)) (#[].extract (0:Nat) (0:Nat)++(bK w ((a.add (0:Nat)).add (0:Nat))).data.extract (aj w ((a.add (2:Nat)).add (0:Nat))).toNat ((aj w ((a.add (2:Nat)).add (0:Nat))).toNat+((bK w ((a.add (0:Nat)).add (0:Nat))).size-(aj w ((a.add (2:Nat)).add (0:Nat))).toNat))++#[].extract ((0:Nat)+min ((bK w ((a.add (0:Nat)).add (0:Nat))).size-(aj w ((a.add (2:Nat)).add (0:Nat))).toNat) ((bK w ((a.add (0:Nat)).add (0:Nat))).data.size-(aj w ((a.add (2:Nat)).add (0:Nat))).toNat)) (0:Nat)).toList++List.replicate (c0-((bK w ((a.add (0:Nat)).add (0:Nat))).extract (aj w ((a.add (2:Nat)).add (0:Nat))).toNat (bK w ((a.add (0:Nat)).add (0:Nat))).size).size) (0:Int)) 5 c0 (c0+(1:Nat)))] [] true w [])))))):=by kernel_rfl
end
section
open Go Go.Rx Go.RowKit
def L7:SE->List Nat
 | .normal=>[0,5,6,7]
 | .ret=>[2]
 |_=>[0]
def M0:Hooks:={ calls:=fun f=>if f=13 then some bx else none,loops:=fun f k=>none }
noncomputable abbrev tD(w:World)(A:Option Addr)(i:Nat):List SV:=[(.int .i64 (aj w (((A.getD default).add ((↑i:Int).toNat*2)).add 0)) false),(.xs (sA w (((A.getD default).add ((↑i:Int).toNat*2)).add 1)) (pt w (((A.getD default).add ((↑i:Int).toNat*2)).add 1)) (xo w (((A.getD default).add ((↑i:Int).toNat*2)).add 1)))]
noncomputable abbrev FE(A:Option Addr)(n c i:Nat)(w w0:World)(b0:List Nat):T:=(.leaf .normal [(.xs A n c),(.xs A n c),(.int .i64 ((↑n:Int)) false),(.int .i64 (i64.wrap ((↑i:Int)+(1:Int))) false)] (SS.mk [(.cells (tD w A i) 2 31 0 0)] [] true w0 b0))
theorem Pj(A:Option Addr)(n c i:Nat)(w:World)(g:Nat->Value):aO Tryz.prog M0 1000 22 (av Tryz.prog 22 3) (ay ((L7 .normal).zip [.xs A n c,.xs A n c,.int .i64 n false,.int .i64 i false]) g 36 0) (fun e a s=>.leaf e (fG L7 e a) s) (SS.at w) =
(.split (decide ((↑i:Int)<(↑n:Int))) (.need ((0:Int)<=(↑i:Int)/\(↑i:Int)<(↑n:Int)) (.need (A.isSome=true) (.need (canRead w [] ((A.getD default).add ((↑i:Int).toNat*2)) [SV.int i64 (aj w (((A.getD default).add ((↑i:Int).toNat*2)).add 0)) false,SV.xs (sA w (((A.getD default).add ((↑i:Int).toNat*2)).add 1)) (pt w (((A.getD default).add ((↑i:Int).toNat*2)).add 1)) (xo w (((A.getD default).add ((↑i:Int).toNat*2)).add 1))]) (.hc 13 [(.agg (tD w A i))] (SS.mk [(.cells (tD w A i) 2 31 0 0)] [] true w []) (bx) fun x0 w0 b0=>(.split (!x0) (.leaf .ret [(.bool false true)] (SS.mk [(.cells (tD w A i) 2 31 0 0)] [] true w0 b0)) (.split (aj w (((A.getD default).add ((↑i:Int).toNat*2)).add 0) == (400:Int)) (.split (decide ((↑i:Int)<i64.wrap ((↑n:Int)-(1:Int)))) (.leaf .ret [(.bool false true)] (SS.mk [(.cells (tD w A i) 2 31 0 0)] [] true w0 b0)) (FE A n c i w w0 b0)) (FE A n c i w w0 b0))))))) (.leaf (.exit 0) [(.xs A n c)] (SS.mk [] [] true w []))):=by kernel_rfl
theorem r7(A:Option Addr)(n c i:Nat)(w:World)(g:Nat->Value):(by have h:=Pj A n c i w g;unfold FE tD at h;exact type_of% h):=Pj A n c i w g
def gv(R:Bool->Prop)(v:Value)(_:World):Prop:=∃b,v=.bool b/\R b
theorem g7{Q:SE->List Value->World->Prop}{s:SS}{w:World}{f:FuncId}{args:List SV}{a0:List SV}{s0:SS}{k:Bool->World->List Nat->T}(R:Bool->Prop)(hf:Fine w s)(hs0:s0.objs=s.objs)
  (hc:∀β w0,Below w.heap.size w w0->St (c8 Tryz.prog Q) β s w0->Old β s w0->Calls Tryz.prog f (af β args).toArray w0 (bB (gv R) w0))
  (hk:∀b w' bs,R b->Below w.heap.size w w'->(∀b∈bs,w.heap.size<=b)->(k b w' bs).holds (c8 Tryz.prog Q)) :
  (T.call f args s (Hook.X bx) (Hook.out bx a0 s0) k).holds (c8 Tryz.prog Q):=by
 refine ff (Γ:=c8 Tryz.prog Q) (R:=fun x _ _=>R x) hf (fun x=>⟨hs0,trivial⟩) (fun β w0 hst ho hb=>?_) (fun x w0 w' bs _ hr _ hb hbs=>hk x w' bs hr hb hbs)
 refine(hc β w0 hb hst ho).mono ?_
 rintro e w' ⟨v,rfl,⟨b,rfl,hr⟩,hb'⟩
 exact⟨b,rfl,hb',hr⟩
end
section
open Go Go.Rx Go.RowKit
def Kf:SE->List Nat
 | .normal=>[0,3]
 | .ret=>[2]
 |_=>[]
def D3:LoopHook:=cl 15 Unit .ret [2] (fun _=>[.bool false true]) Unit (.exit 0) [] (fun _=>[])
def KD:Hooks:={ calls:=fun _=>none,loops:=fun _ _=>some D3 }
theorem Rc(A:Option Addr)(n c:Nat)(w:World):al Tryz.prog KD 500 240 [.xs A n c] (SS.mk [] [] true w []) =
 (.loop 240 (av Tryz.prog 240 3) ([(.xs A n c),(.tup []),(.bool false true),(.int .i64 0 true)]++List.replicate 11 az) (SS.mk [] [] true w []) (LoopHook.X (D3)) (LoopHook.out (D3) ([(.xs A n c),(.tup []),(.bool false true),(.int .i64 0 true)]++List.replicate 11 az) (SS.mk [] [] true w [])) (fun x0 w0 b0=>
  (.leaf .ret [(.bool false true)] (SS.mk [] [] true w0 b0)))
 (LoopHook.Y (D3)) (LoopHook.out' (D3) ([(.xs A n c),(.tup []),(.bool false true),(.int .i64 0 true)]++List.replicate 11 az) (SS.mk [] [] true w [])) (fun x0 w0 b0=>
  (.leaf .ret [(.bool true true)] (SS.mk [] [] true w0 b0)))):=by kernel_rfl
theorem QP(A:Option Addr)(n c i:Nat)(w:World)(g:Nat->Value):aO Tryz.prog ar 1000 240 (av Tryz.prog 240 3) (ay ((Kf .normal).zip [.xs A n c,.int .i64 i false]) g 15 0) (fun e a s=>.leaf e (fG Kf e a) s) (SS.mk [] [] true w []) =
 (.split (decide ((↑i:Int)<(↑n:Int)))
  (.need ((0:Int)<=(↑i:Int)/\(↑i:Int)<(↑n:Int))
  (.need (A.isSome=true)
  (.need (canRead w [] ((A.getD default).add ((↑i:Int).toNat*(1:Nat))) [SV.int u8 (aj w (((A.getD default).add ((↑i:Int).toNat*(1:Nat))).add (0:Nat))) false])
  (.split (aj w (((A.getD default).add ((↑i:Int).toNat*(1:Nat))).add (0:Nat)) != (0:Int))
  (.leaf .ret [(.bool false true)] (SS.mk [] [] true w []))
  (.leaf .normal [(.xs A n c),(.int .i64 (i64.wrap ((↑i:Int)+(1:Int))) false)] (SS.mk [] [] true w []))))))
  (.leaf (.exit 0) [] (SS.mk [] [] true w []))):=by kernel_rfl
theorem I1{Q:SE->List Value->World->Prop}{w:World}{f:FuncId}{args:List SV}{out:Bool->SV×List SObj}{k:Bool->World->List Nat->T}(R:Bool->Prop)(hout:∀b,out b=(.bool b false,[]))
  (hc:∀β wc,Below w.heap.size w wc->Calls Tryz.prog f (af β args).toArray wc (bB (gv R) wc))
  (hk:∀b w',Below w.heap.size w w'->R b->(k b w' []).holds (c8 Tryz.prog Q)):(T.call f args (SS.mk [] [] true w []) Bool out k).holds (c8 Tryz.prog Q):=by
 refine hO (R:=fun b _ _=>R b) (fun b=>by rw[hout];exact⟨rfl,trivial⟩) (fun β wc hb=>?_) (fun b wc w' h1 hr h2=>hk b w' (h1.trans (h2.mono h1.size)) hr)
 refine(hc β wc hb).mono ?_
 rintro e w' ⟨v,rfl,⟨b,rfl,hr⟩,hb'⟩
 exact⟨b,by rw[hout];rfl,hb',hr⟩
def Bx:List UInt8:=[0,0,0,0,0,0,0,0,0,0,255,255]
def cD(l:List UInt8):Prop:=l.take 12=Bx
instance (l:List UInt8):Decidable (cD l):=inferInstanceAs (Decidable (l.take 12=Bx))
theorem Cv(A:Option Addr)(n c:Nat)(l:List UInt8)(B:Nat)(w:World)(h:Bts w B A n l)(hB:B<=w.heap.size)(hn:(n:Int)<2^62) :
  Calls Tryz.prog 240 #[.slice A n c] w (bB (gv fun b=>b=true ↔ ∀x∈l,x=0) w):=by
 have hl:=h.1
 refine aF (hk:=KD) (n:=500) (args:=[.xs A n c]) ⟨trivial,trivial⟩ ?_
 refine ah (Rc A n c w) ?_
 refine ii (Fine.start _ _) Kf (α:=Nat) (fun i=>[.xs A n c,.int .i64 i false]) (fun i=>n-i) (fun _ i _=>i<=n/\∀x∈l.take i,x=0)
  (fun w0 e lv w'=>(e=.ret/\lv=[.bool false]/\¬ ∀x∈l,x=0)∨(e=.exit 0/\lv=[]/\∀x∈l,x=0)) (fun _=>ar) 1000 (by simp) (by simp[Kf]) (by simp[Kf]) (fun _=>⟨trivial,trivial,trivial⟩) rfl rfl rfl
  (by simp) (by simp) (fun _=>⟨trivial,trivial⟩) (fun _=>trivial) ?_ ?_ ?_
 ·rintro w0 i w1 g hbw0 ⟨hi,hall⟩ hb0 hbw
  refine ah (QP A n c i w1 g) (ak (fun hlt=>?_) (fun hge=>dp (Fine.nil hb0) (by simp) fun β w' _ _=>.inr ⟨rfl,rfl,by rw[List.take_of_length_le (by omega)]at hall;exact hall⟩))
  have hlt':i<n:=by omega
  have hB1:B<=w1.heap.size:=Nat.le_trans hB hbw.size
  obtain⟨ad,x,rfl,had,hx,hR⟩:=(h.below (hbw.mono hB) (Nat.le_refl _)).get hlt'
  have f1:aj w1 ((((some ad).getD default).add ((i:Int).toNat*1)).add 0)=(x.toNat:Int):=by
   have:w1.cell? ((((some ad).getD default).add ((i:Int).toNat*1)).add 0)=some (.int .u8 (x.toNat:Int)):=hR
   simp only[aj,this]
  rw[f1]
  refine aa (by omega) (aa rfl (aa (db (by show(ad.add (i*1)).block<_;rw[aL];omega) (by simp) hR) (ae (fun hne=>dp (Fine.nil hb0) (by simp) fun β w' _ _=>.inl ⟨rfl,rfl,fun hz=>?_⟩) (fun heq=>fY (Fine.nil hb0) fun β w' _ _=>⟨i+1,by omega,?_,by omega,fun y hy=>?_⟩))))
  ·have:=hz x (List.mem_of_getElem? hx)
   subst this
   simp at hne
  ·rw[zj hlt' (by omega)];rfl
  ·rw[List.take_add_one,hx]at hy
   rcases List.mem_append.1 hy with hy |hy
   ·exact hall y hy
   ·simp at hy
    subst hy
    have h1:(y.toNat:Int)=0:=by simpa using heq
    apply UInt8.toNat_inj.1
    simpa using h1
 ·intro β w0 hst hb
  exact⟨0,rfl,Nat.zero_le _,by simp⟩
 ·rintro β w0 hst hb e lv w' (⟨rfl,rfl,hne⟩ |⟨rfl,rfl,hall⟩) hb0 hb1
  ·exact .inl ⟨(),rfl,rfl,fun g bs hbs=>aQ (Fine.mk' hb1 hbs) fun β w' _ _=>⟨_,rfl,⟨fun h=>Bool.noConfusion h,fun h=>absurd h hne⟩⟩⟩
  ·exact .inr ⟨(),rfl,rfl,fun g bs hbs=>aQ (Fine.mk' hb1 hbs) fun β w' _ _=>⟨_,rfl,⟨fun _=>hall,fun _=>rfl⟩⟩⟩
theorem Dj{w:World}{B:Nat}{A:Option Addr}{n k:Nat}{l:List UInt8}(h:Bts w B A n l)(hk:k<=n):Bts w B A k (l.take k):=by
 have hl:=h.1
 refine⟨by simp;omega,fun hk0=>?_⟩
 obtain⟨a,ha,hb,hx⟩:=h.2 (by omega)
 refine⟨a,ha,hb,fun i x hi=>hx i x ?_⟩
 rw[List.getElem?_take]at hi
 split at hi
 ·exact hi
 ·cases hi
theorem l9{w:World}{B:Nat}{a:Addr}{n k:Nat}{l:List UInt8}(h:Bts w B (some a) n l)(hk:k<=n):Bts w B (some (a.add k)) (n-k) (l.drop k):=by
 have hl:=h.1
 refine⟨by simp;omega,fun hk0=>?_⟩
 obtain⟨a',ha,hb,hx⟩:=h.2 (by omega)
 cases ha
 refine⟨_,rfl,by rw[aL];exact hb,fun i x hi=>?_⟩
 rw[List.getElem?_drop]at hi
 have:=hx (k+i) x hi
 rw[Rx.add_add,Nat.mul_one]
 simpa using this
theorem zh{l:List UInt8}(hl:l.length=16):cD l ↔ (∀x∈l.take 10,x=0)/\l[10]?=some 255/\l[11]?=some 255:=by
 match l,hl with
 |[a0,a1,a2,a3,a4,a5,a6,a7,a8,a9,a10,a11,a12,a13,a14,a15],_=>simp[cD,Bx,and_assoc]
theorem uC(A:Option Addr)(n c:Nat)(l:List UInt8)(B:Nat)(w:World)(h:Bts w B A n l)(hc:n<=c)(hB:B<=w.heap.size) :
  Calls Tryz.prog 206 #[.slice A n c] w (bB (fun v _=>(n=4/\v=.slice A 4 c)∨(n=16/\cD l/\∃a,A=some a/\v=.slice (some (a.add 12)) 4 (c-12))∨(n≠4/\(n=16->¬cD l)/\v=.slice none 0 0)) w):=by
 refine aF (hk:=KC) (n:=500) (args:=[.xs A n c]) ⟨trivial,trivial⟩ ?_
 refine ah (t72 A n c w) (ae (fun h4=>?_) (fun h4=>ae (fun h16=>?_) (fun h16=>?_)))
 ·have hn:n=4:=by have:=eq_of_beq h4;omega
  subst hn
  exact aQ (Fine.start _ _) fun β w' _ _=>.inl ⟨rfl,rfl⟩
 ·have hn:n=16:=by have:=eq_of_beq h16;omega
  subst hn
  have hl:l.length=16:=h.1.symm
  obtain⟨ad,_,rfl,had,_,_⟩:=h.get (i:=0) (by omega)
  rw[if_neg (by omega:¬c=0),if_neg (by omega:¬c=12)]
  refine aa (by omega) ?_
  have h0:Bts w B (some (ad.add 0)) 10 (l.take 10):=Dj h (by omega)
  refine I1 (fun b=>b=true ↔ ∀x∈l.take 10,x=0) (fun _=>rfl) (fun β wc hb=>Cv _ 10 (c-0) (l.take 10) B wc (h0.below (hb.mono hB) (Nat.le_refl _)) (Nat.le_trans hB hb.size) (by omega)) (fun b w1 hw1 hb=>?_)
  have h1:=h.below (hw1.mono hB) (Nat.le_refl _)
  have hB1:=Nat.le_trans hB hw1.size
  have nope:∀lit,¬cD l->(T.leaf .ret [(.one (.slice none 0 0) lit)] (SS.mk [] [] true w1 [])).holds (c8 Tryz.prog (bH fun v w'=>((16=4/\v=.slice (some ad) 4 c)∨(16=16/\cD l/\∃a,some ad=some a/\v=.slice (some (a.add 12)) 4 (c-12))∨(16≠4/\(16=16->¬cD l)/\v=.slice none 0 0))/\Below w.heap.size w w')):=fun lit hm=>aQ (Fine.nil hw1) fun β w' _ _=>.inr (.inr ⟨by omega,fun _=>hm,rfl⟩)
  obtain⟨_,x10,ha10,_,hx10,hR10⟩:=h1.get (i:=10) (by omega)
  obtain⟨_,x11,ha11,_,hx11,hR11⟩:=h1.get (i:=11) (by omega)
  cases ha10
  cases ha11
  rw[Nat.mul_one]at hR10 hR11
  have f10:aj w1 ((((some ad:Option Addr).getD default).add 10).add 0)=(x10.toNat:Int):=by
   have:w1.cell? ((ad.add 10).add 0)=some (.int .u8 (x10.toNat:Int)):=hR10
   show aj w1 ((ad.add 10).add 0)=_
   simp only[aj,this]
  have f11:aj w1 ((((some ad:Option Addr).getD default).add 11).add 0)=(x11.toNat:Int):=by
   have:w1.cell? ((ad.add 11).add 0)=some (.int .u8 (x11.toNat:Int)):=hR11
   show aj w1 ((ad.add 11).add 0)=_
   simp only[aj,this]
  have g10:canRead w1 [] (((some ad:Option Addr).getD default).add 10) [SV.int .u8 (x10.toNat:Int) false]:=db (by show(ad.add 10).block<_;rw[aL];omega) (by simp) hR10
  have g11:canRead w1 [] (((some ad:Option Addr).getD default).add 11) [SV.int .u8 (x11.toNat:Int) false]:=db (by show(ad.add 11).block<_;rw[aL];omega) (by simp) hR11
  rw[f10,f11]
  have hm:=zh hl
  rw[hx10,hx11]at hm
  have u255:∀x:UInt8,((x.toNat:Int) == 255)=true ↔ x=255:=fun x=>by
   rw[beq_iff_eq]
   constructor
   ·intro h
    apply UInt8.toNat_inj.1
    have:x.toNat=255:=by omega
    rw[this];rfl
   ·rintro rfl;rfl
  refine ae (fun hbt=>?_) (fun hbf=>nope _ fun h=>?_)
  rotate_left
  ·rw[hb.2 (hm.1 h).1]at hbf
   cases hbf
  refine aa (by omega) (aa rfl (aa g10 (ae (fun e10=>aa (by omega) (aa rfl (aa g11 (ae (fun e11=>aa (by omega) ?_) (fun n11=>nope _ fun h=>?_))))) (fun n10=>nope _ fun h=>?_))))
  ·refine aQ (Fine.nil hw1) fun β w' _ _=>.inr (.inl ⟨rfl,hm.2 ⟨hb.1 hbt,?_,?_⟩,ad,rfl,rfl⟩)
   ·rw[(u255 _).1 e10]
   ·rw[(u255 _).1 e11]
  ·have h2:=(hm.1 h).2.2
   simp only[Option.some.injEq]at h2
   rw[(u255 _).2 h2]at n11
   cases n11
  ·have h2:=(hm.1 h).2.1
   simp only[Option.some.injEq]at h2
   rw[(u255 _).2 h2]at n10
   cases n10
 ·exact aQ (Fine.start _ _) fun β w' _ _=>.inr (.inr ⟨by have:=beq_eq_false_iff_ne.1 h4;omega,fun he=>absurd he (by have:=beq_eq_false_iff_ne.1 h16;omega),rfl⟩)
end
section
open Go Go.Rx Go.RowKit
theorem bt(n:Nat):(cU n).length<=3:=by
 unfold cU
 split
 ·simp
 ·split <;> simp
def aE(a b c d:UInt8):List UInt8:=cU a.toNat++[46]++cU b.toNat++[46]++cU c.toNat++[46]++cU d.toNat
theorem dt(a b:List UInt8):((⟨a.toArray⟩:ByteArray)++⟨b.toArray⟩)=⟨(a++b).toArray⟩:=by
 apply ByteArray.ext
 rw[ByteArray.data_append]
 simp
theorem aC(a:List UInt8):(⟨a.toArray⟩:ByteArray).size=a.length:=by simp[ByteArray.size]
theorem mo{Q:SE->List Value->World->Prop}{s:SS}{w:World}{x:UInt8}{z:Int}{lit:Bool}{k:ByteArray->World->List Nat->T}(hf:Fine w s)(ht:Tens w)(hz:z=(x.toNat:Int))
  (hk:∀w' bs,Below w.heap.size w w'->(∀b∈bs,w.heap.size<=b)->(k ⟨(cU x.toNat).toArray⟩ w' bs).holds (c8 Tryz.prog Q)) :
  (T.call 215 [.int .i64 (i64.wrap z) lit] s ByteArray (fun y=>(.str y false,s.objs)) k).holds (c8 Tryz.prog Q):=by
 subst hz
 have hx:=x.toNat_lt
 rw[aq (by omega) (by omega)]
 refine ff (Γ:=c8 Tryz.prog Q) (R:=fun y _ _=>y=⟨(cU x.toNat).toArray⟩) hf (fun y=>⟨rfl,trivial⟩) (fun β w0 hst ho hb=>?_) (fun y w0 w' bs _ hr _ hb hbs=>by subst hr;exact hk w' bs hb hbs)
 refine(DN x.toNat (by omega) w0 (ht.below hb ht.lt)).mono ?_
 rintro e w' ⟨v,rfl,rfl,hb'⟩
 exact⟨_,rfl,hb',rfl⟩
theorem jz{w w1:World}{bs:List Nat}{a:Addr}{n B j:Nat}{l:List UInt8}{x:UInt8}(h:Bts w B (some a) n l)(hB:B<=w.heap.size)(hw:Below w.heap.size w w1)(hbs:∀b∈bs,w.heap.size<=b)(hx:l[j]?=some x) :
  canRead w1 bs (a.add j) [SV.int u8 (aj w1 ((a.add j).add 0)) false]/\aj w1 ((a.add j).add 0)=(x.toNat:Int):=by
 have hl:=h.1
 have hj:j<n:=by
  have:=(List.getElem?_eq_some_iff.1 hx).1
  omega
 obtain⟨a',x',ha,hb,hx',hR⟩:=(h.below (hw.mono hB) (Nat.le_refl _)).get hj
 cases ha
 rw[hx]at hx'
 cases hx'
 rw[Nat.mul_one]at hR
 have e:aj w1 ((a.add j).add 0)=(x.toNat:Int):=by
  have:w1.cell? ((a.add j).add 0)=some (.int .u8 (x.toNat:Int)):=hR
  simp only[aj,this]
 refine⟨?_,e⟩
 rw[e]
 refine db (by rw[aL];exact Nat.lt_of_lt_of_le hb (Nat.le_trans hB hw.size)) (fun hm=>?_) hR
 rw[aL]at hm
 have:=hbs _ hm
 omega
theorem sU(A:Option Addr)(n c:Nat)(l:List UInt8)(p0 p1 p2 p3:UInt8)(B:Nat)(w:World)(h:Bts w B A n l)(hc:n<=c)(hB:B<=w.heap.size)(ht:Tens w)(hcase:(n=4/\l=[p0,p1,p2,p3])∨(n=16/\cD l/\l.drop 12=[p0,p1,p2,p3])) :
  Calls Tryz.prog 207 #[.slice A n c] w (bB (fun v _=>v=.string ⟨(aE p0 p1 p2 p3).toArray⟩) w):=by
 refine aF (hk:=Jl ⟨A,n,c⟩) (n:=500) (args:=[.xs A n c]) ⟨trivial,trivial⟩ ?_
 refine ah (Pm ⟨A,n,c⟩ w) ?_
 have hcall:∀β wc,Below w.heap.size w wc->Calls Tryz.prog 206 (af β [.xs A n c]).toArray wc fun e w'=>∃x:UV,e=.returned (SV.den β (.xs x.A x.k x.c))/\Below wc.heap.size wc w'/\(∃a,x.A=some a/\x.k=4/\Bts w B (some a) 4 [p0,p1,p2,p3]):=fun β wc hb=>by
  refine(uC A n c l B wc (h.below (hb.mono hB) (Nat.le_refl _)) hc (Nat.le_trans hB hb.size)).mono ?_
  rintro e w' ⟨v,rfl,hv,hb'⟩
  rcases hcase with⟨rfl,rfl⟩ |⟨rfl,hm,hd⟩
  ·obtain⟨a,_,rfl,_⟩:=h.get (i:=0) (by omega)
   rcases hv with⟨_,rfl⟩ |⟨h1,_⟩ |⟨h1,_⟩
   ·exact⟨⟨some a,4,c⟩,rfl,hb',a,rfl,rfl,h⟩
   ·omega
   ·omega
  ·rcases hv with⟨h1,_⟩ |⟨_,_,a,rfl,rfl⟩ |⟨_,h2,_⟩
   ·omega
   ·have:=l9 h (k:=12) (by omega)
    rw[hd]at this
    exact⟨⟨some (a.add 12),4,c-12⟩,rfl,hb',_,rfl,rfl,this⟩
   ·exact absurd hm (h2 rfl)
 have hn416:n=4∨n=16:=by rcases hcase with⟨h,_⟩ |⟨h,_⟩ <;> omega
 have l0:=bt p0.toNat
 have l1:=bt p1.toNat
 have l2:=bt p2.toNat
 have l3:=bt p3.toNat
 refine ae (fun h0=>by have:=eq_of_beq h0;dsimp only at this;omega) (fun _=>ae (fun h4=>ae (fun h16=>by rcases hn416 with rfl |rfl <;> simp at h4 h16) (fun _=>?_)) (fun _=>?_))
 all_goals
  refine ff (R:=fun(x:UV) _ _=>∃a,x.A=some a/\x.k=4/\Bts w B (some a) 4 [p0,p1,p2,p3]) (Fine.start w _) (fun x=>⟨rfl,trivial⟩) (fun β wc hst o hb=>hcall β wc hb) ?_
  rintro⟨A4,k4,c4⟩ wc w0 b0 hwc ⟨a,ha,hk4,h4⟩ hb1 hw0 hbs0
  dsimp only at ha hk4
  subst ha hk4
  have G0:=fun{w1:World}{bs:List Nat}(hw:Below w.heap.size w w1) (hbs:∀b∈bs,w.heap.size<=b)=>jz (j:=0) h4 hB hw hbs rfl
  have G1:=fun{w1:World}{bs:List Nat}(hw:Below w.heap.size w w1) (hbs:∀b∈bs,w.heap.size<=b)=>jz (j:=1) h4 hB hw hbs rfl
  have G2:=fun{w1:World}{bs:List Nat}(hw:Below w.heap.size w w1) (hbs:∀b∈bs,w.heap.size<=b)=>jz (j:=2) h4 hB hw hbs rfl
  have G3:=fun{w1:World}{bs:List Nat}(hw:Below w.heap.size w w1) (hbs:∀b∈bs,w.heap.size<=b)=>jz (j:=3) h4 hB hw hbs rfl
  refine ae (fun _=>?_) (fun h=>by simp at h)
  refine aa (by dsimp only;omega) (aa rfl (aa (G0 hw0 hbs0).1 (aa (by dsimp only;omega) (aa rfl (aa (G1 hw0 hbs0).1 ?_)))))
  refine aa (by dsimp only;omega) (aa rfl (aa (G2 hw0 hbs0).1 (aa (by dsimp only;omega) (aa rfl (aa (G3 hw0 hbs0).1 ?_)))))
  refine mo (Fine.mk' hw0 hbs0) ht (G0 hw0 hbs0).2 fun w1 b1 hw1 hbs1=>?_
  refine aa (G3 hw1 hbs1).1 (aa ((G3 hw1 hbs1).2.trans (G3 hw0 hbs0).2.symm) ?_)
  refine aa (G2 hw1 hbs1).1 (aa ((G2 hw1 hbs1).2.trans (G2 hw0 hbs0).2.symm) ?_)
  refine aa (G1 hw1 hbs1).1 (aa ((G1 hw1 hbs1).2.trans (G1 hw0 hbs0).2.symm) ?_)
  refine aa (by rw[aC,bj];omega) ?_
  refine mo (Fine.mk' hw1 hbs1) ht (G1 hw0 hbs0).2 fun w2 b2 hw2 hbs2=>?_
  refine aa (G3 hw2 hbs2).1 (aa ((G3 hw2 hbs2).2.trans (G3 hw0 hbs0).2.symm) ?_)
  refine aa (G2 hw2 hbs2).1 (aa ((G2 hw2 hbs2).2.trans (G2 hw0 hbs0).2.symm) ?_)
  refine aa (by simp only[dt,aC,List.length_append,List.length_cons,List.length_nil,bj];omega) ?_
  refine aa (by simp only[dt,aC,List.length_append,List.length_cons,List.length_nil,bj];omega) ?_
  refine mo (Fine.mk' hw2 hbs2) ht (G2 hw0 hbs0).2 fun w3 b3 hw3 hbs3=>?_
  refine aa (G3 hw3 hbs3).1 (aa ((G3 hw3 hbs3).2.trans (G3 hw0 hbs0).2.symm) ?_)
  refine aa (by simp only[dt,aC,List.length_append,List.length_cons,List.length_nil,bj];omega) ?_
  refine aa (by simp only[dt,aC,List.length_append,List.length_cons,List.length_nil,bj];omega) ?_
  refine mo (Fine.mk' hw3 hbs3) ht (G3 hw0 hbs0).2 fun w4 b4 hw4 hbs4=>?_
  refine aa (by simp only[dt,aC,List.length_append,List.length_cons,List.length_nil,bj];omega) ?_
  exact aQ (Fine.mk' hw4 hbs4) fun β w' _ _=>by simp only[dt,aE];rfl
end
section
open Go Go.Rx Go.RowKit
def aK(l:List UInt8)(j:Nat):Nat:=(l.getD (2*j) 0).toNat*256+(l.getD (2*j+1) 0).toNat
theorem du(l:List UInt8)(j:Nat):aK l j<65536:=by
 have h1:=(l.getD (2*j) 0).toNat_lt
 have h2:=(l.getD (2*j+1) 0).toNat_lt
 unfold aK
 omega
def e8(l:List UInt8)(f t:Nat):Prop:=(f=255/\t=255)∨(f+2<=t/\t<=8/\∀j,f<=j->j<t->aK l j=0)
def jn:List Nat->List UInt8
 |[]=>[]
 |[g]=>ax g
 |g :: r=>ax g++[58]++jn r
theorem mr(a:List Nat)(g:Nat):jn (a++[g])=jn a++(if a=[] then[] else[58])++ax g:=by
 induction a with
 |nil=>simp[jn]
 |cons x r ih=>
  cases r with
  |nil=>simp[jn]
  |cons y r'=>
   have e1:jn (x :: y :: r'++[g])=ax x++[58]++jn (y :: r'++[g]):=by simp[jn]
   have e2:jn (x :: y :: r')=ax x++[58]++jn (y :: r'):=by simp[jn]
   rw[e1,e2,ih]
   simp
def lA(l:List UInt8)(a b:Nat):List Nat:=(List.range' a (b-a)).map (aK l)
theorem dw(l:List UInt8){a b:Nat}(h:a<=b):lA l a (b+1)=lA l a b++[aK l b]:=by
 have e:b+1-a=(b-a)+1:=by omega
 have e2:a+(b-a)=b:=by omega
 unfold lA
 rw[e,List.range'_1_concat,List.map_append,e2]
 rfl
theorem kx(l:List UInt8)(a:Nat):lA l a a=[]:=by simp[lA]
theorem rt(l:List UInt8){a b:Nat}(h:a<b):lA l a b≠[]:=by
 obtain⟨k,rfl⟩:∃k,b=k+1:=⟨b-1,by omega⟩
 rw[dw l (by omega)]
 simp
def gS(l:List UInt8)(f t:Nat):List UInt8:=if f=255 then jn (lA l 0 8) else jn (lA l 0 f)++[58,58]++jn (lA l t 8)
theorem Lw{x y:Nat}(hx:x<256)(hy:y<256):i64.wrap (((BitVec.ofInt 64 (i64.wrap (i64.wrap (x:Int)*(2:Int)^8)) |||BitVec.ofInt 64 (i64.wrap (y:Int))).toNat:Nat):Int)=((x*256+y:Nat):Int):=by
 have e0:i64.wrap (x:Int)=x:=aq (by omega) (by omega)
 have e1:i64.wrap (y:Int)=y:=aq (by omega) (by omega)
 have e2:(x:Int)*(2:Int)^8=((x*256:Nat):Int):=by
  rw[Int.natCast_mul];rfl
 have e3:i64.wrap ((x*256:Nat):Int)=((x*256:Nat):Int):=aq (by omega) (by omega)
 rw[e0,e1,e2,e3,BitVec.toNat_or]
 have f1:∀m:Nat,m<2^62->(BitVec.ofInt 64 (m:Int)).toNat=m:=fun m hm=>by
  simp
  omega
 rw[f1 _ (by omega),f1 _ (by omega)]
 have e4:x*256 |||y=x*256+y:=by
  have:=Nat.shiftLeft_add_eq_or_of_lt (show y<2^8 by omega) x
  rw[Nat.shiftLeft_eq]at this
  exact this.symm
 rw[e4]
 exact aq (by omega) (by omega)
theorem nq{w w1:World}{bs:List Nat}{A:Option Addr}{n B j:Nat}{l:List UInt8}(h:Bts w B A n l)(hB:B<=w.heap.size)(hw:Below w.heap.size w w1)(hbs:∀b∈bs,w.heap.size<=b){z:Int}(hz:z=(j:Int))(hj:j<n) :
  A.isSome=true/\canRead w1 bs ((A.getD default).add (z.toNat*1)) [SV.int u8 (aj w1 (((A.getD default).add (z.toNat*1)).add 0)) false]/\aj w1 (((A.getD default).add (z.toNat*1)).add 0)=((l.getD j 0).toNat:Int):=by
 subst hz
 obtain⟨a,x,rfl,hb,hx,hR⟩:=(h.below (hw.mono hB) (Nat.le_refl _)).get hj
 have e1:(((some a).getD default).add ((j:Int).toNat*1))=a.add j:=by simp
 rw[e1]
 have:=jz h hB hw hbs hx
 have e2:l.getD j 0=x:=by rw[List.getD_eq_getElem?_getD,hx];rfl
 rw[e2]
 exact⟨rfl,this.1,this.2⟩
theorem ml{w w1:World}{bs:List Nat}{A:Option Addr}{B j:Nat}{l:List UInt8}(h:Bts w B A 16 l)(hB:B<=w.heap.size)(hw:Below w.heap.size w w1)(hbs:∀b∈bs,w.heap.size<=b)(hj:j<8) :
  (0<=i64.wrap ((2:Int)*(j:Int))/\i64.wrap ((2:Int)*(j:Int))<((16:Nat):Int))/\A.isSome=true /\
  canRead w1 bs ((A.getD default).add ((i64.wrap ((2:Int)*(j:Int))).toNat*1)) [SV.int u8 (aj w1 (((A.getD default).add ((i64.wrap ((2:Int)*(j:Int))).toNat*1)).add 0)) false] /\
  (0<=i64.wrap (i64.wrap ((2:Int)*(j:Int))+(1:Int))/\i64.wrap (i64.wrap ((2:Int)*(j:Int))+(1:Int))<((16:Nat):Int)) /\
  canRead w1 bs ((A.getD default).add ((i64.wrap (i64.wrap ((2:Int)*(j:Int))+(1:Int))).toNat*1)) [SV.int u8 (aj w1 (((A.getD default).add ((i64.wrap (i64.wrap ((2:Int)*(j:Int))+(1:Int))).toNat*1)).add 0)) false] /\
  i64.wrap (((BitVec.ofInt 64 (i64.wrap (i64.wrap (aj w1 (((A.getD default).add ((i64.wrap ((2:Int)*(j:Int))).toNat*1)).add 0))*(2:Int)^8)) |||
   BitVec.ofInt 64 (i64.wrap (aj w1 (((A.getD default).add ((i64.wrap (i64.wrap ((2:Int)*(j:Int))+(1:Int))).toNat*1)).add 0)))).toNat:Nat):Int)=((aK l j:Nat):Int):=by
 have e1:i64.wrap ((2:Int)*(j:Int))=((2*j:Nat):Int):=by rw[aq (by omega) (by omega)];omega
 have e2:i64.wrap (i64.wrap ((2:Int)*(j:Int))+(1:Int))=((2*j+1:Nat):Int):=by rw[e1,aq (by omega) (by omega)];omega
 obtain⟨a1,a2,a3⟩:=nq h hB hw hbs e1 (by omega)
 obtain⟨b1,b2,b3⟩:=nq h hB hw hbs e2 (by omega)
 refine⟨by omega,a1,a2,by omega,b2,?_⟩
 rw[a3,b3]
 exact Lw (UInt8.toNat_lt _) (UInt8.toNat_lt _)
theorem ue{Q:SE->List Value->World->Prop}{s:SS}{w:World}{bs:List Nat}{n0:Nat}{β0:Nat->Nat}{g:Nat}{z:Int}{lit:Bool}{k:ByteArray->World->List Nat->T}(hf:KFine bs w s)(hz:z=(g:Int))(hg:g<65536)
  (hk:∀w' bs',Keep bs w w'->(∀b∈bs',b∈bs∨w.heap.size<=b)->(k ⟨(ax g).toArray⟩ w' bs').holds { P:=Tryz.prog,β0:=β0,n0:=n0,Q:=Q }) :
  (T.call 241 [.int .i64 z lit] s ByteArray (fun y=>(.str y false,s.objs)) k).holds { P:=Tryz.prog,β0:=β0,n0:=n0,Q:=Q }:=by
 subst hz
 refine cj (R:=fun y _ _=>y=⟨(ax g).toArray⟩) hf (fun y=>⟨rfl,trivial⟩) (fun β w0 hst ho hb=>?_) (fun y w0 w' bs' _ hr _ hb hbs=>by subst hr;exact hk w' bs' hb hbs)
 refine(GC g (by omega) w0).mono ?_
 rintro e w' ⟨v,rfl,rfl,hb'⟩
 exact⟨_,rfl,hb',rfl⟩
def JJ(l:List UInt8)(f t:Nat)(z:IT):Prop:=
 z.f=f/\z.t=t/\z.i<=8/\z.s.size<=70000*z.i/\(((f=255∨z.i<=f)/\z.s=⟨(jn (lA l 0 z.i)).toArray⟩)∨(f≠255/\t<z.i/\z.s=⟨(jn (lA l 0 f)++[58,58]++jn (lA l t z.i)).toArray⟩))
def rl(l:List UInt8):Nat->Nat->Nat
 |0,_=>0
 |n+1,i=>if i<8/\aK l i=0 then rl l n (i+1)+1 else 0
def yd(l:List UInt8)(i:Nat):Nat:=rl l 8 i
theorem Ig(l:List UInt8){j:Nat}(h2:j<=8)(he:j=8∨aK l j≠0):∀(n i:Nat),i<=j->j-i<=n->(∀k,i<=k->k<j->aK l k=0)->rl l n i=j-i
 |0,i,h1,hn,_=>by rw[rl];omega
 |n+1,i,h1,hn,hz=>by
  rw[rl]
  by_cases hij:i=j
  ·subst hij
   rw[if_neg (fun h=>he.elim (fun h'=>by omega) (fun h'=>h' h.2))]
   omega
  ·rw[if_pos ⟨by omega,hz i (Nat.le_refl _) (by omega)⟩,Ig l h2 he n (i+1) (by omega) (by omega) (fun k a b=>hz k (by omega) b)]
   omega
theorem ye{l:List UInt8}{i j:Nat}(h1:i<=j)(h2:j<=8)(hz:∀k,i<=k->k<j->aK l k=0)(he:j=8∨aK l j≠0):yd l i=j-i:=Ig l h2 he 8 i h1 (by omega) hz
theorem BC(l:List UInt8):∀(n i:Nat),i<=8->i+rl l n i<=8/\∀k,i<=k->k<i+rl l n i->aK l k=0
 |0,i,h=>⟨by rw[rl];omega,fun k a b=>by rw[rl]at b;omega⟩
 |n+1,i,h=>by
  rw[rl]
  split
  ·rename_i h1
   obtain⟨g1,g2⟩:=BC l n (i+1) (by omega)
   refine⟨by omega,fun k a b=>?_⟩
   by_cases hk:k=i
   ·subst hk;exact h1.2
   ·exact g2 k (by omega) (by omega)
  ·exact⟨by omega,fun k a b=>by omega⟩
def o7(l:List UInt8)(p:Nat×Nat)(i:Nat):Nat×Nat:=if 2<=yd l i/\p.2-p.1<yd l i then(i,i+yd l i) else p
def bM(l:List UInt8)(i:Nat):Nat×Nat:=(List.range i).foldl (o7 l) (255,255)
theorem dH(l:List UInt8)(i:Nat):bM l (i+1)=o7 l (bM l i) i:=by simp[bM,List.range_succ]
theorem fe(l:List UInt8):∀i,i<=8->e8 l (bM l i).1 (bM l i).2
 |0,_=>.inl ⟨rfl,rfl⟩
 |i+1,h=>by
  rw[dH]
  unfold o7
  split
  ·rename_i h1
   obtain⟨g1,g2⟩:=BC l 8 i (by omega)
   exact .inr ⟨by have:=h1.1;show i+2<=i+yd l i;omega,g1,g2⟩
  ·exact fe l i (by omega)
def jw(l:List UInt8):List UInt8:=gS l (bM l 8).1 (bM l 8).2
theorem Cu(A:Option Addr)(c:Nat)(l:List UInt8)(B:Nat)(w:World)(h:Bts w B A 16 l)(hc:16<=c)(hB:B<=w.heap.size)(hm:¬cD l) :
  Calls Tryz.prog 207 #[.slice A 16 c] w (bB (fun v _=>v=.string ⟨(jw l).toArray⟩) w):=by
 refine aF (hk:=Jl ⟨A,16,c⟩) (n:=500) (args:=[.xs A 16 c]) ⟨trivial,trivial⟩ ?_
 refine ah (Pm ⟨A,16,c⟩ w) ?_
 refine ae (fun h0=>by simp at h0) (fun _=>ae (fun h4=>ae (fun h16=>by simp at h16) (fun _=>?_)) (fun h4=>by simp at h4))
 refine ff (R:=fun(x:UV) _ _=>x.A=none) (Fine.start w _) (fun x=>⟨rfl,trivial⟩) (fun β wc hst o hb=>?_) ?_
 ·refine(uC A 16 c l B wc (h.below (hb.mono hB) (Nat.le_refl _)) hc (Nat.le_trans hB hb.size)).mono ?_
  rintro e w' ⟨v,rfl,hv,hb'⟩
  rcases hv with⟨h1,_⟩ |⟨_,h2,_⟩ |⟨_,_,rfl⟩
  ·omega
  ·exact absurd h2 hm
  ·exact⟨⟨none,0,0⟩,rfl,hb',rfl⟩
 rintro⟨A4,k4,c4⟩ wc w0 b0 hwc ha hb1 hw0 hbs0
 dsimp only at ha
 subst ha
 refine ae (fun h=>by simp at h) (fun _=>?_)
 have hok:∀m,0<m->sR.ok m:=fun m hm=>⟨trivial,hm,trivial⟩
 have hobjs:∀o∈cq ⟨A,16,c⟩,o.ok 1:=by
  intro o ho
  simp only[cq,List.mem_singleton]at ho
  subst ho
  exact⟨trivial,trivial⟩
 refine jg (w:=w) (Fine.mk' hw0 hbs0) rfl 1 rfl Db (fun z:IZ=>[sR,.int .i64 z.f false,.int .i64 z.t false,.int .i64 z.i false]) (fun _=>cq ⟨A,16,c⟩) (fun z=>8-z.i)
  (fun _ z _=>z.i<=8/\(z.f,z.t)=bM l z.i) (fun _ p _=>p=bM l 8) (fun _ _ _=>False) (fun z=>GV ⟨A,16,c⟩ z) 1000
  (by simp) (by simp[Db]) (by simp[Db]) (fun _=>⟨hok 1 (by omega),trivial,trivial,trivial,trivial⟩) (fun _=>⟨rfl,hobjs⟩) rfl rfl (by simp) (by simp) (fun _=>⟨⟨hok 1 (by omega),trivial,trivial,trivial⟩,rfl,hobjs⟩) (fun _=>⟨trivial,rfl,hobjs⟩) ?_ ?_ ?_ ?_
 ·rintro β w1 z w2 g hb1 ⟨hi,hbest⟩ hkp hge
  have hgood:e8 l z.f z.t:=by have:=fe l z.i hi;rw[<- hbest]at this;exact this
  have hbl:∀b∈ac β 1,w.heap.size<=b:=fun b hb=>by
   simp[ac]at hb
   subst hb
   exact hge 0 (by omega)
  have hw2:Below w.heap.size w w2:=hkp.below hb1 (Nat.le_refl _) hbl
  refine ah (Od ⟨A,16,c⟩ z w2 (ac β 1) g) (ak (fun hlt=>?_) (fun hge'=>?_))
  ·have hlt':z.i<8:=by omega
   refine lp (w:=w2) (bs:=ac β 1) ⟨rfl,Keep.refl _ _,fun b hb=>.inl hb⟩ rfl 1 rfl Da (fun j:Nat=>[sR,.int .i64 z.f false,.int .i64 z.t false,.int .i64 z.i false,.int .i64 j false]) (fun _=>cq ⟨A,16,c⟩) (fun j=>8-j)
    (fun _ j _=>z.i<=j/\j<=8/\∀k,z.i<=k->k<j->aK l k=0) (fun _ j _=>z.i<=j/\j<=8/\(∀k,z.i<=k->k<j->aK l k=0)/\(j=8∨aK l j≠0)) (fun _ _ _=>False) (fun _=>ar) 1000
    (by simp) (by simp[Da]) (by simp[Da]) (fun _=>⟨hok 1 (by omega),trivial,trivial,trivial,trivial,trivial⟩) (fun _=>⟨rfl,hobjs⟩) rfl rfl (by simp) (by simp) (fun _=>⟨⟨hok 1 (by omega),trivial,trivial,trivial,trivial,trivial⟩,rfl,hobjs⟩) (fun _=>⟨trivial,rfl,hobjs⟩) ?_ ?_ ?_ ?_
   ·rintro β2 w3 j w4 g2 cz ⟨hij,hj8,hz⟩ hk34 hk24 hblk
    have hbl2:∀b∈ac β2 1,w.heap.size<=b:=fun b hb=>by
     have:=hw2.size
     rcases(hblk b hb).1 with h |h
     ·exact hbl b h
     ·omega
    have hw4:Below w.heap.size w w4:=hk24.below hw2 (Nat.le_refl _) hbl
    refine ah (Oc ⟨A,16,c⟩ ⟨z.f,z.t,z.i,j⟩ w4 (ac β2 1) g2) (ak (fun hj=>?_) (fun hj=>?_))
    ·have hj':j<8:=by dsimp only at hj;omega
     obtain⟨n1,n2,n3,n4,n5,n6⟩:=ml h hB hw4 hbl2 hj'
     refine aa n1 (aa n2 (aa n3 (aa n4 (aa n2 (aa n5 ?_)))))
     dsimp only
     rw[n6]
     refine ae (fun he=>?_) (fun he=>?_)
     ·refine aJ ⟨rfl,hk34,fun b hb=>.inl hb⟩ fun β' w' hst hk'=>⟨j+1,by show 8-(j+1)<8-j;omega,?_,hst.objsAt rfl hobjs,⟨by omega,by omega,fun k h1 h2=>?_⟩,hk'⟩
      ·rw[aq (by omega) (by omega)]
       have:=hst.base 0 (by show 0<1;omega)
       simp only[sR,af,SV.den]
       rw[this]
       rfl
      ·rcases Nat.lt_or_ge k j with h3 |h3
       ·exact hz k h1 h3
       ·have:k=j:=by omega
        subst this
        have:((aK l k:Nat):Int)=0:=by simpa using he
        omega
     ·refine aJ ⟨rfl,hk34,fun b hb=>.inl hb⟩ fun β' w' hst hk'=>⟨.inl ⟨j,rfl,?_,hst.objsAt rfl hobjs,hij,hj8,hz,.inr (fun hz0=>by rw[hz0]at he;simp at he)⟩,hk'⟩
      have:=hst.base 0 (by show 0<1;omega)
      simp only[sR,af,SV.den]
      rw[this]
    ·refine aJ ⟨rfl,hk34,fun b hb=>.inl hb⟩ fun β' w' hst hk'=>⟨.inl ⟨j,rfl,?_,hst.objsAt rfl hobjs,hij,hj8,hz,.inl (by dsimp only at hj;omega)⟩,hk'⟩
     have:=hst.base 0 (by show 0<1;omega)
     simp only[sR,af,SV.den]
     rw[this]
   ·intro β2 w3 hst cz
    refine⟨z.i,rfl,fun i o hi=>hst.at_ i o hi,Nat.le_refl _,hi,fun k h1 h2=>by omega⟩
   ·rintro w3 j w4 ⟨hij,hj8,hz,hend⟩ cz hk24 g2 bs' hbs'
    have hrun:=ye hij hj8 hz hend
    dsimp only
    have e1:i64.wrap ((j:Int)-(z.i:Int))=(j:Int)-z.i:=aq (by omega) (by omega)
    have hzb:(z.f:Int)<=(z.t:Int)/\(z.t:Int)<=255:=by
     rcases hgood with⟨h1,h2⟩ |⟨h1,h2,_⟩ <;> omega
    have e2:i64.wrap ((z.t:Int)-(z.f:Int))=(z.t:Int)-z.f:=aq (by omega) (by omega)
    have e3:i64.wrap ((z.i:Int)+1)=((z.i+1:Nat):Int):=by rw[aq (by omega) (by omega)];omega
    rw[e1,e2,e3]
    have hpre:∀b∈bs',b∈ac β 1∨w1.heap.size<=b:=fun b hb=>by
     have:=hkp.size
     rcases(hbs' b hb).1 with h |h
     ·exact .inl h
     ·exact .inr (by omega)
    have keep:∀(f t:Nat),(f,t)=bM l (z.i+1)->(T.leaf .normal [sR,.int .i64 f false,.int .i64 t false,.int .i64 ((z.i+1:Nat):Int) false] (SS.mk (cq ⟨A,16,c⟩) [] true w4 bs')).holds { P:=Tryz.prog,β0:=β,n0:=1,Q:=sH β (ac β 1) (fun z:IZ=>[sR,.int .i64 z.f false,.int .i64 z.t false,.int .i64 z.i false]) (fun _=>cq ⟨A,16,c⟩) (fun z=>8-z.i) (fun z _=>z.i<=8/\(z.f,z.t)=bM l z.i) (.exit 2) (fun p:Nat×Nat=>[sR,.int .i64 p.1 false,.int .i64 p.2 false]) (fun _=>cq ⟨A,16,c⟩) (fun p _=>p=bM l 8) .ret (fun _:Unit=>[]) (fun _=>cq ⟨A,16,c⟩) (fun _ _=>False) w1 z }:=fun f t hg=>by
     refine aJ ⟨rfl,hkp.trans hk24,hpre⟩ fun β' w' hst hk'=>⟨⟨f,t,z.i+1,0⟩,by show 8-(z.i+1)<8-z.i;omega,?_,hst.objsAt rfl hobjs,⟨by show z.i+1<=8;omega,hg⟩,hk'⟩
     have:=hst.base 0 (by show 0<1;omega)
     simp only[sR,af,SV.den]
     rw[this]
    refine ak (fun hl2=>ak (fun hl3=>?_) (fun _=>?_)) (fun _=>?_)
    ·refine keep z.i j ?_
     rw[dH,<- hbest]
     unfold o7
     rw[hrun,if_pos ⟨by omega,by dsimp only;omega⟩]
     congr 1
     omega
    ·rename_i hl3
     refine keep z.f z.t ?_
     rw[dH,<- hbest]
     unfold o7
     rw[hrun,if_neg (by dsimp only;omega)]
    ·rename_i hl2
     refine keep z.f z.t ?_
     rw[dH,<- hbest]
     unfold o7
     rw[hrun,if_neg (by dsimp only;omega)]
   ·rintro w3 j w4 hf
    exact hf.elim
  ·refine aJ ⟨rfl,hkp,fun b hb=>.inl hb⟩ fun β' w' hst hk'=>⟨.inl ⟨(z.f,z.t),rfl,?_,hst.objsAt rfl hobjs,by rw[hbest];congr 1;omega⟩,hk'⟩
   have:=hst.base 0 (by show 0<1;omega)
   simp only[sR,af,SV.den]
   rw[this]
 ·intro β w1 hst hb1
  exact⟨⟨255,255,0,0⟩,rfl,fun i o hi=>hst.at_ i o hi,Nat.zero_le _,rfl⟩
 ·rintro w1 ⟨f,t⟩ w2 hbest hbw1 hw2 g bs2 hbs2
  dsimp only at hbest ⊢
  have hgood:e8 l f t:=by have:=fe l 8 (Nat.le_refl _);rw[<- hbest]at this;exact this
  have htxt:jw l=gS l f t:=by unfold jw;rw[<- hbest]
  rw[htxt]
  refine jg (w:=w) (Fine.mk' hw2 hbs2) rfl 1 rfl Dc (fun z:IT=>[sR,.int .i64 z.f false,.int .i64 z.t false,.str z.s false,.int .i64 z.i false]) (fun _=>cq ⟨A,16,c⟩) (fun z=>8-z.i)
   (fun _ z _=>JJ l f t z) (fun _ s _=>s=⟨(gS l f t).toArray⟩) (fun _ _ _=>False) (fun _=>GW) 1000
   (by simp) (by simp[Dc]) (by simp[Dc]) (fun _=>⟨hok 1 (by omega),trivial,trivial,trivial,trivial,trivial⟩) (fun _=>⟨rfl,hobjs⟩) rfl rfl (by simp) (by simp) (fun _=>⟨⟨trivial,trivial⟩,rfl,hobjs⟩) (fun _=>⟨trivial,rfl,hobjs⟩) ?_ ?_ ?_ ?_
  ·rintro β w3 z w4 g2 hb3 ⟨rfl,rfl,hi,hsz,hs⟩ hkp hge
   have hbl:∀b∈ac β 1,w.heap.size<=b:=fun b hb=>by
    simp[ac]at hb
    subst hb
    exact hge 0 (by omega)
   have hw4:Below w.heap.size w w4:=hkp.below hb3 (Nat.le_refl _) hbl
   have kf:KFine (ac β 1) w4 (SS.mk (cq ⟨A,16,c⟩) [] true w4 (ac β 1)):=⟨rfl,Keep.refl _ _,fun b hb=>.inl hb⟩
   have hft:(z.f=255/\z.t=255)∨(z.f+2<=z.t/\z.t<=8):=by
    rcases hgood with⟨h1,h2⟩ |⟨h1,h2,_⟩
    ·exact .inl ⟨h1,h2⟩
    ·exact .inr ⟨h1,h2⟩
   have next:∀(s':ByteArray) (i':Nat) (w5:World) (bs5:List Nat),Keep (ac β 1) w4 w5->(∀b∈bs5,b∈ac β 1∨w4.heap.size<=b)->z.i<i'->JJ l z.f z.t ⟨z.f,z.t,i',s'⟩ ->
     (T.leaf .normal [sR,.int .i64 z.f false,.int .i64 z.t false,.str s' false,.int .i64 (i':Int) false] (SS.mk (cq ⟨A,16,c⟩) [] true w5 bs5)).holds { P:=Tryz.prog,β0:=β,n0:=1,Q:=sH β (ac β 1) (fun z:IT=>[sR,.int .i64 z.f false,.int .i64 z.t false,.str z.s false,.int .i64 z.i false]) (fun _=>cq ⟨A,16,c⟩) (fun z=>8-z.i) (fun z' _=>JJ l z.f z.t z') (.exit 6) (fun s=>[.str s false]) (fun _=>cq ⟨A,16,c⟩) (fun s _=>s=⟨(gS l z.f z.t).toArray⟩) .ret (fun _:Unit=>[]) (fun _=>cq ⟨A,16,c⟩) (fun _ _=>False) w3 z }:=fun s' i' w5 bs5 qR hbs5 hlt hinv=>by
    have hi8:=hinv.2.2.1
    refine aJ ⟨rfl,hkp.trans qR,fun b hb=>(hbs5 b hb).imp id (Nat.le_trans hkp.size)⟩ fun β' w' hst hk'=>⟨⟨z.f,z.t,i',s'⟩,by show 8-i'<8-z.i;dsimp only at hi8;omega,?_,hst.objsAt rfl hobjs,hinv,hk'⟩
    have:=hst.base 0 (by show 0<1;omega)
    simp only[sR,af,SV.den]
    rw[this]
   refine ah (Oe ⟨A,16,c⟩ z w4 (ac β 1) g2) (ak (fun hlt=>?_) (fun hge'=>?_))
   ·have hlt':z.i<8:=by omega
    refine ae (fun hf=>?_) (fun hnf=>ak (fun hpos=>?_) (fun hz0=>?_))
    ·have hif:z.i=z.f:=by have:=eq_of_beq hf;omega
     have hft2:z.f+2<=z.t/\z.t<=8:=by omega
     have hs':z.s=⟨(jn (lA l 0 z.f)).toArray⟩:=by
      rcases hs with⟨_,h⟩ |⟨_,h,_⟩
      ·rw[hif]at h;exact h
      ·omega
     refine aa (by rw[bj];omega) (ak (fun ht8=>?_) (fun ht8=>?_))
     ·refine aJ ⟨rfl,hkp,fun b hb=>.inl hb⟩ fun β' w' hst hk'=>⟨.inl ⟨z.s++ByteArray.mk #[(58:UInt8),(58:UInt8)],rfl,rfl,hst.objsAt rfl hobjs,?_⟩,hk'⟩
      have ht:z.t=8:=by omega
      have hf255:z.f≠255:=by omega
      rw[hs',ht,gS,if_neg hf255,kx,dt]
      simp[jn]
     ·have ht7:z.t<8:=by omega
      obtain⟨n1,n2,n3,n4,n5,n6⟩:=ml h hB hw4 hbl ht7
      refine aa n1 (aa n2 (aa n3 (aa n4 (aa n2 (aa n5 ?_)))))
      refine ue kf n6 (du l z.t) fun w5 bs5 qR hbs5=>?_
      have hl:=cO (aK l z.t)
      have hg:=du l z.t
      have hsz2:(z.s++ByteArray.mk #[(58:UInt8),(58:UInt8)]).size=z.s.size+2:=by rw[ByteArray.size_append];rfl
      refine aa (by rw[hsz2,aC (ax (aK l z.t)),bj];omega) ?_
      rw[show i64.wrap ((z.t:Int)+1)=((z.t+1:Nat):Int) by rw[aq (by omega) (by omega)];omega]
      refine next _ _ _ _ qR hbs5 (by omega) ⟨rfl,rfl,by show z.t+1<=8;omega,?_,.inr ⟨by omega,Nat.lt_succ_self _,?_⟩⟩
      ·show(z.s++ByteArray.mk #[(58:UInt8),(58:UInt8)]++_).size<=70000*(z.t+1)
       rw[ByteArray.size_append,hsz2,aC (ax (aK l z.t))]
       omega
      ·show z.s++ByteArray.mk #[(58:UInt8),(58:UInt8)]++_=_
       rw[hs',dt,dt,dw l (Nat.le_refl _),kx]
       simp[jn]
    ·have hpos':0<z.i:=by omega
     obtain⟨n1,n2,n3,n4,n5,n6⟩:=ml h hB hw4 hbl hlt'
     refine aa (by rw[bj];omega) (aa n1 (aa n2 (aa n3 (aa n4 (aa n2 (aa n5 ?_))))))
     refine ue kf n6 (du l z.i) fun w5 bs5 qR hbs5=>?_
     have hl:=cO (aK l z.i)
     have hg:=du l z.i
     have hsz2:(z.s++ByteArray.mk #[(58:UInt8)]).size=z.s.size+1:=by rw[ByteArray.size_append];rfl
     refine aa (by rw[hsz2,aC (ax (aK l z.i)),bj];omega) ?_
     rw[show i64.wrap ((z.i:Int)+1)=((z.i+1:Nat):Int) by rw[aq (by omega) (by omega)];omega]
     have hnf':z.i≠z.f:=fun he=>by rw[he]at hnf;simp at hnf
     refine next _ _ _ _ qR hbs5 (by omega) ⟨rfl,rfl,by show z.i+1<=8;omega,?_,?_⟩
     ·show(z.s++ByteArray.mk #[(58:UInt8)]++_).size<=70000*(z.i+1)
      rw[ByteArray.size_append,hsz2,aC (ax (aK l z.i))]
      omega
     ·show((z.f=255∨z.i+1<=z.f)/\z.s++ByteArray.mk #[(58:UInt8)]++_=_)∨(z.f≠255/\z.t<z.i+1/\z.s++ByteArray.mk #[(58:UInt8)]++_=_)
      rcases hs with⟨h1,h2⟩ |⟨h1,h2,h3⟩
      ·refine .inl ⟨by omega,?_⟩
       rw[h2,dt,dt,dw l (Nat.zero_le _),mr,if_neg (rt l hpos')]
      ·refine .inr ⟨h1,by omega,?_⟩
       rw[h3,dt,dt,dw l (Nat.le_of_lt h2),mr,if_neg (rt l h2)]
       simp
    ·have hz:z.i=0:=by omega
     obtain⟨n1,n2,n3,n4,n5,n6⟩:=ml h hB hw4 hbl hlt'
     refine aa n1 (aa n2 (aa n3 (aa n4 (aa n2 (aa n5 ?_)))))
     refine ue kf n6 (du l z.i) fun w5 bs5 qR hbs5=>?_
     have hl:=cO (aK l z.i)
     have hg:=du l z.i
     refine aa (by rw[aC (ax (aK l z.i)),bj];omega) ?_
     rw[show i64.wrap ((z.i:Int)+1)=((z.i+1:Nat):Int) by rw[aq (by omega) (by omega)];omega]
     have hnf':z.i≠z.f:=fun he=>by rw[he]at hnf;simp at hnf
     refine next _ _ _ _ qR hbs5 (by omega) ⟨rfl,rfl,by show z.i+1<=8;omega,?_,.inl ⟨by show z.f=255∨z.i+1<=z.f;omega,?_⟩⟩
     ·show(z.s++_).size<=70000*(z.i+1)
      rw[ByteArray.size_append,aC (ax (aK l z.i))]
      omega
     ·show z.s++_=_
      rcases hs with⟨h1,h2⟩ |⟨h1,h2,h3⟩
      ·rw[h2,dt,dw l (Nat.zero_le _),mr,hz,kx]
       simp[jn]
      ·omega
   ·have hi8:z.i=8:=by omega
    refine aJ ⟨rfl,hkp,fun b hb=>.inl hb⟩ fun β' w' hst hk'=>⟨.inl ⟨z.s,rfl,rfl,hst.objsAt rfl hobjs,?_⟩,hk'⟩
    rcases hs with⟨h1,h2⟩ |⟨h1,h2,h3⟩
    ·rw[h2,gS,if_pos (by omega),hi8]
    ·rw[h3,gS,if_neg h1,hi8]
  ·intro β w3 hst hb3
   exact⟨⟨f,t,0,⟨#[]⟩⟩,rfl,fun i o hi=>hst.at_ i o hi,rfl,rfl,Nat.zero_le _,Nat.zero_le _,.inl ⟨.inr (Nat.zero_le _),rfl⟩⟩
  ·rintro w3 s w4 rfl hb3 hb4 g2 bs3 hbs3
   exact aQ (Fine.mk' hb4 hbs3) fun β w' _ _=>rfl
  ·rintro w3 s w4 hf
   exact hf.elim
 ·rintro w1 p w2 hf
  exact hf.elim
end
section
open Go Go.Rx Go.RowKit
def BQ(l:List UInt8)(v:Value)(_:World):Prop:=v=.tuple #[.string ⟨l.toArray⟩,.nilIface]
def SQ(l:List UInt8)(w:World)(v:Value)(w':World):Prop:=∃b o c,v=.tuple #[.slice (some ⟨b,o,none⟩) l.length c,.nilIface]/\l.length<=c/\Bts w' w'.heap.size (some ⟨b,o,none⟩) l.length l/\w.heap.size<=b
def NQ(v:Value)(_:World):Prop:=v=.nilIface
theorem M4{W s x y:Nat}(hx:x<2^s)(h:y*2^s+x<2^W):(BitVec.ofInt W (x:Int) |||BitVec.ofInt W ((y*2^s:Nat):Int)).toNat=y*2^s+x:=by
 have f1:∀m:Nat,m<2^W->(BitVec.ofInt W (m:Int)).toNat=m:=fun m hm=>by
  rw[BitVec.toNat_ofInt]
  have:((m:Int)%((2^W:Nat):Int))=((m%2^W:Nat):Int):=rfl
  rw[this,Int.toNat_natCast,Nat.mod_eq_of_lt hm]
 rw[BitVec.toNat_or,f1 _ (by omega),f1 _ (by omega),Nat.or_comm]
 have:=Nat.shiftLeft_add_eq_or_of_lt hx y
 rw[Nat.shiftLeft_eq]at this
 exact this.symm
theorem rD{m:Nat}(h:m<2^64):u64.wrap (m:Int)=m:=by
 simp[IntKind.wrap,IntKind.bits,IntKind.signed]
 omega
theorem E1{m:Nat}(h:m<2^16):u16.wrap (m:Int)=m:=by
 simp[IntKind.wrap,IntKind.bits,IntKind.signed]
 omega
theorem gr{s x y:Nat}{X Y:Int}(hX:X=(x:Int))(hY:Y=(y:Int))(hs:s<=56)(hx:x<2^s)(hy:y<256) :
  u64.wrap (((BitVec.ofInt 64 X |||BitVec.ofInt 64 (u64.wrap (u64.wrap Y*(2:Int)^s))).toNat:Nat):Int)=((y*2^s+x:Nat):Int):=by
 subst hX hY
 have h1:(2:Nat)^s<=2^56:=Nat.pow_le_pow_right (by omega) hs
 have h2:y*2^s<=255*2^s:=Nat.mul_le_mul_right _ (by omega)
 have e1:(y:Int)*(2:Int)^s=((y*2^s:Nat):Int):=by
  rw[Int.natCast_mul,Int.natCast_pow];rfl
 rw[rD (m:=y) (by omega),e1,rD (m:=y*2^s) (by omega),M4 hx (by omega),rD (by omega)]
theorem M3{x y:Nat}{X Y:Int}(hX:X=(x:Int))(hY:Y=(y:Int))(hx:x<256)(hy:y<256) :
  u64.wrap (u16.wrap (((BitVec.ofInt 16 (u16.wrap X) |||BitVec.ofInt 16 (u16.wrap (u16.wrap Y*(2:Int)^8))).toNat:Nat):Int))=((y*256+x:Nat):Int):=by
 subst hX hY
 have e1:(y:Int)*(2:Int)^8=((y*2^8:Nat):Int):=by
  rw[Int.natCast_mul];rfl
 rw[E1 (m:=x) (by omega),E1 (m:=y) (by omega),e1,E1 (m:=y*2^8) (by omega),M4 (by omega) (by omega),E1 (by omega),rD (by omega)]
theorem pB{w:World}(ht:Tens w)(w1:World)(hb:Below w.heap.size w w1){bs:List Nat}(hbs:∀b∈bs,w.heap.size<=b):canRead w1 bs ⟨6,0,none⟩ []:=by
 have h1:14<w.heap.size:=ht.lt
 refine⟨?_,fun h=>?_,fun j v h=>by simp at h⟩
 ·show 6<_
  have:=hb.size
  omega
 ·have:=hbs 6 h
  omega
theorem bu{w w1:World}{bs:List Nat}{A:Option Addr}{n B:Nat}{l:List UInt8}(h:Bts w B A n l)(hB:B<=w.heap.size)(hw:Below w.heap.size w w1)(hbs:∀b∈bs,w.heap.size<=b)(j:Nat)(hj:j<n) :
  A.isSome=true/\canRead w1 bs ((A.getD default).add j) [SV.int u8 (aj w1 (((A.getD default).add j).add 0)) false]/\aj w1 (((A.getD default).add j).add 0)=((l.getD j 0).toNat:Int):=by
 have:=nq h hB hw hbs (z:=(j:Int)) rfl hj
 simpa using this
theorem Bv(A:Option Addr)(c:Nat)(x y:UInt8)(B:Nat)(w:World)(h:Bts w B A 2 [x,y])(hB:B<=w.heap.size)(ht:Tens w):Calls Tryz.prog 166 #[.slice A 2 c] w (bB (BQ (Lib.decDigits (x.toNat*256+y.toNat))) w):=by
 refine aF (hk:=km) (n:=500) (args:=[.xs A 2 c]) ⟨trivial,trivial⟩ ?_
 refine ah (Jt A 2 c w) ?_
 obtain⟨a1,a2,a3⟩:=bu (bs:=[]) h hB (Below.refl _ _) (by simp) 1 (by omega)
 obtain⟨b1,b2,b3⟩:=bu (bs:=[]) h hB (Below.refl _ _) (by simp) 0 (by omega)
 have hx:=x.toNat_lt
 have hy:=y.toNat_lt
 have e:=M3 (x:=y.toNat) (y:=x.toNat) a3 b3 hy hx
 refine aa (pB ht w (Below.refl _ _) (by simp)) (aa (by omega) (aa a1 (aa a2 (aa (by omega) (aa a1 (aa a2 (aa (by omega) (aa b1 (aa b2 ?_)))))))))
 refine ff (R:=fun(s:ByteArray) _ _=>s=⟨(Lib.decDigits (x.toNat*256+y.toNat)).toArray⟩) (Fine.start _ _) (fun x=>⟨rfl,trivial⟩) (fun β w0 hst ho hb=>?_) ?_
 ·refine(show Calls Tryz.prog _ #[.int .u64 (u64.wrap (u16.wrap (((BitVec.ofInt 16 (u16.wrap _) |||BitVec.ofInt 16 (u16.wrap (u16.wrap _*(2:Int)^8))).toNat:Nat):Int))),.int .i64 10] w0 _ from ?_)
  rw[e]
  refine(Ks _ (by omega) w0 (ht.below hb ht.lt)).mono ?_
  rintro e w' ⟨v,rfl,rfl,hb'⟩
  exact⟨_,rfl,hb',rfl⟩
 ·rintro s w1 w2 bs _ rfl _ hb hbs
  exact aQ (Fine.mk' hb hbs) fun β w' _ _=>rfl
theorem nl{β:Nat->Nat}{w:World}{b B:Nat}{l:List UInt8}{cs:List SV}{tot:Nat}{e:TypeId}{lo hi:Nat}(h:(SObj.cells cs tot e lo hi).At β w.heap[b]?)(hcs:af β cs=(l.map fun x=>(x.toNat:Int)).map (Value.int .u8))(htot:tot=l.length)(hB:b<B) :
  Bts w B (some ⟨b,0,none⟩) l.length l:=by
 obtain⟨rest,h1,h2⟩:=h
 have hl:cs.length=l.length:=by
  have:=congrArg List.length hcs
  simpa [cJ] using this
 have hr:rest=[]:=List.eq_nil_of_length_eq_zero (by omega)
 subst hr
 rw[List.append_nil,hcs]at h1
 have:=da (k:=l.length) h1 (fun v hv=>by
  simp only[List.mem_map]at hv
  obtain⟨x,_,rfl⟩:=hv
  have:=x.toNat_lt
  omega) (by simp) hB
 simpa [Function.comp_def,List.take_of_length_le] using this
theorem E2{m x:Nat}(h:m%256=x):u8.wrap (m:Int)=(x:Int):=by
 rw[rE,h]
theorem shr{n s:Nat}:(n:Int).fdiv ((2:Int)^s)=((n/2^s:Nat):Int):=by
 have:(2:Int)^s=((2^s:Nat):Int):=by rw[Int.natCast_pow];rfl
 rw[this]
 exact(Int.ofNat_fdiv n _).symm
theorem Bw(x y:UInt8)(w:World)(ht:Tens w):Calls Tryz.prog 165 #[.string ⟨(Lib.decDigits (x.toNat*256+y.toNat)).toArray⟩] w (bB (SQ [x,y] w) w):=by
 have hx:=x.toNat_lt
 have hy:=y.toNat_lt
 refine aF (hk:=km) (n:=500) (args:=[.str ⟨(Lib.decDigits (x.toNat*256+y.toNat)).toArray⟩ false]) ⟨trivial,trivial⟩ ?_
 refine ah (Ju _ w) ?_
 refine ff (R:=fun(m:Nat) _ _=>m=x.toNat*256+y.toNat) (Fine.start _ _) (fun x=>⟨rfl,trivial,trivial,trivial⟩) (fun β w0 hst ho hb=>?_) ?_
 ·refine(JG (x.toNat*256+y.toNat) (by omega) w0).mono ?_
  rintro e w' ⟨v,rfl,rfl,hb'⟩
  exact⟨_,rfl,hb',rfl⟩
 ·rintro m w1 w2 bs _ rfl _ hb hbs
  refine aa (pB ht _ hb hbs) (aQ (Fine.mk' hb hbs) fun β w' hst hb'=>?_)
  have hlt:=hst.lt 0 (by simp[SS.n])
  refine⟨β 0,0,2,rfl,Nat.le_refl _,nl (l:=[x,y]) (hst.at_ 0 _ rfl) ?_ rfl hlt,(Fine.mk' hb hbs).new (hst.old rfl) 0 (by simp[SS.n])⟩
  simp only[af,SV.den,List.map_cons,List.map_nil]
  rw[E1 (by omega),shr,E2 (x:=x.toNat) (by omega),E2 (x:=y.toNat) (by omega)]
theorem AW(A:Option Addr)(c:Nat)(x:UInt8)(B:Nat)(w:World)(h:Bts w B A 1 [x])(hB:B<=w.heap.size)(ht:Tens w):Calls Tryz.prog 176 #[.slice A 1 c] w (bB (BQ (cU x.toNat)) w):=by
 refine aF (hk:=km) (n:=500) (args:=[.xs A 1 c]) ⟨trivial,trivial⟩ ?_
 refine ah (Jp A 1 c w) ?_
 obtain⟨b1,b2,b3⟩:=bu (bs:=[]) h hB (Below.refl _ _) (by simp) 0 (by omega)
 have hx:=x.toNat_lt
 refine ae (fun h=>by simp at h) (fun _=>aa (by omega) (aa b1 (aa b2 ?_)))
 refine hO (R:=fun(s:ByteArray) _ _=>s=⟨(cU x.toNat).toArray⟩) (fun x=>⟨rfl,trivial⟩) (fun β wc hb=>?_) ?_
 ·have b3':aj w (((A.getD default).add 0).add 0)=((x.toNat:Nat):Int):=b3
  refine(show Calls Tryz.prog _ #[.int .i64 (i64.wrap _)] wc _ from ?_)
  rw[b3',aq (by omega) (by omega)]
  refine(DN x.toNat hx wc (ht.below hb ht.lt)).mono ?_
  rintro e w' ⟨v,rfl,rfl,hb'⟩
  exact⟨_,rfl,hb',rfl⟩
 ·rintro s wc w1 hwc rfl hb
  exact aQ (Fine.nil (hwc.trans (hb.mono hwc.size))) fun β w' _ _=>rfl
theorem AX(x:UInt8)(w:World):Calls Tryz.prog 175 #[.string ⟨(Lib.decDigits x.toNat).toArray⟩] w (bB (SQ [x] w) w):=by
 have hx:=x.toNat_lt
 refine aF (hk:=km) (n:=500) (args:=[.str ⟨(Lib.decDigits x.toNat).toArray⟩ false]) ⟨trivial,trivial⟩ ?_
 refine ah (Jq _ w) ?_
 refine ff (R:=fun(m:Nat) _ _=>m=x.toNat) (Fine.start _ _) (fun x=>⟨rfl,trivial,trivial,trivial⟩) (fun β w0 hst ho hb=>?_) ?_
 ·refine(LI x.toNat (by omega) w0).mono ?_
  rintro e w' ⟨v,rfl,rfl,hb'⟩
  exact⟨_,rfl,hb',rfl⟩
 ·rintro m w1 w2 bs _ rfl _ hb hbs
  refine aQ (Fine.mk' hb hbs) fun β w' hst hb'=>?_
  have hlt:=hst.lt 0 (by simp[SS.n])
  refine⟨β 0,0,1,rfl,Nat.le_refl _,nl (l:=[x]) (hst.at_ 0 _ rfl) ?_ rfl hlt,(Fine.mk' hb hbs).new (hst.old rfl) 0 (by simp[SS.n])⟩
  simp only[af,SV.den,List.map_cons,List.map_nil]
  rw[E2 (x:=x.toNat) (by omega)]
theorem AY(A:Option Addr)(c:Nat)(w:World):Calls Tryz.prog 177 #[.slice A 1 c] w (bB NQ w):=by
 refine aF (hk:=km) (n:=500) (args:=[.xs A 1 c]) ⟨trivial,trivial⟩ ?_
 refine ah (Jr A 1 c w) ?_
 exact ae (fun h=>by simp at h) (fun _=>aQ (Fine.start _ _) fun β w' _ _=>rfl)
theorem Eh(A:Option Addr)(c:Nat)(w:World):Calls Tryz.prog 204 #[.slice A 8 c] w (bB NQ w):=by
 refine aF (hk:=km) (n:=500) (args:=[.xs A 8 c]) ⟨trivial,trivial⟩ ?_
 refine ah (K6 A 8 c w) ?_
 exact ae (fun h=>by simp at h) (fun _=>aQ (Fine.start _ _) fun β w' _ _=>rfl)
def ft(a b c d e f g h:UInt8):Nat:=a.toNat*2^56+(b.toNat*2^48+(c.toNat*2^40+(d.toNat*2^32+(e.toNat*2^24+(f.toNat*2^16+(g.toNat*2^8+h.toNat))))))
theorem Ef(A:Option Addr)(cc:Nat)(a b c d e f g h:UInt8)(B:Nat)(w:World)(hh:Bts w B A 8 [a,b,c,d,e,f,g,h])(hB:B<=w.heap.size)(ht:Tens w):Calls Tryz.prog 203 #[.slice A 8 cc] w (bB (BQ (Lib.decDigits (ft a b c d e f g h))) w):=by
 refine aF (hk:=km) (n:=500) (args:=[.xs A 8 cc]) ⟨trivial,trivial⟩ ?_
 refine ah (K4 A 8 cc w) ?_
 obtain⟨s7,r7,v7⟩:=bu (bs:=[]) hh hB (Below.refl _ _) (by simp) 7 (by omega)
 obtain⟨s6,r6,v6⟩:=bu (bs:=[]) hh hB (Below.refl _ _) (by simp) 6 (by omega)
 obtain⟨s5,r5,v5⟩:=bu (bs:=[]) hh hB (Below.refl _ _) (by simp) 5 (by omega)
 obtain⟨s4,r4,v4⟩:=bu (bs:=[]) hh hB (Below.refl _ _) (by simp) 4 (by omega)
 obtain⟨s3,r3,v3⟩:=bu (bs:=[]) hh hB (Below.refl _ _) (by simp) 3 (by omega)
 obtain⟨s2,r2,v2⟩:=bu (bs:=[]) hh hB (Below.refl _ _) (by simp) 2 (by omega)
 obtain⟨s1,r1,v1⟩:=bu (bs:=[]) hh hB (Below.refl _ _) (by simp) 1 (by omega)
 obtain⟨s0,r0,v0⟩:=bu (bs:=[]) hh hB (Below.refl _ _) (by simp) 0 (by omega)
 have ha:=a.toNat_lt
 have hb:=b.toNat_lt
 have hc:=c.toNat_lt
 have hd:=d.toNat_lt
 have he:=e.toNat_lt
 have hf:=f.toNat_lt
 have hg:=g.toNat_lt
 have hhh:=h.toNat_lt
 have e1:=gr (s:=8) (x:=h.toNat) (y:=g.toNat) (X:=u64.wrap (aj w (((A.getD default).add 7).add 0))) (by rw[show aj w (((A.getD default).add 7).add 0)=((h.toNat:Nat):Int) from v7,rD (by omega)]) v6 (by omega) (by omega) (by omega)
 have e2:=gr (s:=16) (y:=f.toNat) e1 v5 (by omega) (by omega) (by omega)
 have e3:=gr (s:=24) (y:=e.toNat) e2 v4 (by omega) (by omega) (by omega)
 have e4:=gr (s:=32) (y:=d.toNat) e3 v3 (by omega) (by omega) (by omega)
 have e5:=gr (s:=40) (y:=c.toNat) e4 v2 (by omega) (by omega) (by omega)
 have e6:=gr (s:=48) (y:=b.toNat) e5 v1 (by omega) (by omega) (by omega)
 have e7:=gr (s:=56) (y:=a.toNat) e6 v0 (by omega) (by omega) (by omega)
 refine ae (fun h=>by simp at h) (fun _=>aa (pB ht w (Below.refl _ _) (by simp)) (aa (by omega) (aa s7 (aa r7 (aa (by omega) (aa s7 (aa r7 ?_)))))))
 refine aa (by omega) (aa s6 (aa r6 (aa (by omega) (aa s5 (aa r5 (aa (by omega) (aa s4 (aa r4 (aa (by omega) (aa s3 (aa r3 (aa (by omega) (aa s2 (aa r2 (aa (by omega) (aa s1 (aa r1 (aa (by omega) (aa s0 (aa r0 ?_))))))))))))))))))))
 refine ff (R:=fun(s:ByteArray) _ _=>s=⟨(Lib.decDigits (ft a b c d e f g h)).toArray⟩) (Fine.start _ _) (fun x=>⟨rfl,trivial⟩) (fun β w0 hst ho hb=>?_) ?_
 ·refine(show Calls Tryz.prog _ #[.int .u64 (u64.wrap _),.int .i64 10] w0 _ from ?_)
  rw[e7]
  refine(Ks _ (by omega) w0 (ht.below hb ht.lt)).mono ?_
  rintro e w' ⟨v,rfl,rfl,hb'⟩
  exact⟨_,rfl,hb',rfl⟩
 ·rintro s w1 w2 bs _ rfl _ hb hbs
  exact aQ (Fine.mk' hb hbs) fun β w' _ _=>rfl
theorem Eg(a b c d e f g h:UInt8)(w:World)(ht:Tens w):Calls Tryz.prog 202 #[.string ⟨(Lib.decDigits (ft a b c d e f g h)).toArray⟩] w (bB (SQ [a,b,c,d,e,f,g,h] w) w):=by
 have ha:=a.toNat_lt
 have hb:=b.toNat_lt
 have hc:=c.toNat_lt
 have hd:=d.toNat_lt
 have he:=e.toNat_lt
 have hf:=f.toNat_lt
 have hg:=g.toNat_lt
 have hhh:=h.toNat_lt
 have hn:ft a b c d e f g h<2^64:=by unfold ft;omega
 refine aF (hk:=km) (n:=500) (args:=[.str ⟨(Lib.decDigits (ft a b c d e f g h)).toArray⟩ false]) ⟨trivial,trivial⟩ ?_
 refine ah (K5 _ w) ?_
 refine ff (R:=fun(m:Nat) _ _=>m=ft a b c d e f g h) (Fine.start _ _) (fun x=>⟨rfl,trivial,trivial,trivial⟩) (fun β w0 hst ho hb=>?_) ?_
 ·refine(JH (ft a b c d e f g h) hn w0).mono ?_
  rintro e w' ⟨v,rfl,rfl,hb'⟩
  exact⟨_,rfl,hb',rfl⟩
 ·rintro m w1 w2 bs _ rfl _ hb hbs
  refine aa (pB ht _ hb hbs) (aQ (Fine.mk' hb hbs) fun β w' hst hb'=>?_)
  have hlt:=hst.lt 0 (by simp[SS.n])
  refine⟨β 0,0,8,rfl,Nat.le_refl _,nl (l:=[a,b,c,d,e,f,g,h]) (hst.at_ 0 _ rfl) ?_ rfl hlt,(Fine.mk' hb hbs).new (hst.old rfl) 0 (by simp[SS.n])⟩
  simp only[af,SV.den,List.map_cons,List.map_nil,shr]
  rw[E2 (x:=a.toNat) (by unfold ft;omega),E2 (x:=b.toNat) (by unfold ft;omega),E2 (x:=c.toNat) (by unfold ft;omega),E2 (x:=d.toNat) (by unfold ft;omega),E2 (x:=e.toNat) (by unfold ft;omega),E2 (x:=f.toNat) (by unfold ft;omega),E2 (x:=g.toNat) (by unfold ft;omega),E2 (x:=h.toNat) (by unfold ft;omega)]
end
section
open Go Go.Rx Go.RowKit
def Kh:SE->List Nat
 | .normal=>[0,1,5]
 | .ret=>[4]
 |_=>[]
def D5:LoopHook:=cl 25 Unit (.exit 0) [] (fun _=>[]) Nat .ret [4] (fun j=>[.int .i64 j false])
def KG:Hooks:={ calls:=fun _=>none,loops:=fun _ _=>some D5 }
def GQ:Hooks:={ calls:=fun f=>if f=92 then some sS else none,loops:=fun _ _=>none }
noncomputable abbrev BM(s:ByteArray):List SV:=([(.str s false),(.str (ByteArray.mk #[47]) false),(.tup []),(.tup []),(.int .i64 0 true),(.int .i64 0 true)]++List.replicate 19 az)
theorem Mq(s:ByteArray)(w:World):al Tryz.prog KG 500 92 [.str s false,.str ⟨#[47]⟩ false] (SS.mk [] [] true w []) =
(.loop 92 (av Tryz.prog 92 3) (BM s) (SS.mk [] [] true w []) (LoopHook.X (D5)) (LoopHook.out (D5) (BM s) (SS.mk [] [] true w [])) (fun x0 w0 b0=>(.leaf .ret [(.int .i64 (-1) true)] (SS.mk [] [] true w0 b0))) (LoopHook.Y (D5)) (LoopHook.out' (D5) (BM s) (SS.mk [] [] true w [])) (fun x0 w0 b0=>(.leaf .ret [(.int .i64 ((↑x0.fst:Int)) false)] (SS.mk [] [] true w0 b0)))):=by kernel_rfl
theorem Rd(s:ByteArray)(w:World):(by have h:=Mq s w;unfold BM at h;exact type_of% h):=Mq s w
theorem QR(s:ByteArray)(i:Nat)(w:World)(g:Nat->Value):aO Tryz.prog ar 1000 92 (av Tryz.prog 92 3) (ay ((Kh .normal).zip [.str s false,.str ⟨#[47]⟩ false,.int .i64 i false]) g 25 0) (fun e a s=>.leaf e (fG Kh e a) s) (SS.mk [] [] true w []) =
 (.split (decide (i64.wrap ((↑i:Int)+(↑(1:Nat):Int))<=(↑s.size:Int)))
  (.need ((0:Int)<=i64.wrap ((↑i:Int)+(↑(1:Nat):Int))/\i64.wrap ((↑i:Int)+(↑(1:Nat):Int))<=(↑s.size:Int))
  (.need ((0:Int)<=(↑i:Int)/\(↑i:Int)<=(↑(i64.wrap ((↑i:Int)+(↑(1:Nat):Int))).toNat:Int))
  (.split ((s.extract (↑i:Int).toNat (i64.wrap ((↑i:Int)+(↑(1:Nat):Int))).toNat).toList == (ByteArray.mk #[(47:UInt8)]).toList)
  (.leaf .ret [(.int .i64 ((↑i:Int)) false)] (SS.mk [] [] true w []))
  (.leaf .normal [(.str s false),(.str (ByteArray.mk #[47]) false),(.int .i64 (i64.wrap ((↑i:Int)+(1:Int))) false)] (SS.mk [] [] true w [])))))
  (.leaf (.exit 0) [] (SS.mk [] [] true w []))):=by kernel_rfl
theorem Oq(s:ByteArray)(w:World):al Tryz.prog GQ 500 214 [.str s false,.str ⟨#[47]⟩ false] (SS.mk [] [] true w []) =
 (.hc 92 [(.str s false),(.str (ByteArray.mk #[47]) false)] (SS.mk [] [] true w []) (sS) fun x0 w0 b0=>
 (.leaf .ret [(.bool (decide (x0 ≥ (0:Int))) false)] (SS.mk [] [] true w0 b0))):=by kernel_rfl
def tw(l:List UInt8):Nat:=(l.takeWhile (·≠47)).length
theorem E0:∀ {l:List UInt8}{i:Nat},(∀x∈l.take i,x≠47)->l[i]?=some 47->tw l=i
 |[],i,_,h=>by simp at h
 |a :: l,0,_,h=>by
  simp at h
  subst h
  simp[tw]
 |a :: l,i+1,h1,h2=>by
  have ha:a≠47:=h1 a (by simp)
  have:=E0 (l:=l) (i:=i) (fun x hx=>h1 x (by simp[hx])) (by simpa using h2)
  simp[tw,List.takeWhile_cons,ha]at this ⊢
  exact this
theorem uD:∀ {l:List UInt8},(∀x∈l,x≠47)->tw l=l.length
 |[],_=>rfl
 |a :: l,h=>by
  have ha:a≠47:=h a (by simp)
  have:=uD (l:=l) fun x hx=>h x (by simp[hx])
  simp[tw,List.takeWhile_cons,ha]at this ⊢
  exact this
theorem MY{l:List UInt8}{i:Nat}{x:UInt8}(h:l[i]?=some x):((⟨l.toArray⟩:ByteArray).extract i (i+1)).toList=[x]:=by
 have hi:i<l.length:=(List.getElem?_eq_some_iff.1 h).1
 rw[ByteArray.toList_eq,ByteArray.data_extract]
 simp only[List.extract_toArray]
 rw[List.extract_eq_take_drop]
 have:(l.drop i)=x :: l.drop (i+1):=by
  rw[List.drop_eq_getElem_cons hi]
  have:=(List.getElem?_eq_some_iff.1 h).2
  rw[this]
 simp[this]
theorem Qq:(⟨#[(47:UInt8)]⟩:ByteArray).toList=[47]:=by rw[ByteArray.toList_eq]
theorem C5(l:List UInt8)(hl:l.length<2^62)(w:World):Calls Tryz.prog 92 #[.string ⟨l.toArray⟩,.string ⟨#[47]⟩] w (bB (fun v _=>v=.int .i64 (if tw l<l.length then(tw l:Int) else -1)) w):=by
 refine aF (hk:=KG) (n:=500) (args:=[.str ⟨l.toArray⟩ false,.str ⟨#[47]⟩ false]) ⟨trivial,trivial,trivial⟩ ?_
 refine ah (Rd _ w) ?_
 refine ii (Fine.start _ _) Kh (α:=Nat) (fun i=>[.str ⟨l.toArray⟩ false,.str ⟨#[47]⟩ false,.int .i64 i false]) (fun i=>l.length-i) (fun _ i _=>i<=l.length/\∀x∈l.take i,x≠47)
  (fun w0 e lv w'=>(e=.ret/\lv=[.int .i64 (tw l:Int)]/\tw l<l.length)∨(e=.exit 0/\lv=[]/\tw l=l.length)) (fun _=>ar) 1000 (by simp) (by simp[Kh]) (by simp[Kh]) (fun _=>⟨trivial,trivial,trivial,trivial⟩) rfl rfl rfl
  (by simp) (by simp) (fun _=>trivial) (fun _=>⟨trivial,trivial⟩) ?_ ?_ ?_
 ·rintro w0 i w1 g hbw0 ⟨hi,hall⟩ hb0 hbw
  have e1:i64.wrap ((i:Int)+((1:Nat):Int))=((i+1:Nat):Int):=by rw[aq (by omega) (by omega)];rfl
  have e1':i64.wrap ((i:Int)+1)=((i+1:Nat):Int):=e1
  refine ah (QR _ i w1 g) ?_
  rw[e1,e1',aC]
  refine ak (fun hlt=>?_) (fun hge=>dp (Fine.nil hb0) (by simp) fun β w' _ _=>.inr ⟨rfl,rfl,?_⟩)
  ·have hi':i<l.length:=by omega
   have hx:l[i]?=some l[i]:=List.getElem?_eq_getElem hi'
   refine aa (by omega) (aa (by omega) ?_)
   rw[show(i:Int).toNat=i from rfl,show((i+1:Nat):Int).toNat=i+1 from rfl,MY hx,Qq]
   refine ae (fun h=>dp (Fine.nil hb0) (by simp) fun β w' _ _=>.inl ?_) (fun h=>fY (Fine.nil hb0) fun β w' _ _=>⟨i+1,by omega,rfl,by omega,fun x hx'=>?_⟩)
   ·have h47:l[i]=47:=by simpa using h
    have:=E0 hall (by rw[hx,h47])
    exact⟨rfl,by rw[this];rfl,by omega⟩
   ·rw[List.take_add_one,hx]at hx'
    rcases List.mem_append.1 hx' with h1 |h1
    ·exact hall x h1
    ·have:x=l[i]:=by simpa using h1
     rw[this]
     simpa using h
  ·have:i=l.length:=by omega
   rw[this,List.take_length]at hall
   exact uD hall
 ·intro β w0 hst hb
  exact⟨0,rfl,Nat.zero_le _,by simp⟩
 ·rintro β w0 hst hb e lv w' (⟨rfl,rfl,h⟩ |⟨rfl,rfl,h⟩) hb0 hb1
  ·exact .inr ⟨tw l,rfl,rfl,fun g bs hbs=>aQ (Fine.mk' hb1 hbs) fun β w' _ _=>by rw[if_pos h];rfl⟩
  ·exact .inl ⟨(),rfl,rfl,fun g bs hbs=>aQ (Fine.mk' hb1 hbs) fun β w' _ _=>by rw[if_neg (by omega)];rfl⟩
theorem xm(l:List UInt8)(hl:l.length<2^62)(w:World):Calls Tryz.prog 214 #[.string ⟨l.toArray⟩,.string ⟨#[47]⟩] w (bB (fun v _=>v=.bool (decide (tw l<l.length))) w):=by
 refine aF (hk:=GQ) (n:=500) (args:=[.str ⟨l.toArray⟩ false,.str ⟨#[47]⟩ false]) ⟨trivial,trivial,trivial⟩ ?_
 refine ah (Oq _ w) ?_
 refine hO (R:=fun(z:Int) _ _=>z=(if tw l<l.length then(tw l:Int) else -1)) (fun x=>⟨rfl,trivial⟩) (fun β wc hb=>?_) ?_
 ·refine(C5 l hl wc).mono ?_
  rintro e w' ⟨v,rfl,rfl,hb'⟩
  exact⟨_,rfl,hb',rfl⟩
 ·rintro z wc w1 hwc rfl hb
  refine aQ (Fine.nil (hwc.trans (hb.mono hwc.size))) fun β w' _ _=>?_
  show Value.bool (decide _)=_
  congr 2
  split <;> simp <;> omega
end
section
open Go Go.Rx Go.RowKit
theorem Bb:∀ {l:List UInt8},(∀x∈l,x≠47)->Lib.indexByte l 47 = -1
 |[],_=>rfl
 |a :: l,h=>by
  have ha:(a == 47)=false:=by simpa using h a (by simp)
  simp[Lib.indexByte,ha,Bb (l:=l) fun x hx=>h x (by simp[hx])]
theorem DP(b o n c:Nat)(l:List UInt8)(B:Nat)(w:World)(h:Bts w B (some ⟨b,o,none⟩) n l)(hn:∀x∈l,x≠47):Calls Tryz.prog 212 #[.slice (some ⟨b,o,none⟩) n c,.int .u8 47] w fun e w'=>e=.returned (.int .i64 (-1))/\w'=w:=by
 have hl:=h.1
 have key:=Tryz.bytes_IndexByte b o n c (l.map fun x=>(x.toNat:Int)) 47 w (by simp[hl]) (fun i hi=>?_)
 ·have e1:Lib.bytesOf (l.map fun x=>(x.toNat:Int))=l:=by
   unfold Lib.bytesOf
   rw[List.map_map]
   refine(List.map_congr_left (g:=id) fun x _=>?_).trans (List.map_id l)
   simp
  rw[e1,show((47:Int).toNat.toUInt8)=47 from rfl,Bb hn]at key
  exact key
 ·obtain⟨a,ha,hb,hx⟩:=h.2 (by omega)
  cases ha
  have hi':i<l.length:=by omega
  have:=hx i l[i] (List.getElem?_eq_getElem hi')
  rw[Nat.mul_one,Rx.add_plain]at this
  rw[this]
  simp[List.getD_eq_getElem?_getD,hi']
theorem br{w:World}{b B c n:Nat}{L:List UInt8}{fr:Nat×Nat}(h:w.heap[b]?=some (.cells ((L.map (fun x:UInt8=>(x.toNat:Int))++List.replicate c (0:Int)).map (Value.int .u8)).toArray 5 fr))(hn:n=L.length)(hB:b<B):Bts w B (some ⟨b,0,none⟩) n L:=by
 have hb:=da (k:=n) h (by
  intro v hv
  rcases List.mem_append.1 hv with h |h
  ·obtain⟨x,_,rfl⟩:=List.mem_map.1 h
   have:=x.toNat_lt
   omega
  ·have:=List.eq_of_mem_replicate h
   omega) (by simp;omega) hB
 have e:(((L.map (fun x:UInt8=>(x.toNat:Int))++List.replicate c (0:Int)).take n).map fun v=>UInt8.ofNat v.toNat)=L:=by
  subst hn
  rw[List.take_append_of_le_length (by simp),List.take_of_length_le (by simp),List.map_map]
  refine(List.map_congr_left (g:=id) fun x _=>?_).trans (List.map_id L)
  simp
 rw[e]at hb
 exact hb
def Nm(l:List UInt8):Prop:=l≠[]/\∀x∈l,x≠47
theorem Du(b o n c:Nat)(l:List UInt8)(B:Nat)(w:World)(h:Bts w B (some ⟨b,o,none⟩) n l)(hB:B<=w.heap.size)(hn:Nm l):Calls Tryz.prog 169 #[.slice (some ⟨b,o,none⟩) n c] w (bB NQ w):=by
 have hl:=h.1
 have h0:=List.length_pos_iff.2 hn.1
 refine aF (hk:=km) (n:=500) (args:=[.xs (some ⟨b,o,none⟩) n c]) ⟨trivial,trivial⟩ ?_
 refine ah (K0 _ n c w) (ae (fun h=>by have:=eq_of_beq h;omega) (fun _=>?_))
 refine hO (R:=fun(z:Int) _ _=>z = -1) (fun x=>⟨rfl,trivial⟩) (fun β wc hb=>?_) ?_
 ·refine(DP b o n c l B wc (h.below (hb.mono hB) (Nat.le_refl _)) hn.2).mono ?_
  rintro e w' ⟨rfl,rfl⟩
  exact⟨_,rfl,Below.refl _ _,rfl⟩
 ·rintro z wc w1 hwc rfl hb
  exact ak (fun h=>absurd (show(-1:Int) ≥ 0 from h) (by decide)) (fun _=>aQ (Fine.nil (hwc.trans (hb.mono hwc.size))) fun β w' _ _=>rfl)
theorem B1(b o n c:Nat)(l:List UInt8)(B:Nat)(w:World)(h:Bts w B (some ⟨b,o,none⟩) n l)(hB:B<=w.heap.size)(hn:Nm l):Calls Tryz.prog 174 #[.slice (some ⟨b,o,none⟩) n c] w (bB NQ w):=by
 have hl:=h.1
 have h0:=List.length_pos_iff.2 hn.1
 refine aF (hk:=km) (n:=500) (args:=[.xs (some ⟨b,o,none⟩) n c]) ⟨trivial,trivial⟩ ?_
 refine ah (JA _ n c w) (ae (fun h=>by have:=eq_of_beq h;omega) (fun _=>?_))
 refine hO (R:=fun(z:Int) _ _=>z = -1) (fun x=>⟨rfl,trivial⟩) (fun β wc hb=>?_) ?_
 ·refine(DP b o n c l B wc (h.below (hb.mono hB) (Nat.le_refl _)) hn.2).mono ?_
  rintro e w' ⟨rfl,rfl⟩
  exact⟨_,rfl,Below.refl _ _,rfl⟩
 ·rintro z wc w1 hwc rfl hb
  exact ak (fun h=>absurd (show(-1:Int) ≥ 0 from h) (by decide)) (fun _=>aQ (Fine.nil (hwc.trans (hb.mono hwc.size))) fun β w' _ _=>rfl)
theorem Ds(A:Option Addr)(n c:Nat)(l:List UInt8)(B:Nat)(w:World)(h:Bts w B A n l)(hB:B<=w.heap.size):Calls Tryz.prog 168 #[.slice A n c] w (bB (BQ l) w):=by
 refine aF (hk:=km) (n:=500) (args:=[.xs A n c]) ⟨trivial,trivial⟩ ?_
 refine ah (KY A n c w) (aa (h.canBytes hB (by simp)) (aQ (Fine.start _ _) fun β w' _ _=>?_))
 rw[h.bytesAt]
 rfl
theorem BI(A:Option Addr)(n c:Nat)(l:List UInt8)(B:Nat)(w:World)(h:Bts w B A n l)(hB:B<=w.heap.size):Calls Tryz.prog 200 #[.slice A n c] w (bB (BQ l) w):=by
 refine aF (hk:=km) (n:=500) (args:=[.xs A n c]) ⟨trivial,trivial⟩ ?_
 refine ah (Jv A n c w) (aa (h.canBytes hB (by simp)) (aQ (Fine.start _ _) fun β w' _ _=>?_))
 rw[h.bytesAt]
 rfl
theorem BZ(A:Option Addr)(n c:Nat)(l:List UInt8)(B:Nat)(w:World)(h:Bts w B A n l)(hB:B<=w.heap.size)(hn:Nm l):Calls Tryz.prog 173 #[.slice A n c] w (bB (BQ l) w):=by
 have hl:=h.1
 have h0:=List.length_pos_iff.2 hn.1
 refine aF (hk:=km) (n:=500) (args:=[.xs A n c]) ⟨trivial,trivial⟩ ?_
 refine ah (Jy A n c w) (ae (fun h=>by have:=eq_of_beq h;omega) (fun _=>aa (h.canBytes hB (by simp)) (aQ (Fine.start _ _) fun β w' _ _=>?_)))
 rw[h.bytesAt]
 rfl
theorem BJ(l:List UInt8)(w:World):Calls Tryz.prog 199 #[.string ⟨l.toArray⟩] w (bB (SQ l w) w):=by
 refine aF (hk:=km) (n:=500) (args:=[.str ⟨l.toArray⟩ false]) ⟨trivial,trivial⟩ ?_
 refine ah (Jw _ w) (aD ?_)
 rintro c0 ⟨_,hc0⟩
 rw[aC]at hc0 ⊢
 have hcut:l.length<=c0:=hc0 ▸ bf
 refine aQ (Fine.start _ _) fun β w' hst hb=>?_
 have hlt:=hst.lt 0 (by simp[SS.n])
 exact⟨β 0,0,c0,rfl,hcut,br (hst.at_ 0 _ rfl) rfl hlt,(Fine.start _ _).new (hst.old rfl) 0 (by simp[SS.n])⟩
theorem B0(l:List UInt8)(hl:l.length<2^62)(hn:Nm l)(w:World):Calls Tryz.prog 172 #[.string ⟨l.toArray⟩] w (bB (SQ l w) w):=by
 have h0:=List.length_pos_iff.2 hn.1
 refine aF (hk:=km) (n:=500) (args:=[.str ⟨l.toArray⟩ false]) ⟨trivial,trivial⟩ ?_
 refine ah (Jz _ w) ?_
 simp only[aC]
 refine ae (fun h=>by have:=eq_of_beq h;omega) (fun _=>?_)
 refine hO (R:=fun(b:Bool) _ _=>b=false) (fun x=>⟨rfl,trivial⟩) (fun β wc hb=>?_) ?_
 ·refine(xm l hl wc).mono ?_
  rintro e w' ⟨v,rfl,rfl,hb'⟩
  exact⟨_,rfl,hb',by have:=uD hn.2;simp;omega⟩
 rintro z wc w1 hwc rfl hb
 refine ae (fun h=>by cases h) (fun _=>aD ?_)
 rintro c0 ⟨_,hc0⟩
 have hcut:l.length<=c0:=hc0 ▸ bf
 have hw1:=hwc.trans (hb.mono hwc.size)
 refine aQ (Fine.nil hw1) fun β w' hst hb=>?_
 have hlt:=hst.lt 0 (by simp[SS.n])
 exact⟨β 0,0,c0,rfl,hcut,br (hst.at_ 0 _ rfl) rfl hlt,(Fine.nil hw1).new (hst.old rfl) 0 (by simp[SS.n])⟩
theorem Dt(l:List UInt8)(hn:Nm l)(w:World):Calls Tryz.prog 167 #[.string ⟨l.toArray⟩] w (bB (SQ l w) w):=by
 have h0:=List.length_pos_iff.2 hn.1
 refine aF (hk:=km) (n:=500) (args:=[.str ⟨l.toArray⟩ false]) ⟨trivial,trivial⟩ ?_
 refine ah (KZ _ w) ?_
 simp only[aC]
 refine aD ?_
 rintro c0 ⟨_,hc0⟩
 have hcut:l.length<=c0:=hc0 ▸ bf
 refine ae (fun h=>by have:=eq_of_beq h;omega) (fun _=>?_)
 refine ff (R:=fun(z:Int) _ _=>z = -1) (Fine.start _ _) (fun x=>⟨rfl,trivial⟩) (fun β w0 hst ho hb=>?_) ?_
 ·have hlt:=hst.lt 0 (by simp[SS.n])
  have hb0:=br (n:=l.length) (hst.at_ 0 _ rfl) rfl hlt
  refine(DP (β 0) 0 l.length c0 l _ w0 hb0 hn.2).mono ?_
  rintro e w' ⟨rfl,rfl⟩
  exact⟨_,rfl,Below.refl _ _,rfl⟩
 ·rintro z w1 w2 bs _ rfl _ hb hbs
  refine ak (fun h=>by omega) (fun _=>aQ (Fine.mk' hb hbs) fun β w' hst hb'=>?_)
  have hlt:=hst.lt 0 (by simp[SS.n])
  exact⟨β 0,0,c0,rfl,hcut,br (hst.at_ 0 _ rfl) rfl hlt,(Fine.mk' hb hbs).new (hst.old rfl) 0 (by simp[SS.n])⟩
def Pth(l:List UInt8):Prop:=2<=l.length/\l.getD 0 0=47/\l.getD (l.length-1) 0≠47
theorem BK(A:Option Addr)(n c:Nat)(l:List UInt8)(B:Nat)(w:World)(h:Bts w B A n l)(hB:B<=w.heap.size)(hp:Pth l)(hn:l.length<2^62):Calls Tryz.prog 201 #[.slice A n c] w (bB NQ w):=by
 have hl:=h.1
 subst hl
 obtain⟨h2,hf,hlast⟩:=hp
 refine aF (hk:=km) (n:=500) (args:=[.xs A l.length c]) ⟨trivial,trivial⟩ ?_
 obtain⟨b1,b2,b3⟩:=bu (bs:=[]) h hB (Below.refl _ _) (by simp) 0 (by omega)
 have e1:i64.wrap ((l.length:Int)-1)=((l.length-1:Nat):Int):=by rw[aq (by omega) (by omega)];omega
 obtain⟨c1,c2,c3⟩:=nq (bs:=[]) h hB (Below.refl _ _) (by simp) e1 (by omega)
 refine ah (Jx A l.length c w) (ak (fun h=>by omega) (fun _=>aa (by omega) (aa b1 (aa b2 ?_))))
 rw[b3,hf]
 refine ae (fun h=>by simp at h) (fun _=>aa (by omega) (aa c1 (aa c2 ?_)))
 rw[c3]
 refine ae (fun h=>?_) (fun _=>aQ (Fine.start _ _) fun β w' _ _=>rfl)
 have:=eq_of_beq h
 exact absurd (UInt8.toNat_inj.1 (show(l.getD (l.length-1) 0).toNat=(47:UInt8).toNat by have e:(47:UInt8).toNat=47:=rfl;omega)) hlast
end
section
open Go Go.Rx Go.RowKit
def Ba:Hooks:={ calls:=fun f=>if f=206 then some bn else if f=207 then some aR else none,loops:=fun _ _=>none }
theorem t164(A:Option Addr)(n c:Nat)(w:World):al Tryz.prog Ba 500 164 [.xs A n c] (SS.mk [] [] true w []) =
 (.hc 207 [(.xs A n c)] (SS.mk [] [] true w []) (aR) fun x0 w0 b0=>
 (.leaf .ret [(.tup [(.str x0 false),(.one .nilIface rfl)])] (SS.mk [] [] true w0 b0))):=by kernel_rfl
theorem Om(A:Option Addr)(n c:Nat)(w:World):al Tryz.prog Ba 500 171 [.xs A n c] (SS.mk [] [] true w []) =
 (.hc 206 [(.xs A n c)] (SS.mk [] [] true w []) (bn) fun x0 w0 b0=>
 (.split (!x0.A.isNone)
  (.hc 207 [(.xs x0.A x0.k x0.c)] (SS.mk [] [] true w0 b0) (aR) fun x1 w1 b1=>
  (.need ((↑((7:Nat)+ByteArray.size x1):Int)<=i64.max)
  (.leaf .ret [(.tup [(.str (ByteArray.mk #[(58:UInt8),(58:UInt8),(102:UInt8),(102:UInt8),(102:UInt8),(102:UInt8),(58:UInt8)]++x1) false),(.one .nilIface rfl)])] (SS.mk [] [] true w1 b1))))
  (.hc 207 [(.xs A n c)] (SS.mk [] [] true w0 b0) (aR) fun x1 w1 b1=>
  (.leaf .ret [(.tup [(.str x1 false),(.one .nilIface rfl)])] (SS.mk [] [] true w1 b1))))):=by kernel_rfl
end
section
open Go Go.Rx Go.RowKit
@[reducible] def sT:Hook:={ X:=Int,out:=fun _ s x=>(.int .i64 x false,s.objs) }
structure P6 where
 s:ByteArray
 e:Int
 i:Nat
 l:List Int
structure O6 where
 s:ByteArray
 e:Int
 i:Nat
 q:Nat->Int
structure F6 where
 e:Int
 n:Int
 j:Int
 l:List Int
structure G6 where
 e:Int
 n:Int
 q:Nat->Int
@[reducible] def gO:List SV:=[.int .u8 0 true,.int .u8 0 true,.int .u8 0 true,.int .u8 0 true,.int .u8 0 true,.int .u8 0 true,.int .u8 0 true,.int .u8 0 true,.int .u8 0 true,.int .u8 0 true,.int .u8 0 true,.int .u8 0 true,.int .u8 0 true,.int .u8 0 true,.int .u8 0 true,.int .u8 0 true]
@[reducible] def cB(q:Nat->Int):List SV:=[.int .u8 (q 0) false,.int .u8 (q 1) false,.int .u8 (q 2) false,.int .u8 (q 3) false,.int .u8 (q 4) false,.int .u8 (q 5) false,.int .u8 (q 6) false,.int .u8 (q 7) false,.int .u8 (q 8) false,.int .u8 (q 9) false,.int .u8 (q 10) false,.int .u8 (q 11) false,.int .u8 (q 12) false,.int .u8 (q 13) false,.int .u8 (q 14) false,.int .u8 (q 15) false]
@[reducible] def aV(l:List Int):List SObj:=[.cells gO 16 188 0 0,.ints .u8 l 188 0 0]
@[reducible] def bT(q:Nat->Int):List SObj:=[.cells gO 16 188 0 0,.cells (cB q) 16 188 0 0]
def yL:SE->List Nat
 | .normal=>[0,2,3,4,5,6]
 | .exit _=>[0,2,3,4,5,6]
 |_=>[]
def tH:SE->List Nat
 | .normal=>[0,2,3,4,5,6,7,8]
 | .exit _=>[0,2,3,4,5,6,7,8]
 |_=>[]
def B6:SE->List Nat
 | .normal=>[2,3,4,5,9,10]
 | .exit _=>[2,3,4,5,9]
 |_=>[]
def B7:SE->List Nat
 | .normal=>[2,3,4,5,9,11]
 | .exit _=>[2,3,4]
 |_=>[]
@[reducible] def gD(z:P6):List SV:=[.str z.s false,.ptr 0 0,.bool false true,.ptr 1 0,.int .i64 z.e false,.int .i64 z.i false]
@[reducible] def ri(z:O6):List SV:=[.str z.s false,.ptr 0 0,.bool false true,.ptr 1 0,.int .i64 z.e false,.int .i64 z.i false]
@[reducible] def ja(z:P6)(p:Nat×Nat):List SV:=[.str z.s false,.ptr 0 0,.bool false true,.ptr 1 0,.int .i64 z.e false,.int .i64 z.i false,.int .i64 p.1 false,.int .i64 p.2 false]
@[reducible] def oP(z:F6):List SV:=[.ptr 0 0,.bool false true,.ptr 1 0,.int .i64 z.e false,.int .i64 z.n false,.int .i64 z.j false]
@[reducible] def GN(z:G6):List SV:=[.ptr 0 0,.bool false true,.ptr 1 0,.int .i64 z.e false,.int .i64 z.n false]
@[reducible] def GO:List SV:=[.ptr 0 0,.bool false true,.ptr 1 0]
def cM(z:P6):LoopHook:=bE 172 (Nat×Nat) (.exit 2) [0,2,3,4,5,6,7,8] (ja z) (fun _=>aV z.l) Unit .ret [] (fun _=>[]) (fun _=>aV z.l)
def dX:LoopHook:=bE 172 O6 (.exit 0) [0,2,3,4,5,6] ri (fun z=>bT z.q) Unit .ret [] (fun _=>[]) (fun _=>bT fun _=>0)
def jM:LoopHook:=bE 172 G6 (.exit 4) [2,3,4,5,9] GN (fun z=>bT z.q) Unit .ret [] (fun _=>[]) (fun _=>bT fun _=>0)
def kT:LoopHook:=bE 172 (Nat->Int) (.exit 6) [2,3,4] (fun _=>GO) bT Unit .ret [] (fun _=>[]) (fun _=>bT fun _=>0)
def Ct(z:P6):Hooks:={ calls:=fun f=>if f=300 then some bx else if f=351 then some sT else none,loops:=fun _ _=>some (cM z) }
def qQ:Hooks:={ calls:=fun _=>none,loops:=fun _ k=>if k=10 then some dX else if k=44 then some jM else some kT }
noncomputable abbrev AD(x:UInt8)(w:World):T:=(.split (decide ((↑x.toNat:Int) ≥ (65:Int))) (.split (decide ((↑x.toNat:Int)<=(70:Int))) (.leaf .ret [(.int .i64 (i64.wrap (i64.wrap (u8.wrap ((↑x.toNat:Int)-(65:Int)))+(10:Int))) false)] (SS.mk [] [] true w [])) (.leaf .ret [(.int .i64 (-1) true)] (SS.mk [] [] true w []))) (.leaf .ret [(.int .i64 (-1) true)] (SS.mk [] [] true w [])))
noncomputable abbrev wl(x:UInt8)(w:World):T:=(.split (decide ((↑x.toNat:Int) ≥ (97:Int))) (.split (decide ((↑x.toNat:Int)<=(102:Int))) (.leaf .ret [(.int .i64 (i64.wrap (i64.wrap (u8.wrap ((↑x.toNat:Int)-(97:Int)))+(10:Int))) false)] (SS.mk [] [] true w [])) (AD x w)) (AD x w))
theorem Ip(x:UInt8)(w:World):al Tryz.prog ar 500 351 [.int .u8 x.toNat false] (SS.mk [] [] true w []) =
(.split (decide ((↑x.toNat:Int) ≥ (48:Int))) (.split (decide ((↑x.toNat:Int)<=(57:Int))) (.leaf .ret [(.int .i64 (i64.wrap (u8.wrap ((↑x.toNat:Int)-(48:Int)))) false)] (SS.mk [] [] true w [])) (wl x w)) (wl x w)):=by kernel_rfl
theorem Ow(x:UInt8)(w:World):(by have h:=Ip x w;unfold wl AD at h;exact type_of% h):=Ip x w
noncomputable abbrev gZ:SObj:=(.cells [(.int .u8 0 true),(.int .u8 0 true),(.int .u8 0 true),(.int .u8 0 true),(.int .u8 0 true),(.int .u8 0 true),(.int .u8 0 true),(.int .u8 0 true),(.int .u8 0 true),(.int .u8 0 true),(.int .u8 0 true),(.int .u8 0 true),(.int .u8 0 true),(.int .u8 0 true),(.int .u8 0 true),(.int .u8 0 true)] 16 188 0 0)
noncomputable abbrev wn(z:P6)(g:Nat->Value):List SV:=[(.str z.s false),(.raw (g 1)),(.ptr 0 0),(.bool false true),(.ptr 1 0),(.int .i64 z.e false),(.int .i64 ((↑z.i:Int)) false),(.int .i64 0 true),(.int .i64 0 true),(.raw (g 9)),(.raw (g 10)),(.raw (g 11)),(.raw (g 12)),(.raw (g 13)),(.raw (g 14)),(.raw (g 15)),(.raw (g 16)),(.raw (g 17)),(.raw (g 18)),(.raw (g 19)),(.raw (g 20)),(.raw (g 21)),(.raw (g 22)),(.raw (g 23)),(.raw (g 24)),(.raw (g 25)),(.raw (g 26)),(.raw (g 27)),(.raw (g 28)),(.raw (g 29)),(.raw (g 30)),(.int .i64 ((↑z.i:Int)) false),(.bool true true),(.raw (g 33)),(.raw (g 34)),(.raw (g 35)),(.raw (g 36)),(.raw (g 37)),(.raw (g 38)),(.raw (g 39)),(.raw (g 40)),(.raw (g 41)),(.raw (g 42)),(.raw (g 43)),(.raw (g 44)),(.raw (g 45)),(.raw (g 46)),(.raw (g 47)),(.raw (g 48)),(.raw (g 49)),(.raw (g 50)),(.raw (g 51)),(.raw (g 52)),(.raw (g 53)),(.raw (g 54)),(.raw (g 55)),(.raw (g 56)),(.raw (g 57)),(.raw (g 58)),(.raw (g 59)),(.raw (g 60)),(.raw (g 61)),(.raw (g 62)),(.raw (g 63)),(.raw (g 64)),(.raw (g 65)),(.raw (g 66)),(.raw (g 67)),(.raw (g 68)),(.raw (g 69)),(.raw (g 70)),(.raw (g 71)),(.raw (g 72)),(.raw (g 73)),(.raw (g 74)),(.raw (g 75)),(.raw (g 76)),(.raw (g 77)),(.raw (g 78)),(.raw (g 79)),(.raw (g 80)),(.raw (g 81)),(.raw (g 82)),(.raw (g 83)),(.raw (g 84)),(.raw (g 85)),(.raw (g 86)),(.raw (g 87)),(.raw (g 88)),(.raw (g 89)),(.raw (g 90)),(.raw (g 91)),(.raw (g 92)),(.raw (g 93)),(.raw (g 94)),(.raw (g 95)),(.raw (g 96)),(.raw (g 97)),(.raw (g 98)),(.raw (g 99)),(.raw (g 100)),(.raw (g 101)),(.raw (g 102)),(.raw (g 103)),(.raw (g 104)),(.raw (g 105)),(.raw (g 106)),(.raw (g 107)),(.raw (g 108)),(.raw (g 109)),(.raw (g 110)),(.raw (g 111)),(.raw (g 112)),(.raw (g 113)),(.raw (g 114)),(.raw (g 115)),(.raw (g 116)),(.raw (g 117)),(.raw (g 118)),(.raw (g 119)),(.raw (g 120)),(.raw (g 121)),(.raw (g 122)),(.raw (g 123)),(.raw (g 124)),(.raw (g 125)),(.raw (g 126)),(.raw (g 127)),(.raw (g 128)),(.raw (g 129)),(.raw (g 130)),(.raw (g 131)),(.raw (g 132)),(.raw (g 133)),(.raw (g 134)),(.raw (g 135)),(.raw (g 136)),(.raw (g 137)),(.raw (g 138)),(.raw (g 139)),(.raw (g 140)),(.raw (g 141)),(.raw (g 142)),(.raw (g 143)),(.raw (g 144)),(.raw (g 145)),(.raw (g 146)),(.raw (g 147)),(.raw (g 148)),(.raw (g 149)),(.raw (g 150)),(.raw (g 151)),(.raw (g 152)),(.raw (g 153)),(.raw (g 154)),(.raw (g 155)),(.raw (g 156)),(.raw (g 157)),(.raw (g 158)),(.raw (g 159)),(.raw (g 160)),(.raw (g 161)),(.raw (g 162)),(.raw (g 163)),(.raw (g 164)),(.raw (g 165)),(.raw (g 166)),(.raw (g 167)),(.raw (g 168)),(.raw (g 169)),(.raw (g 170)),(.raw (g 171))]
noncomputable abbrev kK(z:P6)(k0_:Int):SV:=(.int .i64 (i64.wrap ((↑z.i:Int)+k0_)) false)
noncomputable abbrev AC(z:P6)(x0:(LoopHook.X (cM z))):List SV:=[(.str (((z.s.extract (↑x0.fst.fst:Int).toNat z.s.size).extract 1 (z.s.extract (↑x0.fst.fst:Int).toNat z.s.size).size).extract 1 ((z.s.extract (↑x0.fst.fst:Int).toNat z.s.size).extract 1 (z.s.extract (↑x0.fst.fst:Int).toNat z.s.size).size).size) false),(.ptr 0 0),(.bool false true),(.ptr 1 0),(kK z (2:Int)),(kK z (2:Int))]
noncomputable abbrev FC(z:P6)(x0:(LoopHook.X (cM z))):Bool:=((↑((#[].extract 0 0++(#[].extract 0 0++z.s.data.extract (↑x0.fst.fst:Int).toNat ((↑x0.fst.fst:Int).toNat+(z.s.size-(↑x0.fst.fst:Int).toNat))++#[].extract (0+min (z.s.size-(↑x0.fst.fst:Int).toNat) (z.s.data.size-(↑x0.fst.fst:Int).toNat)) 0).extract 1 (1+((z.s.extract (↑x0.fst.fst:Int).toNat z.s.size).size-1))++#[].extract (0+min ((z.s.extract (↑x0.fst.fst:Int).toNat z.s.size).size-1) ((#[].extract 0 0++z.s.data.extract (↑x0.fst.fst:Int).toNat ((↑x0.fst.fst:Int).toNat+(z.s.size-(↑x0.fst.fst:Int).toNat))++#[].extract (0+min (z.s.size-(↑x0.fst.fst:Int).toNat) (z.s.data.size-(↑x0.fst.fst:Int).toNat)) 0).size-1)) 0).toList.getD 0 (0:UInt8)).toNat:Int) == (58:Int))
noncomputable abbrev AE(z:P6):List SV:=[(.str z.s false),(.slc 1 (if 16=(↑z.i:Int).toNat then 0 else 0+(↑z.i:Int).toNat*1) ((i64.wrap ((↑z.i:Int)+(4:Int))).toNat-(↑z.i:Int).toNat) (16-(↑z.i:Int).toNat) false false)]
noncomputable abbrev AF(z:P6)(x0:(LoopHook.X (cM z))):Int:=(u8.wrap ((↑x0.fst.snd:Int).fdiv ((2:Int)^8)))
noncomputable abbrev sr(z:P6)(x0:(LoopHook.X (cM z))):Int:=(↑(z.s.extract (↑x0.fst.fst:Int).toNat z.s.size).size:Int)
noncomputable abbrev AG(z:P6)(x0:(LoopHook.X (cM z))):Int:=(↑((z.s.extract (↑x0.fst.fst:Int).toNat z.s.size).extract 1 (z.s.extract (↑x0.fst.fst:Int).toNat z.s.size).size).size:Int)
noncomputable abbrev BO(z:P6)(x0:(LoopHook.X (cM z))):Bool:=((↑((#[].extract 0 0++z.s.data.extract (↑x0.fst.fst:Int).toNat ((↑x0.fst.fst:Int).toNat+(z.s.size-(↑x0.fst.fst:Int).toNat))++#[].extract (0+min (z.s.size-(↑x0.fst.fst:Int).toNat) (z.s.data.size-(↑x0.fst.fst:Int).toNat)) 0).toList.getD 0 (0:UInt8)).toNat:Int) != (58:Int))
noncomputable abbrev BP(z:P6)(x0:(LoopHook.X (cM z))):Bool:=((↑(((z.s.extract (↑x0.fst.fst:Int).toNat z.s.size).extract 1 (z.s.extract (↑x0.fst.fst:Int).toNat z.s.size).size).extract 1 ((z.s.extract (↑x0.fst.fst:Int).toNat z.s.size).extract 1 (z.s.extract (↑x0.fst.fst:Int).toNat z.s.size).size).size).size:Int) == (0:Int))
noncomputable abbrev nf(z:P6)(x0:(LoopHook.X (cM z)))(w0:World)(b0:List Nat):SS:=(SS.mk [gZ,(.ints .u8 ((z.l.set (0+(↑z.i:Int).toNat*1) (AF z x0)).set (0+(i64.wrap ((↑z.i:Int)+(1:Int))).toNat*1) (u8.wrap (↑x0.fst.snd:Int))) 188 0 0)] [] true w0 b0)
noncomputable abbrev wi(z:P6)(x0:(LoopHook.X (cM z)))(w0:World)(b0:List Nat):T:=(.need ((0:Int)<=(↑z.i:Int)/\(↑z.i:Int)<(↑(16:Nat):Int)) (.need (0+(↑z.i:Int).toNat*1<z.l.length) (.need (an 0 0 (0+(↑z.i:Int).toNat*1) 1=true) (.need ((0:Int)<=i64.wrap ((↑z.i:Int)+(1:Int))/\i64.wrap ((↑z.i:Int)+(1:Int))<(↑(16:Nat):Int)) (.need (0+(i64.wrap ((↑z.i:Int)+(1:Int))).toNat*1<(z.l.set (0+(↑z.i:Int).toNat*1) (AF z x0)).length) (.need (an 0 0 (0+(i64.wrap ((↑z.i:Int)+(1:Int))).toNat*1) 1=true) (.need ((0:Int)<=(↑x0.fst.fst:Int)/\(↑x0.fst.fst:Int)<=(↑z.s.size:Int)) (.split ((sr z x0) == (0:Int)) (.leaf (.exit 0) [(.str (z.s.extract (↑x0.fst.fst:Int).toNat z.s.size) false),(.ptr 0 0),(.bool false true),(.ptr 1 0),(.int .i64 z.e false),(kK z (2:Int))] (nf z x0 w0 b0)) (.need ((0:Int)<=(0:Int)/\(0:Int)<(sr z x0)) (.split (BO z x0) (.bad "load: cells not tracked") (.split ((sr z x0) == (1:Int)) (.bad "load: cells not tracked") (.need ((0:Int)<=(1:Int)/\(1:Int)<=(sr z x0)) (.need ((0:Int)<=(0:Int)/\(0:Int)<(AG z x0)) (.split (FC z x0) (.split (decide (z.e ≥ (0:Int))) (.bad "load: cells not tracked") (.need ((0:Int)<=(1:Int)/\(1:Int)<=(AG z x0)) (.split (BP z x0) (.leaf (.exit 0) (AC z x0) (nf z x0 w0 b0)) (.leaf .normal (AC z x0) (nf z x0 w0 b0))))) (.leaf .normal [(.str ((z.s.extract (↑x0.fst.fst:Int).toNat z.s.size).extract 1 (z.s.extract (↑x0.fst.fst:Int).toNat z.s.size).size) false),(.ptr 0 0),(.bool false true),(.ptr 1 0),(.int .i64 z.e false),(kK z (2:Int))] (nf z x0 w0 b0))))))))))))))))
noncomputable abbrev cH(z:P6)(w:World)(bs:List Nat):SS:=(SS.mk [gZ,(.ints .u8 z.l 188 0 0)] [] true w bs)
noncomputable abbrev wj(z:P6)(w0:World)(b0:List Nat):T:=(.split (decide (i64.wrap ((↑z.i:Int)+(4:Int)) > (16:Int))) (.bad "load: cells not tracked") (.need ((0:Int)<=i64.wrap ((↑z.i:Int)+(4:Int))/\i64.wrap ((↑z.i:Int)+(4:Int))<=(↑(16:Nat):Int)) (.need ((0:Int)<=(↑z.i:Int)/\(↑z.i:Int)<=(↑(i64.wrap ((↑z.i:Int)+(4:Int))).toNat:Int)) (.call 300 (AE z) (cH z w0 b0) (Hook.X (bx)) (Hook.out (bx) (AE z) (cH z w0 b0)) fun x1 w1 b1=>(.split (!x1) (.bad "load: cells not tracked") (.leaf (.exit 0) [(.str (ByteArray.mk #[]) true),(.ptr 0 0),(.bool false true),(.ptr 1 0),(.int .i64 z.e false),(kK z (4:Int))] (cH z w1 b1)))))))
theorem H5(z:P6)(w:World)(bs:List Nat)(g:Nat->Value):aO Tryz.prog (Ct z) 1000 301 (av Tryz.prog 301 10) (ay ((yL .normal).zip (gD z)) g 172 0) (fun e a s=>.leaf e (fG yL e a) s) (SS.mk (aV z.l) [] true w bs) =
(.split (decide ((↑z.i:Int)<(16:Int))) (.loop 301 (av Tryz.prog 301 12) (wn z g) (cH z w bs) (LoopHook.X (cM z)) (LoopHook.out (cM z) (wn z g) (cH z w bs)) (fun x0 w0 b0=>(.split ((↑x0.fst.fst:Int) == (0:Int)) (.bad "load: cells not tracked") (.split (decide ((↑x0.fst.fst:Int)<(↑z.s.size:Int))) (.need ((0:Int)<=(↑x0.fst.fst:Int)/\(↑x0.fst.fst:Int)<(↑z.s.size:Int)) (.split ((↑(z.s.data.toList.getD (↑x0.fst.fst:Int).toNat (0:UInt8)).toNat:Int) == (46:Int)) (.split (decide (z.e<(0:Int))) (.split ((↑z.i:Int) != (12:Int)) (.bad "load: cells not tracked") (wj z w0 b0)) (wj z w0 b0)) (wi z x0 w0 b0))) (wi z x0 w0 b0)))) (LoopHook.Y (cM z)) (LoopHook.out' (cM z) (wn z g) (cH z w bs)) (fun x0 w0 b0=>(.leaf .ret [] (cH z w0 b0)))) (.leaf (.exit 0) [(.str z.s false),(.ptr 0 0),(.bool false true),(.ptr 1 0),(.int .i64 z.e false),(.int .i64 ((↑z.i:Int)) false)] (cH z w bs))):=by kernel_rfl
theorem Ob(z:P6)(w:World)(bs:List Nat)(g:Nat->Value):(by have h:=H5 z w bs g;unfold wj cH wi nf BP BO AG sr AF AE FC AC kK wn gZ at h;exact type_of% h):=H5 z w bs g
noncomputable abbrev nc(z:P6)(p:Nat×Nat):SV:=(.int .u8 ((↑(z.s.data.toList.getD (↑p.fst:Int).toNat (0:UInt8)).toNat:Int)) false)
noncomputable abbrev wm(z:P6)(p:Nat×Nat)(w0:World)(b0:List Nat):T:=(.leaf (.exit 2) [(.str z.s false),(.ptr 0 0),(.bool false true),(.ptr 1 0),(.int .i64 z.e false),(.int .i64 ((↑z.i:Int)) false),(.int .i64 ((↑p.fst:Int)) false),(.int .i64 ((↑p.snd:Int)) false)] (cH z w0 b0))
theorem EC(z:P6)(p:Nat×Nat)(w:World)(bs:List Nat)(g:Nat->Value):aO Tryz.prog (Ct z) 1000 301 (av Tryz.prog 301 12) (ay ((tH .normal).zip (ja z p)) g 172 0) (fun e a s=>.leaf e (fG tH e a) s) (SS.mk (aV z.l) [] true w bs) =
(.split (decide ((↑p.fst:Int)<(↑z.s.size:Int))) (.need ((0:Int)<=(↑p.fst:Int)/\(↑p.fst:Int)<(↑z.s.size:Int)) (.call 351 [(nc z p)] (cH z w bs) (Hook.X (sT)) (Hook.out (sT) [(nc z p)] (cH z w bs)) fun x0 w0 b0=>(.split (decide (x0 ≥ (0:Int))) (.need ((0:Int)<=(↑p.fst:Int)/\(↑p.fst:Int)<(↑z.s.size:Int)) (.call 351 [(nc z p)] (cH z w0 b0) (Hook.X (sT)) (Hook.out (sT) [(nc z p)] (cH z w0 b0)) fun x1 w1 b1=>(.split (decide ((↑p.fst:Int) > (3:Int))) (.bad "load: cells not tracked") (.leaf .normal [(.str z.s false),(.ptr 0 0),(.bool false true),(.ptr 1 0),(.int .i64 z.e false),(.int .i64 ((↑z.i:Int)) false),(.int .i64 (i64.wrap ((↑p.fst:Int)+(1:Int))) false),(.int .i64 (i64.wrap (i64.wrap ((↑p.snd:Int)*(2:Int)^4)+x1)) false)] (cH z w1 b1))))) (wm z p w0 b0)))) (wm z p w bs)):=by kernel_rfl
theorem H6(z:P6)(p:Nat×Nat)(w:World)(bs:List Nat)(g:Nat->Value):(by have h:=EC z p w bs g;unfold wm cH nc gZ at h;exact type_of% h):=EC z p w bs g
theorem ED(z:F6)(w:World)(bs:List Nat)(g:Nat->Value):aO Tryz.prog qQ 1000 301 (av Tryz.prog 301 44) (ay ((B6 .normal).zip (oP z)) g 172 0) (fun e a s=>.leaf e (fG B6 e a) s) (SS.mk (aV z.l) [] true w bs) =
(.split (decide (z.j ≥ z.e)) (.need ((0:Int)<=z.j/\z.j<(↑(16:Nat):Int)) (.need (0+z.j.toNat*1<z.l.length) (.need ((0:Int)<=i64.wrap (z.j+z.n)/\i64.wrap (z.j+z.n)<(↑(16:Nat):Int)) (.need (0+(i64.wrap (z.j+z.n)).toNat*1<z.l.length) (.need (an 0 0 (0+(i64.wrap (z.j+z.n)).toNat*1) 1=true) (.leaf .normal [(.ptr 0 0),(.bool false true),(.ptr 1 0),(.int .i64 z.e false),(.int .i64 z.n false),(.int .i64 (i64.wrap (z.j-(1:Int))) false)] (SS.mk [gZ,(.ints .u8 (z.l.set (0+(i64.wrap (z.j+z.n)).toNat*1) (z.l.getD (0+z.j.toNat*1) (0:Int))) 188 0 0)] [] true w bs))))))) (.leaf (.exit 4) [(.ptr 0 0),(.bool false true),(.ptr 1 0),(.int .i64 z.e false),(.int .i64 z.n false)] (SS.mk [gZ,(.ints .u8 z.l 188 0 0)] [] true w bs))):=by kernel_rfl
theorem LX(z:F6)(w:World)(bs:List Nat)(g:Nat->Value):(by have h:=ED z w bs g;unfold gZ at h;exact type_of% h):=ED z w bs g
theorem EE(z:F6)(w:World)(bs:List Nat)(g:Nat->Value):aO Tryz.prog qQ 1000 301 (av Tryz.prog 301 48) (ay ((B7 .normal).zip (oP z)) g 172 0) (fun e a s=>.leaf e (fG B7 e a) s) (SS.mk (aV z.l) [] true w bs) =
(.split (decide (z.j<i64.wrap (z.e+z.n))) (.need ((0:Int)<=z.j/\z.j<(↑(16:Nat):Int)) (.need (0+z.j.toNat*1<z.l.length) (.need (an 0 0 (0+z.j.toNat*1) 1=true) (.leaf .normal [(.ptr 0 0),(.bool false true),(.ptr 1 0),(.int .i64 z.e false),(.int .i64 z.n false),(.int .i64 (i64.wrap (z.j+(1:Int))) false)] (SS.mk [gZ,(.ints .u8 (z.l.set (0+z.j.toNat*1) (0:Int)) 188 0 0)] [] true w bs))))) (.leaf (.exit 6) [(.ptr 0 0),(.bool false true),(.ptr 1 0)] (SS.mk [gZ,(.ints .u8 z.l 188 0 0)] [] true w bs))):=by kernel_rfl
theorem LY(z:F6)(w:World)(bs:List Nat)(g:Nat->Value):(by have h:=EE z w bs g;unfold gZ at h;exact type_of% h):=EE z w bs g
def ib(x:UInt8):Int:=if 48<=x.toNat/\x.toNat<=57 then(x.toNat:Int)-48 else if 97<=x.toNat/\x.toNat<=102 then(x.toNat:Int)-87 else if 65<=x.toNat/\x.toNat<=70 then(x.toNat:Int)-55 else -1
theorem uE{n:Int}(h0:0<=n)(h1:n<256):u8.wrap n=n:=by
 obtain⟨m,rfl⟩:=Int.eq_ofNat_of_zero_le h0
 exact fL (by omega)
theorem C4(x:UInt8)(w:World):Calls Tryz.prog 351 #[.int .u8 (x.toNat:Int)] w (bB (fun v _=>v=.int .i64 (ib x)) w):=by
 refine aF (hk:=ar) (n:=500) (args:=[.int .u8 x.toNat false]) ⟨trivial,trivial⟩ ?_
 have hx:=x.toNat_lt
 refine ah (Ow x w) ?_
 have leafD:∀(z:Int) (b:Bool),z=ib x->(T.leaf .ret [.int .i64 z b] (SS.mk [] [] true w [])).holds (c8 Tryz.prog (bH fun v w'=>v=.int .i64 (ib x)/\Below w.heap.size w w')):=fun z b hz=>by
  subst hz
  exact aQ (Fine.start w _) fun β w' _ _=>rfl
 repeat' (refine ak (fun _=>?_) (fun _=>?_))
 all_goals
  refine leafD _ _ ?_
  first
   |(rw[uE (by omega) (by omega),show i64.wrap ((x.toNat:Int)-97)=(x.toNat:Int)-97 from aq (by omega) (by omega),aq (by omega) (by omega)];unfold ib;(repeat' split) <;> omega)
   |(rw[uE (by omega) (by omega),show i64.wrap ((x.toNat:Int)-65)=(x.toNat:Int)-65 from aq (by omega) (by omega),aq (by omega) (by omega)];unfold ib;(repeat' split) <;> omega)
   |(rw[uE (by omega) (by omega),aq (by omega) (by omega)];unfold ib;(repeat' split) <;> omega)
   |(unfold ib;(repeat' split) <;> omega)
end
section
open Go Go.Rx Go.RowKit
def bl(n:Nat):List Nat:=if h:n<16 then[n] else bl (n/16)++[n%16]
termination_by n
decreasing_by omega
theorem dL{n:Nat}(h:n<16):bl n=[n]:=by
 rw[bl];simp[h]
theorem fW{n:Nat}(h:¬n<16):bl n=bl (n/16)++[n%16]:=by
 rw[bl];simp[h]
theorem cE(n:Nat):ax n=(bl n).map ca:=by
 induction n using Nat.strongRecOn with
 |_ n ih=>
  by_cases h:n<16
  ·rw[eL h,dL h];rfl
  ·rw[fK h,fW h,ih _ (by omega)];simp
theorem mn(n:Nat):∀d∈bl n,d<16:=by
 induction n using Nat.strongRecOn with
 |_ n ih=>
  by_cases h:n<16
  ·rw[dL h];simpa using h
  ·rw[fW h]
   intro d hd
   rcases List.mem_append.1 hd with hd |hd
   ·exact ih _ (by omega) d hd
   ·simp at hd;omega
def bX(l:List Nat):Nat:=l.foldl (fun a d=>a*16+d) 0
theorem iC(l:List Nat)(d:Nat):bX (l++[d])=bX l*16+d:=by simp[bX]
theorem y6(n:Nat):bX (bl n)=n:=by
 induction n using Nat.strongRecOn with
 |_ n ih=>
  by_cases h:n<16
  ·rw[dL h];simp[bX]
  ·rw[fW h,iC,ih _ (by omega)];omega
theorem kl:∀(k n:Nat),n<16^(k+1)->(bl n).length<=k+1
 |0,n,h=>by rw[dL (by simpa using h)];simp
 |k+1,n,h=>by
  by_cases h16:n<16
  ·rw[dL h16];simp
  ·rw[fW h16]
   have:=kl k (n/16) (Nat.div_lt_of_lt_mul (by rw[Nat.pow_succ]at h;omega))
   simp
   omega
theorem ny(n:Nat):0<(bl n).length:=by
 by_cases h:n<16
 ·rw[dL h];simp
 ·rw[fW h];simp
theorem oQ:∀(l:List Nat) (a:Nat),(∀d∈l,d<16)->l.foldl (fun a d=>a*16+d) a<(a+1)*16^l.length
 |[],a,_=>by simp
 |d :: l,a,h=>by
  have h1:=oQ l (a*16+d) fun x hx=>h x (List.mem_cons_of_mem _ hx)
  have h2:=h d List.mem_cons_self
  have h3:(a*16+d+1)*16^l.length<=((a+1)*16)*16^l.length:=Nat.mul_le_mul_right _ (by omega)
  rw[List.length_cons,Nat.pow_succ,Nat.mul_comm (16^l.length) 16,<- Nat.mul_assoc]
  exact Nat.lt_of_lt_of_le h1 h3
theorem qO(l:List Nat)(h:∀d∈l,d<16):bX l<16^l.length:=by
 have:=oQ l 0 h
 unfold bX
 simpa using this
theorem iz:∀d:Nat,d<16->ib (ca d)=(d:Int):=by decide
theorem pC:∀d:Nat,d<16->ca d≠58/\ca d≠46/\ca d≠37:=by decide
theorem oK:ib 58 = -1:=by decide
def qx(G:List Nat):List Int:=G.flatMap fun g=>[((g/256:Nat):Int),((g%256:Nat):Int)]
theorem xA(G:List Nat)(g:Nat):qx (G++[g])=qx G++[((g/256:Nat):Int),((g%256:Nat):Int)]:=by simp[qx]
theorem yU(G H:List Nat):qx (G++H)=qx G++qx H:=by simp[qx]
theorem py(G:List Nat):(qx G).length=2*G.length:=by
 induction G with
 |nil=>rfl
 |cons g r ih=>
  have:qx (g :: r)=[((g/256:Nat):Int),((g%256:Nat):Int)]++qx r:=by simp[qx]
  rw[this,List.length_append,ih]
  simp
  omega
def bm:Option (List Nat)->List UInt8
 |none=>[]
 |some B=>58 :: 58 :: jn B
theorem mp(y:Nat)(r:List Nat):∃d t,d<16/\jn (y :: r)=ca d :: t:=by
 have h1:∃d t,d<16/\ax y=ca d :: t:=by
  rw[cE]
  have h2:=mn y
  have h3:=ny y
  cases hd:bl y with
  |nil=>rw[hd]at h3;simp at h3
  |cons d t=>exact⟨d,t.map ca,h2 d (by rw[hd];simp),rfl⟩
 obtain⟨d,t,h2,h3⟩:=h1
 cases r with
 |nil=>exact⟨d,t,h2,by simp[jn,h3]⟩
 |cons z r'=>exact⟨d,t++[58]++jn (z :: r'),h2,by simp[jn,h3]⟩
theorem CU{l A:List Int}{i:Nat}{a b:Int}(hl:l.length=16)(hi:i+2<=16)(h:l.take i=A):((l.set i a).set (i+1) b).take (i+2)=A++[a,b]:=by
 subst h
 rw[show i+2=(i+1)+1 by omega,List.take_add_one,List.take_add_one]
 have e1:((l.set i a).set (i+1) b).take i=l.take i:=by
  rw[List.take_set_of_le (by omega),List.take_set_of_le (by omega)]
 have e2:((l.set i a).set (i+1) b)[i]?=some a:=by
  rw[List.getElem?_set_ne (by omega),List.getElem?_set_self (by omega)]
 have e3:((l.set i a).set (i+1) b)[i+1]?=some b:=by
  rw[List.getElem?_set_self (by simp;omega)]
 rw[e1,e2,e3]
 simp
theorem jE(L:List UInt8)(k:Nat):(⟨L.toArray⟩:ByteArray).extract k (⟨L.toArray⟩:ByteArray).size=⟨(L.drop k).toArray⟩:=by
 apply ByteArray.ext
 rw[ByteArray.data_extract,aC]
 apply Array.ext'
 simp[List.take_of_length_le]
end
section
open Go Go.Rx Go.RowKit
theorem kh{Q:SE->List Value->World->Prop}{s:SS}{w:World}{bs:List Nat}{n0:Nat}{β0:Nat->Nat}{x y:UInt8}{lit:Bool}{k:Int->World->List Nat->T}(hf:KFine bs w s)(hx:x=y)
  (hk:∀w' bs',Keep bs w w'->(∀b∈bs',b∈bs∨w.heap.size<=b)->(k (ib y) w' bs').holds { P:=Tryz.prog,β0:=β0,n0:=n0,Q:=Q }) :
  (T.call 351 [.int .u8 (x.toNat:Int) lit] s Int (fun y=>(.int .i64 y false,s.objs)) k).holds { P:=Tryz.prog,β0:=β0,n0:=n0,Q:=Q }:=by
 subst hx
 refine cj (R:=fun y _ _=>y=ib x) hf (fun y=>⟨rfl,trivial⟩) (fun β w0 hst ho hb=>?_) (fun y w0 w' bs' _ hr _ hb hbs=>by subst hr;exact hk w' bs' hb hbs)
 refine(C4 x w0).mono ?_
 rintro e w' ⟨v,rfl,rfl,hb'⟩
 exact⟨_,rfl,hb',rfl⟩
theorem pG(m:Nat)(hm:1<m):(SV.ptr 0 0).ok m/\(SV.ptr 1 0).ok m:=⟨Nat.lt_trans Nat.zero_lt_one hm,hm⟩
theorem AN(m:Nat):be m gO:=by simp[gO,be,SV.ok]
theorem iM(m:Nat)(q:Nat->Int):be m (cB q):=by simp[cB,be,SV.ok]
theorem aP(l:List Int):(aV l).length=2/\∀o∈aV l,o.ok 2:=⟨rfl,fun o ho=>by
 simp only[aV,List.mem_cons,List.not_mem_nil,or_false]at ho
 rcases ho with rfl |rfl
 ·exact AN 2
 ·exact trivial⟩
theorem dQ(q:Nat->Int):(bT q).length=2/\∀o∈bT q,o.ok 2:=⟨rfl,fun o ho=>by
 simp only[bT,List.mem_cons,List.not_mem_nil,or_false]at ho
 rcases ho with rfl |rfl
 ·exact AN 2
 ·exact iM 2 q⟩
theorem Eb{l:List Int}(h:l.length=16):l=[l.getD 0 0,l.getD 1 0,l.getD 2 0,l.getD 3 0,l.getD 4 0,l.getD 5 0,l.getD 6 0,l.getD 7 0,l.getD 8 0,l.getD 9 0,l.getD 10 0,l.getD 11 0,l.getD 12 0,l.getD 13 0,l.getD 14 0,l.getD 15 0]:=by
 apply List.ext_getElem
 ·simp[h]
 ·intro i h1 h2
  have hi:i<16:=by omega
  have e:l.getD i 0=l[i]:=by simp[List.getD,h1]
  rw[<- e]
  match i,hi with
  |0,_ |1,_ |2,_ |3,_ |4,_ |5,_ |6,_ |7,_ |8,_ |9,_ |10,_ |11,_ |12,_ |13,_ |14,_ |15,_=>rfl
  |n+16,h=>omega
theorem iE{β:Nat->Nat}{l:List Int}{w:World}(h:aH β (aV l) w)(hl:l.length=16):aH β (bT fun j=>l.getD j 0) w:=by
 intro i o hi
 match i,hi with
 |0,hi=>exact h 0 o hi
 |1,hi=>
  have:=h 1 _ rfl
  simp only[bT,List.getElem?_cons_succ,List.getElem?_cons_zero,Option.some.injEq]at hi
  subst hi
  refine⟨[],?_,rfl⟩
  rw[show w.heap[β 1]?=_ from this]
  rw[show af β (cB fun j=>l.getD j 0)=l.map (Value.int .u8) by rw[Eb hl];rfl]
  simp
 |i+2,hi=>simp[bT]at hi
theorem iw{β:Nat->Nat}{q:Nat->Int}{w:World}(h:aH β (bT q) w):aH β (aV [q 0,q 1,q 2,q 3,q 4,q 5,q 6,q 7,q 8,q 9,q 10,q 11,q 12,q 13,q 14,q 15]) w:=by
 intro i o hi
 match i,hi with
 |0,hi=>exact h 0 o hi
 |1,hi=>
  obtain⟨rest,h1,h2⟩:=h 1 _ rfl
  simp only[aV,List.getElem?_cons_succ,List.getElem?_cons_zero,Option.some.injEq]at hi
  subst hi
  have hr:rest=[]:=List.eq_nil_of_length_eq_zero (by have:(cB q).length=16:=rfl;omega)
  subst hr
  show w.heap[β 1]?=_
  rw[h1]
  simp[af,SV.den,cB]
 |i+2,hi=>simp[aV]at hi
def xu(P:List Nat)(Q:Option (List Nat))(z:P6):Prop:=
 z.l.length=16/\∃G R tl,R≠[]/\(∀g∈R++tl.getD [],g<65536)/\z.s=⟨(jn R++bm tl).toArray⟩/\z.i=2*G.length/\z.l.take z.i=qx G/\2*(G.length+R.length+(tl.getD []).length)<=16 /\
  ((tl=Q/\G++R=P/\z.e = -1)∨(tl=none/\∃B,Q=some B/\G++R=P++B/\z.e=((2*P.length:Nat):Int)))
def B3(P:List Nat)(Q:Option (List Nat))(o:O6):Prop:=
 o.s.size=0/\o.i=2*(P++Q.getD []).length/\(∀j,j<o.i->o.q j=(qx (P++Q.getD [])).getD j 0)/\(Q=none->o.e = -1)/\(∀B,Q=some B->o.e=((2*P.length:Nat):Int))
theorem Cp{l:List Int}{n j:Nat}(h:j<n):(l.take n).getD j 0=l.getD j 0:=by
 rw[List.getD_eq_getElem?_getD,List.getD_eq_getElem?_getD,List.getElem?_take_of_lt h]
theorem ES{g:Nat}{R:List Nat}{tl:Option (List Nat)}:∃rest,jn (g :: R)++bm tl=ax g++rest/\((R=[]/\tl=none/\rest=[])∨(R≠[]/\rest=58 :: (jn R++bm tl))∨(∃B,R=[]/\tl=some B/\rest=58 :: 58 :: jn B)):=by
 cases R with
 |nil=>
  cases tl with
  |none=>exact⟨[],by simp[jn,bm],.inl ⟨rfl,rfl,rfl⟩⟩
  |some B=>exact⟨58 :: 58 :: jn B,by simp[jn,bm],.inr (.inr ⟨B,rfl,rfl,rfl⟩)⟩
 |cons y r=>exact⟨58 :: (jn (y :: r)++bm tl),by simp[jn],.inr (.inl ⟨by simp,rfl⟩)⟩
theorem JI(P:List Nat)(Q:Option (List Nat))(β:Nat->Nat)(w0 w1:World)(z:P6)(g:Nat->Value)(hk01:Keep (ac β 2) w0 w1)(hI:xu P Q z) :
  (aO Tryz.prog (Ct z) 1000 301 (av Tryz.prog 301 10) (ay ((yL .normal).zip (gD z)) g 172 0) (fun e a s=>.leaf e (fG yL e a) s) (SS.mk (aV z.l) [] true w1 (ac β 2))).holds
   {P:=Tryz.prog,β0:=β,n0:=2,Q:=sH β (ac β 2) gD (fun z=>aV z.l) (fun z=>16-z.i) (fun z _=>xu P Q z) (.exit 0) ri (fun o=>bT o.q) (fun o _=>B3 P Q o) .ret (fun _:Unit=>[]) (fun _=>bT fun _=>0) (fun _ _=>False) w0 z }:=by
 obtain⟨hl,G,R,tl,hR,hlt,hs,hi,htk,hsz,hph⟩:=hI
 cases R with
 |nil=>exact absurd rfl hR
 |cons g0 R=>
 obtain⟨rest,hrest,hcase⟩:=ES (g:=g0) (R:=R) (tl:=tl)
 rw[hrest]at hs
 have hg0:g0<65536:=hlt g0 (by simp)
 have hDl:(bl g0).length<=4:=kl 3 g0 (by omega)
 have hDp:=ny g0
 have hD16:=mn g0
 have hsize:z.s.size=(bl g0).length+rest.length:=by rw[hs,aC,cE];simp
 simp only[List.length_cons]at hsz
 refine ah (Ob z w1 (ac β 2) g) (ak (fun hi16=>?_) (fun h=>absurd (show(z.i:Int)<16 by omega) h))
 have hget:∀j,(z.s.data.toList.getD j 0)=(ax g0++rest).getD j 0:=fun j=>by rw[hs]
 have hdig:∀j (hj:j<(bl g0).length),(z.s.data.toList.getD j 0)=ca ((bl g0)[j]):=fun j hj=>by
  rw[hget,cE,List.getD_eq_getElem?_getD,List.getElem?_append_left (by simpa using hj),List.getElem?_map,List.getElem?_eq_getElem hj]
  rfl
 have hrest0:∀c r,rest=c :: r->(z.s.data.toList.getD (bl g0).length 0)=c:=fun c r hr=>by
  rw[hget,cE,List.getD_eq_getElem?_getD,List.getElem?_append_right (by simp),hr]
  simp
 have hcolon:rest=[] ∨ ∃r,rest=58 :: r:=by
  rcases hcase with⟨_,_,h⟩ |⟨_,h⟩ |⟨B,_,_,h⟩
  ·exact .inl h
  ·exact .inr ⟨_,h⟩
  ·exact .inr ⟨_,h⟩
 refine lp (w:=w1) (bs:=ac β 2) ⟨rfl,Keep.refl _ _,fun b hb=>.inl hb⟩ rfl 2 rfl tH (ja z) (fun _=>aV z.l) (fun p:Nat×Nat=>5-p.1)
  (fun _ p _=>p.1<=(bl g0).length/\p.2=bX ((bl g0).take p.1)) (fun _ p _=>p=((bl g0).length,g0)) (fun _ _ _=>False) (fun _=>Ct z) 1000
  (by simp) (by simp[tH]) (by simp[tH]) (fun _=>⟨trivial,(pG 2 (by omega)).1,trivial,(pG 2 (by omega)).2,trivial,trivial,trivial,trivial,trivial⟩) (fun _=>aP _) rfl rfl (by simp) (by simp)
  (fun _=>⟨⟨trivial,(pG 2 (by omega)).1,trivial,(pG 2 (by omega)).2,trivial,trivial,trivial,trivial,trivial⟩,aP _⟩) (fun _=>⟨trivial,aP _⟩) ?_ ?_ ?_ ?_
 ·rintro β2 w2 ⟨off,acc⟩ w3 g2 hk12 ⟨hoff,hacc⟩ cz hk13 hblk
  dsimp only at hoff hacc
  have hend:off=(bl g0).length->∀(w4:World) (bs4:List Nat),Keep (ac β2 2) w2 w4->(∀b∈bs4,b∈ac β2 2∨w2.heap.size<=b) ->
    (T.leaf (.exit 2) (ja z (off,acc)) (SS.mk (aV z.l) [] true w4 bs4)).holds { P:=Tryz.prog,β0:=β2,n0:=2,Q:=sH β2 (ac β2 2) (ja z) (fun _=>aV z.l) (fun p:Nat×Nat=>5-p.1) (fun p _=>p.1<=(bl g0).length/\p.2=bX ((bl g0).take p.1)) (.exit 2) (ja z) (fun _=>aV z.l) (fun p _=>p=((bl g0).length,g0)) .ret (fun _:Unit=>[]) (fun _=>aV z.l) (fun _ _=>False) w2 (off,acc) }:=fun he w4 bs4 hk4 hbs4=>by
   refine aJ ⟨rfl,hk4,hbs4⟩ fun β' w' hst hk'=>⟨.inl ⟨(off,acc),rfl,?_,hst.objsAt rfl (aP _).2,?_⟩,hk'⟩
   ·have h0:=hst.base 0 (by show 0<2;omega)
    have h1:=hst.base 1 (by show 1<2;omega)
    simp only[ja,af,SV.den]
    rw[h0,h1]
   ·rw[hacc,he,List.take_of_length_le (Nat.le_refl _),y6]
  refine ah (H6 z (off,acc) w3 (ac β2 2) g2) (ak (fun hlt1=>?_) (fun hge=>?_))
  ·have hlt2:off<z.s.size:=by dsimp only at hlt1;omega
   refine aa (by dsimp only;omega) ?_
   dsimp only
   rcases Nat.lt_or_ge off (bl g0).length with hin |hout
   ·have hd:=hdig off hin
    have hdl:=hD16 _ (List.getElem_mem hin)
    refine kh (y:=ca ((bl g0)[off])) ⟨rfl,Keep.refl _ _,fun b hb=>.inl hb⟩ (by rw[Int.toNat_natCast];exact hd) fun w4 bs4 hk4 hbs4=>?_
    rw[iz _ hdl]
    refine ak (fun _=>?_) (fun h=>absurd (by omega) h)
    refine aa (by omega) ?_
    refine kh (y:=ca ((bl g0)[off])) (w:=w3) (bs:=ac β2 2) ⟨rfl,hk4,hbs4⟩ (by rw[Int.toNat_natCast];exact hd) fun w5 bs5 qR hbs5=>?_
    rw[iz _ hdl]
    refine ak (fun h=>absurd h (by omega)) (fun _=>?_)
    refine aJ ⟨rfl,cz.trans qR,fun b hb=>(hbs5 b hb).imp id (Nat.le_trans cz.size)⟩ fun β' w' hst hk'=>⟨(off+1,bX ((bl g0).take (off+1))),by show 5-(off+1)<5-off;omega,?_,hst.objsAt rfl (aP _).2,⟨by show off+1<=_;omega,rfl⟩,hk'⟩
    have hfl:=qO ((bl g0).take off) fun d hd=>hD16 d (List.mem_of_mem_take hd)
    have hfl2:bX ((bl g0).take off)<65536:=Nat.lt_of_lt_of_le hfl (by
     rw[List.length_take]
     exact Nat.pow_le_pow_right (by omega) (show min off _<=4 by omega))
    have e1:bX ((bl g0).take (off+1))=acc*16+(bl g0)[off]:=by
     rw[List.take_add_one,List.getElem?_eq_getElem hin,hacc]
     exact iC _ _
    have e2:i64.wrap ((acc:Int)*(2:Int)^4)=((acc*16:Nat):Int):=by
     rw[show(acc:Int)*(2:Int)^4=((acc*16:Nat):Int) by rw[Int.natCast_mul];rfl]
     exact aq (by omega) (by omega)
    have e3:i64.wrap (i64.wrap ((acc:Int)*(2:Int)^4)+((bl g0)[off]:Int))=((bX ((bl g0).take (off+1)):Nat):Int):=by
     rw[e1,e2,aq (by omega) (by omega)];omega
    have e4:i64.wrap ((off:Int)+1)=((off+1:Nat):Int):=by rw[aq (by omega) (by omega)];omega
    have h0:=hst.base 0 (by show 0<2;omega)
    have h1:=hst.base 1 (by show 1<2;omega)
    rw[e3,e4]
    simp only[ja,af,SV.den]
    rw[h0,h1]
   ·have he:off=(bl g0).length:=by omega
    obtain⟨r,hr⟩:∃r,rest=58 :: r:=by
     rcases hcolon with h |h
     ·rw[h]at hsize;simp at hsize;omega
     ·exact h
    have hd:=hrest0 58 r hr
    refine kh (y:=58) ⟨rfl,Keep.refl _ _,fun b hb=>.inl hb⟩ (by rw[Int.toNat_natCast,he];exact hd) fun w4 bs4 hk4 hbs4=>?_
    rw[oK]
    refine ak (fun h=>absurd h (by omega)) (fun _=>?_)
    exact hend he w4 bs4 (cz.trans hk4) fun b hb=>(hbs4 b hb).imp id (Nat.le_trans cz.size)
  ·refine hend (by dsimp only at hge;omega) w3 _ cz fun b hb=>.inl hb
 ·intro β2 w2 hst hk12
  exact⟨(0,0),rfl,fun i o hi=>hst.at_ i o hi,Nat.zero_le _,rfl⟩
 ·rintro w2 ⟨off,acc⟩ w3 he hk12 hk13 g2 bs3 hbs3
  simp only[Prod.mk.injEq]at he
  obtain⟨he1,he2⟩:=he
  have he2':=he2.symm
  clear he2
  subst he1 he2'
  have hbl3:∀b∈bs3,b∈ac β 2∨w0.heap.size<=b:=fun b hb=>(hbs3 b hb).1.imp id (Nat.le_trans hk01.size)
  have hk03:Keep (ac β 2) w0 w3:=hk01.trans hk13
  have ei:i64.wrap ((z.i:Int)+2)=((z.i+2:Nat):Int):=by rw[aq (by omega) (by omega)];omega
  have ei1:i64.wrap ((z.i:Int)+1)=((z.i+1:Nat):Int):=by rw[aq (by omega) (by omega)];omega
  have e1:z.s.extract (((bl g0).length:Nat):Int).toNat z.s.size=⟨rest.toArray⟩:=by
   rw[Int.toNat_natCast,hs,jE,cE,<- List.length_map (f:=ca),List.drop_left]
  obtain⟨l',hl'⟩:∃l',l'=(z.l.set (0+(z.i:Int).toNat*1) (u8.wrap ((g0:Int).fdiv ((2:Int)^8)))).set (0+(i64.wrap ((z.i:Int)+1)).toNat*1) (u8.wrap (g0:Int)):=⟨_,rfl⟩
  have hl16:l'.length=16:=by rw[hl'];simp[hl]
  have htk':l'.take (z.i+2)=qx (G++[g0]):=by
   have q1:u8.wrap ((g0:Int).fdiv ((2:Int)^8))=((g0/256:Nat):Int):=by
    rw[show(g0:Int).fdiv ((2:Int)^8)=((g0/256:Nat):Int) by rw[Int.fdiv_eq_ediv_of_nonneg _ (by decide)];rfl]
    exact fL (by omega)
   have q2:u8.wrap (g0:Int)=((g0%256:Nat):Int):=by
    show((g0:Int))%256=_
    omega
   rw[hl',ei1,q1,q2,xA,<- htk]
   simp only[Nat.zero_add,Nat.mul_one,Int.toNat_natCast]
   exact CU hl (by omega) rfl
  have hexit:∀(s':ByteArray) (e':Int),(∀q:Nat->Int,(∀j,j<z.i+2->q j=(qx (G++[g0])).getD j 0)->B3 P Q ⟨s',e',z.i+2,q⟩)->(T.leaf (.exit 0) [.str s' false,.ptr 0 0,.bool false true,.ptr 1 0,.int .i64 e' false,.int .i64 (i64.wrap ((z.i:Int)+2)) false] (SS.mk (aV ((z.l.set (0+(z.i:Int).toNat*1) (u8.wrap ((g0:Int).fdiv ((2:Int)^8)))).set (0+(i64.wrap ((z.i:Int)+1)).toNat*1) (u8.wrap (g0:Int)))) [] true w3 bs3)).holds
    {P:=Tryz.prog,β0:=β,n0:=2,Q:=sH β (ac β 2) gD (fun z=>aV z.l) (fun z=>16-z.i) (fun z _=>xu P Q z) (.exit 0) ri (fun o=>bT o.q) (fun o _=>B3 P Q o) .ret (fun _:Unit=>[]) (fun _=>bT fun _=>0) (fun _ _=>False) w0 z }:=fun s' e' hE=>by
   rw[<- hl',ei]
   refine aJ ⟨rfl,hk03,hbl3⟩ fun β' w' hst hk'=>⟨.inl ⟨⟨s',e',z.i+2,fun j=>l'.getD j 0⟩,rfl,?_,iE (hst.objsAt rfl (aP _).2) hl16,hE _ fun j hj=>?_⟩,hk'⟩
   ·have h0:=hst.base 0 (by show 0<2;omega)
    have h1:=hst.base 1 (by show 1<2;omega)
    simp only[ri,af,SV.den]
    rw[h0,h1]
   ·rw[<- htk',Cp hj]
  have hnext:∀(s':ByteArray) (e':Int),xu P Q ⟨s',e',z.i+2,l'⟩->(T.leaf .normal [.str s' false,.ptr 0 0,.bool false true,.ptr 1 0,.int .i64 e' false,.int .i64 (i64.wrap ((z.i:Int)+2)) false] (SS.mk (aV ((z.l.set (0+(z.i:Int).toNat*1) (u8.wrap ((g0:Int).fdiv ((2:Int)^8)))).set (0+(i64.wrap ((z.i:Int)+1)).toNat*1) (u8.wrap (g0:Int)))) [] true w3 bs3)).holds
    {P:=Tryz.prog,β0:=β,n0:=2,Q:=sH β (ac β 2) gD (fun z=>aV z.l) (fun z=>16-z.i) (fun z _=>xu P Q z) (.exit 0) ri (fun o=>bT o.q) (fun o _=>B3 P Q o) .ret (fun _:Unit=>[]) (fun _=>bT fun _=>0) (fun _ _=>False) w0 z }:=fun s' e' hE=>by
   rw[<- hl',ei]
   refine aJ ⟨rfl,hk03,hbl3⟩ fun β' w' hst hk'=>⟨⟨s',e',z.i+2,l'⟩,by show 16-(z.i+2)<16-z.i;omega,?_,hst.objsAt rfl (aP _).2,hE,hk'⟩
   have h0:=hst.base 0 (by show 0<2;omega)
   have h1:=hst.base 1 (by show 1<2;omega)
   simp only[gD,af,SV.den]
   rw[h0,h1]
  dsimp only
  refine ae (fun h=>by have:=eq_of_beq h;omega) (fun _=>ak (fun hlt2=>?_) (fun hge2=>?_))
  ·obtain⟨r,hr⟩:∃r,rest=58 :: r:=by
    rcases hcolon with h |h
    ·rw[h]at hsize;simp at hsize;omega
    ·exact h
   have hrl:rest.length=r.length+1:=by rw[hr];rfl
   have hsz1:(z.s.extract (((bl g0).length:Nat):Int).toNat z.s.size).size=r.length+1:=by rw[e1,aC,hrl]
   refine aa (by omega) (ae (fun h46=>?_) (fun _=>?_))
   ·have:=hrest0 58 r hr
    rw[Int.toNat_natCast,this]at h46
    simp at h46
   refine aa (by omega) (aa (by simp;omega) (aa rfl (aa (by omega) (aa (by rw[ei1];simp;omega) (aa rfl (aa (by omega) ?_))))))
   have e2:(z.s.extract (((bl g0).length:Nat):Int).toNat z.s.size).extract 1 (z.s.extract (((bl g0).length:Nat):Int).toNat z.s.size).size=⟨r.toArray⟩:=by
    rw[e1,jE,hr];rfl
   refine ae (fun h=>by rw[hsz1]at h;have:=eq_of_beq h;omega) (fun _=>aa (by rw[hsz1];omega) (ae (fun hne=>?_) (fun _=>ae (fun h1=>?_) (fun h1=>?_))))
   ·have hne2:(((((z.s.extract (((bl g0).length:Nat):Int).toNat z.s.size).data.toList.getD 0 0).toNat:Nat):Int) != 58)=true:=hne
    rw[e1,hr]at hne2
    simp at hne2
   ·rw[hsz1]at h1
    have hr0:r=[]:=List.eq_nil_of_length_eq_zero (by have:=eq_of_beq h1;omega)
    subst hr0
    rcases hcase with⟨_,_,h⟩ |⟨hne,h⟩ |⟨B,_,_,h⟩
    ·rw[hr]at h;simp at h
    ·rw[hr]at h
     cases R with
     |nil=>exact absurd rfl hne
     |cons y R'=>
      obtain⟨d,t,_,hd⟩:=mp y R'
      rw[hd]at h
      simp at h
    ·rw[hr]at h;simp at h
   have hr1:1<=r.length:=by
    rcases Nat.eq_zero_or_pos r.length with h |h
    ·rw[hsz1,h]at h1;simp at h1
    ·exact h
   have hsz2:((z.s.extract (((bl g0).length:Nat):Int).toNat z.s.size).extract 1 (z.s.extract (((bl g0).length:Nat):Int).toNat z.s.size).size).size=r.length:=by rw[e2,aC]
   refine aa (by rw[hsz1];omega) (aa (by rw[hsz2];omega) (ae (fun h58=>?_) (fun h58=>?_)))
   ·have h58':((((((z.s.extract (((bl g0).length:Nat):Int).toNat z.s.size).extract 1 (z.s.extract (((bl g0).length:Nat):Int).toNat z.s.size).size).data.toList.getD 0 0).toNat:Nat):Int) == 58)=true:=h58
    rw[e2]at h58'
    rcases hcase with⟨_,_,h⟩ |⟨hne,h⟩ |⟨B,hR0,htl,h⟩
    ·rw[hr]at h;simp at h
    ·rw[hr]at h
     cases R with
     |nil=>exact absurd rfl hne
     |cons y R'=>
      obtain⟨d,t,hd1,hd⟩:=mp y R'
      rw[hd]at h
      simp only[List.cons.injEq,true_and,List.cons_append]at h
      rw[h]at h58'
      have h5:(((ca d).toNat:Nat):Int)=58:=by simpa using h58'
      have h6:=(pC d hd1).1
      exact absurd (UInt8.toNat_inj.1 (by show(ca d).toNat=58;omega)) h6
    ·subst hR0 htl
     have hrB:r=58 :: jn B:=by rw[hr]at h;simpa using h
     rcases hph with⟨hQ,hP,he⟩ |⟨h,_⟩
     ·refine ak (fun h=>absurd h (by omega)) (fun _=>aa (by rw[hsz2];omega) ?_)
      have e3:((z.s.extract (((bl g0).length:Nat):Int).toNat z.s.size).extract 1 (z.s.extract (((bl g0).length:Nat):Int).toNat z.s.size).size).extract 1 ((z.s.extract (((bl g0).length:Nat):Int).toNat z.s.size).extract 1 (z.s.extract (((bl g0).length:Nat):Int).toNat z.s.size).size).size=⟨(jn B).toArray⟩:=by
       rw[e2,jE,hrB];rfl
      have hlP:z.i+2=2*P.length:=by rw[<- hP];simp;omega
      refine ae (fun hz=>hexit _ _ fun q hq=>?_) (fun hz=>hnext _ _ ?_)
      ·have hz':(jn B).length=0:=by rw[e3,aC]at hz;have:=eq_of_beq hz;omega
       have hB:B=[]:=by
        cases B with
        |nil=>rfl
        |cons y B'=>
         obtain⟨d,t,_,hd⟩:=mp y B'
         rw[hd]at hz'
         simp at hz'
       subst hB
       refine⟨by rw[e3,aC];exact hz',?_,?_,fun h=>?_,fun B' h=>?_⟩
       ·rw[<- hQ];simpa using hlP
       ·rw[<- hQ]
        simpa [hP] using hq
       ·rw[<- hQ]at h;cases h
       ·show i64.wrap ((z.i:Int)+2)=_
        rw[ei,hlP]
      ·have hB:B≠[]:=fun hB=>by
        subst hB
        rw[e3]at hz
        simp[jn,ByteArray.size]at hz
       refine⟨hl16,G++[g0],B,none,hB,?_,?_,by show z.i+2=_;simp;omega,htk',?_,.inr ⟨rfl,B,hQ.symm,by rw[hP],?_⟩⟩
       ·intro g hg
        exact hlt g (by simp at hg ⊢;exact .inr hg)
       ·rw[e3];simp[bm]
       ·simp at hsz ⊢;omega
       ·show i64.wrap ((z.i:Int)+2)=_
        rw[ei,hlP]
     ·cases h
   ·have h58':((((((z.s.extract (((bl g0).length:Nat):Int).toNat z.s.size).extract 1 (z.s.extract (((bl g0).length:Nat):Int).toNat z.s.size).size).data.toList.getD 0 0).toNat:Nat):Int) == 58)=false:=h58
    rw[e2]at h58'
    rcases hcase with⟨_,_,h⟩ |⟨hne,h⟩ |⟨B,hR0,htl,h⟩
    ·rw[hr]at h;simp at h
    ·refine hnext _ _ ⟨hl16,G++[g0],R,tl,hne,fun g hg=>hlt g (by simp at hg ⊢;exact .inr hg),?_,by show z.i+2=_;simp;omega,htk',by simp;omega,?_⟩
     ·rw[e2]
      rw[hr]at h
      simp only[List.cons.injEq,true_and]at h
      rw[h]
     ·rcases hph with⟨h1,h2,h3⟩ |⟨h1,B,h2,h3,h4⟩
      ·exact .inl ⟨h1,by rw[<- h2];simp,h3⟩
      ·exact .inr ⟨h1,B,h2,by rw[<- h3];simp,h4⟩
    ·rw[hr]at h
     simp only[List.cons.injEq,true_and]at h
     rw[h]at h58'
     simp at h58'
  ·have hr0:rest=[]:=List.eq_nil_of_length_eq_zero (by omega)
   refine aa (by omega) (aa (by simp;omega) (aa rfl (aa (by omega) (aa (by rw[ei1];simp;omega) (aa rfl (aa (by omega) ?_))))))
   have hsz1:(z.s.extract (((bl g0).length:Nat):Int).toNat z.s.size).size=0:=by rw[e1,aC,hr0];rfl
   refine ae (fun _=>hexit _ _ fun q hq=>?_) (fun h=>by rw[hsz1]at h;simp at h)
   rcases hcase with⟨hR0,htl,_⟩ |⟨hne,h⟩ |⟨B,hR0,htl,h⟩
   ·subst hR0 htl
    rcases hph with⟨h1,h2,h3⟩ |⟨_,B,h2,h3,h4⟩
    ·subst h1
     refine⟨hsz1,?_,?_,fun _=>h3,fun B h=>by cases h⟩
     ·show z.i+2=2*(P++[]).length
      rw[<- h2];simp;omega
     ·simpa [<- h2] using hq
    ·subst h2
     refine⟨hsz1,?_,?_,fun h=>(by cases h),fun B' h=>by cases h;exact h4⟩
     ·show z.i+2=2*(P++B).length
      rw[<- h3];simp;omega
     ·simpa [<- h3] using hq
   ·rw[hr0]at h;simp at h
   ·rw[hr0]at h;simp at h
 ·rintro w2 p w3 h
  exact h.elim
end
end Go.Proofs.YtnklanajebphpaaGreatDoor
