/- Joined texts: RxR RxS RxT RxU RxV RxW RxX M0. -/
import Derived.Test.YtnklanajebphpaaGreatDoorW1
import Derived.Laws.Append
set_option maxRecDepth 100000
set_option maxHeartbeats 4000000
set_option linter.unusedVariables false
set_option linter.unusedSimpArgs false
namespace Go.Rx
open IntKind
section
open Go.RowKit
structure Keep (bs:List Nat) (w w':World):Prop where
 os:w'.os=w.os
 tape:w'.tape=w.tape
 output:w'.output=w.output
 size:w.heap.size<=w'.heap.size
 block:∀b,b<w.heap.size->b ∉ bs->w'.heap[b]?=w.heap[b]?
theorem Keep.refl(bs:List Nat)(w:World):Keep bs w w:=⟨rfl,rfl,rfl,Nat.le_refl _,fun _ _ _=>rfl⟩
theorem Keep.trans{bs:List Nat}{a b c:World}(h:Keep bs a b)(k:Keep bs b c):Keep bs a c:=
 ⟨k.os.trans h.os,k.tape.trans h.tape,k.output.trans h.output,Nat.le_trans h.size k.size,fun i hi hn=>(k.block i (Nat.lt_of_lt_of_le hi h.size) hn).trans (h.block i hi hn)⟩
theorem Keep.below{bs:List Nat}{B:Nat}{w w0 w':World}(h:Keep bs w0 w')(h0:Below B w w0)(hB:B<=w.heap.size)(hb:∀b∈bs,B<=b):Below B w w':=
 ⟨h.os.trans h0.os,h.tape.trans h0.tape,h.output.trans h0.output,Nat.le_trans h0.size h.size,
  fun i hi=>(h.block i (Nat.lt_of_lt_of_le (Nat.lt_of_lt_of_le hi hB) h0.size) (fun hm=>by have:=hb i hm;omega)).trans (h0.block i hi)⟩
theorem Below.keep{w w':World}(h:Below w.heap.size w w')(bs:List Nat):Keep bs w w':=⟨h.os,h.tape,h.output,h.size,fun b hb _=>h.block b hb⟩
def aJ(β:Nat->Nat)(objs:List SObj)(w:World):Prop:=∀(i:Nat) (o:SObj),objs[i]?=some o->o.At β w.heap[β i]?
structure KFine (bs:List Nat) (w:World) (s:SS):Prop where
 ext:s.ext=true
 keep:Keep bs w s.w0
 pre:∀b∈s.pre,b∈bs∨w.heap.size<=b
section
variable {Γ:Ctx}{s:SS}{w:World}{bs:List Nat}
theorem Old.keepK{β:Nat->Nat}{w':World}(h:Old β s w')(hf:KFine bs w s):Keep bs w w' where
 os:=h.os.trans hf.keep.os
 tape:=h.tape.trans hf.keep.tape
 output:=h.out.trans hf.keep.output
 size:=Nat.le_trans hf.keep.size h.sz
 block b hb hn:=by
  have h1:=h.heap (b:=b) (Nat.lt_of_lt_of_le hb hf.keep.size) (fun hm=>by
   rcases hf.pre b hm with h2 |h2
   ·exact hn h2
   ·omega)
  exact h1.trans (hf.keep.block b hb hn)
theorem aM{e:SE}{vs:List SV}(hf:KFine bs w s)(h:∀β w',St Γ β s w'->Keep bs w w'->Γ.Q e (ae β vs) w'):(T.leaf e vs s).holds Γ:=
 fun β w' hs _=>h β w' hs ((hs.old hf.ext).keepK hf)
theorem f9{β:Nat->Nat}{w':World}(o:Old β s w')(hf:KFine bs w s):∀b∈ac β s.n,b∈bs∨w.heap.size<=b:=by
 intro b hb
 simp only[ac,List.mem_map,List.mem_range]at hb
 obtain⟨i,hi,rfl⟩:=hb
 by_cases hl:i<s.pre.length
 ·have h1:=o.pre i _ (List.getElem?_eq_getElem hl)
  rw[h1]
  exact hf.pre _ (List.getElem_mem hl)
 ·have:=o.new i (by omega) hi
  have:=hf.keep.size
  exact .inr (by omega)
theorem bZ{f:FuncId}{args:List SV}{X:Type}{out:X->SV×List SObj}{k:X->World->List Nat->T}{R:X->World->World->Prop}(hf:KFine bs w s)
  (hout:∀x,(out x).2=s.objs/\(out x).1.ok s.n)
  (hc:∀β w0,St Γ β s w0->Old β s w0->Keep bs w w0->Calls Γ.P f (ae β args).toArray w0 fun e w'=>∃x,e=.returned ((out x).1.den β)/\Below w0.heap.size w0 w'/\R x w0 w')
  (hk:∀x w0 w' bs',Keep bs w w0->R x w0 w'->Below w0.heap.size w0 w'->Keep bs w w'->(∀b∈bs',b∈bs∨w.heap.size<=b)->(k x w' bs').holds Γ):(T.call f args s X out k).holds Γ:=by
 intro β w0 hs hargs
 have o:=hs.old hf.ext
 have hbw:=o.keepK hf
 refine(hc β w0 hs o hbw).mono ?_
 rintro e w' ⟨x,rfl,hb,hr⟩
 obtain⟨ho1,ho2⟩:=hout x
 refine⟨x,β,ac β s.n,rfl,⟨?_,?_,fun _ _=>rfl⟩,?_,hk x w0 w' _ hbw hr hb (hbw.trans (Below.keep hb bs)) (f9 o hf)⟩
 ·rw[ho1];exact hs.rebase hb
 ·simp[iV,SS.n,ho1]
 ·rw[ho1];exact ho2
end
def rI{α X Y:Type}(β:Nat->Nat)(bs:List Nat)(svs:α->List SV)(objs:α->List SObj)(μ:α->Nat)(I:α->World->Prop)(e₁:SE)(f:X->List SV)(o:X->List SObj)(E₁:X->World->Prop)
  (e₂:SE) (f':Y->List SV) (o':Y->List SObj) (E₂:Y->World->Prop) (w:World) (x:α):SE->List Value->World->Prop:=fun e lv w'=>
 match e with
 | .normal=>∃y,μ y<μ x/\lv=ae β (svs y)/\aJ β (objs y) w'/\I y w'/\Keep bs w w'
 |e=>((∃z,e=e₁/\lv=ae β (f z)/\aJ β (o z) w'/\E₁ z w')∨(∃z,e=e₂/\lv=ae β (f' z)/\aJ β (o' z) w'/\E₂ z w'))/\Keep bs w w'
def bv(N:Nat)(X:Type)(e:SE)(sl:List Nat)(f:X->List SV)(o:X->List SObj)(Y:Type)(e':SE)(sl':List Nat)(f':Y->List SV)(o':Y->List SObj):LoopHook where
 X:=X×(Nat->Value)
 out:=fun _ _ x=>(e,az (sl.zip (f x.1)) x.2 N 0,o x.1)
 Y:=Y×(Nat->Value)
 out':=fun _ _ x=>(e',az (sl'.zip (f' x.1)) x.2 N 0,o' x.1)
theorem pc{m:Nat}{slots:List Nat}{svs:List SV}(h:bf m svs)(g:Nat->Value)(n i:Nat):bf m (az (slots.zip svs) g n i):=
 ii (tC h) g n i
theorem St.head{P:Program}{β:Nat->Nat}{Q:SE->List Value->World->Prop}{objs:List SObj}{w:World}{m:Nat}(hm:objs.length=m)(hlt:∀i,i<m->β i<w.heap.size)
  (hinj:∀i j,i<m->j<m->β i=β j->i=j) (hat:aJ β objs w) (hok:∀o∈objs,o.ok m) :
  St { P:=P,β0:=β,n0:=m,Q:=Q } β (SS.mk objs [] true w (ac β m)) w where
 lt i hi:=hlt i (by simpa [SS.n,hm] using hi)
 inj i j hi hj:=hinj i j (by simpa [SS.n,hm] using hi) (by simpa [SS.n,hm] using hj)
 at_:=hat
 ok i o ho:=by
  simp only[SS.n,hm]
  exact hok o (List.mem_of_getElem? ho)
 gl p hp:=by simp at hp
 old _:=
      {fr:=fun _ _ _=>rfl,sz:=Nat.le_refl _,tape:=rfl,os:=rfl,out:=rfl,
       pre:=fun i b hi=>by
        simp only[ac,List.getElem?_map]at hi
        cases hr:(List.range m)[i]? with
        |none=>rw[hr]at hi;simp at hi
        |some j=>
         rw[hr]at hi
         obtain⟨hlt,he⟩:=List.getElem?_eq_some_iff.1 hr
         simp at he
         subst he
         simpa using hi
       pren:=by simp[ac,SS.n,hm]
       new:=fun i hi hin=>by simp[ac,SS.n,hm]at hi hin;omega }
 base i hi:=rfl
 n0:=by simp[SS.n,hm]
theorem St.objsAt{P:Program}{β β':Nat->Nat}{Q:SE->List Value->World->Prop}{s:SS}{w:World}{m:Nat}(h:St { P:=P,β0:=β,n0:=m,Q:=Q } β' s w){objs:List SObj}(ho:s.objs.take m=objs)(hok:∀o∈objs,o.ok m) :
  aJ β objs w:=by
 intro i o hi
 have hi':i<m:=by
  have:=(List.getElem?_eq_some_iff.1 hi).1
  rw[<- ho]at this
  simp at this
  omega
 have hb:β' i=β i:=h.base i hi'
 have h1:s.objs[i]?=some o:=by
  rw[<- ho,List.getElem?_take_of_lt hi']at hi
  exact hi
 have h2:=h.at_ i o h1
 rw[hb]at h2
 exact SObj.At_agree (n:=m) (fun j hj=>(h.base j hj).symm) (hok o (List.mem_of_getElem? hi)) h2
theorem iJ{P:Program}{β0:Nat->Nat}{n0:Nat}{Q:SE->List Value->World->Prop}{s:SS}{w:World}{f₁:FuncId}{body:Code}{a:List SV}{a0:List SV}{s0:SS}
  {N:Nat}{X:Type}{e₁:SE}{sl:List Nat}{f:X->List SV}{o:X->List SObj}{Y:Type}{e₂:SE}{sl':List Nat}{f':Y->List SV}{o':Y->List SObj}
  {k:X×(Nat->Value)->World->List Nat->T}{k':Y×(Nat->Value)->World->List Nat->T}(hf:Fine w s) (hgl:s.gl=[]) (m:Nat) (hm:s.n=m)
  (L:SE->List Nat) {α:Type}(svs:α->List SV) (objs:α->List SObj) (μ:α->Nat) (I:World->α->World->Prop) (E₁:World->X->World->Prop) (E₂:World->Y->World->Prop) (hk:α->Hooks) (fuel:Nat) (hN:a.length=N)
  (hL:∀i∈L .normal,i<N) (hd:(L .normal).Nodup) (hok:∀x,bf m (svs x)) (hobjs:∀x,(objs x).length=m/\∀o∈objs x,o.ok m)
  (h1:L e₁=sl) (h2:L e₂=sl') (hl1:∀i∈sl,i<N) (hl2:∀i∈sl',i<N) (hf1:∀x,bf m (f x)/\(o x).length=m/\∀u∈o x,u.ok m) (hf2:∀x,bf m (f' x)/\(o' x).length=m/\∀u∈o' x,u.ok m)
  (hround:∀β w0 x w1 g,Below w.heap.size w w0->I w0 x w1->Keep (ac β m) w0 w1->(∀i,i<m->w.heap.size<=β i) ->
   (aK P (hk x) fuel f₁ body (az ((L .normal).zip (svs x)) g N 0) (fun e a s=>.leaf e (ep L e a) s) (SS.mk (objs x) [] true w1 (ac β m))).holds
    {P:=P,β0:=β,n0:=m,Q:=rI β (ac β m) svs objs μ (I w0) e₁ f o (E₁ w0) e₂ f' o' (E₂ w0) w0 x })
  (hstart:∀β w0,St { P:=P,β0:=β0,n0:=n0,Q:=Q } β s w0->Below w.heap.size w w0->∃x,f6 L .normal (ae β a)=ae β (svs x)/\aJ β (objs x) w0/\I w0 x w0)
  (hend₁:∀w0 x w',E₁ w0 x w'->Below w.heap.size w w0->Below w.heap.size w w'->∀g bs,(∀b∈bs,w.heap.size<=b)->(k (x,g) w' bs).holds { P:=P,β0:=β0,n0:=n0,Q:=Q })
  (hend₂:∀w0 x w',E₂ w0 x w'->Below w.heap.size w w0->Below w.heap.size w w'->∀g bs,(∀b∈bs,w.heap.size<=b)->(k' (x,g) w' bs).holds { P:=P,β0:=β0,n0:=n0,Q:=Q }) :
  (T.loop f₁ body a s (LoopHook.X (bv N X e₁ sl f o Y e₂ sl' f' o')) (LoopHook.out (bv N X e₁ sl f o Y e₂ sl' f' o') a0 s0) k
   (LoopHook.Y (bv N X e₁ sl f o Y e₂ sl' f' o')) (LoopHook.out' (bv N X e₁ sl f o Y e₂ sl' f' o') a0 s0) k').holds { P:=P,β0:=β0,n0:=n0,Q:=Q }:=by
 subst hN h1 h2 hm
 intro β w0 hs ha
 have od:=hs.old hf.ext
 have hbw:=od.belowB hf.below (Nat.le_refl _) hf.pre
 have hz:=hbw.size
 have hbs:=dx od hf.below (Nat.le_refl _) hf.pre
 have hge:∀i,i<s.n->w.heap.size<=β i:=fun i hi=>hbs _ (by simp only[ac,List.mem_map,List.mem_range];exact⟨i,hi,rfl⟩)
 obtain⟨x0,hx0,hat0,hI0⟩:=hstart β w0 hs hbw
 have hlw:=pb (P:=P) (body:=body) (L:=L) (N:=a.length)
  (J:=fun n lv w'=>∃x,n=μ x/\lv=ae β (svs x)/\aJ β (objs x) w'/\I w0 x w'/\Keep (ac β s.n) w0 w')
  (QX:=fun e lv w'=>((∃z,e=e₁/\lv=ae β (f z)/\aJ β (o z) w'/\E₁ w0 z w')∨(∃z,e=e₂/\lv=ae β (f' z)/\aJ β (o' z) w'/\E₂ w0 z w'))/\Keep (ac β s.n) w0 w')
  (by
   rintro n lv w1 ⟨x,rfl,rfl,hat,hI,hkp⟩ _
   refine⟨hk x,fuel,f₁,β,s.n,svs x,SS.mk (objs x) [] true w1 (ac β s.n),β,rfl,?_,?_,fun g=>?_⟩
   ·exact St.head (hobjs x).1 (fun i hi=>Nat.lt_of_lt_of_le (hs.lt i hi) hkp.size) hs.inj hat (hobjs x).2
   ·have:(SS.mk (objs x) [] true w1 (ac β s.n)).n=s.n:=(hobjs x).1
    rw[this];exact hok x
   ·have h:=hround β w0 x w1 g hbw hI hkp hge
    have e1:fH (fun n lv w'=>∃x,n=μ x/\lv=ae β (svs x)/\aJ β (objs x) w'/\I w0 x w'/\Keep (ac β s.n) w0 w')
      (fun e lv w'=>((∃z,e=e₁/\lv=ae β (f z)/\aJ β (o z) w'/\E₁ w0 z w')∨(∃z,e=e₂/\lv=ae β (f' z)/\aJ β (o' z) w'/\E₂ w0 z w'))/\Keep (ac β s.n) w0 w') (μ x) =
      rI β (ac β s.n) svs objs μ (I w0) e₁ f o (E₁ w0) e₂ f' o' (E₂ w0) w0 x:=by
     funext e lv w'
     cases e with
     |normal=>
      simp only[fH,rI,eq_iff_iff]
      constructor
      ·rintro⟨n',hn,y,rfl,h1,h2,h3,h4⟩;exact⟨y,hn,h1,h2,h3,h4⟩
      ·rintro⟨y,hn,h1,h2,h3,h4⟩;exact⟨_,hn,y,rfl,h1,h2,h3,h4⟩
     |exit i=>rfl
     |goto i=>rfl
     |ret=>rfl
    rw[e1]
    exact h)
  hL hd (μ x0) _ w0 (av β a) ⟨x0,rfl,hx0,hat0,hI0,Keep.refl _ _⟩
 refine Code.wp_mono ?_ (LW.loop hlw)
 rintro e a' w' ⟨e',vs',rfl,rfl,hlen,hq,hkp⟩
 have hb':Below w.heap.size w w':=hkp.below hbw (Nat.le_refl _) hbs
 have fin:∀objs':List SObj,objs'.length=s.n->(∀u∈objs',u.ok s.n)->aJ β objs' w'->St { P:=P,β0:=β0,n0:=n0,Q:=Q } β (iV s objs' w' (ac β s.n)) w':=by
  intro objs' hl hoks hat
  have hn:(iV s objs' w' (ac β s.n)).n=s.n:=hl
  exact
     {lt:=fun i hi=>Nat.lt_of_lt_of_le (hs.lt i (by rw[hn]at hi;exact hi)) hkp.size
      inj:=fun i j hi hj=>hs.inj i j (by rw[hn]at hi;exact hi) (by rw[hn]at hj;exact hj)
      at_:=hat
      ok:=fun i u hu=>by rw[hn];exact hoks u (List.mem_of_getElem? hu)
      gl:=fun p hp=>by rw[show(iV s objs' w' (ac β s.n)).gl=s.gl from rfl,hgl]at hp;simp at hp
      old:=fun _=>
              {fr:=fun _ _ _=>rfl,sz:=Nat.le_refl _,tape:=rfl,os:=rfl,out:=rfl,
               pre:=fun i b hi=>by
                simp only[iV,ac,List.getElem?_map]at hi
                cases hr:(List.range s.n)[i]? with
                |none=>rw[hr]at hi;simp at hi
                |some j=>
                 rw[hr]at hi
                 obtain⟨hlt,he⟩:=List.getElem?_eq_some_iff.1 hr
                 simp at he
                 subst he
                 simpa using hi
               pren:=by rw[hn];simp[iV,ac]
               new:=fun i hi hin=>by rw[hn]at hin;simp[iV,ac]at hi;omega }
      base:=hs.base
      n0:=by rw[hn];exact hs.n0 }
 rcases hq with⟨x,rfl,hlv,hat,hE⟩ |⟨x,rfl,hlv,hat,hE⟩
 ·obtain⟨g1,g2,g3⟩:=hf1 x
  refine .inl ⟨(x,fun i=>vs'.getD i undef),β,ac β s.n,rfl,?_,⟨fin _ g2 g3 hat,?_,fun _ _=>rfl⟩,?_,bS _ _ _ _,hend₁ w0 x w' hE hbw hb' _ _ hbs⟩
  ·rw[dq]
   congr 1
   exact eR hlen hlv hl1
  ·show s.n<=(o x).length
   omega
  ·show bf (o x).length _
   rw[g2]
   exact pc g1 _ _ _
 ·obtain⟨g1,g2,g3⟩:=hf2 x
  refine .inr ⟨(x,fun i=>vs'.getD i undef),β,ac β s.n,rfl,?_,⟨fin _ g2 g3 hat,?_,fun _ _=>rfl⟩,?_,bS _ _ _ _,hend₂ w0 x w' hE hbw hb' _ _ hbs⟩
  ·rw[dq]
   congr 1
   exact eR hlen hlv hl2
  ·show s.n<=(o' x).length
   omega
  ·show bf (o' x).length _
   rw[g2]
   exact pc g1 _ _ _
end
section
open Go.RowKit
def Fresh(w:World)(A:Option Addr):Prop:=∀a,A=some a->w.heap.size<=a.block
section
variable {Γ:Ctx}{s:SS}{w:World}
theorem Fine.new{β:Nat->Nat}{w':World}(hf:Fine w s)(o:Old β s w'):∀i,i<s.n->w.heap.size<=β i:=fun i hi=>
 dx o hf.below (Nat.le_refl _) hf.pre _ (by simp only[ac,List.mem_map,List.mem_range];exact⟨i,hi,rfl⟩)
theorem dJ{f:FuncId}{args:List SV}{X:Type}{out:X->SV×List SObj}{k:X->World->List Nat->T}{R:X->World->World->Prop}(hf:Fine w s)
  (hout:∀x,(out x).2=s.objs/\(out x).1.ok s.n)
  (hc:∀β w0,St Γ β s w0->Old β s w0->Below w.heap.size w w0->Calls Γ.P f (ae β args).toArray w0 fun e w'=>∃x,e=.returned ((out x).1.den β)/\Below w0.heap.size w0 w'/\R x w0 w')
  (hk:∀x w0 w' bs,Below w.heap.size w w0->R x w0 w'->Below w0.heap.size w0 w'->Below w.heap.size w w'->(∀b∈bs,w.heap.size<=b/\b<w0.heap.size)->(k x w' bs).holds Γ):(T.call f args s X out k).holds Γ:=by
 intro β w0 hs hargs
 have o:=hs.old hf.ext
 have hbw:=o.belowB hf.below (Nat.le_refl _) hf.pre
 refine(hc β w0 hs o hbw).mono ?_
 rintro e w' ⟨x,rfl,hb,hr⟩
 obtain⟨ho1,ho2⟩:=hout x
 have hz:=hbw.size
 refine⟨x,β,ac β s.n,rfl,⟨?_,?_,fun _ _=>rfl⟩,?_,hk x w0 w' _ hbw hr hb (hbw.trans (hb.mono hz)) ?_⟩
 ·rw[ho1];exact hs.rebase hb
 ·simp[iV,SS.n,ho1]
 ·rw[ho1];exact ho2
 ·intro b hb
  refine⟨dx o hf.below (Nat.le_refl _) hf.pre b hb,?_⟩
  simp only[ac,List.mem_map,List.mem_range]at hb
  obtain⟨i,hi,rfl⟩:=hb
  exact hs.lt i hi
end
theorem Bts.canBytesN{w:World}{B:Nat}{A:Option Addr}{n:Nat}{l:List UInt8}(h:Bts w B A n l)(hB:B<=w.heap.size){pre:List Nat}(hp:∀a,A=some a->a.block ∉ pre):Rx.canBytes w pre A n:=by
 rcases Nat.eq_zero_or_pos n with h0 |h0
 ·exact .inl h0
 ·obtain⟨a,ha,hb,hx⟩:=h.2 h0
  refine .inr ⟨a,ha,by omega,hp a ha,fun i hi=>?_⟩
  have hl:i<l.length:=by have:=h.1;omega
  have:=hx i _ (List.getElem?_eq_getElem hl)
  rw[Nat.mul_one]at this
  exact⟨_,this⟩
theorem Fresh.notin{w:World}{A:Option Addr}(h:Fresh w A){bs:List Nat}(hbs:∀b∈bs,b<w.heap.size):∀a,A=some a->a.block ∉ bs:=fun a ha hm=>by
 have:=h a ha
 have:=hbs _ hm
 omega
theorem Old.bts{β:Nat->Nat}{s:SS}{w:World}(o:Old β s w){A:Option Addr}{n B:Nat}{l:List UInt8}(h:Bts s.w0 B A n l)(hB:B<=s.w0.heap.size)(hp:∀a,A=some a->a.block ∉ s.pre):Bts w B A n l:=by
 refine⟨h.1,fun hn=>?_⟩
 obtain⟨a,ha,hb,hx⟩:=h.2 hn
 refine⟨a,ha,hb,fun i x hi=>?_⟩
 have h1:=o.heap (b:=a.block) (by omega) (hp a ha)
 have h2:=hx i x hi
 simp only[World.cell?,aD,h1]at h2 ⊢
 exact h2
theorem Bts.mono{w:World}{A:Option Addr}{n B B':Nat}{l:List UInt8}(h:Bts w B A n l)(hB:B<=B'):Bts w B' A n l:=h.imp hB fun _ _ _ hx=>hx
theorem Fresh.mono{w w':World}{A:Option Addr}(h:Fresh w' A)(hz:w.heap.size<=w'.heap.size):Fresh w A:=fun a ha=>Nat.le_trans hz (h a ha)
theorem cp{w:World}{b k B:Nat}{L:List Int}{e:TypeId}{fr:Nat×Nat}(h:w.heap[b]?=some (.cells (L.map (Value.int .u8)).toArray e fr))(hL:∀v∈L,0<=v/\v<256)(hk:k<=L.length)(hB:b<B) :
  Bts w B (some ⟨b,0,none⟩) k ((L.take k).map fun v=>UInt8.ofNat v.toNat):=by
 refine⟨by simp;omega,fun _=>⟨_,rfl,hB,fun i x hx=>?_⟩⟩
 rw[Nat.mul_one]
 simp only[List.getElem?_map,Option.map_eq_some_iff]at hx
 obtain⟨v,hv,rfl⟩:=hx
 rw[List.getElem?_take]at hv
 split at hv
 ·have hm:=hL v (List.mem_of_getElem? hv)
  have ha:(Addr.add ⟨b,0,none⟩ i)=⟨b,i,none⟩:=by unfold Addr.add;split <;> simp_all
  rw[ha]
  simp only[World.cell?,h]
  simp[hv]
  omega
 ·simp at hv
end
section
open Go.RowKit
def AccAt(w0 w':World)(et:TypeId)(size:Nat)(A:Option Addr)(k c:Nat)(Ls:List Value):Prop:=
 (A=none/\k=0/\c=0/\Ls=[]) ∨
 ∃b,A=some ⟨b,0,none⟩/\w0.heap.size<=b/\b<w'.heap.size/\Ls.length=k*size/\k<=c/\∃rest,w'.heap[b]?=some (.cells (Ls++rest).toArray et (0,0))/\Ls.length+rest.length=c*size
theorem AccAt.len{w0 w':World}{et:TypeId}{size:Nat}{A:Option Addr}{k c:Nat}{Ls:List Value}(h:AccAt w0 w' et size A k c Ls):Ls.length=k*size:=by
 rcases h with⟨_,rfl,_,rfl⟩ |⟨b,_,_,_,h,_⟩
 ·simp
 ·exact h
theorem AccAt.fresh{w0 w':World}{et:TypeId}{size:Nat}{A:Option Addr}{k c:Nat}{Ls:List Value}(h:AccAt w0 w' et size A k c Ls):Fresh w0 A:=by
 rcases h with⟨rfl,_⟩ |⟨b,rfl,h,_⟩
 ·intro a ha;cases ha
 ·intro a ha;cases ha;exact h
theorem AccAt.lt{w0 w':World}{et:TypeId}{size:Nat}{A:Option Addr}{k c:Nat}{Ls:List Value}(h:AccAt w0 w' et size A k c Ls):∀a,A=some a->a.block<w'.heap.size:=by
 rcases h with⟨rfl,_⟩ |⟨b,rfl,_,h,_⟩
 ·intro a ha;cases ha
 ·intro a ha;cases ha;exact h
theorem AccAt.cell{w0 w':World}{et:TypeId}{size:Nat}{A:Option Addr}{k c:Nat}{Ls:List Value}(h:AccAt w0 w' et size A k c Ls)(hk:0<k):∃a,A=some a/\∀i v,Ls[i]?=some v->w'.cell? (a.add i)=some v:=by
 rcases h with⟨_,rfl,_⟩ |⟨b,rfl,_,_,hl,_,rest,h,_⟩
 ·omega
 ·refine⟨_,rfl,fun i v hi=>?_⟩
  have ha:(Addr.add ⟨b,0,none⟩ i)=⟨b,i,none⟩:=by unfold Addr.add;split <;> simp_all
  rw[ha]
  simp only[World.cell?,h]
  have:=(List.getElem?_eq_some_iff.1 hi).1
  simp[List.getElem?_append_left this,hi]
def rA{α:Type}(et:TypeId)(size:Nat)(svs:α->List SV)(μ:α->Nat)(I:α->Option Addr->List Value->World->Prop)(E:SE->List Value->World->Prop)(w0:World)(x:α):SE->List Value->World->Prop:=fun e lv w'=>
 match e with
 | .normal=>∃y A k c Ls,μ y<μ x/\lv=.slice A k c :: ae id (svs y)/\AccAt w0 w' et size A k c Ls/\I y A Ls w'/\Below w0.heap.size w0 w'
 |e=>E e lv w'/\Below w0.heap.size w0 w'
theorem Dl{P:Program}{β0:Nat->Nat}{n0:Nat}{Q:SE->List Value->World->Prop}{s:SS}{w:World}{f₁:FuncId}{body:Code}{a:List SV}{a0:List SV}{s0:SS}
  {N:Nat}{X:Type}{e₁:SE}{sl:List Nat}{f:X->List SV}{Y:Type}{e₂:SE}{sl':List Nat}{f':Y->List SV}
  {k:X×(Nat->Value)->World->List Nat->T}{k':Y×(Nat->Value)->World->List Nat->T}(hf:Fine w s)
  (et:TypeId) (size:Nat) (L:SE->List Nat) {α:Type}(svs:α->List SV) (μ:α->Nat) (I:World->α->Option Addr->List Value->World->Prop) (E:World->SE->List Value->World->Prop) (hk:α->Hooks) (fuel:Nat) (hN:a.length=N)
  (hL:∀i∈L .normal,i<N) (hd:(L .normal).Nodup) (hok:∀x,bf 0 (svs x)) (hobj:s0.objs=s.objs)
  (h1:L e₁=sl) (h2:L e₂=sl') (hl1:∀i∈sl,i<N) (hl2:∀i∈sl',i<N) (hf1:∀x,bf 0 (f x)) (hf2:∀x,bf 0 (f' x))
  (hnil:∀w0 x w1 g,Below w.heap.size w w0->I w0 x none [] w1->Below w0.heap.size w0 w1->Below w.heap.size w w1 ->
   (aK P (hk x) fuel f₁ body (az ((L .normal).zip (.one (.slice none 0 0) rfl :: svs x)) g N 0) (fun e a s=>.leaf e (ep L e a) s) (SS.at w1)).holds (cS P (rA et size svs μ (I w0) (E w0) w0 x)))
  (hrow:∀w0 x w1 g b kk c Ls,Below w.heap.size w w0->I w0 x (some ⟨b,0,none⟩) Ls w1->Below w0.heap.size w0 w1->Below w.heap.size w w1->w0.heap.size<=b->b<w1.heap.size->Ls.length=kk*size->kk<=c ->
   (aK P (hk x) fuel f₁ body (az ((L .normal).zip (.slc 0 0 kk c false false :: svs x)) g N 0) (fun e a s=>.leaf e (ep L e a) s) (SS.mk [.vals Ls (c*size) et 0 0] [] true w1 [b])).holds
    {P:=P,β0:=fun _=>b,n0:=1,Q:=rA et size svs μ (I w0) (E w0) w0 x })
  (hstart:∀β w0,St { P:=P,β0:=β0,n0:=n0,Q:=Q } β s w0->Below w.heap.size w w0->∃x,f6 L .normal (ae β a)=.slice none 0 0 :: ae id (svs x)/\I w0 x none [] w0)
  (hend:∀β w0,St { P:=P,β0:=β0,n0:=n0,Q:=Q } β s w0->Below w.heap.size w w0->∀e lv w',E w0 e lv w'->Below w0.heap.size w0 w'->Below w.heap.size w w' ->
   (∃x,e=e₁/\lv=ae id (f x)/\∀g bs,(∀b∈bs,w.heap.size<=b/\b<w0.heap.size)->(k (x,g) w' bs).holds { P:=P,β0:=β0,n0:=n0,Q:=Q }) ∨
   (∃x,e=e₂/\lv=ae id (f' x)/\∀g bs,(∀b∈bs,w.heap.size<=b/\b<w0.heap.size)->(k' (x,g) w' bs).holds { P:=P,β0:=β0,n0:=n0,Q:=Q })) :
  (T.loop f₁ body a s (LoopHook.X (bK N X e₁ sl f Y e₂ sl' f')) (LoopHook.out (bK N X e₁ sl f Y e₂ sl' f') a0 s0) k (LoopHook.Y (bK N X e₁ sl f Y e₂ sl' f')) (LoopHook.out' (bK N X e₁ sl f Y e₂ sl' f') a0 s0) k').holds
   {P:=P,β0:=β0,n0:=n0,Q:=Q }:=by
 subst h1 h2 hN
 intro β w0 hs ha
 have o:=hs.old hf.ext
 have hbw:=o.belowB hf.below (Nat.le_refl _) hf.pre
 have hz:=hbw.size
 obtain⟨x0,hx0,hI0⟩:=hstart β w0 hs hbw
 have hlw:=pb (P:=P) (body:=body) (L:=L) (N:=a.length)
  (J:=fun n lv w'=>∃x A kk c Ls,n=μ x/\lv=.slice A kk c :: ae id (svs x)/\AccAt w0 w' et size A kk c Ls/\I w0 x A Ls w'/\Below w0.heap.size w0 w')
  (QX:=fun e lv w'=>E w0 e lv w'/\Below w0.heap.size w0 w')
  (by
   rintro n lv w1 ⟨x,A,kk,c,Ls,rfl,rfl,hacc,hI,hb⟩ _
   have e1:fH (fun n lv w'=>∃x A kk c Ls,n=μ x/\lv=Value.slice A kk c :: ae id (svs x)/\AccAt w0 w' et size A kk c Ls/\I w0 x A Ls w'/\Below w0.heap.size w0 w')
     (fun e lv w'=>E w0 e lv w'/\Below w0.heap.size w0 w') (μ x)=rA et size svs μ (I w0) (E w0) w0 x:=by
    funext e lv w'
    cases e with
    |normal=>
     simp only[fH,rA,eq_iff_iff]
     constructor
     ·rintro⟨n',hn,y,A,k,c,Ls,rfl,h1,h2,h3,h4⟩;exact⟨y,A,k,c,Ls,hn,h1,h2,h3,h4⟩
     ·rintro⟨y,A,k,c,Ls,hn,h1,h2,h3,h4⟩;exact⟨_,hn,y,A,k,c,Ls,rfl,h1,h2,h3,h4⟩
    |exit i=>rfl
    |goto i=>rfl
    |ret=>rfl
   rcases hacc with⟨rfl,rfl,rfl,rfl⟩ |⟨b,rfl,hb1,hb2,hl,hkc,rest,hc,hr⟩
   ·refine⟨hk x,fuel,f₁,id,0,.one (.slice none 0 0) rfl :: svs x,SS.at w1,id,rfl,St.start _ rfl _ _,⟨trivial,bu (Nat.zero_le _) _ (hok x)⟩,fun g=>?_⟩
    rw[e1]
    exact hnil w0 x w1 g hbw hI hb (hbw.trans (hb.mono hz))
   ·refine⟨hk x,fuel,f₁,fun _=>b,1,.slc 0 0 kk c false false :: svs x,SS.mk [.vals Ls (c*size) et 0 0] [] true w1 (ac (fun _=>b) 1),fun _=>b,?_,?_,?_,fun g=>?_⟩
    ·simp only[ae,SV.den]
     rw[cY (hok x) (fun _=>b)]
    ·refine St.head rfl (fun i _=>hb2) (fun i j hi hj _=>by omega) ?_ (by simp[SObj.ok])
     intro i ob hi
     match i,hi with
     |0,hi=>
      simp at hi
      subst hi
      exact⟨rest,hc,hr⟩
     |i+1,hi=>simp at hi
    ·exact⟨by simp[SV.ok,SS.n],bu (Nat.zero_le _) _ (hok x)⟩
    ·rw[e1]
     exact hrow w0 x w1 g b kk c Ls hbw hI hb (hbw.trans (hb.mono hz)) hb1 hb2 hl hkc)
  hL hd (μ x0) _ w0 (av β a) ⟨x0,none,0,0,[],rfl,hx0,.inl ⟨rfl,rfl,rfl,rfl⟩,hI0,Below.refl _ _⟩
 have hbs:∀b∈ac β s.n,w.heap.size<=b/\b<w0.heap.size:=fun b hb=>by
  refine⟨dx o hf.below (Nat.le_refl _) hf.pre b hb,?_⟩
  simp only[ac,List.mem_map,List.mem_range]at hb
  obtain⟨i,hi,rfl⟩:=hb
  exact hs.lt i hi
 refine Code.wp_mono ?_ (LW.loop hlw)
 rintro e a' w' ⟨e',vs',rfl,rfl,hlen,hq,hb0⟩
 rcases hend β w0 hs hbw e' _ w' hq hb0 (hbw.trans (hb0.mono hz)) with⟨x,rfl,hlv,hh⟩ |⟨x,rfl,hlv,hh⟩
 ·refine .inl ⟨(x,fun i=>vs'.getD i undef),β,ac β s.n,rfl,?_,⟨?_,?_,fun _ _=>rfl⟩,?_,bS _ _ _ _,hh _ _ hbs⟩
  ·rw[dq]
   congr 1
   exact eR hlen (by rw[<- cY (hf1 x) β]at hlv;exact hlv) hl1
  ·show St _ β (iV s s0.objs w' _) w';rw[hobj];exact hs.rebase hb0
  ·show s.n<=s0.objs.length;rw[hobj];exact Nat.le_refl _
  ·exact tt (hf1 x) _ _ _
 ·refine .inr ⟨(x,fun i=>vs'.getD i undef),β,ac β s.n,rfl,?_,⟨?_,?_,fun _ _=>rfl⟩,?_,bS _ _ _ _,hh _ _ hbs⟩
  ·rw[dq]
   congr 1
   exact eR hlen (by rw[<- cY (hf2 x) β]at hlv;exact hlv) hl2
  ·show St _ β (iV s s0.objs w' _) w';rw[hobj];exact hs.rebase hb0
  ·show s.n<=s0.objs.length;rw[hobj];exact Nat.le_refl _
  ·exact tt (hf2 x) _ _ _
end
section
open Go.RowKit
open Classical in
noncomputable def only(w:World) (S:Nat->Prop):World:={ w with heap:=w.heap.mapIdx fun i o=>if S i then o else .pending #[] 0 }
theorem bH(w:World)(S:Nat->Prop)(a:Addr)(v:Value):(only w S).cell? a=some v ↔ S a.block/\w.cell? a=some v:=by
 simp only[World.cell?,only,Array.getElem?_mapIdx]
 cases h:w.heap[a.block]? with
 |none=>simp
 |some o=>
  simp only[Option.map_some]
  by_cases hs:S a.block
  ·simp[hs]
  ·simp[hs]
theorem cG(w:World)(S:Nat->Prop)(b:Nat)(cs:Array Value)(e:TypeId)(fz:Nat×Nat):(only w S).heap[b]?=some (.cells cs e fz) ↔ S b/\w.heap[b]?=some (.cells cs e fz):=by
 simp only[only,Array.getElem?_mapIdx]
 cases h:w.heap[b]? with
 |none=>simp
 |some o=>
  simp only[Option.map_some]
  by_cases hs:S b
  ·simp[hs]
  ·simp[hs]
noncomputable def since(w0 w:World):World:=only w fun b=>w0.heap.size<=b
theorem cu(w0 w:World)(a:Addr)(v:Value):(since w0 w).cell? a=some v ↔ w0.heap.size<=a.block/\w.cell? a=some v:=bH _ _ _ _
theorem cZ(w0 w:World)(b:Nat)(cs:Array Value)(e:TypeId)(fz:Nat×Nat):(since w0 w).heap[b]?=some (.cells cs e fz) ↔ w0.heap.size<=b/\w.heap[b]?=some (.cells cs e fz):=cG _ _ _ _ _ _
noncomputable def FO(w0:World)(A:Option Addr)(w:World):World:=only w fun b=>w0.heap.size<=b/\∀a,A=some a->a.block≠b
theorem pS(w0:World)(A:Option Addr)(w:World)(a:Addr)(v:Value):(FO w0 A w).cell? a=some v ↔ (w0.heap.size<=a.block/\∀b,A=some b->b.block≠a.block)/\w.cell? a=some v:=bH _ _ _ _
theorem p5(w0:World)(A:Option Addr)(w:World)(b:Nat)(cs:Array Value)(e:TypeId)(fz:Nat×Nat):(FO w0 A w).heap[b]?=some (.cells cs e fz) ↔ (w0.heap.size<=b/\∀a,A=some a->a.block≠b)/\w.heap[b]?=some (.cells cs e fz):=cG _ _ _ _ _ _
structure Sub (B:Nat) (w w':World):Prop where
 cell:∀(a:Addr) (v:Value),a.block<B->w.cell? a=some v->w'.cell? a=some v
 block:∀(b:Nat) (cs:Array Value) (e:TypeId) (fz:Nat×Nat),b<B->w.heap[b]?=some (.cells cs e fz)->w'.heap[b]?=some (.cells cs e fz)
instance {B:Nat}{w w':World}:CoeFun (Sub B w w') (fun _=>∀(a:Addr) (v:Value),a.block<B->w.cell? a=some v->w'.cell? a=some v):=⟨Sub.cell⟩
theorem Sub.of{B:Nat}{w w':World}{S:Nat->Prop}(h1:∀a v,w.cell? a=some v->S a.block)(h2:∀b cs e fz,w.heap[b]?=some (.cells cs e fz)->S b)(h:∀b,b<B->S b->w'.heap[b]?=w.heap[b]?):Sub B w w':=
 ⟨fun a v hb hx=>by simp only[World.cell?,h _ hb (h1 a v hx)]at hx ⊢;exact hx,fun b cs e fz hb hx=>by rw[h b hb (h2 b cs e fz hx)];exact hx⟩
theorem Sub.refl(B:Nat)(w:World):Sub B w w:=⟨fun _ _ _ h=>h,fun _ _ _ _ _ h=>h⟩
theorem Sub.trans{B:Nat}{a b c:World}(h:Sub B a b)(k:Sub B b c):Sub B a c:=⟨fun x v hb hx=>k x v hb (h x v hb hx),fun x cs e fz hb hx=>k.block x cs e fz hb (h.block x cs e fz hb hx)⟩
theorem Sub.mono{B B':Nat}{w w':World}(h:Sub B w w')(hB:B'<=B):Sub B' w w':=⟨fun x v hb hx=>h x v (by omega) hx,fun x cs e fz hb hx=>h.block x cs e fz (by omega) hx⟩
theorem Below.sub{B:Nat}{w w':World}(h:Below B w w'):Sub B w w':=⟨fun a v hb hx=>by rw[cM h hb];exact hx,fun b cs e fz hb hx=>by rw[h.block b hb];exact hx⟩
theorem m7(w0 w:World)(B:Nat):Sub B (since w0 w) w:=⟨fun a v _ h=>((cu _ _ _ _).1 h).2,fun b cs e fz _ h=>((cZ _ _ _ _ _ _).1 h).2⟩
theorem sy(w0 w:World)(A:Option Addr)(B:Nat):Sub B (FO w0 A w) (since w0 w):=
 ⟨fun a v hb hx=>by
  rw[pS]at hx
  rw[cu]
  exact⟨hx.1.1,hx.2⟩,fun b cs e fz hb hx=>by
  rw[p5]at hx
  rw[cZ]
  exact⟨hx.1.1,hx.2⟩⟩
theorem Bts.sub{w w':World}{B B':Nat}{A:Option Addr}{n:Nat}{l:List UInt8}(h:Bts w B A n l)(hs:Sub B w w')(hB:B<=B'):Bts w' B' A n l:=
 h.imp hB fun a x ha hx=>hs _ _ ha hx
inductive Row {α:Type}(R:α->List Value->Prop):List α->List Value->Prop
 |nil:Row R [] []
 |snoc {l:List α}{L:List Value}{x:α}{vs:List Value}:Row R l L->R x vs->Row R (l++[x]) (L++vs)
theorem Row.imp{α:Type}{R R':α->List Value->Prop}{l:List α}{L:List Value}(h:Row R l L)(hi:∀x vs,R x vs->R' x vs):Row R' l L:=by
 induction h with
 |nil=>exact .nil
 |snoc _ hr ih=>exact .snoc ih (hi _ _ hr)
theorem Row.len{α:Type}{R:α->List Value->Prop}{size:Nat}(hs:∀x vs,R x vs->vs.length=size){l:List α}{L:List Value}(h:Row R l L):L.length=l.length*size:=by
 induction h with
 |nil=>simp
 |snoc _ hr ih=>simp[ih,hs _ _ hr,Nat.add_mul]
theorem Row.get{α:Type}{R:α->List Value->Prop}{size:Nat}(hs:∀x vs,R x vs->vs.length=size){l:List α}{L:List Value}(h:Row R l L) :
  ∀i x,l[i]?=some x->∃vs,R x vs/\∀j v,vs[j]?=some v->L[i*size+j]?=some v:=by
 induction h with
 |nil=>intro i x h;simp at h
 | @snoc l L y vs hl hr ih=>
  intro i x hi
  have hlen:=hl.len hs
  by_cases h:i<l.length
  ·rw[List.getElem?_append_left h]at hi
   obtain⟨us,h1,h2⟩:=ih i x hi
   refine⟨us,h1,fun j v hj=>?_⟩
   have h3:=h2 j v hj
   rw[List.getElem?_append_left (List.getElem?_eq_some_iff.1 h3).1]
   exact h3
  ·rw[List.getElem?_append_right (by omega)]at hi
   have h1:i=l.length:=by
    have:=(List.getElem?_eq_some_iff.1 hi).1
    simp at this
    omega
   subst h1
   simp at hi
   subst hi
   refine⟨vs,hr,fun j v hj=>?_⟩
   rw[List.getElem?_append_right (by omega),hlen]
   simpa using hj
def CellsAt{α:Type}(R:α->List Value->Prop)(w:World)(B:Nat)(a:Addr)(x:α):Prop:=a.block<B/\∃vs,R x vs/\∀j v,vs[j]?=some v->w.cell? (a.add j)=some v
theorem CellsAt.sub{α:Type}{R R':α->List Value->Prop}{w w':World}{B B':Nat}{a:Addr}{x:α}(h:CellsAt R w B a x)(hs:Sub B w w')(hB:B<=B')(hR:∀x vs,R x vs->R' x vs):CellsAt R' w' B' a x:=by
 obtain⟨h1,vs,h2,h3⟩:=h
 exact⟨by omega,vs,hR _ _ h2,fun j v hj=>hs _ _ (by rw[aD];exact h1) (h3 j v hj)⟩
theorem qA{α:Type}{R:α->List Value->Prop}{w0 w':World}{et:TypeId}{size:Nat}{A:Option Addr}{k c:Nat}{l:List α}{L:List Value}{S:Nat->Prop}(h:AccAt w0 w' et size A k c L)(hr:Row R l L)(hs:∀x vs,R x vs->vs.length=size)
  (hz:0<size) (hS:∀a,A=some a->S a.block):SeqAt (CellsAt R (only w' S) w'.heap.size) size w'.heap.size A k l:=by
 have h1:=hr.len hs
 have h2:=h.len
 have hk:k=l.length:=by
  rw[h1]at h2
  exact(Nat.eq_of_mul_eq_mul_right hz h2).symm
 refine⟨hk,fun hk0=>?_⟩
 obtain⟨a,ha,hc⟩:=h.cell hk0
 refine⟨a,ha,h.lt a ha,fun i x hi=>?_⟩
 obtain⟨vs,hv1,hv2⟩:=hr.get hs i x hi
 refine⟨by rw[aD];exact h.lt a ha,vs,hv1,fun j v hj=>?_⟩
 rw[bH,add_add]
 exact⟨by rw[aD];exact hS a ha,hc _ _ (hv2 j v hj)⟩
section
variable {Γ:Ctx}{s:SS}{w:World}{bs:List Nat}
theorem dI{f:FuncId}{args:List SV}{X:Type}{out:X->SV×List SObj}{k:X->World->List Nat->T}{R:X->World->World->Prop}(hf:KFine bs w s)
  (hout:∀x,(out x).2=s.objs/\(out x).1.ok s.n)
  (hc:∀β w0,St Γ β s w0->Old β s w0->Keep bs w w0->Calls Γ.P f (ae β args).toArray w0 fun e w'=>∃x,e=.returned ((out x).1.den β)/\Below w0.heap.size w0 w'/\R x w0 w')
  (hk:∀x w0 w' bs',Keep bs w w0->R x w0 w'->Below w0.heap.size w0 w'->Keep bs w w'->(∀b∈bs',(b∈bs∨w.heap.size<=b)/\b<w0.heap.size)->(k x w' bs').holds Γ):(T.call f args s X out k).holds Γ:=by
 intro β w0 hs hargs
 have o:=hs.old hf.ext
 have hbw:=o.keepK hf
 refine(hc β w0 hs o hbw).mono ?_
 rintro e w' ⟨x,rfl,hb,hr⟩
 obtain⟨ho1,ho2⟩:=hout x
 refine⟨x,β,ac β s.n,rfl,⟨?_,?_,fun _ _=>rfl⟩,?_,hk x w0 w' _ hbw hr hb (hbw.trans (Below.keep hb bs)) fun b hb=>⟨f9 o hf b hb,?_⟩⟩
 ·rw[ho1];exact hs.rebase hb
 ·simp[iV,SS.n,ho1]
 ·rw[ho1];exact ho2
 ·simp only[ac,List.mem_map,List.mem_range]at hb
  obtain⟨i,hi,rfl⟩:=hb
  exact hs.lt i hi
theorem Old.pos{β:Nat->Nat}{w':World}(o:Old β s w'){i:Nat}(hi:i<s.n):β i∈s.pre∨s.w0.heap.size<=β i:=by
 by_cases hl:i<s.pre.length
 ·have h1:=o.pre i _ (List.getElem?_eq_getElem hl)
  rw[h1]
  exact .inl (List.getElem_mem hl)
 ·exact .inr (o.new i (by omega) hi)
end
theorem qM{w0 w1 w':World}{A A':Option Addr}{bs:List Nat}(h:Keep bs w1 w')(hA:∀b∈bs,∃a,A=some a/\a.block=b)(hA':∀a',A'=some a'->(a'.block∈bs∨w1.heap.size<=a'.block)):Sub w1.heap.size (FO w0 A w1) (FO w0 A' w'):=by
 have key:∀b,b<w1.heap.size->(w0.heap.size<=b/\∀a,A=some a->a.block≠b)->(w0.heap.size<=b/\∀a,A'=some a->a.block≠b)/\w'.heap[b]?=w1.heap[b]?:=fun b hb hx=>by
  have hn:b ∉ bs:=fun hm=>by
   obtain⟨a1,h1,h2⟩:=hA _ hm
   exact hx.2 a1 h1 h2
  refine⟨⟨hx.1,fun a' ha' he=>?_⟩,h.block _ hb hn⟩
  rcases hA' a' ha' with h1 |h1
  ·exact hn (he ▸ h1)
  ·omega
 refine⟨fun a v hb hx=>?_,fun b cs e fz hb hx=>?_⟩
 ·rw[pS]at hx ⊢
  obtain⟨h1,h2⟩:=key _ hb hx.1
  refine⟨h1,?_⟩
  simp only[World.cell?,h2]at hx ⊢
  exact hx.2
 ·rw[p5]at hx ⊢
  obtain⟨h1,h2⟩:=key _ hb hx.1
  exact⟨h1,by rw[h2];exact hx.2⟩
theorem FP{w0 wc w2 w':World}{A':Option Addr}{β:Nat->Nat}{s:SS}(o:Old β s w')(hw:s.w0=w2)(hp:∀b∈s.pre,b<wc.heap.size)(h0:w0.heap.size<=wc.heap.size)(hA':∀a',A'=some a'->(a'.block<wc.heap.size∨w2.heap.size<=a'.block)) :
  Sub w2.heap.size (since wc w2) (FO w0 A' w'):=by
 subst hw
 have key:∀b,b<s.w0.heap.size->wc.heap.size<=b->(w0.heap.size<=b/\∀a,A'=some a->a.block≠b)/\w'.heap[b]?=s.w0.heap[b]?:=fun b hb hx=>by
  refine⟨⟨by omega,fun a' ha' he=>?_⟩,o.heap hb fun hm=>by have:=hp _ hm;omega⟩
  rcases hA' a' ha' with h1 |h1 <;> omega
 refine⟨fun a v hb hx=>?_,fun b cs e fz hb hx=>?_⟩
 ·rw[cu]at hx
  rw[pS]
  obtain⟨h1,h2⟩:=key _ hb hx.1
  refine⟨h1,?_⟩
  simp only[World.cell?,h2]at hx ⊢
  exact hx.2
 ·rw[cZ]at hx
  rw[p5]
  obtain⟨h1,h2⟩:=key _ hb hx.1
  exact⟨h1,by rw[h2];exact hx.2⟩
theorem sO{γ:Type}{R:World->Nat->γ->List Value->Prop}(hsub:∀(B B':Nat) (a b:World) x vs,Sub B a b->B<=B'->R a B x vs->R b B' x vs){Γ:Ctx}{w0 w1 wc w2 w':World}{A:Option Addr}{bs:List Nat}{β:Nat->Nat}{s:SS}{l:List γ}{i:Nat}{x:γ}{Ls vs:List Value}
  (hx:l[i]?=some x) (hrow:Row (R (FO w0 A w1) w1.heap.size) (l.take i) Ls) (hnew:R (since wc w2) w2.heap.size x vs) (hst:St Γ β s w') (hext:s.ext=true) (hw:s.w0=w2) (hpre:∀b∈s.pre,(b∈bs∨w1.heap.size<=b)/\b<wc.heap.size)
  (hA:∀b∈bs,∃a,A=some a/\a.block=b/\w0.heap.size<=b) (hb0:Below w0.heap.size w0 w1) (hk:Keep bs w1 w') (h1c:w1.heap.size<=wc.heap.size) (hc2:wc.heap.size<=w2.heap.size) (idx:Nat) (hidx:idx<s.n) :
  Row (R (FO w0 (some ⟨β idx,0,none⟩) w') w'.heap.size) (l.take (i+1)) (Ls++vs)/\w0.heap.size<=β idx/\β idx<w'.heap.size/\Below w0.heap.size w0 w':=by
 have o:=hst.old hext
 have hp:=o.pos hidx
 rw[hw]at hp
 have hz:=hb0.size
 have hsz:=o.sz
 rw[hw]at hsz
 refine⟨?_,?_,hst.lt idx hidx,hk.below hb0 (Nat.le_refl _) fun b hb=>(hA b hb).choose_spec.2.2⟩
 ·rw[List.take_add_one,hx]
  refine .snoc (hrow.imp fun y us h=>hsub _ _ _ _ _ _ (qM hk (fun b hb=>?_) fun a' ha'=>?_) hk.size h) (hsub _ _ _ _ _ _ (FP o hw (fun b hb=>(hpre b hb).2) (by omega) fun a' ha'=>?_) hsz hnew)
  ·obtain⟨a,h1,h2,_⟩:=hA b hb
   exact⟨a,h1,h2⟩
  ·cases ha'
   rcases hp with h |h
   ·exact(hpre _ h).1
   ·exact .inr (by show _<=β idx;omega)
  ·cases ha'
   rcases hp with h |h
   ·exact .inl (hpre _ h).2
   ·exact .inr h
 ·rcases hp with h |h
  ·rcases(hpre _ h).1 with h2 |h2
   ·exact(hA _ h2).choose_spec.2.2
   ·omega
  ·omega
theorem kc{w w0 w1 w':World}{β:Nat->Nat}{s:SS}(o:Old β s w')(hw:s.w0=w1)(hp:∀b∈s.pre,b<w0.heap.size)(h0:w.heap.size<=w0.heap.size):Sub w1.heap.size (since w0 w1) (since w w'):=by
 subst hw
 refine⟨fun a v hb hx=>?_,fun b cs e fz hb hx=>?_⟩
 ·rw[cu]at hx ⊢
  refine⟨by omega,?_⟩
  rw[o.cell hb fun hm=>by have:=hp _ hm;omega]
  exact hx.2
 ·rw[cZ]at hx ⊢
  refine⟨by omega,?_⟩
  rw[o.heap hb fun hm=>by have:=hp _ hm;omega]
  exact hx.2
theorem Keep.belowB{bs:List Nat}{B:Nat}{w w':World}(h:Keep bs w w')(hB:B<=w.heap.size)(hb:∀b∈bs,B<=b):Below B w w':=h.below (Below.refl B w) hB hb
theorem bd{need a e t:Nat}:need<=(Question.appendCap need a e).cut t:=by
 simp only[Question.cut]
 exact Nat.le_add_right _ _
end
section
open Go.RowKit
theorem ak{Γ:Ctx}{p:Prop}[Decidable p]{t f:T}(h1:p->t.holds Γ)(h2:¬p->f.holds Γ):(T.split (decide p) t f).holds Γ:=
 af (fun h=>h1 (of_decide_eq_true h)) (fun h=>h2 (of_decide_eq_false h))
theorem be:i64.max=9223372036854775807:=by decide
structure Lasts {γ:Type}(R:World->Nat->γ->List Value->Prop) (size:Nat):Prop where
 sub:∀(B B':Nat) (a b:World) x vs,Sub B a b->B<=B'->R a B x vs->R b B' x vs
 len:∀w B x vs,R w B x vs->vs.length=size
 pos:0<size
def IR{γ:Type}(R:World->Nat->γ->List Value->Prop)(l:List γ)(n:Nat)(w0:World)(i:Nat)(A:Option Addr)(Ls:List Value)(w1:World):Prop:=i<=n/\Row (R (FO w0 A w1) w1.heap.size) (l.take i) Ls
def RowAt{γ:Type}(R:World->Nat->γ->List Value->Prop)(size:Nat)(w:World)(B:Nat)(A:Option Addr)(k:Nat)(l:List γ):Prop:=SeqAt (CellsAt (R w B) w B) size B A k l
theorem RowAt.sub{γ:Type}{R:World->Nat->γ->List Value->Prop}{size:Nat}(hR:Lasts R size){w w':World}{B B':Nat}{A:Option Addr}{n:Nat}{l:List γ}(h:RowAt R size w B A n l)(hs:Sub B w w')(hB:B<=B'):RowAt R size w' B' A n l:=
 h.imp hB fun a x _ hx=>hx.sub hs hB fun x vs=>hR.sub _ _ _ _ x vs hs hB
def ER{γ:Type}(R:World->Nat->γ->List Value->Prop)(size:Nat)(l:List γ)(w0:World)(e:SE)(lv:List Value)(w':World):Prop:=
 e=.exit 0/\∃A k c,lv=[.slice A k c]/\RowAt R size (since w0 w') w'.heap.size A k l
section
variable {P:Program}{γ:Type}{R:World->Nat->γ->List Value->Prop}{size:Nat}{et:TypeId}{w0 w1 wc w2:World}{bs':List Nat}{l:List γ}{n i:Nat}{x:γ}{Ls:List Value}{svs:Nat->List SV}{E:SE->List Value->World->Prop}
theorem Fc(hR:Lasts R size)(hn:n=l.length)(hi:¬i<n)(h:IR R l n w0 i none [] w1)(hb0:Below w0.heap.size w0 w1){v:SV}(hv:∀β,SV.den β v=.slice none 0 0) :
  (T.leaf (.exit 0) [v] (SS.mk [] [] true w1 [])).holds (cS P (rA et size svs (fun i=>n-i) (IR R l n w0) (ER R size l w0) w0 i)):=by
 have hkf:KFine [] w1 (SS.mk [] [] true w1 []):=⟨rfl,Keep.refl _ _,by simp⟩
 refine aM hkf fun β w' hst hk=>⟨⟨rfl,none,0,0,by simp[ae,hv],?_⟩,hk.below hb0 (Nat.le_refl _) (by simp)⟩
 have hle:=h.2.len (hR.len _ _)
 have hi':=h.1
 have hz:=hR.pos
 rw[List.length_take]at hle
 simp only[List.length_nil]at hle
 have hl0:l=[]:=by
  refine List.eq_nil_of_length_eq_zero ?_
  have h1:min i l.length=l.length:=by omega
  rw[h1]at hle
  rcases Nat.mul_eq_zero.1 hle.symm with h |h
  ·exact h
  ·omega
 subst hl0
 exact⟨rfl,fun h=>absurd h (Nat.lt_irrefl 0)⟩
theorem Fd(hR:Lasts R size)(hn:n=l.length)(hi:¬i<n){b kk cc:Nat}(h:IR R l n w0 i (some ⟨b,0,none⟩) Ls w1)(hb0:Below w0.heap.size w0 w1)(hb1:w0.heap.size<=b)(hLs:Ls.length=kk*size)(hkc:kk<=cc) :
  (T.leaf (.exit 0) [.slc 0 0 kk cc false false] (SS.mk [.vals Ls (cc*size) et 0 0] [] true w1 [b])).holds { P:=P,β0:=fun _=>b,n0:=1,Q:=rA et size svs (fun i=>n-i) (IR R l n w0) (ER R size l w0) w0 i }:=by
 refine aM ⟨rfl,Keep.refl _ _,fun b hb=>.inl hb⟩ fun β' w' hst hk=>⟨⟨rfl,_,kk,cc,rfl,?_⟩,hk.below hb0 (Nat.le_refl _) (by simpa using hb1)⟩
 have hi':=h.1
 have hrow:=h.2
 rw[List.take_of_length_le (by omega)]at hrow
 obtain⟨rest,e2,e3⟩:=hst.at_ 0 _ rfl
 have hb0':β' 0=b:=hst.base 0 (by show 0<1;omega)
 have hacc:AccAt w0 w' et size (some ⟨β' 0,0,none⟩) kk cc Ls:=.inr ⟨β' 0,rfl,by omega,hst.lt 0 (by simp[SS.n]),hLs,hkc,rest,e2,e3⟩
 have hrow':Row (R (since w0 w') w'.heap.size) l Ls:=hrow.imp fun x vs hx=>hR.sub _ _ _ _ _ _ (sy _ _ _ _) (Nat.le_refl _) (hR.sub _ _ _ _ _ _ (qM (A':=some ⟨b,0,none⟩) hk (fun b' hb'=>by
  simp at hb'
  subst hb'
  exact⟨_,rfl,rfl⟩) fun a' ha'=>by cases ha';exact .inl (by simp)) hk.size hx)
 exact qA (S:=fun b=>w0.heap.size<=b) hacc hrow' (hR.len _ _) hR.pos (fun a ha=>by cases ha;show w0.heap.size<=β' 0;omega)
theorem ya(hR:Lasts R size)(hlt:i<n)(hx:l[i]?=some x)(h:IR R l n w0 i none [] w1)(hb0:Below w0.heap.size w0 w1)(hk1:Keep [] w1 wc)(hb2:Below wc.heap.size wc w2)(hk2:Keep [] w1 w2)
  (hbs':∀b∈bs',(b∈([]:List Nat)∨w1.heap.size<=b)/\b<wc.heap.size) {p1 p2:Prop}(hp1:p1) (hp2:p2) {idx:Nat}{objs:Nat->List SObj}{cs rs:List SV}{vs:List Value}(hobj:∀c1,(objs c1)[idx]?=some (.cells cs (c1*size) et 0 0)) (hcs:∀β,ae β cs=vs)
  (hnew:R (since wc w2) w2.heap.size x vs) (hrs:∀β,ae β rs=ae id (svs (i+1))) {l1 l2:Bool} :
  (T.need p1 (T.need p2 (T.choose (.appendCap 1 0 et) fun c1=>.leaf .normal (.slc idx 0 1 c1 l1 l2 :: rs) (SS.mk (objs c1) [] true w2 bs')))).holds (cS P (rA et size svs (fun i=>n-i) (IR R l n w0) E w0 i)):=by
 refine aa hp1 (aa hp2 (aE ?_))
 rintro c1 ⟨t,hc⟩
 have hcut:1<=c1:=hc ▸ bd
 refine aM ⟨rfl,hk2,fun b hb=>(hbs' b hb).1⟩ fun β' w' hst hk=>?_
 have ho:=hobj c1
 obtain⟨g1,g2,g3,g4⟩:=sO (R:=R) hR.sub hx h.2 hnew hst rfl rfl hbs' (by simp) hb0 hk hk1.size hb2.size idx ((List.getElem?_eq_some_iff.1 ho).1)
 obtain⟨rest,e2,e3⟩:=hst.at_ idx _ ho
 rw[hcs]at e2
 have hl:=hR.len _ _ _ _ hnew
 have hcl:cs.length=size:=by rw[<- hl,<- hcs β',av]
 refine⟨i+1,some ⟨β' idx,0,none⟩,1,c1,[]++vs,by show n-(i+1)<n-i;omega,?_,.inr ⟨β' idx,rfl,g2,g3,by simp[hl],hcut,rest,e2,by simp only[List.nil_append];omega⟩,⟨by omega,g1⟩,g4⟩
 simp only[ae,SV.den,hrs]
theorem yb(hR:Lasts R size)(hlt:i<n)(hx:l[i]?=some x){b kk cc:Nat}(h:IR R l n w0 i (some ⟨b,0,none⟩) Ls w1)(hb0:Below w0.heap.size w0 w1)(hb1:w0.heap.size<=b)(hLs:Ls.length=kk*size)(hkc:kk<=cc)(hk1:Keep [b] w1 wc)(hb2:Below wc.heap.size wc w2)(hk2:Keep [b] w1 w2)
  (hbs':∀b'∈bs',(b'∈[b] ∨ w1.heap.size<=b')/\b'<wc.heap.size) {bytes:Nat}(hcap:2*(n*bytes)<=281474976710656) (hn:(n:Int)<2^62) {idx:Nat}{objs1:List SObj}{objs:Nat->List SObj}{cs rs:List SV}{vs:List Value}(hcs:ae id cs=vs)
  (hobj:∀c1,(objs c1)[idx]?=some (.vals (List.take (kk*size) (List.drop 0 Ls)++ae id cs) (c1*size) et 0 0)) (hnew:R (since wc w2) w2.heap.size x vs) (hrs:∀β,ae β rs=ae id (svs (i+1))) {l1 l2 l3 l4:Bool} :
  (T.split (decide (kk+1<=cc))
   (T.need (0+kk*size=Ls.length/\Ls.length+(ae id cs).length<=cc*size/\ap 0 0 Ls.length (ae id cs).length=true)
    (.leaf .normal (.slc 0 0 (kk+1) cc l1 l2 :: rs) (SS.mk (.vals (Ls++ae id cs) (cc*size) et 0 0 :: objs1) [] true w2 bs')))
   (T.need (0+kk*size<=Ls.length/\Builtin.nextslicecap (kk+1) cc*bytes<=281474976710656/\((kk+1:Nat):Int)<=i64.max)
    (T.choose (.appendCap (kk+1) cc et) fun c1=>.leaf .normal (.slc idx 0 (kk+1) c1 l3 l4 :: rs) (SS.mk (objs c1) [] true w2 bs')))).holds
   {P:=P,β0:=fun _=>b,n0:=1,Q:=rA et size svs (fun i=>n-i) (IR R l n w0) E w0 i }:=by
 have hl:=hR.len _ _ _ _ hnew
 have hA0:∀b'∈[b],∃a,(some (⟨b,0,none⟩:Addr))=some a/\a.block=b'/\w0.heap.size<=b':=fun b' hb'=>by
  simp at hb'
  subst hb'
  exact⟨_,rfl,rfl,hb1⟩
 have hkn:kk<=i:=by
  have h1:=h.2.len (hR.len _ _)
  rw[hLs,List.length_take]at h1
  have:=Nat.eq_of_mul_eq_mul_right hR.pos h1
  omega
 subst hcs
 have hmul:(kk+1)*size=kk*size+size:=by rw[Nat.add_mul,Nat.one_mul]
 refine ak (fun hcap'=>aa ?_ ?_) (fun hcap'=>aa ?_ (aE ?_))
 ·refine⟨by omega,?_,by simp[ap]⟩
  have:=Nat.mul_le_mul_right size hcap'
  omega
 ·refine aM ⟨rfl,hk2,fun b hb=>(hbs' b hb).1⟩ fun β' w' hst hk=>?_
  obtain⟨g1,g2,g3,g4⟩:=sO (R:=R) hR.sub hx h.2 hnew hst rfl rfl hbs' hA0 hb0 hk hk1.size hb2.size 0 (by simp[SS.n])
  obtain⟨rest,e2,e3⟩:=hst.at_ 0 _ rfl
  refine⟨i+1,some ⟨β' 0,0,none⟩,kk+1,cc,_,by show n-(i+1)<n-i;omega,?_,.inr ⟨β' 0,rfl,g2,g3,by rw[List.length_append];omega,hcap',rest,e2,e3⟩,⟨by omega,g1⟩,g4⟩
  simp only[ae,SV.den,hrs]
 ·refine⟨by omega,?_,by rw[be];omega⟩
  have h1:=nextslicecap_le (show cc<kk+1 by omega)
  have h2:Builtin.nextslicecap (kk+1) cc*bytes<=(2*n)*bytes:=Nat.mul_le_mul_right _ (by omega)
  rw[Nat.mul_assoc]at h2
  omega
 ·rintro c1 ⟨t,hc⟩
  have hcut:kk+1<=c1:=hc ▸ bd
  refine aM ⟨rfl,hk2,fun b hb=>(hbs' b hb).1⟩ fun β' w' hst hk=>?_
  have ho:=hobj c1
  obtain⟨g1,g2,g3,g4⟩:=sO (R:=R) hR.sub hx h.2 hnew hst rfl rfl hbs' hA0 hb0 hk hk1.size hb2.size idx ((List.getElem?_eq_some_iff.1 ho).1)
  obtain⟨rest,e2,e3⟩:=hst.at_ idx _ ho
  rw[List.drop_zero,List.take_of_length_le (by omega)]at e2 e3
  refine⟨i+1,some ⟨β' idx,0,none⟩,kk+1,c1,_,by show n-(i+1)<n-i;omega,?_,.inr ⟨β' idx,rfl,g2,g3,by rw[List.length_append];omega,hcut,rest,e2,e3⟩,⟨by omega,g1⟩,g4⟩
  simp only[ae,SV.den,hrs]
end
end
section
open Go.RowKit
theorem kR{P:Program}{β0:Nat->Nat}{n0:Nat}{Q:SE->List Value->World->Prop}{s:SS}{w:World}{f₁:FuncId}{body:Code}{a:List SV}{a0:List SV}{s0:SS}
  {N:Nat}{X:Type}{e₁:SE}{sl:List Nat}{f:X->List SV}{o:X->List SObj}{Y:Type}{e₂:SE}{sl':List Nat}{f':Y->List SV}{o':Y->List SObj}
  {k:X×(Nat->Value)->World->List Nat->T}{k':Y×(Nat->Value)->World->List Nat->T}{bs:List Nat}(hf:KFine bs w s) (hgl:s.gl=[]) (m:Nat) (hm:s.n=m)
  (L:SE->List Nat) {α:Type}(svs:α->List SV) (objs:α->List SObj) (μ:α->Nat) (I:World->α->World->Prop) (E₁:World->X->World->Prop) (E₂:World->Y->World->Prop) (hk:α->Hooks) (fuel:Nat) (hN:a.length=N)
  (hL:∀i∈L .normal,i<N) (hd:(L .normal).Nodup) (hok:∀x,bf m (svs x)) (hobjs:∀x,(objs x).length=m/\∀o∈objs x,o.ok m)
  (h1:L e₁=sl) (h2:L e₂=sl') (hl1:∀i∈sl,i<N) (hl2:∀i∈sl',i<N) (hf1:∀x,bf m (f x)/\(o x).length=m/\∀u∈o x,u.ok m) (hf2:∀x,bf m (f' x)/\(o' x).length=m/\∀u∈o' x,u.ok m)
  (hround:∀β w0 x w1 g,Keep bs w w0->I w0 x w1->Keep (ac β m) w0 w1->Keep bs w w1->(∀b∈ac β m,(b∈bs∨w.heap.size<=b)/\b<w0.heap.size) ->
   (aK P (hk x) fuel f₁ body (az ((L .normal).zip (svs x)) g N 0) (fun e a s=>.leaf e (ep L e a) s) (SS.mk (objs x) [] true w1 (ac β m))).holds
    {P:=P,β0:=β,n0:=m,Q:=rI β (ac β m) svs objs μ (I w0) e₁ f o (E₁ w0) e₂ f' o' (E₂ w0) w0 x })
  (hstart:∀β w0,St { P:=P,β0:=β0,n0:=n0,Q:=Q } β s w0->Keep bs w w0->∃x,f6 L .normal (ae β a)=ae β (svs x)/\aJ β (objs x) w0/\I w0 x w0)
  (hend₁:∀w0 x w',E₁ w0 x w'->Keep bs w w0->Keep bs w w'->∀g bs',(∀b∈bs',(b∈bs∨w.heap.size<=b)/\b<w0.heap.size)->(k (x,g) w' bs').holds { P:=P,β0:=β0,n0:=n0,Q:=Q })
  (hend₂:∀w0 x w',E₂ w0 x w'->Keep bs w w0->Keep bs w w'->∀g bs',(∀b∈bs',(b∈bs∨w.heap.size<=b)/\b<w0.heap.size)->(k' (x,g) w' bs').holds { P:=P,β0:=β0,n0:=n0,Q:=Q }) :
  (T.loop f₁ body a s (LoopHook.X (bv N X e₁ sl f o Y e₂ sl' f' o')) (LoopHook.out (bv N X e₁ sl f o Y e₂ sl' f' o') a0 s0) k
   (LoopHook.Y (bv N X e₁ sl f o Y e₂ sl' f' o')) (LoopHook.out' (bv N X e₁ sl f o Y e₂ sl' f' o') a0 s0) k').holds { P:=P,β0:=β0,n0:=n0,Q:=Q }:=by
 subst hN h1 h2 hm
 intro β w0 hs ha
 have od:=hs.old hf.ext
 have hbw:=od.keepK hf
 have hz:=hbw.size
 have hbs:∀b∈ac β s.n,(b∈bs∨w.heap.size<=b)/\b<w0.heap.size:=fun b hb=>⟨f9 od hf b hb,by
  simp only[ac,List.mem_map,List.mem_range]at hb
  obtain⟨i,hi,rfl⟩:=hb
  exact hs.lt i hi⟩
 have hcomb:∀w1,Keep (ac β s.n) w0 w1->Keep bs w w1:=fun w1 hkp=>
  ⟨hkp.os.trans hbw.os,hkp.tape.trans hbw.tape,hkp.output.trans hbw.output,Nat.le_trans hbw.size hkp.size,fun b hb hn=>(hkp.block b (Nat.lt_of_lt_of_le hb hbw.size) (fun hm=>by
   rcases(hbs b hm).1 with h |h
   ·exact hn h
   ·omega)).trans (hbw.block b hb hn)⟩
 obtain⟨x0,hx0,hat0,hI0⟩:=hstart β w0 hs hbw
 have hlw:=pb (P:=P) (body:=body) (L:=L) (N:=a.length)
  (J:=fun n lv w'=>∃x,n=μ x/\lv=ae β (svs x)/\aJ β (objs x) w'/\I w0 x w'/\Keep (ac β s.n) w0 w')
  (QX:=fun e lv w'=>((∃z,e=e₁/\lv=ae β (f z)/\aJ β (o z) w'/\E₁ w0 z w')∨(∃z,e=e₂/\lv=ae β (f' z)/\aJ β (o' z) w'/\E₂ w0 z w'))/\Keep (ac β s.n) w0 w')
  (by
   rintro n lv w1 ⟨x,rfl,rfl,hat,hI,hkp⟩ _
   refine⟨hk x,fuel,f₁,β,s.n,svs x,SS.mk (objs x) [] true w1 (ac β s.n),β,rfl,?_,?_,fun g=>?_⟩
   ·exact St.head (hobjs x).1 (fun i hi=>Nat.lt_of_lt_of_le (hs.lt i hi) hkp.size) hs.inj hat (hobjs x).2
   ·have:(SS.mk (objs x) [] true w1 (ac β s.n)).n=s.n:=(hobjs x).1
    rw[this];exact hok x
   ·have h:=hround β w0 x w1 g hbw hI hkp (hcomb _ hkp) hbs
    have e1:fH (fun n lv w'=>∃x,n=μ x/\lv=ae β (svs x)/\aJ β (objs x) w'/\I w0 x w'/\Keep (ac β s.n) w0 w')
      (fun e lv w'=>((∃z,e=e₁/\lv=ae β (f z)/\aJ β (o z) w'/\E₁ w0 z w')∨(∃z,e=e₂/\lv=ae β (f' z)/\aJ β (o' z) w'/\E₂ w0 z w'))/\Keep (ac β s.n) w0 w') (μ x) =
      rI β (ac β s.n) svs objs μ (I w0) e₁ f o (E₁ w0) e₂ f' o' (E₂ w0) w0 x:=by
     funext e lv w'
     cases e with
     |normal=>
      simp only[fH,rI,eq_iff_iff]
      constructor
      ·rintro⟨n',hn,y,rfl,h1,h2,h3,h4⟩;exact⟨y,hn,h1,h2,h3,h4⟩
      ·rintro⟨y,hn,h1,h2,h3,h4⟩;exact⟨_,hn,y,rfl,h1,h2,h3,h4⟩
     |exit i=>rfl
     |goto i=>rfl
     |ret=>rfl
    rw[e1]
    exact h)
  hL hd (μ x0) _ w0 (av β a) ⟨x0,rfl,hx0,hat0,hI0,Keep.refl _ _⟩
 refine Code.wp_mono ?_ (LW.loop hlw)
 rintro e a' w' ⟨e',vs',rfl,rfl,hlen,hq,hkp⟩
 have hb':Keep bs w w':=hcomb _ hkp
 have fin:∀objs':List SObj,objs'.length=s.n->(∀u∈objs',u.ok s.n)->aJ β objs' w'->St { P:=P,β0:=β0,n0:=n0,Q:=Q } β (iV s objs' w' (ac β s.n)) w':=by
  intro objs' hl hoks hat
  have hn:(iV s objs' w' (ac β s.n)).n=s.n:=hl
  exact
     {lt:=fun i hi=>Nat.lt_of_lt_of_le (hs.lt i (by rw[hn]at hi;exact hi)) hkp.size
      inj:=fun i j hi hj=>hs.inj i j (by rw[hn]at hi;exact hi) (by rw[hn]at hj;exact hj)
      at_:=hat
      ok:=fun i u hu=>by rw[hn];exact hoks u (List.mem_of_getElem? hu)
      gl:=fun p hp=>by rw[show(iV s objs' w' (ac β s.n)).gl=s.gl from rfl,hgl]at hp;simp at hp
      old:=fun _=>
              {fr:=fun _ _ _=>rfl,sz:=Nat.le_refl _,tape:=rfl,os:=rfl,out:=rfl,
               pre:=fun i b hi=>by
                simp only[iV,ac,List.getElem?_map]at hi
                cases hr:(List.range s.n)[i]? with
                |none=>rw[hr]at hi;simp at hi
                |some j=>
                 rw[hr]at hi
                 obtain⟨hlt,he⟩:=List.getElem?_eq_some_iff.1 hr
                 simp at he
                 subst he
                 simpa using hi
               pren:=by rw[hn];simp[iV,ac]
               new:=fun i hi hin=>by rw[hn]at hin;simp[iV,ac]at hi;omega }
      base:=hs.base
      n0:=by rw[hn];exact hs.n0 }
 rcases hq with⟨x,rfl,hlv,hat,hE⟩ |⟨x,rfl,hlv,hat,hE⟩
 ·obtain⟨g1,g2,g3⟩:=hf1 x
  refine .inl ⟨(x,fun i=>vs'.getD i undef),β,ac β s.n,rfl,?_,⟨fin _ g2 g3 hat,?_,fun _ _=>rfl⟩,?_,bS _ _ _ _,hend₁ w0 x w' hE hbw hb' _ _ hbs⟩
  ·rw[dq]
   congr 1
   exact eR hlen hlv hl1
  ·show s.n<=(o x).length
   omega
  ·show bf (o x).length _
   rw[g2]
   exact pc g1 _ _ _
 ·obtain⟨g1,g2,g3⟩:=hf2 x
  refine .inr ⟨(x,fun i=>vs'.getD i undef),β,ac β s.n,rfl,?_,⟨fin _ g2 g3 hat,?_,fun _ _=>rfl⟩,?_,bS _ _ _ _,hend₂ w0 x w' hE hbw hb' _ _ hbs⟩
  ·rw[dq]
   congr 1
   exact eR hlen hlv hl2
  ·show s.n<=(o' x).length
   omega
  ·show bf (o' x).length _
   rw[g2]
   exact pc g1 _ _ _
end
section
open Go.RowKit
theorem gx{P:Program}{hk:Hooks}{n:Nat}{f:FuncId}{args:List SV}{s:SS}{m:Nat}{β:Nat->Nat}{w:World}{Q:Value->World->Prop}
  (hs:St { P:=P,β0:=β,n0:=m,Q:=bC Q } β s w) (hargs:bf s.n args) (h:(am P hk n f args s).holds { P:=P,β0:=β,n0:=m,Q:=bC Q }) :
  Calls P f (ae β args).toArray w fun e w'=>∃v,e=.returned v/\Q v w':=by
 refine(oG (Γ:={ P:=P,β0:=β,n0:=m,Q:=bC Q }) (β:=β) h hs hargs).mono ?_
 rintro e w' ⟨v,rfl,u,hu,hq⟩
 simp only[List.cons.injEq,and_true]at hu
 subst hu
 exact⟨_,rfl,hq⟩
theorem St.turned{Γ:Ctx}{β:Nat->Nat}{s:SS}{w:World}(hs:St Γ β s w)(hgl:s.gl=[]){objs':List SObj}{w':World}(hkp:Keep (ac β s.n) w w')(hl:objs'.length=s.n)(hok:∀u∈objs',u.ok s.n)(hat:aJ β objs' w') :
  St Γ β (iV s objs' w' (ac β s.n)) w':=by
 have hn:(iV s objs' w' (ac β s.n)).n=s.n:=hl
 exact
    {lt:=fun i hi=>Nat.lt_of_lt_of_le (hs.lt i (by rw[hn]at hi;exact hi)) hkp.size
     inj:=fun i j hi hj=>hs.inj i j (by rw[hn]at hi;exact hi) (by rw[hn]at hj;exact hj)
     at_:=hat
     ok:=fun i u hu=>by rw[hn];exact hok u (List.mem_of_getElem? hu)
     gl:=fun p hp=>by rw[show(iV s objs' w' (ac β s.n)).gl=s.gl from rfl,hgl]at hp;simp at hp
     old:=fun _=>
             {fr:=fun _ _ _=>rfl,sz:=Nat.le_refl _,tape:=rfl,os:=rfl,out:=rfl,
              pre:=fun i b hi=>by
               simp only[iV,ac,List.getElem?_map]at hi
               cases hr:(List.range s.n)[i]? with
               |none=>rw[hr]at hi;simp at hi
               |some j=>
                rw[hr]at hi
                obtain⟨hlt,he⟩:=List.getElem?_eq_some_iff.1 hr
                simp at he
                subst he
                simpa using hi
              pren:=by rw[hn];simp[iV,ac]
              new:=fun i hi hin=>by rw[hn]at hin;simp[iV,ac]at hi;omega }
     base:=hs.base
     n0:=by rw[hn];exact hs.n0 }
theorem F0{Γ:Ctx}{s:SS}{w:World}{f:FuncId}{args:List SV}{X:Type}{out:X->SV×List SObj}{k:X->World->List Nat->T}{R:X->World->World->Prop}(hf:Fine w s)(hgl:s.gl=[])
  (hout:∀x,(out x).2.length=s.n/\(∀u∈(out x).2,u.ok s.n)/\(out x).1.ok s.n)
  (hc:∀β w0,St Γ β s w0->Old β s w0->Below w.heap.size w w0->Calls Γ.P f (ae β args).toArray w0 fun e w'=>∃x,e=.returned ((out x).1.den β)/\Keep (ac β s.n) w0 w'/\aJ β (out x).2 w'/\R x w0 w')
  (hk:∀x w0 w' bs,Below w.heap.size w w0->R x w0 w'->Below w.heap.size w w'->(∀b∈bs,w.heap.size<=b/\b<w0.heap.size)->(k x w' bs).holds Γ):(T.call f args s X out k).holds Γ:=by
 intro β w0 hs hargs
 have o:=hs.old hf.ext
 have hbw:=o.belowB hf.below (Nat.le_refl _) hf.pre
 refine(hc β w0 hs o hbw).mono ?_
 rintro e w' ⟨x,rfl,hkp,hat,hr⟩
 obtain⟨ho1,ho2,ho3⟩:=hout x
 have hbs:=dx o hf.below (Nat.le_refl _) hf.pre
 refine⟨x,β,ac β s.n,rfl,⟨hs.turned hgl hkp ho1 ho2 hat,?_,fun _ _=>rfl⟩,?_,hk x w0 w' _ hbw hr (hkp.below hbw (Nat.le_refl _) hbs) ?_⟩
 ·show s.n<=(out x).2.length
  omega
 ·show SV.ok (out x).2.length (out x).1
  rw[ho1]
  exact ho3
 ·intro b hb
  refine⟨hbs b hb,?_⟩
  simp only[ac,List.mem_map,List.mem_range]at hb
  obtain⟨i,hi,rfl⟩:=hb
  exact hs.lt i hi
theorem St.later{Γ:Ctx}{β:Nat->Nat}{s:SS}{w w1:World}(hs:St Γ β s w)(hb:Below w.heap.size w w1){P:Program}{Q:SE->List Value->World->Prop} :
  St { P:=P,β0:=β,n0:=s.n,Q:=Q } β (SS.mk s.objs [] true w1 (ac β s.n)) w1:=by
 refine St.head rfl (fun i hi=>Nat.lt_of_lt_of_le (hs.lt i hi) hb.size) hs.inj ?_ (fun o ho=>?_)
 ·intro i o ho
  rw[hb.block _ (hs.lt i (dB ho))]
  exact hs.at_ i o ho
 ·obtain⟨i,hi⟩:=List.mem_iff_getElem?.1 ho
  exact hs.ok i o hi
section
variable {P:Program}{γ:Type}{R:γ->List Value->Prop}{size:Nat}{et:TypeId}{w0 w1 wc w2:World}{bs':List Nat}{n i:Nat}{x:γ}{Ls:List Value}{svs:Nat->List SV}{E:SE->List Value->World->Prop}{F:Nat->List γ}
end
end
section
open Go.RowKit
@[reducible] def T.hc(f:FuncId)(args:List SV)(s:SS)(h:Hook)(k:h.X->World->List Nat->T):T:=.call f args s h.X (h.out args s) k
structure Comp where
 code:Int
 val:List UInt8
def CompAt(w:World)(B:Nat)(a:Addr)(c:Comp):Prop:=
 a.block<B/\w.cell? a=some (.int .i64 c.code)/\(∃A n cap,w.cell? (a.add 1)=some (.slice A n cap)/\Bts w B A n c.val)/\(c.val.length:Int)<2^48
theorem CompAt.below{w w':World}{B B':Nat}{a:Addr}{c:Comp}(h:CompAt w B a c)(hb:Below B w w')(hB:B<=B'):CompAt w' B' a c:=by
 obtain⟨h1,h2,⟨A,n,cap,h3,h4⟩,h5⟩:=h
 exact⟨by omega,by rw[cM hb h1];exact h2,⟨A,n,cap,by rw[cM hb (by rw[aD];exact h1)];exact h3,h4.below hb hB⟩,h5⟩
theorem CompAt.facts{w:World}{B:Nat}{a:Addr}{c:Comp}(h:CompAt w B a c):ai w (a.add 0)=c.code/\Bts w B (kD w (a.add 1)) (iO w (a.add 1)) c.val/\((iO w (a.add 1):Nat):Int)<2^48:=by
 obtain⟨h1,h2,⟨A,n,cap,h3,h4⟩,h5⟩:=h
 refine⟨by simp[ai,add_zero,h2],?_⟩
 simp only[kD,iO,h3]
 exact⟨h4,by rw[h4.1];exact h5⟩
theorem CompAt.canRead{w:World}{B:Nat}{a:Addr}{c:Comp}(h:CompAt w B a c)(hB:B<=w.heap.size){pre:List Nat}(hp:∀b∈pre,B<=b) :
  canRead w pre a [SV.int i64 (ai w (a.add 0)) false,SV.xs (kD w (a.add 1)) (iO w (a.add 1)) (m8 w (a.add 1))]:=by
 obtain⟨h1,h2,⟨A,n,cap,h3,h4⟩,h5⟩:=h
 refine⟨by omega,fun hm=>by have:=hp _ hm;omega,fun j v hj=>?_⟩
 match j,hj with
 |0,hj=>
  simp only[List.getElem?_cons_zero,Option.some.injEq]at hj
  subst hj
  simp[SV.den,ai,add_zero,h2]
 |1,hj=>
  simp only[List.getElem?_cons_succ,List.getElem?_cons_zero,Option.some.injEq]at hj
  subst hj
  simp[SV.den,kD,iO,m8,h3]
 |j+2,hj=>simp at hj
def CompsAt(w:World)(B:Nat)(A:Option Addr)(n:Nat)(l:List Comp):Prop:=SeqAt (CompAt w B) 2 B A n l
theorem CompsAt.below{w w':World}{B B':Nat}{A:Option Addr}{n:Nat}{l:List Comp}(h:CompsAt w B A n l)(hb:Below B w w')(hB:B<=B'):CompsAt w' B' A n l:=
 h.imp hB fun a x _ hx=>hx.below hb hB
def ListAt(w:World)(B:Nat)(a:Addr)(l:List Comp):Prop:=a.block<B/\∃A n cap,w.cell? a=some (.slice A n cap)/\CompsAt w B A n l/\(n:Int)<2^48
theorem ListAt.below{w w':World}{B B':Nat}{a:Addr}{l:List Comp}(h:ListAt w B a l)(hb:Below B w w')(hB:B<=B'):ListAt w' B' a l:=by
 obtain⟨h1,A,n,cap,h3,h4,h5⟩:=h
 exact⟨by omega,A,n,cap,by rw[cM hb h1];exact h3,h4.below hb hB,h5⟩
theorem ListAt.facts{w:World}{B:Nat}{a:Addr}{l:List Comp}(h:ListAt w B a l):CompsAt w B (kD w (a.add 0)) (iO w (a.add 0)) l/\((iO w (a.add 0):Nat):Int)<2^48:=by
 obtain⟨h1,A,n,cap,h3,h4,h5⟩:=h
 simp only[kD,iO,add_zero,h3]
 exact⟨h4,h5⟩
theorem ListAt.canRead{w:World}{B:Nat}{a:Addr}{l:List Comp}(h:ListAt w B a l)(hB:B<=w.heap.size){pre:List Nat}(hp:∀b∈pre,B<=b) :
  canRead w pre a [SV.xs (kD w (a.add 0)) (iO w (a.add 0)) (m8 w (a.add 0))]:=by
 obtain⟨h1,A,n,cap,h3,h4⟩:=h
 refine⟨by omega,fun hm=>by have:=hp _ hm;omega,fun j v hj=>?_⟩
 match j,hj with
 |0,hj=>
  simp only[List.getElem?_cons_zero,Option.some.injEq]at hj
  subst hj
  simp[SV.den,kD,iO,m8,add_zero,h3]
 |j+1,hj=>simp at hj
def ListsAt(w:World)(B:Nat)(A:Option Addr)(n:Nat)(L:List (List Comp)):Prop:=SeqAt (ListAt w B) 1 B A n L
theorem ListsAt.below{w w':World}{B B':Nat}{A:Option Addr}{n:Nat}{l:List (List Comp)}(h:ListsAt w B A n l)(hb:Below B w w')(hB:B<=B'):ListsAt w' B' A n l:=
 h.imp hB fun a x _ hx=>hx.below hb hB
theorem gz{i n:Nat}(h:i<n)(hn:(n:Int)<2^63):i64.wrap ((i:Int)+1)=((i+1:Nat):Int):=by
 rw[ax (by omega) (by omega)];rfl
def bl:Hook:={ X:=Bool,out:=fun _ s b=>(.bool b false,s.objs) }
end
end Go.Rx
