/- Joined texts: M31 M32 M33 M34 M35 M36 M37 M38 K21 K22 M39 M40. -/
import Derived.Test.YtnklanajebphpaaGreatDoorW6
import Derived.Test.YtnklanajebphpaaGreatDoorW3
set_option maxRecDepth 100000
set_option maxHeartbeats 4000000
set_option linter.unusedVariables false
set_option linter.unusedSimpArgs false
namespace Go.Proofs.YtnklanajebphpaaGreatDoor
open IntKind
section
open Go Go.Rx Go.RowKit
theorem jP{Q:SE->List Value->World->Prop}{s:SS}{w:World}{bs:List Nat}{n0:Nat}{β0:Nat->Nat}{x y:UInt8}{lit:Bool}{k:Int->World->List Nat->T}(hf:KFine bs w s)(hx:x=y)
  (hk:∀w' bs',Keep bs w w'->(∀b∈bs',b∈bs∨w.heap.size<=b)->(k (gN y) w' bs').holds { P:=Tryz.prog,β0:=β0,n0:=n0,Q:=Q }) :
  (T.call 351 [.int .u8 (x.toNat:Int) lit] s Int (fun y=>(.int .i64 y false,s.objs)) k).holds { P:=Tryz.prog,β0:=β0,n0:=n0,Q:=Q }:=by
 subst hx
 refine bZ (R:=fun y _ _=>y=gN x) hf (fun y=>⟨rfl,trivial⟩) (fun β w0 hst ho hb=>?_) (fun y w0 w' bs' _ hr _ hb hbs=>by subst hr;exact hk w' bs' hb hbs)
 refine(B2 x w0).mono ?_
 rintro e w' ⟨v,rfl,rfl,hb'⟩
 exact⟨_,rfl,hb',rfl⟩
theorem pe(m:Nat)(hm:1<m):(SV.ptr 0 0).ok m/\(SV.ptr 1 0).ok m:=⟨Nat.lt_trans Nat.zero_lt_one hm,hm⟩
theorem zR(m:Nat):bf m gn:=by simp[gn,bf,SV.ok]
theorem ip(m:Nat)(q:Nat->Int):bf m (cq q):=by simp[cq,bf,SV.ok]
theorem aQ(l:List Int):(aV l).length=2/\∀o∈aV l,o.ok 2:=⟨rfl,fun o ho=>by
 simp only[aV,List.mem_cons,List.not_mem_nil,or_false]at ho
 rcases ho with rfl |rfl
 ·exact zR 2
 ·exact trivial⟩
theorem dE(q:Nat->Int):(bM q).length=2/\∀o∈bM q,o.ok 2:=⟨rfl,fun o ho=>by
 simp only[bM,List.mem_cons,List.not_mem_nil,or_false]at ho
 rcases ho with rfl |rfl
 ·exact zR 2
 ·exact ip 2 q⟩
theorem Dk{l:List Int}(h:l.length=16):l=[l.getD 0 0,l.getD 1 0,l.getD 2 0,l.getD 3 0,l.getD 4 0,l.getD 5 0,l.getD 6 0,l.getD 7 0,l.getD 8 0,l.getD 9 0,l.getD 10 0,l.getD 11 0,l.getD 12 0,l.getD 13 0,l.getD 14 0,l.getD 15 0]:=by
 apply List.ext_getElem
 ·simp[h]
 ·intro i h1 h2
  have hi:i<16:=by omega
  have e:l.getD i 0=l[i]:=by simp[List.getD,h1]
  rw[<- e]
  match i,hi with
  |0,_ |1,_ |2,_ |3,_ |4,_ |5,_ |6,_ |7,_ |8,_ |9,_ |10,_ |11,_ |12,_ |13,_ |14,_ |15,_=>rfl
  |n+16,h=>omega
theorem ig{β:Nat->Nat}{l:List Int}{w:World}(h:aJ β (aV l) w)(hl:l.length=16):aJ β (bM fun j=>l.getD j 0) w:=by
 intro i o hi
 match i,hi with
 |0,hi=>exact h 0 o hi
 |1,hi=>
  have:=h 1 _ rfl
  simp only[bM,List.getElem?_cons_succ,List.getElem?_cons_zero,Option.some.injEq]at hi
  subst hi
  refine⟨[],?_,rfl⟩
  rw[show w.heap[β 1]?=_ from this]
  rw[show ae β (cq fun j=>l.getD j 0)=l.map (Value.int .u8) by rw[Dk hl];rfl]
  simp
 |i+2,hi=>simp[bM]at hi
theorem g6{β:Nat->Nat}{q:Nat->Int}{w:World}(h:aJ β (bM q) w):aJ β (aV [q 0,q 1,q 2,q 3,q 4,q 5,q 6,q 7,q 8,q 9,q 10,q 11,q 12,q 13,q 14,q 15]) w:=by
 intro i o hi
 match i,hi with
 |0,hi=>exact h 0 o hi
 |1,hi=>
  obtain⟨rest,h1,h2⟩:=h 1 _ rfl
  simp only[aV,List.getElem?_cons_succ,List.getElem?_cons_zero,Option.some.injEq]at hi
  subst hi
  have hr:rest=[]:=List.eq_nil_of_length_eq_zero (by have:(cq q).length=16:=rfl;omega)
  subst hr
  show w.heap[β 1]?=_
  rw[h1]
  simp[ae,SV.den,cq]
 |i+2,hi=>simp[aV]at hi
def wD(P:List Nat)(Q:Option (List Nat))(z:P6):Prop:=
 z.l.length=16/\∃G R tl,R≠[]/\(∀g∈R++tl.getD [],g<65536)/\z.s=⟨(jn R++bh tl).toArray⟩/\z.i=2*G.length/\z.l.take z.i=pL G/\2*(G.length+R.length+(tl.getD []).length)<=16 /\
  ((tl=Q/\G++R=P/\z.e = -1)∨(tl=none/\∃B,Q=some B/\G++R=P++B/\z.e=((2*P.length:Nat):Int)))
def Bb(P:List Nat)(Q:Option (List Nat))(o:O6):Prop:=
 o.s.size=0/\o.i=2*(P++Q.getD []).length/\(∀j,j<o.i->o.q j=(pL (P++Q.getD [])).getD j 0)/\(Q=none->o.e = -1)/\(∀B,Q=some B->o.e=((2*P.length:Nat):Int))
theorem getD_take{l:List Int}{n j:Nat}(h:j<n):(l.take n).getD j 0=l.getD j 0:=by
 rw[List.getD_eq_getElem?_getD,List.getD_eq_getElem?_getD,List.getElem?_take_of_lt h]
theorem D4{g:Nat}{R:List Nat}{tl:Option (List Nat)}:∃rest,jn (g :: R)++bh tl=ay g++rest/\((R=[]/\tl=none/\rest=[])∨(R≠[]/\rest=58 :: (jn R++bh tl))∨(∃B,R=[]/\tl=some B/\rest=58 :: 58 :: jn B)):=by
 cases R with
 |nil=>
  cases tl with
  |none=>exact⟨[],by simp[jn,bh],.inl ⟨rfl,rfl,rfl⟩⟩
  |some B=>exact⟨58 :: 58 :: jn B,by simp[jn,bh],.inr (.inr ⟨B,rfl,rfl,rfl⟩)⟩
 |cons y r=>exact⟨58 :: (jn (y :: r)++bh tl),by simp[jn],.inr (.inl ⟨by simp,rfl⟩)⟩
theorem I5(P:List Nat)(Q:Option (List Nat))(β:Nat->Nat)(w0 w1:World)(z:P6)(g:Nat->Value)(hk01:Keep (ac β 2) w0 w1)(hI:wD P Q z) :
  (aK Tryz.prog (Bs z) 1000 301 (ar Tryz.prog 301 10) (az ((xX .normal).zip (gb z)) g 172 0) (fun e a s=>.leaf e (ep xX e a) s) (SS.mk (aV z.l) [] true w1 (ac β 2))).holds
   {P:=Tryz.prog,β0:=β,n0:=2,Q:=rI β (ac β 2) gb (fun z=>aV z.l) (fun z=>16-z.i) (fun z _=>wD P Q z) (.exit 0) qq (fun o=>bM o.q) (fun o _=>Bb P Q o) .ret (fun _:Unit=>[]) (fun _=>bM fun _=>0) (fun _ _=>False) w0 z }:=by
 obtain⟨hl,G,R,tl,hR,hlt,hs,hi,htk,hsz,hph⟩:=hI
 cases R with
 |nil=>exact absurd rfl hR
 |cons g0 R=>
 obtain⟨rest,hrest,hcase⟩:=D4 (g:=g0) (R:=R) (tl:=tl)
 rw[hrest]at hs
 have hg0:g0<65536:=hlt g0 (by simp)
 have hDl:(bg g0).length<=4:=jS 3 g0 (by omega)
 have hDp:=mW g0
 have hD16:=lW g0
 have hsize:z.s.size=(bg g0).length+rest.length:=by rw[hs,aB,cw];simp
 simp only[List.length_cons]at hsz
 refine ah (Ns z w1 (ac β 2) g) (ak (fun hi16=>?_) (fun h=>absurd (show(z.i:Int)<16 by omega) h))
 have hget:∀j,(z.s.data.toList.getD j 0)=(ay g0++rest).getD j 0:=fun j=>by rw[hs]
 have hdig:∀j (hj:j<(bg g0).length),(z.s.data.toList.getD j 0)=bR ((bg g0)[j]):=fun j hj=>by
  rw[hget,cw,List.getD_eq_getElem?_getD,List.getElem?_append_left (by simpa using hj),List.getElem?_map,List.getElem?_eq_getElem hj]
  rfl
 have hrest0:∀c r,rest=c :: r->(z.s.data.toList.getD (bg g0).length 0)=c:=fun c r hr=>by
  rw[hget,cw,List.getD_eq_getElem?_getD,List.getElem?_append_right (by simp),hr]
  simp
 have hcolon:rest=[] ∨ ∃r,rest=58 :: r:=by
  rcases hcase with⟨_,_,h⟩ |⟨_,h⟩ |⟨B,_,_,h⟩
  ·exact .inl h
  ·exact .inr ⟨_,h⟩
  ·exact .inr ⟨_,h⟩
 refine kR (w:=w1) (bs:=ac β 2) ⟨rfl,Keep.refl _ _,fun b hb=>.inl hb⟩ rfl 2 rfl sM (iE z) (fun _=>aV z.l) (fun p:Nat×Nat=>5-p.1)
  (fun _ p _=>p.1<=(bg g0).length/\p.2=bP ((bg g0).take p.1)) (fun _ p _=>p=((bg g0).length,g0)) (fun _ _ _=>False) (fun _=>Bs z) 1000
  (by simp) (by simp[sM]) (by simp[sM]) (fun _=>⟨trivial,(pe 2 (by omega)).1,trivial,(pe 2 (by omega)).2,trivial,trivial,trivial,trivial,trivial⟩) (fun _=>aQ _) rfl rfl (by simp) (by simp)
  (fun _=>⟨⟨trivial,(pe 2 (by omega)).1,trivial,(pe 2 (by omega)).2,trivial,trivial,trivial,trivial,trivial⟩,aQ _⟩) (fun _=>⟨trivial,aQ _⟩) ?_ ?_ ?_ ?_
 ·rintro β2 w2 ⟨off,acc⟩ w3 g2 dW ⟨hoff,hacc⟩ ej hk13 hblk
  dsimp only at hoff hacc
  have hend:off=(bg g0).length->∀(w4:World) (bs4:List Nat),Keep (ac β2 2) w2 w4->(∀b∈bs4,b∈ac β2 2∨w2.heap.size<=b) ->
    (T.leaf (.exit 2) (iE z (off,acc)) (SS.mk (aV z.l) [] true w4 bs4)).holds { P:=Tryz.prog,β0:=β2,n0:=2,Q:=rI β2 (ac β2 2) (iE z) (fun _=>aV z.l) (fun p:Nat×Nat=>5-p.1) (fun p _=>p.1<=(bg g0).length/\p.2=bP ((bg g0).take p.1)) (.exit 2) (iE z) (fun _=>aV z.l) (fun p _=>p=((bg g0).length,g0)) .ret (fun _:Unit=>[]) (fun _=>aV z.l) (fun _ _=>False) w2 (off,acc) }:=fun he w4 bs4 hk4 hbs4=>by
   refine aM ⟨rfl,hk4,hbs4⟩ fun β' w' hst hk'=>⟨.inl ⟨(off,acc),rfl,?_,hst.objsAt rfl (aQ _).2,?_⟩,hk'⟩
   ·have h0:=hst.base 0 (by show 0<2;omega)
    have h1:=hst.base 1 (by show 1<2;omega)
    simp only[iE,ae,SV.den]
    rw[h0,h1]
   ·rw[hacc,he,List.take_of_length_le (Nat.le_refl _),yq]
  refine ah (Ht z (off,acc) w3 (ac β2 2) g2) (ak (fun hlt1=>?_) (fun hge=>?_))
  ·have hlt2:off<z.s.size:=by dsimp only at hlt1;omega
   refine aa (by dsimp only;omega) ?_
   dsimp only
   rcases Nat.lt_or_ge off (bg g0).length with hin |hout
   ·have hd:=hdig off hin
    have hdl:=hD16 _ (List.getElem_mem hin)
    refine jP (y:=bR ((bg g0)[off])) ⟨rfl,Keep.refl _ _,fun b hb=>.inl hb⟩ (by rw[Int.toNat_natCast];exact hd) fun w4 bs4 hk4 hbs4=>?_
    rw[hG _ hdl]
    refine ak (fun _=>?_) (fun h=>absurd (by omega) h)
    refine aa (by omega) ?_
    refine jP (y:=bR ((bg g0)[off])) (w:=w3) (bs:=ac β2 2) ⟨rfl,hk4,hbs4⟩ (by rw[Int.toNat_natCast];exact hd) fun w5 bs5 o8 hbs5=>?_
    rw[hG _ hdl]
    refine ak (fun h=>absurd h (by omega)) (fun _=>?_)
    refine aM ⟨rfl,ej.trans o8,fun b hb=>(hbs5 b hb).imp id (Nat.le_trans ej.size)⟩ fun β' w' hst hk'=>⟨(off+1,bP ((bg g0).take (off+1))),by show 5-(off+1)<5-off;omega,?_,hst.objsAt rfl (aQ _).2,⟨by show off+1<=_;omega,rfl⟩,hk'⟩
    have hfl:=p7 ((bg g0).take off) fun d hd=>hD16 d (List.mem_of_mem_take hd)
    have hfl2:bP ((bg g0).take off)<65536:=Nat.lt_of_lt_of_le hfl (by
     rw[List.length_take]
     exact Nat.pow_le_pow_right (by omega) (show min off _<=4 by omega))
    have e1:bP ((bg g0).take (off+1))=acc*16+(bg g0)[off]:=by
     rw[List.take_add_one,List.getElem?_eq_getElem hin,hacc]
     exact ib _ _
    have e2:i64.wrap ((acc:Int)*(2:Int)^4)=((acc*16:Nat):Int):=by
     rw[show(acc:Int)*(2:Int)^4=((acc*16:Nat):Int) by rw[Int.natCast_mul];rfl]
     exact ax (by omega) (by omega)
    have e3:i64.wrap (i64.wrap ((acc:Int)*(2:Int)^4)+((bg g0)[off]:Int))=((bP ((bg g0).take (off+1)):Nat):Int):=by
     rw[e1,e2,ax (by omega) (by omega)];omega
    have e4:i64.wrap ((off:Int)+1)=((off+1:Nat):Int):=by rw[ax (by omega) (by omega)];omega
    have h0:=hst.base 0 (by show 0<2;omega)
    have h1:=hst.base 1 (by show 1<2;omega)
    rw[e3,e4]
    simp only[iE,ae,SV.den]
    rw[h0,h1]
   ·have he:off=(bg g0).length:=by omega
    obtain⟨r,hr⟩:∃r,rest=58 :: r:=by
     rcases hcolon with h |h
     ·rw[h]at hsize;simp at hsize;omega
     ·exact h
    have hd:=hrest0 58 r hr
    refine jP (y:=58) ⟨rfl,Keep.refl _ _,fun b hb=>.inl hb⟩ (by rw[Int.toNat_natCast,he];exact hd) fun w4 bs4 hk4 hbs4=>?_
    rw[n9]
    refine ak (fun h=>absurd h (by omega)) (fun _=>?_)
    exact hend he w4 bs4 (ej.trans hk4) fun b hb=>(hbs4 b hb).imp id (Nat.le_trans ej.size)
  ·refine hend (by dsimp only at hge;omega) w3 _ ej fun b hb=>.inl hb
 ·intro β2 w2 hst dW
  exact⟨(0,0),rfl,fun i o hi=>hst.at_ i o hi,Nat.zero_le _,rfl⟩
 ·rintro w2 ⟨off,acc⟩ w3 he dW hk13 g2 bs3 hbs3
  simp only[Prod.mk.injEq]at he
  obtain⟨he1,he2⟩:=he
  have he2':=he2.symm
  clear he2
  subst he1 he2'
  have hbl3:∀b∈bs3,b∈ac β 2∨w0.heap.size<=b:=fun b hb=>(hbs3 b hb).1.imp id (Nat.le_trans hk01.size)
  have hk03:Keep (ac β 2) w0 w3:=hk01.trans hk13
  have ei:i64.wrap ((z.i:Int)+2)=((z.i+2:Nat):Int):=by rw[ax (by omega) (by omega)];omega
  have ei1:i64.wrap ((z.i:Int)+1)=((z.i+1:Nat):Int):=by rw[ax (by omega) (by omega)];omega
  have e1:z.s.extract (((bg g0).length:Nat):Int).toNat z.s.size=⟨rest.toArray⟩:=by
   rw[Int.toNat_natCast,hs,jh,cw,<- List.length_map (f:=bR),List.drop_left]
  obtain⟨l',hl'⟩:∃l',l'=(z.l.set (0+(z.i:Int).toNat*1) (u8.wrap ((g0:Int).fdiv ((2:Int)^8)))).set (0+(i64.wrap ((z.i:Int)+1)).toNat*1) (u8.wrap (g0:Int)):=⟨_,rfl⟩
  have hl16:l'.length=16:=by rw[hl'];simp[hl]
  have htk':l'.take (z.i+2)=pL (G++[g0]):=by
   have q1:u8.wrap ((g0:Int).fdiv ((2:Int)^8))=((g0/256:Nat):Int):=by
    rw[show(g0:Int).fdiv ((2:Int)^8)=((g0/256:Nat):Int) by rw[Int.fdiv_eq_ediv_of_nonneg _ (by decide)];rfl]
    exact gg (by omega)
   have q2:u8.wrap (g0:Int)=((g0%256:Nat):Int):=by
    show((g0:Int))%256=_
    omega
   rw[hl',ei1,q1,q2,wL,<- htk]
   simp only[Nat.zero_add,Nat.mul_one,Int.toNat_natCast]
   exact BT hl (by omega) rfl
  have hexit:∀(s':ByteArray) (e':Int),(∀q:Nat->Int,(∀j,j<z.i+2->q j=(pL (G++[g0])).getD j 0)->Bb P Q ⟨s',e',z.i+2,q⟩)->(T.leaf (.exit 0) [.str s' false,.ptr 0 0,.bool false true,.ptr 1 0,.int .i64 e' false,.int .i64 (i64.wrap ((z.i:Int)+2)) false] (SS.mk (aV ((z.l.set (0+(z.i:Int).toNat*1) (u8.wrap ((g0:Int).fdiv ((2:Int)^8)))).set (0+(i64.wrap ((z.i:Int)+1)).toNat*1) (u8.wrap (g0:Int)))) [] true w3 bs3)).holds
    {P:=Tryz.prog,β0:=β,n0:=2,Q:=rI β (ac β 2) gb (fun z=>aV z.l) (fun z=>16-z.i) (fun z _=>wD P Q z) (.exit 0) qq (fun o=>bM o.q) (fun o _=>Bb P Q o) .ret (fun _:Unit=>[]) (fun _=>bM fun _=>0) (fun _ _=>False) w0 z }:=fun s' e' hE=>by
   rw[<- hl',ei]
   refine aM ⟨rfl,hk03,hbl3⟩ fun β' w' hst hk'=>⟨.inl ⟨⟨s',e',z.i+2,fun j=>l'.getD j 0⟩,rfl,?_,ig (hst.objsAt rfl (aQ _).2) hl16,hE _ fun j hj=>?_⟩,hk'⟩
   ·have h0:=hst.base 0 (by show 0<2;omega)
    have h1:=hst.base 1 (by show 1<2;omega)
    simp only[qq,ae,SV.den]
    rw[h0,h1]
   ·rw[<- htk',getD_take hj]
  have hnext:∀(s':ByteArray) (e':Int),wD P Q ⟨s',e',z.i+2,l'⟩->(T.leaf .normal [.str s' false,.ptr 0 0,.bool false true,.ptr 1 0,.int .i64 e' false,.int .i64 (i64.wrap ((z.i:Int)+2)) false] (SS.mk (aV ((z.l.set (0+(z.i:Int).toNat*1) (u8.wrap ((g0:Int).fdiv ((2:Int)^8)))).set (0+(i64.wrap ((z.i:Int)+1)).toNat*1) (u8.wrap (g0:Int)))) [] true w3 bs3)).holds
    {P:=Tryz.prog,β0:=β,n0:=2,Q:=rI β (ac β 2) gb (fun z=>aV z.l) (fun z=>16-z.i) (fun z _=>wD P Q z) (.exit 0) qq (fun o=>bM o.q) (fun o _=>Bb P Q o) .ret (fun _:Unit=>[]) (fun _=>bM fun _=>0) (fun _ _=>False) w0 z }:=fun s' e' hE=>by
   rw[<- hl',ei]
   refine aM ⟨rfl,hk03,hbl3⟩ fun β' w' hst hk'=>⟨⟨s',e',z.i+2,l'⟩,by show 16-(z.i+2)<16-z.i;omega,?_,hst.objsAt rfl (aQ _).2,hE,hk'⟩
   have h0:=hst.base 0 (by show 0<2;omega)
   have h1:=hst.base 1 (by show 1<2;omega)
   simp only[gb,ae,SV.den]
   rw[h0,h1]
  dsimp only
  refine af (fun h=>by have:=eq_of_beq h;omega) (fun _=>ak (fun hlt2=>?_) (fun hge2=>?_))
  ·obtain⟨r,hr⟩:∃r,rest=58 :: r:=by
    rcases hcolon with h |h
    ·rw[h]at hsize;simp at hsize;omega
    ·exact h
   have hrl:rest.length=r.length+1:=by rw[hr];rfl
   have hsz1:(z.s.extract (((bg g0).length:Nat):Int).toNat z.s.size).size=r.length+1:=by rw[e1,aB,hrl]
   refine aa (by omega) (af (fun h46=>?_) (fun _=>?_))
   ·have:=hrest0 58 r hr
    rw[Int.toNat_natCast,this]at h46
    simp at h46
   refine aa (by omega) (aa (by simp;omega) (aa rfl (aa (by omega) (aa (by rw[ei1];simp;omega) (aa rfl (aa (by omega) ?_))))))
   have e2:(z.s.extract (((bg g0).length:Nat):Int).toNat z.s.size).extract 1 (z.s.extract (((bg g0).length:Nat):Int).toNat z.s.size).size=⟨r.toArray⟩:=by
    rw[e1,jh,hr];rfl
   refine af (fun h=>by rw[hsz1]at h;have:=eq_of_beq h;omega) (fun _=>aa (by rw[hsz1];omega) (af (fun hne=>?_) (fun _=>af (fun h1=>?_) (fun h1=>?_))))
   ·have hne2:(((((z.s.extract (((bg g0).length:Nat):Int).toNat z.s.size).data.toList.getD 0 0).toNat:Nat):Int) != 58)=true:=hne
    rw[e1,hr]at hne2
    simp at hne2
   ·rw[hsz1]at h1
    have hr0:r=[]:=List.eq_nil_of_length_eq_zero (by have:=eq_of_beq h1;omega)
    subst hr0
    rcases hcase with⟨_,_,h⟩ |⟨hne,h⟩ |⟨B,_,_,h⟩
    ·rw[hr]at h;simp at h
    ·rw[hr]at h
     cases R with
     |nil=>exact absurd rfl hne
     |cons y R'=>
      obtain⟨d,t,_,hd⟩:=lY y R'
      rw[hd]at h
      simp at h
    ·rw[hr]at h;simp at h
   have hr1:1<=r.length:=by
    rcases Nat.eq_zero_or_pos r.length with h |h
    ·rw[hsz1,h]at h1;simp at h1
    ·exact h
   have hsz2:((z.s.extract (((bg g0).length:Nat):Int).toNat z.s.size).extract 1 (z.s.extract (((bg g0).length:Nat):Int).toNat z.s.size).size).size=r.length:=by rw[e2,aB]
   refine aa (by rw[hsz1];omega) (aa (by rw[hsz2];omega) (af (fun h58=>?_) (fun h58=>?_)))
   ·have h58':((((((z.s.extract (((bg g0).length:Nat):Int).toNat z.s.size).extract 1 (z.s.extract (((bg g0).length:Nat):Int).toNat z.s.size).size).data.toList.getD 0 0).toNat:Nat):Int) == 58)=true:=h58
    rw[e2]at h58'
    rcases hcase with⟨_,_,h⟩ |⟨hne,h⟩ |⟨B,hR0,htl,h⟩
    ·rw[hr]at h;simp at h
    ·rw[hr]at h
     cases R with
     |nil=>exact absurd rfl hne
     |cons y R'=>
      obtain⟨d,t,hd1,hd⟩:=lY y R'
      rw[hd]at h
      simp only[List.cons.injEq,true_and,List.cons_append]at h
      rw[h]at h58'
      have h5:(((bR d).toNat:Nat):Int)=58:=by simpa using h58'
      have h6:=(o7 d hd1).1
      exact absurd (UInt8.toNat_inj.1 (by show(bR d).toNat=58;omega)) h6
    ·subst hR0 htl
     have hrB:r=58 :: jn B:=by rw[hr]at h;simpa using h
     rcases hph with⟨hQ,hP,he⟩ |⟨h,_⟩
     ·refine ak (fun h=>absurd h (by omega)) (fun _=>aa (by rw[hsz2];omega) ?_)
      have e3:((z.s.extract (((bg g0).length:Nat):Int).toNat z.s.size).extract 1 (z.s.extract (((bg g0).length:Nat):Int).toNat z.s.size).size).extract 1 ((z.s.extract (((bg g0).length:Nat):Int).toNat z.s.size).extract 1 (z.s.extract (((bg g0).length:Nat):Int).toNat z.s.size).size).size=⟨(jn B).toArray⟩:=by
       rw[e2,jh,hrB];rfl
      have hlP:z.i+2=2*P.length:=by rw[<- hP];simp;omega
      refine af (fun hz=>hexit _ _ fun q hq=>?_) (fun hz=>hnext _ _ ?_)
      ·have hz':(jn B).length=0:=by rw[e3,aB]at hz;have:=eq_of_beq hz;omega
       have hB:B=[]:=by
        cases B with
        |nil=>rfl
        |cons y B'=>
         obtain⟨d,t,_,hd⟩:=lY y B'
         rw[hd]at hz'
         simp at hz'
       subst hB
       refine⟨by rw[e3,aB];exact hz',?_,?_,fun h=>?_,fun B' h=>?_⟩
       ·rw[<- hQ];simpa using hlP
       ·rw[<- hQ]
        simpa [hP] using hq
       ·rw[<- hQ]at h;cases h
       ·show i64.wrap ((z.i:Int)+2)=_
        rw[ei,hlP]
      ·have hB:B≠[]:=fun hB=>by
        subst hB
        rw[e3]at hz
        simp[jn,ByteArray.size]at hz
       refine⟨hl16,G++[g0],B,none,hB,?_,?_,by show z.i+2=_;simp;omega,htk',?_,.inr ⟨rfl,B,hQ.symm,by rw[hP],?_⟩⟩
       ·intro g hg
        exact hlt g (by simp at hg ⊢;exact .inr hg)
       ·rw[e3];simp[bh]
       ·simp at hsz ⊢;omega
       ·show i64.wrap ((z.i:Int)+2)=_
        rw[ei,hlP]
     ·cases h
   ·have h58':((((((z.s.extract (((bg g0).length:Nat):Int).toNat z.s.size).extract 1 (z.s.extract (((bg g0).length:Nat):Int).toNat z.s.size).size).data.toList.getD 0 0).toNat:Nat):Int) == 58)=false:=h58
    rw[e2]at h58'
    rcases hcase with⟨_,_,h⟩ |⟨hne,h⟩ |⟨B,hR0,htl,h⟩
    ·rw[hr]at h;simp at h
    ·refine hnext _ _ ⟨hl16,G++[g0],R,tl,hne,fun g hg=>hlt g (by simp at hg ⊢;exact .inr hg),?_,by show z.i+2=_;simp;omega,htk',by simp;omega,?_⟩
     ·rw[e2]
      rw[hr]at h
      simp only[List.cons.injEq,true_and]at h
      rw[h]
     ·rcases hph with⟨h1,h2,h3⟩ |⟨h1,B,h2,h3,h4⟩
      ·exact .inl ⟨h1,by rw[<- h2];simp,h3⟩
      ·exact .inr ⟨h1,B,h2,by rw[<- h3];simp,h4⟩
    ·rw[hr]at h
     simp only[List.cons.injEq,true_and]at h
     rw[h]at h58'
     simp at h58'
  ·have hr0:rest=[]:=List.eq_nil_of_length_eq_zero (by omega)
   refine aa (by omega) (aa (by simp;omega) (aa rfl (aa (by omega) (aa (by rw[ei1];simp;omega) (aa rfl (aa (by omega) ?_))))))
   have hsz1:(z.s.extract (((bg g0).length:Nat):Int).toNat z.s.size).size=0:=by rw[e1,aB,hr0];rfl
   refine af (fun _=>hexit _ _ fun q hq=>?_) (fun h=>by rw[hsz1]at h;simp at h)
   rcases hcase with⟨hR0,htl,_⟩ |⟨hne,h⟩ |⟨B,hR0,htl,h⟩
   ·subst hR0 htl
    rcases hph with⟨h1,h2,h3⟩ |⟨_,B,h2,h3,h4⟩
    ·subst h1
     refine⟨hsz1,?_,?_,fun _=>h3,fun B h=>by cases h⟩
     ·show z.i+2=2*(P++[]).length
      rw[<- h2];simp;omega
     ·simpa [<- h2] using hq
    ·subst h2
     refine⟨hsz1,?_,?_,fun h=>(by cases h),fun B' h=>by cases h;exact h4⟩
     ·show z.i+2=2*(P++B).length
      rw[<- h3];simp;omega
     ·simpa [<- h3] using hq
   ·rw[hr0]at h;simp at h
   ·rw[hr0]at h;simp at h
 ·rintro w2 p w3 h
  exact h.elim
end
section
open Go Go.Rx Go.RowKit
noncomputable abbrev vo(x0:(LoopHook.X (dL))):List SV:=[(.str x0.fst.s false),(.raw (x0.snd 1)),(.ptr 0 0),(.bool false true),(.ptr 1 0),(.int .i64 x0.fst.e false),(.int .i64 ((↑x0.fst.i:Int)) false),(.raw (x0.snd 7)),(.raw (x0.snd 8)),(.int .i64 (i64.wrap ((16:Int)-(↑x0.fst.i:Int))) false),(.int .i64 (i64.wrap ((↑x0.fst.i:Int)-(1:Int))) false),(.raw (x0.snd 11)),(.raw (x0.snd 12)),(.raw (x0.snd 13)),(.raw (x0.snd 14)),(.raw (x0.snd 15)),(.raw (x0.snd 16)),(.raw (x0.snd 17)),(.raw (x0.snd 18)),(.raw (x0.snd 19)),(.raw (x0.snd 20)),(.raw (x0.snd 21)),(.raw (x0.snd 22)),(.raw (x0.snd 23)),(.raw (x0.snd 24)),(.raw (x0.snd 25)),(.raw (x0.snd 26)),(.raw (x0.snd 27)),(.raw (x0.snd 28)),(.raw (x0.snd 29)),(.raw (x0.snd 30)),(.raw (x0.snd 31)),(.raw (x0.snd 32)),(.raw (x0.snd 33)),(.raw (x0.snd 34)),(.raw (x0.snd 35)),(.raw (x0.snd 36)),(.raw (x0.snd 37)),(.raw (x0.snd 38)),(.raw (x0.snd 39)),(.raw (x0.snd 40)),(.raw (x0.snd 41)),(.raw (x0.snd 42)),(.raw (x0.snd 43)),(.raw (x0.snd 44)),(.raw (x0.snd 45)),(.raw (x0.snd 46)),(.raw (x0.snd 47)),(.raw (x0.snd 48)),(.raw (x0.snd 49)),(.raw (x0.snd 50)),(.raw (x0.snd 51)),(.raw (x0.snd 52)),(.raw (x0.snd 53)),(.raw (x0.snd 54)),(.raw (x0.snd 55)),(.raw (x0.snd 56)),(.raw (x0.snd 57)),(.raw (x0.snd 58)),(.raw (x0.snd 59)),(.raw (x0.snd 60)),(.raw (x0.snd 61)),(.raw (x0.snd 62)),(.raw (x0.snd 63)),(.raw (x0.snd 64)),(.raw (x0.snd 65)),(.raw (x0.snd 66)),(.raw (x0.snd 67)),(.raw (x0.snd 68)),(.raw (x0.snd 69)),(.raw (x0.snd 70)),(.raw (x0.snd 71)),(.raw (x0.snd 72)),(.raw (x0.snd 73)),(.raw (x0.snd 74)),(.raw (x0.snd 75)),(.raw (x0.snd 76)),(.raw (x0.snd 77)),(.raw (x0.snd 78)),(.raw (x0.snd 79)),(.raw (x0.snd 80)),(.raw (x0.snd 81)),(.raw (x0.snd 82)),(.raw (x0.snd 83)),(.raw (x0.snd 84)),(.raw (x0.snd 85)),(.raw (x0.snd 86)),(.raw (x0.snd 87)),(.raw (x0.snd 88)),(.raw (x0.snd 89)),(.raw (x0.snd 90)),(.raw (x0.snd 91)),(.raw (x0.snd 92)),(.raw (x0.snd 93)),(.raw (x0.snd 94)),(.raw (x0.snd 95)),(.raw (x0.snd 96)),(.raw (x0.snd 97)),(.raw (x0.snd 98)),(.raw (x0.snd 99)),(.raw (x0.snd 100)),(.raw (x0.snd 101)),(.raw (x0.snd 102)),(.raw (x0.snd 103)),(.raw (x0.snd 104)),(.raw (x0.snd 105)),(.raw (x0.snd 106)),(.raw (x0.snd 107)),(.raw (x0.snd 108)),(.raw (x0.snd 109)),(.raw (x0.snd 110)),(.raw (x0.snd 111)),(.raw (x0.snd 112)),(.raw (x0.snd 113)),(.raw (x0.snd 114)),(.raw (x0.snd 115)),(.raw (x0.snd 116)),(.raw (x0.snd 117)),(.raw (x0.snd 118)),(.raw (x0.snd 119)),(.raw (x0.snd 120)),(.raw (x0.snd 121)),(.raw (x0.snd 122)),(.raw (x0.snd 123)),(.raw (x0.snd 124)),(.raw (x0.snd 125)),(.raw (x0.snd 126)),(.raw (x0.snd 127)),(.raw (x0.snd 128)),(.raw (x0.snd 129)),(.raw (x0.snd 130)),(.raw (x0.snd 131)),(.raw (x0.snd 132)),(.str x0.fst.s false),(.int .i64 ((↑x0.fst.s.size:Int)) false),(.bool false true),(.raw (x0.snd 136)),(.int .i64 ((↑x0.fst.i:Int)) false),(.bool true true),(.int .i64 x0.fst.e false),(.bool false true),(.raw (x0.snd 141)),(.int .i64 ((↑x0.fst.i:Int)) false),(.int .i64 (i64.wrap ((16:Int)-(↑x0.fst.i:Int))) false),(.int .i64 ((↑x0.fst.i:Int)) false),(.int .i64 (i64.wrap ((↑x0.fst.i:Int)-(1:Int))) false),(.raw (x0.snd 146)),(.raw (x0.snd 147)),(.raw (x0.snd 148)),(.raw (x0.snd 149)),(.raw (x0.snd 150)),(.raw (x0.snd 151)),(.raw (x0.snd 152)),(.raw (x0.snd 153)),(.raw (x0.snd 154)),(.raw (x0.snd 155)),(.raw (x0.snd 156)),(.raw (x0.snd 157)),(.raw (x0.snd 158)),(.raw (x0.snd 159)),(.raw (x0.snd 160)),(.raw (x0.snd 161)),(.raw (x0.snd 162)),(.raw (x0.snd 163)),(.raw (x0.snd 164)),(.raw (x0.snd 165)),(.raw (x0.snd 166)),(.raw (x0.snd 167)),(.raw (x0.snd 168)),(.raw (x0.snd 169)),(.raw (x0.snd 170)),(.raw (x0.snd 171))]
noncomputable abbrev vp(x1:(LoopHook.X (jq))):List SV:=[(.raw (x1.snd 0)),(.raw (x1.snd 1)),(.ptr 0 0),(.bool false true),(.ptr 1 0),(.int .i64 x1.fst.e false),(.raw (x1.snd 6)),(.raw (x1.snd 7)),(.raw (x1.snd 8)),(.int .i64 x1.fst.n false),(.raw (x1.snd 10)),(.int .i64 x1.fst.e false),(.raw (x1.snd 12)),(.raw (x1.snd 13)),(.raw (x1.snd 14)),(.raw (x1.snd 15)),(.raw (x1.snd 16)),(.raw (x1.snd 17)),(.raw (x1.snd 18)),(.raw (x1.snd 19)),(.raw (x1.snd 20)),(.raw (x1.snd 21)),(.raw (x1.snd 22)),(.raw (x1.snd 23)),(.raw (x1.snd 24)),(.raw (x1.snd 25)),(.raw (x1.snd 26)),(.raw (x1.snd 27)),(.raw (x1.snd 28)),(.raw (x1.snd 29)),(.raw (x1.snd 30)),(.raw (x1.snd 31)),(.raw (x1.snd 32)),(.raw (x1.snd 33)),(.raw (x1.snd 34)),(.raw (x1.snd 35)),(.raw (x1.snd 36)),(.raw (x1.snd 37)),(.raw (x1.snd 38)),(.raw (x1.snd 39)),(.raw (x1.snd 40)),(.raw (x1.snd 41)),(.raw (x1.snd 42)),(.raw (x1.snd 43)),(.raw (x1.snd 44)),(.raw (x1.snd 45)),(.raw (x1.snd 46)),(.raw (x1.snd 47)),(.raw (x1.snd 48)),(.raw (x1.snd 49)),(.raw (x1.snd 50)),(.raw (x1.snd 51)),(.raw (x1.snd 52)),(.raw (x1.snd 53)),(.raw (x1.snd 54)),(.raw (x1.snd 55)),(.raw (x1.snd 56)),(.raw (x1.snd 57)),(.raw (x1.snd 58)),(.raw (x1.snd 59)),(.raw (x1.snd 60)),(.raw (x1.snd 61)),(.raw (x1.snd 62)),(.raw (x1.snd 63)),(.raw (x1.snd 64)),(.raw (x1.snd 65)),(.raw (x1.snd 66)),(.raw (x1.snd 67)),(.raw (x1.snd 68)),(.raw (x1.snd 69)),(.raw (x1.snd 70)),(.raw (x1.snd 71)),(.raw (x1.snd 72)),(.raw (x1.snd 73)),(.raw (x1.snd 74)),(.raw (x1.snd 75)),(.raw (x1.snd 76)),(.raw (x1.snd 77)),(.raw (x1.snd 78)),(.raw (x1.snd 79)),(.raw (x1.snd 80)),(.raw (x1.snd 81)),(.raw (x1.snd 82)),(.raw (x1.snd 83)),(.raw (x1.snd 84)),(.raw (x1.snd 85)),(.raw (x1.snd 86)),(.raw (x1.snd 87)),(.raw (x1.snd 88)),(.raw (x1.snd 89)),(.raw (x1.snd 90)),(.raw (x1.snd 91)),(.raw (x1.snd 92)),(.raw (x1.snd 93)),(.raw (x1.snd 94)),(.raw (x1.snd 95)),(.raw (x1.snd 96)),(.raw (x1.snd 97)),(.raw (x1.snd 98)),(.raw (x1.snd 99)),(.raw (x1.snd 100)),(.raw (x1.snd 101)),(.raw (x1.snd 102)),(.raw (x1.snd 103)),(.raw (x1.snd 104)),(.raw (x1.snd 105)),(.raw (x1.snd 106)),(.raw (x1.snd 107)),(.raw (x1.snd 108)),(.raw (x1.snd 109)),(.raw (x1.snd 110)),(.raw (x1.snd 111)),(.raw (x1.snd 112)),(.raw (x1.snd 113)),(.raw (x1.snd 114)),(.raw (x1.snd 115)),(.raw (x1.snd 116)),(.raw (x1.snd 117)),(.raw (x1.snd 118)),(.raw (x1.snd 119)),(.raw (x1.snd 120)),(.raw (x1.snd 121)),(.raw (x1.snd 122)),(.raw (x1.snd 123)),(.raw (x1.snd 124)),(.raw (x1.snd 125)),(.raw (x1.snd 126)),(.raw (x1.snd 127)),(.raw (x1.snd 128)),(.raw (x1.snd 129)),(.raw (x1.snd 130)),(.raw (x1.snd 131)),(.raw (x1.snd 132)),(.raw (x1.snd 133)),(.raw (x1.snd 134)),(.raw (x1.snd 135)),(.raw (x1.snd 136)),(.raw (x1.snd 137)),(.raw (x1.snd 138)),(.raw (x1.snd 139)),(.raw (x1.snd 140)),(.raw (x1.snd 141)),(.raw (x1.snd 142)),(.raw (x1.snd 143)),(.raw (x1.snd 144)),(.raw (x1.snd 145)),(.raw (x1.snd 146)),(.raw (x1.snd 147)),(.raw (x1.snd 148)),(.raw (x1.snd 149)),(.raw (x1.snd 150)),(.raw (x1.snd 151)),(.raw (x1.snd 152)),(.raw (x1.snd 153)),(.raw (x1.snd 154)),(.raw (x1.snd 155)),(.raw (x1.snd 156)),(.raw (x1.snd 157)),(.int .i64 x1.fst.e false),(.raw (x1.snd 159)),(.raw (x1.snd 160)),(.raw (x1.snd 161)),(.raw (x1.snd 162)),(.raw (x1.snd 163)),(.raw (x1.snd 164)),(.raw (x1.snd 165)),(.raw (x1.snd 166)),(.raw (x1.snd 167)),(.raw (x1.snd 168)),(.raw (x1.snd 169)),(.raw (x1.snd 170)),(.raw (x1.snd 171))]
noncomputable abbrev gJ(x0:(LoopHook.X (dL))):List SV:=[(.int .u8 (x0.fst.q 0) false),(.int .u8 (x0.fst.q 1) false),(.int .u8 (x0.fst.q 2) false),(.int .u8 (x0.fst.q 3) false),(.int .u8 (x0.fst.q 4) false),(.int .u8 (x0.fst.q 5) false),(.int .u8 (x0.fst.q 6) false),(.int .u8 (x0.fst.q 7) false),(.int .u8 (x0.fst.q 8) false),(.int .u8 (x0.fst.q 9) false),(.int .u8 (x0.fst.q 10) false),(.int .u8 (x0.fst.q 11) false),(.int .u8 (x0.fst.q 12) false),(.int .u8 (x0.fst.q 13) false),(.int .u8 (x0.fst.q 14) false),(.int .u8 (x0.fst.q 15) false)]
noncomputable abbrev eH:List SV:=gn
noncomputable abbrev pw(x1:(LoopHook.X (jq))):SObj:=(.cells [(.int .u8 (x1.fst.q 0) false),(.int .u8 (x1.fst.q 1) false),(.int .u8 (x1.fst.q 2) false),(.int .u8 (x1.fst.q 3) false),(.int .u8 (x1.fst.q 4) false),(.int .u8 (x1.fst.q 5) false),(.int .u8 (x1.fst.q 6) false),(.int .u8 (x1.fst.q 7) false),(.int .u8 (x1.fst.q 8) false),(.int .u8 (x1.fst.q 9) false),(.int .u8 (x1.fst.q 10) false),(.int .u8 (x1.fst.q 11) false),(.int .u8 (x1.fst.q 12) false),(.int .u8 (x1.fst.q 13) false),(.int .u8 (x1.fst.q 14) false),(.int .u8 (x1.fst.q 15) false)] 16 188 0 0)
noncomputable abbrev py(x2:(LoopHook.X (kA))):List SV:=[(.int .u8 (x2.fst 0) false),(.int .u8 (x2.fst 1) false),(.int .u8 (x2.fst 2) false),(.int .u8 (x2.fst 3) false),(.int .u8 (x2.fst 4) false),(.int .u8 (x2.fst 5) false),(.int .u8 (x2.fst 6) false),(.int .u8 (x2.fst 7) false),(.int .u8 (x2.fst 8) false),(.int .u8 (x2.fst 9) false),(.int .u8 (x2.fst 10) false),(.int .u8 (x2.fst 11) false),(.int .u8 (x2.fst 12) false),(.int .u8 (x2.fst 13) false),(.int .u8 (x2.fst 14) false),(.int .u8 (x2.fst 15) false)]
noncomputable abbrev pz(x0:(LoopHook.X (dL)))(w0:World)(b0:List Nat):T:=(.leaf .ret [(.tup [(.agg (gJ x0)),(.bool false true)])] (SS.mk [(.cells (gJ x0) 16 188 0 0),(.cells (gJ x0) 16 188 0 0)] [] true w0 b0))
noncomputable abbrev rx(x0:(LoopHook.X (dL)))(w0:World)(b0:List Nat):T:=(.split ((↑x0.fst.s.size:Int) != (0:Int)) (pz x0 w0 b0) (.split (decide ((↑x0.fst.i:Int)<(16:Int))) (.split (decide (x0.fst.e<(0:Int))) (pz x0 w0 b0) (.loop 301 (ar Tryz.prog 301 44) (vo x0) (SS.mk [(.cells eH 16 188 0 0),(.cells (gJ x0) 16 188 0 0)] [] true w0 b0) (LoopHook.X (jq)) (LoopHook.out (jq) (vo x0) (SS.mk [(.cells eH 16 188 0 0),(.cells (gJ x0) 16 188 0 0)] [] true w0 b0)) (fun x1 w1 b1=>(.loop 301 (ar Tryz.prog 301 48) (vp x1) (SS.mk [(.cells eH 16 188 0 0),(pw x1)] [] true w1 b1) (LoopHook.X (kA)) (LoopHook.out (kA) (vp x1) (SS.mk [(.cells eH 16 188 0 0),(pw x1)] [] true w1 b1)) (fun x2 w2 b2=>(.leaf .ret [(.tup [(.agg (py x2)),(.bool true true)])] (SS.mk [(.cells (py x2) 16 188 0 0),(.cells (py x2) 16 188 0 0)] [] true w2 b2))) (LoopHook.Y (kA)) (LoopHook.out' (kA) (vp x1) (SS.mk [(.cells eH 16 188 0 0),(pw x1)] [] true w1 b1)) (fun x2 w2 b2=>(.bad "a result's cell")))) (LoopHook.Y (jq)) (LoopHook.out' (jq) (vo x0) (SS.mk [(.cells eH 16 188 0 0),(.cells (gJ x0) 16 188 0 0)] [] true w0 b0)) (fun x1 w1 b1=>(.bad "a result's cell")))) (.split (decide (x0.fst.e ≥ (0:Int))) (pz x0 w0 b0) (.leaf .ret [(.tup [(.agg (gJ x0)),(.bool true true)])] (SS.mk [(.cells (gJ x0) 16 188 0 0),(.cells (gJ x0) 16 188 0 0)] [] true w0 b0)))))
noncomputable abbrev dV(w:World):SS:=(SS.mk [(.cells eH 16 188 0 0),(.cells eH 16 188 0 0)] [] true w [])
noncomputable abbrev kt(s:ByteArray):Int:=(↑(s.data.toList.getD 0 (0:UInt8)).toNat:Int)
noncomputable abbrev ku(s:ByteArray):Int:=(↑(s.data.toList.getD 1 (0:UInt8)).toNat:Int)
noncomputable abbrev mI(s:ByteArray):SV:=(.bool (decide ((↑s.size:Int) ≥ (2:Int))) false)
noncomputable abbrev iB(s:ByteArray):SV:=(.bool ((kt s) == (58:Int)) false)
noncomputable abbrev vj(s:ByteArray):List SV:=[(.str (s.extract 2 s.size) false),(.tup []),(.ptr 0 0),(.bool false true),(.ptr 1 0),(.int .i64 0 true),(.int .i64 0 true),(.tup []),(.tup []),(.tup []),(.tup []),(.tup []),(.str s false),(.int .i64 ((↑s.size:Int)) false),(mI s),(.bool true true),(.str s false),(.int .u8 ((kt s)) false),(iB s),(iB s),(.bool true true),(.str s false),(.int .u8 ((ku s)) false),(.bool ((ku s) == (58:Int)) false),(.bool true true),(.str s false),(.str (s.extract 2 s.size) false),(.str (s.extract 2 s.size) false),(.int .i64 ((↑(s.extract 2 s.size).size:Int)) false),(.bool false true)]
noncomputable abbrev vk(s:ByteArray):List SV:=[(.str s false),(.tup []),(.ptr 0 0),(.bool false true),(.ptr 1 0),(.int .i64 (-1) true),(.int .i64 0 true),(.tup []),(.tup []),(.tup []),(.tup []),(.tup []),(.str s false),(.int .i64 ((↑s.size:Int)) false),(mI s),(.bool true true),(.str s false),(.int .u8 ((kt s)) false),(iB s),(iB s),(.bool true true),(.str s false),(.int .u8 ((ku s)) false),(.bool ((ku s) == (58:Int)) false),(.bool false true)]
noncomputable abbrev vl(s:ByteArray):List SV:=[(.str s false),(.tup []),(.ptr 0 0),(.bool false true),(.ptr 1 0),(.int .i64 (-1) true),(.int .i64 0 true),(.tup []),(.tup []),(.tup []),(.tup []),(.tup []),(.str s false),(.int .i64 ((↑s.size:Int)) false),(mI s),(.bool true true),(.str s false),(.int .u8 ((kt s)) false),(iB s),(iB s),(.bool false true),(.tup []),(.tup []),(.tup []),(.bool false true)]
noncomputable abbrev vm(s:ByteArray):List SV:=[(.str s false),(.tup []),(.ptr 0 0),(.bool false true),(.ptr 1 0),(.int .i64 (-1) true),(.int .i64 0 true),(.tup []),(.tup []),(.tup []),(.tup []),(.tup []),(.str s false),(.int .i64 ((↑s.size:Int)) false),(mI s),(.bool false true),(.tup []),(.tup []),(.tup []),(.bool false true),(.bool false true),(.tup []),(.tup []),(.tup []),(.bool false true)]
theorem HH(s:ByteArray)(w:World):am Tryz.prog p9 500 301 [.str s false] (SS.mk [] [] true w []) =
(.split (decide ((↑s.size:Int) ≥ (2:Int))) (.need ((0:Int)<=(0:Int)/\(0:Int)<(↑s.size:Int)) (.split ((kt s) == (58:Int)) (.need ((0:Int)<=(1:Int)/\(1:Int)<(↑s.size:Int)) (.split ((ku s) == (58:Int)) (.need ((0:Int)<=(2:Int)/\(2:Int)<=(↑s.size:Int)) (.split ((↑(s.extract 2 s.size).size:Int) == (0:Int)) (.leaf .ret [(.tup [(.agg eH),(.bool true true)])] (dV w)) (.loop 301 (ar Tryz.prog 301 10) ((vj s)++List.replicate 142 aA) (dV w) (LoopHook.X (dL)) (LoopHook.out (dL) ((vj s)++List.replicate 142 aA) (dV w)) (fun x0 w0 b0=>(rx x0 w0 b0)) (LoopHook.Y (dL)) (LoopHook.out' (dL) ((vj s)++List.replicate 142 aA) (dV w)) (fun x0 w0 b0=>(.bad "a result's cell"))))) (.loop 301 (ar Tryz.prog 301 10) ((vk s)++List.replicate 147 aA) (dV w) (LoopHook.X (dL)) (LoopHook.out (dL) ((vk s)++List.replicate 147 aA) (dV w)) (fun x0 w0 b0=>(rx x0 w0 b0)) (LoopHook.Y (dL)) (LoopHook.out' (dL) ((vk s)++List.replicate 147 aA) (dV w)) (fun x0 w0 b0=>(.bad "a result's cell"))))) (.loop 301 (ar Tryz.prog 301 10) ((vl s)++List.replicate 147 aA) (dV w) (LoopHook.X (dL)) (LoopHook.out (dL) ((vl s)++List.replicate 147 aA) (dV w)) (fun x0 w0 b0=>(rx x0 w0 b0)) (LoopHook.Y (dL)) (LoopHook.out' (dL) ((vl s)++List.replicate 147 aA) (dV w)) (fun x0 w0 b0=>(.bad "a result's cell"))))) (.loop 301 (ar Tryz.prog 301 10) ((vm s)++List.replicate 147 aA) (dV w) (LoopHook.X (dL)) (LoopHook.out (dL) ((vm s)++List.replicate 147 aA) (dV w)) (fun x0 w0 b0=>(rx x0 w0 b0)) (LoopHook.Y (dL)) (LoopHook.out' (dL) ((vm s)++List.replicate 147 aA) (dV w)) (fun x0 w0 b0=>(.bad "a result's cell")))):=by kernel_rfl
theorem LB(s:ByteArray)(w:World):(by have h:=HH s w;unfold vm vl vk vj iB mI ku kt dV rx pz py pw eH gJ vp vo at h;exact type_of% h):=HH s w
theorem eT{l:List Int}{a k:Nat}{v:Int}(h:a<l.length):(l.set a v).getD k 0=if k=a then v else l.getD k 0:=by
 rw[List.getD_eq_getElem?_getD,List.getD_eq_getElem?_getD]
 by_cases hk:k=a
 ·subst hk
  rw[List.getElem?_set_self h,if_pos rfl];rfl
 ·rw[List.getElem?_set_ne (fun e=>hk e.symm),if_neg hk]
def iI(P:List Nat)(Q:Option (List Nat)):List Int:=match Q with
 |none=>pL P
 |some B=>pL P++List.replicate (16-2*(P.length+B.length)) 0++pL B
def sN(E I:Nat)(q q':Nat->Int):Prop:=∀j,j<16->q' j=if j<E then q j else if j<E+(16-I) then 0 else q (j-(16-I))
theorem kO{P B:List Nat}{i:Nat}{q q':Nat->Int}(hi:i=2*(P.length+B.length))(h16:i<=16)(hq:∀j,j<i->q j=(pL (P++(some B).getD [])).getD j 0)(hs:sN (2*P.length) i q q')(j:Nat)(hj:j<16) :
  q' j=(iI P (some B)).getD j 0:=by
 rw[hs j hj]
 have lP:=oX P
 have lB:=oX B
 simp only[iI,Option.getD_some,yd,List.getD_eq_getElem?_getD]at hq ⊢
 split
 ·rename_i h1
  rw[hq j (by omega),List.getElem?_append_left (by omega),List.append_assoc,List.getElem?_append_left (by omega)]
 ·rename_i h1
  split
  ·rename_i h2
   rw[List.append_assoc,List.getElem?_append_right (by omega),List.getElem?_append_left (by simp;omega),List.getElem?_replicate,if_pos (by omega)]
   rfl
  ·rename_i h2
   rw[hq _ (by omega),List.getElem?_append_right (by omega),List.getElem?_append_right (by simp;omega)]
   congr 2
   simp
   omega
def Me(E I:Nat)(q:Nat->Int)(z:F6):Prop:=
 z.e=(E:Int)/\z.n=((16-I:Nat):Int)/\z.l.length=16/\(E:Int)-1<=z.j/\z.j<=(I:Int)-1/\(∀k:Nat,(k:Int)<=z.j->z.l.getD k 0=q k)/\(∀k:Nat,z.j<(k:Int)->k<I->z.l.getD (k+(16-I)) 0=q k)
def HU(E I:Nat)(q:Nat->Int)(x:G6):Prop:=
 x.e=(E:Int)/\x.n=((16-I:Nat):Int)/\(∀k,k<E->x.q k=q k)/\(∀k,E<=k->k<I->x.q (k+(16-I))=q k)
def Mf(E I:Nat)(q:Nat->Int)(z:F6):Prop:=
 z.e=(E:Int)/\z.n=((16-I:Nat):Int)/\z.l.length=16/\∃j:Nat,z.j=(j:Int)/\E<=j/\j<=E+(16-I)/\(∀k,k<E->z.l.getD k 0=q k)/\(∀k,E<=k->k<j->z.l.getD k 0=0)/\(∀k,E<=k->k<I->z.l.getD (k+(16-I)) 0=q k)
theorem yp(q:Nat->Int){k:Nat}(hk:k<16):([q 0,q 1,q 2,q 3,q 4,q 5,q 6,q 7,q 8,q 9,q 10,q 11,q 12,q 13,q 14,q 15]:List Int).getD k 0=q k:=by
 match k,hk with
 |0,_ |1,_ |2,_ |3,_ |4,_ |5,_ |6,_ |7,_ |8,_ |9,_ |10,_ |11,_ |12,_ |13,_ |14,_ |15,_=>rfl
 |n+16,h=>omega
theorem tN{s s0:SS}{a a0:List SV}{w:World}{E I:Nat}{q q1:Nat->Int}{Q:SE->List Value->World->Prop}{k:(Nat->Int)×(Nat->Value)->World->List Nat->T}{k':Unit×(Nat->Value)->World->List Nat->T}(hf:Fine w s)(hgl:s.gl=[])(hobj:s.objs=bM q1)
  (hI:I<=16) (hE:E<=I) (hN:a.length=172) (hq1:HU E I q ⟨E,((16-I:Nat):Int),q1⟩) (hsel:∀β,f6 Bd .normal (ae β a)=ae β (og ⟨E,((16-I:Nat):Int),E,[q1 0,q1 1,q1 2,q1 3,q1 4,q1 5,q1 6,q1 7,q1 8,q1 9,q1 10,q1 11,q1 12,q1 13,q1 14,q1 15]⟩))
  (hk:∀q' w' g bs,Below w.heap.size w w'->(∀b∈bs,w.heap.size<=b)->sN E I q q'->(k (q',g) w' bs).holds (cS Tryz.prog Q)) :
  (T.loop 301 (ar Tryz.prog 301 48) a s (LoopHook.X kA) (LoopHook.out kA a0 s0) k (LoopHook.Y kA) (LoopHook.out' kA a0 s0) k').holds (cS Tryz.prog Q):=by
 obtain⟨_,_,hqa,hqb⟩:=hq1
 dsimp only at hqa hqb
 refine iJ (w:=w) hf hgl 2 (by show s.objs.length=2;rw[hobj];rfl) Bd og (fun z=>aV z.l) (fun z=>(16-z.j).toNat) (fun _ z _=>Mf E I q z) (fun _ q' _=>sN E I q q') (fun _ _ _=>False) (fun _=>p9) 1000
  hN (by simp[Bd]) (by simp[Bd]) (fun _=>⟨(pe 2 (by omega)).1,trivial,(pe 2 (by omega)).2,trivial,trivial,trivial,trivial⟩) (fun _=>aQ _) rfl rfl (by simp) (by simp) (fun _=>⟨⟨(pe 2 (by omega)).1,trivial,(pe 2 (by omega)).2,trivial⟩,dE _⟩) (fun _=>⟨trivial,dE _⟩) ?_ ?_ ?_ ?_
 ·rintro β w0 z w1 g hb0 ⟨h1,h2,h3,j,hj,hj1,hj2,k1,k2,k3⟩ hkp hge
  refine ah (Ld z w1 (ac β 2) g) ?_
  have e1:i64.wrap (z.e+z.n)=((E+(16-I):Nat):Int):=by rw[h1,h2,ax (by omega) (by omega)];omega
  have e2:i64.wrap (z.j+1)=((j+1:Nat):Int):=by rw[hj,ax (by omega) (by omega)];omega
  rw[e1,e2]
  refine ak (fun hlt=>?_) (fun hge2=>?_)
  ·rw[hj]
   simp only[Int.toNat_natCast,Nat.zero_add,Nat.mul_one]
   refine aa (by omega) (aa (by omega) (aa rfl ?_))
   refine aM ⟨rfl,hkp,fun b hb=>.inl hb⟩ fun β' w' hst hk'=>⟨⟨z.e,z.n,((j+1:Nat):Int),z.l.set j 0⟩,by show(16-((j+1:Nat):Int)).toNat<(16-z.j).toNat;omega,?_,hst.objsAt rfl (aQ _).2,⟨h1,h2,by simp[h3],j+1,rfl,by omega,by omega,fun k hk=>?_,fun k hk1 hk2=>?_,fun k hk1 hk2=>?_⟩,hk'⟩
   ·have h0:=hst.base 0 (by show 0<2;omega)
    have h1:=hst.base 1 (by show 1<2;omega)
    simp only[og,ae,SV.den]
    rw[h0,h1]
   ·show(z.l.set j 0).getD k 0=_
    rw[eT (by omega),if_neg (by omega)]
    exact k1 k hk
   ·show(z.l.set j 0).getD k 0=_
    rw[eT (by omega)]
    split
    ·rfl
    ·exact k2 k hk1 (by omega)
   ·show(z.l.set j 0).getD _ 0=_
    rw[eT (by omega),if_neg (by omega)]
    exact k3 k hk1 hk2
  ·have hje:j=E+(16-I):=by omega
   refine aM ⟨rfl,hkp,fun b hb=>.inl hb⟩ fun β' w' hst hk'=>⟨.inl ⟨fun k=>z.l.getD k 0,rfl,?_,ig (hst.objsAt rfl (aQ _).2) h3,fun k hk=>?_⟩,hk'⟩
   ·have h0:=hst.base 0 (by show 0<2;omega)
    have h1:=hst.base 1 (by show 1<2;omega)
    simp only[F7,ae,SV.den]
    rw[h0,h1]
   ·show z.l.getD k 0=_
    split
    ·exact k1 k ‹_›
    ·split
     ·exact k2 k (by omega) (by omega)
     ·have:=k3 (k-(16-I)) (by omega) (by omega)
      rw[show k-(16-I)+(16-I)=k by omega]at this
      exact this
 ·intro β w0 hst hb
  refine⟨⟨E,((16-I:Nat):Int),E,_⟩,hsel β,g6 (q:=q1) fun i o hi=>hst.at_ i o (by rw[hobj];exact hi),rfl,rfl,rfl,E,rfl,Nat.le_refl _,by omega,fun k hk=>?_,fun k h1 h2=>by omega,fun k h1 h2=>?_⟩
  ·show List.getD _ k 0=_
   rw[yp q1 (by omega)]
   exact hqa k hk
  ·show List.getD _ _ 0=_
   rw[yp q1 (by omega)]
   exact hqb k h1 h2
 ·rintro w0 q' w' hsh hb0 hb1 g bs hbs
  exact hk q' w' g bs hb1 hbs hsh
 ·rintro w0 q' w' h
  exact h.elim
theorem tM{s s0:SS}{a a0:List SV}{w:World}{E I:Nat}{q:Nat->Int}{Q:SE->List Value->World->Prop}{k:G6×(Nat->Value)->World->List Nat->T}{k':Unit×(Nat->Value)->World->List Nat->T}(hf:Fine w s)(hgl:s.gl=[])(hobj:s.objs=bM q)
  (hI:I<=16) (hE:E<=I) (hN:a.length=172) (hsel:∀β,f6 Bc .normal (ae β a)=ae β (og ⟨E,((16-I:Nat):Int),(I:Int)-1,[q 0,q 1,q 2,q 3,q 4,q 5,q 6,q 7,q 8,q 9,q 10,q 11,q 12,q 13,q 14,q 15]⟩))
  (hk:∀x w' g bs,Below w.heap.size w w'->(∀b∈bs,w.heap.size<=b)->HU E I q x->(k (x,g) w' bs).holds (cS Tryz.prog Q)) :
  (T.loop 301 (ar Tryz.prog 301 44) a s (LoopHook.X jq) (LoopHook.out jq a0 s0) k (LoopHook.Y jq) (LoopHook.out' jq a0 s0) k').holds (cS Tryz.prog Q):=by
 refine iJ (w:=w) hf hgl 2 (by show s.objs.length=2;rw[hobj];rfl) Bc og (fun z=>aV z.l) (fun z=>(z.j+1).toNat) (fun _ z _=>Me E I q z) (fun _ x _=>HU E I q x) (fun _ _ _=>False) (fun _=>p9) 1000
  hN (by simp[Bc]) (by simp[Bc]) (fun _=>⟨(pe 2 (by omega)).1,trivial,(pe 2 (by omega)).2,trivial,trivial,trivial,trivial⟩) (fun _=>aQ _) rfl rfl (by simp) (by simp) (fun _=>⟨⟨(pe 2 (by omega)).1,trivial,(pe 2 (by omega)).2,trivial,trivial,trivial⟩,dE _⟩) (fun _=>⟨trivial,dE _⟩) ?_ ?_ ?_ ?_
 ·rintro β w0 z w1 g hb0 ⟨h1,h2,h3,hj1,hj2,k1,k2⟩ hkp hge
  refine ah (Lc z w1 (ac β 2) g) ?_
  rw[h1]
  refine ak (fun hlt=>?_) (fun hge2=>?_)
  ·obtain⟨j,hj⟩:=Int.eq_ofNat_of_zero_le (show 0<=z.j by omega)
   have e1:i64.wrap (z.j+z.n)=((j+(16-I):Nat):Int):=by rw[h2,ax (by omega) (by omega)];omega
   have e2:i64.wrap (z.j-1)=(j:Int)-1:=by
    rcases Nat.eq_zero_or_pos j with h0 |h0
    ·subst h0
     rw[hj];rfl
    ·rw[ax (by omega) (by omega)];omega
   rw[e1,e2,hj]
   simp only[Int.toNat_natCast,Nat.zero_add,Nat.mul_one]
   refine aa (by omega) (aa (by omega) (aa (by omega) (aa (by omega) (aa rfl ?_))))
   refine aM ⟨rfl,hkp,fun b hb=>.inl hb⟩ fun β' w' hst hk'=>⟨⟨E,z.n,(j:Int)-1,z.l.set (j+(16-I)) (z.l.getD j 0)⟩,by show((j:Int)-1+1).toNat<(z.j+1).toNat;omega,?_,hst.objsAt rfl (aQ _).2,⟨rfl,h2,by simp[h3],by show(E:Int)-1<=(j:Int)-1;omega,by show(j:Int)-1<=(I:Int)-1;omega,fun k hk=>?_,fun k hk1 hk2=>?_⟩,hk'⟩
   ·have h0:=hst.base 0 (by show 0<2;omega)
    have h1:=hst.base 1 (by show 1<2;omega)
    simp only[og,ae,SV.den]
    rw[h0,h1]
   ·show(z.l.set _ _).getD k 0=_
    replace hk:(k:Int)<=(j:Int)-1:=hk
    rw[eT (by omega),if_neg (by omega)]
    exact k1 k (by omega)
   ·show(z.l.set _ _).getD _ 0=_
    replace hk1:(j:Int)-1<(k:Int):=hk1
    rw[eT (by omega)]
    split
    ·rename_i he
     have:k=j:=by omega
     subst this
     exact k1 k (by omega)
    ·exact k2 k (by omega) hk2
  ·have hje:z.j=(E:Int)-1:=by omega
   refine aM ⟨rfl,hkp,fun b hb=>.inl hb⟩ fun β' w' hst hk'=>⟨.inl ⟨⟨E,z.n,fun k=>z.l.getD k 0⟩,rfl,?_,ig (hst.objsAt rfl (aQ _).2) h3,rfl,h2,fun k hk=>k1 k (by omega),fun k hk1 hk2=>k2 k (by omega) hk2⟩,hk'⟩
   have h0:=hst.base 0 (by show 0<2;omega)
   have h1:=hst.base 1 (by show 1<2;omega)
   simp only[F5,ae,SV.den]
   rw[h0,h1]
 ·intro β w0 hst hb
  refine⟨⟨E,((16-I:Nat):Int),(I:Int)-1,_⟩,hsel β,g6 (q:=q) fun i o hi=>hst.at_ i o (by rw[hobj];exact hi),rfl,rfl,rfl,by show(E:Int)-1<=(I:Int)-1;omega,Int.le_refl _,fun k hk=>?_,fun k h1 h2=>?_⟩
  ·replace hk:(k:Int)<=(I:Int)-1:=hk
   show List.getD _ k 0=_
   rw[yp q (by omega)]
  ·replace h1:(I:Int)-1<(k:Int):=h1
   omega
 ·rintro w0 x w' hsh hb0 hb1 g bs hbs
  exact hk x w' g bs hb1 hbs hsh
 ·rintro w0 q' w' h
  exact h.elim
end
section
open Go Go.Rx Go.RowKit
theorem yx{s s0:SS}{a a0:List SV}{w:World}{P:List Nat}{Q6:Option (List Nat)}{Q:SE->List Value->World->Prop}{k:O6×(Nat->Value)->World->List Nat->T}{k':Unit×(Nat->Value)->World->List Nat->T}(hf:Fine w s)(hgl:s.gl=[])(hobj:s.objs=[.cells gn 16 188 0 0,.cells gn 16 188 0 0])
  (hN:a.length=172) (sv:ByteArray) (e:Int) (hsel:∀β,f6 xX .normal (ae β a)=ae β (gb ⟨sv,e,0,List.replicate 16 0⟩)) (hI:wD P Q6 ⟨sv,e,0,List.replicate 16 0⟩)
  (hk:∀o w' g bs,Below w.heap.size w w'->(∀b∈bs,w.heap.size<=b)->Bb P Q6 o->(k (o,g) w' bs).holds (cS Tryz.prog Q)) :
  (T.loop 301 (ar Tryz.prog 301 10) a s (LoopHook.X dL) (LoopHook.out dL a0 s0) k (LoopHook.Y dL) (LoopHook.out' dL a0 s0) k').holds (cS Tryz.prog Q):=by
 refine iJ (w:=w) hf hgl 2 (by show s.objs.length=2;rw[hobj];rfl) xX gb (fun z=>aV z.l) (fun z=>16-z.i) (fun _ z _=>wD P Q6 z) (fun _ o _=>Bb P Q6 o) (fun _ _ _=>False) Bs 1000
  hN (by simp[xX]) (by simp[xX]) (fun _=>⟨trivial,(pe 2 (by omega)).1,trivial,(pe 2 (by omega)).2,trivial,trivial,trivial⟩) (fun _=>aQ _) rfl rfl (by simp) (by simp) (fun _=>⟨⟨trivial,(pe 2 (by omega)).1,trivial,(pe 2 (by omega)).2,trivial,trivial,trivial⟩,dE _⟩) (fun _=>⟨trivial,dE _⟩) ?_ ?_ ?_ ?_
 ·rintro β w0 z w1 g hb0 hI hkp hge
  exact I5 P Q6 β w0 w1 z g hkp hI
 ·intro β w0 hst hb
  refine⟨_,hsel β,g6 (q:=fun _=>0) fun i o hi=>?_,hI⟩
  match i,hi with
  |0,hi=>exact hst.at_ 0 o (by rw[hobj];exact hi)
  |1,hi=>
   simp only[bM,List.getElem?_cons_succ,List.getElem?_cons_zero,Option.some.injEq]at hi
   subst hi
   exact hst.at_ 1 (.cells gn 16 188 0 0) (by rw[hobj];rfl)
  |i+2,hi=>simp[bM]at hi
 ·rintro w0 x w' hsh hb0 hb1 g bs hbs
  exact hk x w' g bs hb1 hbs hsh
 ·rintro w0 q' w' h
  exact h.elim
theorem DH(P:List Nat)(Q:Option (List Nat))(w:World)(hg:∀g∈P++Q.getD [],g<65536)(hQ:(Q=none/\P.length=8)∨(∃B,Q=some B/\P.length+B.length<=7)) :
  Calls Tryz.prog 301 #[.string ⟨(jn P++bh Q).toArray⟩] w (bF (fun v _=>∃q:Nat->Int,(∀j,j<16->q j=(iI P Q).getD j 0)/\v=SV.den id (.tup [.agg (cq q),.bool true true])) w):=by
 refine aH (hk:=p9) (n:=500) (args:=[.str ⟨(jn P++bh Q).toArray⟩ false]) ⟨trivial,trivial⟩ ?_
 refine ah (LB ⟨(jn P++bh Q).toArray⟩ w) ?_
 have hget:∀j,((⟨(jn P++bh Q).toArray⟩:ByteArray).data.toList.getD j 0)=(jn P++bh Q).getD j 0:=fun j=>rfl
 have hsz0:(⟨(jn P++bh Q).toArray⟩:ByteArray).size=(jn P++bh Q).length:=aB _
 cases P with
 |nil=>
  obtain⟨B,hQB,hB7⟩:∃B,Q=some B/\B.length<=7:=by
   rcases hQ with⟨_,h⟩ |⟨B,h,h2⟩
   ·simp at h
   ·exact⟨B,h,by simpa using h2⟩
  have hT:jn []++bh Q=58 :: 58 :: jn B:=by rw[hQB];rfl
  have hl:(⟨(jn []++bh Q).toArray⟩:ByteArray).size=(jn B).length+2:=by rw[hsz0,hT];simp
  refine ak (fun _=>?_) (fun h=>absurd (by rw[hl];omega) h)
  refine aa (by rw[hl];omega) (af (fun _=>?_) (fun h=>by rw[hget,hT]at h;simp at h))
  refine aa (by rw[hl];omega) (af (fun _=>?_) (fun h=>by rw[hget,hT]at h;simp at h))
  refine aa (by rw[hl];omega) ?_
  have e2:(⟨(jn []++bh Q).toArray⟩:ByteArray).extract 2 (⟨(jn []++bh Q).toArray⟩:ByteArray).size=⟨(jn B).toArray⟩:=by
   rw[jh,hT];rfl
  refine af (fun hz=>?_) (fun hz=>?_)
  ·have hz':(jn B).length=0:=by rw[e2,aB]at hz;have:=eq_of_beq hz;omega
   have hB:B=[]:=by
    cases B with
    |nil=>rfl
    |cons y B'=>
     obtain⟨d,t,_,hd⟩:=lY y B'
     rw[hd]at hz'
     simp at hz'
   refine aN (Fine.start w _) fun β' w' _ _=>⟨fun _=>0,fun j hj=>?_,rfl⟩
   rw[hQB,hB]
   simp only[iI,pL,List.flatMap_nil,List.length_nil,List.nil_append,List.append_nil,List.getD_eq_getElem?_getD,List.getElem?_replicate]
   split <;> rfl
  ·have hB:B≠[]:=fun hB=>by
    rw[e2,hB]at hz
    simp[jn,ByteArray.size]at hz
   have hne:([]:List Nat)++Q.getD []≠[]:=by rw[hQB];simpa using hB
   refine yx (w:=w) (P:=[]) (Q6:=Q) (Fine.start w _) rfl rfl rfl ((⟨(jn []++bh Q).toArray⟩:ByteArray).extract 2 (⟨(jn []++bh Q).toArray⟩:ByteArray).size) 0 (fun β=>rfl) ⟨rfl,[],B,none,hB,?_,?_,rfl,rfl,?_,.inr ⟨rfl,B,hQB,rfl,rfl⟩⟩ ?_
   ·intro g hg'
    exact hg g (by rw[hQB];simpa using hg')
   ·show _=_
    rw[e2];simp[bh]
   ·simp;omega
   intro o w2 g bs2 hw2 hbs2 hE
   obtain⟨hsz,hoi,hq,hn,hsome⟩:=hE
   dsimp only
   refine af (fun h=>by rw[hsz]at h;simp at h) (fun _=>ak (fun hi16=>?_) (fun hi16=>?_))
   ·obtain⟨B',hQB,hB7⟩:∃B',Q=some B'/\([]:List Nat).length+B'.length<=7:=by
     rcases hQ with⟨h,h8⟩ |⟨B',h,h7⟩
     ·rw[h,Option.getD_none,List.append_nil]at hoi
      omega
     ·exact⟨B',h,h7⟩
    have he:=hsome B' hQB
    have hi':o.i=2*(([]:List Nat).length+B'.length):=by rw[hoi,hQB,Option.getD_some,List.length_append]
    have hi2:2<=o.i:=by
     have:0<(([]:List Nat)++Q.getD []).length:=List.length_pos_iff.2 hne
     rw[hoi];omega
    rw[he]
    refine ak (fun h=>absurd h (by omega)) (fun _=>?_)
    have e1:i64.wrap ((16:Int)-(o.i:Int))=((16-o.i:Nat):Int):=by rw[ax (by omega) (by omega)];omega
    have e2:i64.wrap ((o.i:Int)-(1:Int))=(o.i:Int)-1:=ax (by omega) (by omega)
    rw[e1,e2]
    refine tM (w:=w) (E:=2*([]:List Nat).length) (I:=o.i) (q:=o.q) (Fine.mk' hw2 hbs2) rfl rfl (by omega) (by omega) rfl (fun β=>rfl) ?_
    intro x w3 g3 bs3 hw3 hbs3 hF
    have hxe:=hF.1
    have hxn:=hF.2.1
    dsimp only
    rw[hxe,hxn]
    refine tN (w:=w) (E:=2*([]:List Nat).length) (I:=o.i) (q:=o.q) (q1:=x.q) (Fine.mk' hw3 hbs3) rfl rfl (by omega) (by omega) rfl ⟨rfl,rfl,hF.2.2⟩ (fun β=>rfl) ?_
    intro q' w4 g4 bs4 hw4 hbs4 hq'
    refine aN (Fine.mk' hw4 hbs4) fun β' w' _ _=>⟨q',fun j hj=>?_,rfl⟩
    rw[hQB]
    exact kO hi' (by omega) (fun j hj=>by rw[hq j hj,hQB]) hq' j hj
   ·have hQn:Q=none:=by
     rcases hQ with⟨h,_⟩ |⟨B',h,h2⟩
     ·exact h
     ·rw[h,Option.getD_some,List.length_append]at hoi
      omega
    rw[hn hQn]
    refine ak (fun h=>absurd h (by omega)) (fun _=>?_)
    refine aN (Fine.mk' hw2 hbs2) fun β' w' _ _=>⟨o.q,fun j hj=>?_,rfl⟩
    have:=hq j (by omega)
    simpa [iI,hQn] using this
 |cons y P'=>
  obtain⟨d,t,hd16,hd⟩:=lY y P'
  have hT0:(jn (y :: P')++bh Q).getD 0 0=bR d:=by rw[hd];rfl
  have hne:(y :: P')++Q.getD []≠[]:=by simp
  have hI:wD (y :: P') Q ⟨⟨(jn (y :: P')++bh Q).toArray⟩,-1,0,List.replicate 16 0⟩:=by
   refine⟨rfl,[],y :: P',Q,by simp,hg,rfl,rfl,rfl,?_,.inl ⟨rfl,rfl,rfl⟩⟩
   rcases hQ with⟨h,h8⟩ |⟨B,h,h7⟩
   ·rw[h];simp at h8 ⊢;omega
   ·rw[h];simp at h7 ⊢;omega
  refine ak (fun h2=>?_) (fun h2=>?_)
  ·refine aa (by omega) (af (fun h58=>?_) (fun _=>?_))
   ·rw[hget,hT0]at h58
    have h5:(((bR d).toNat:Nat):Int)=58:=by simpa using h58
    have h6:=(o7 d hd16).1
    exact absurd (UInt8.toNat_inj.1 (by show(bR d).toNat=58;omega)) h6
   refine yx (w:=w) (P:=y :: P') (Q6:=Q) (Fine.start w _) rfl rfl rfl ⟨(jn (y :: P')++bh Q).toArray⟩ (-1) (fun β=>rfl) hI ?_
   intro o w2 g bs2 hw2 hbs2 hE
   obtain⟨hsz,hoi,hq,hn,hsome⟩:=hE
   dsimp only
   refine af (fun h=>by rw[hsz]at h;simp at h) (fun _=>ak (fun hi16=>?_) (fun hi16=>?_))
   ·obtain⟨B',hQB,hB7⟩:∃B',Q=some B'/\(y :: P').length+B'.length<=7:=by
     rcases hQ with⟨h,h8⟩ |⟨B',h,h7⟩
     ·rw[h,Option.getD_none,List.append_nil]at hoi
      omega
     ·exact⟨B',h,h7⟩
    have he:=hsome B' hQB
    have hi':o.i=2*((y :: P').length+B'.length):=by rw[hoi,hQB,Option.getD_some,List.length_append]
    have hi2:2<=o.i:=by
     have:0<((y :: P')++Q.getD []).length:=List.length_pos_iff.2 hne
     rw[hoi];omega
    rw[he]
    refine ak (fun h=>absurd h (by omega)) (fun _=>?_)
    have e1:i64.wrap ((16:Int)-(o.i:Int))=((16-o.i:Nat):Int):=by rw[ax (by omega) (by omega)];omega
    have e2:i64.wrap ((o.i:Int)-(1:Int))=(o.i:Int)-1:=ax (by omega) (by omega)
    rw[e1,e2]
    refine tM (w:=w) (E:=2*(y :: P').length) (I:=o.i) (q:=o.q) (Fine.mk' hw2 hbs2) rfl rfl (by omega) (by omega) rfl (fun β=>rfl) ?_
    intro x w3 g3 bs3 hw3 hbs3 hF
    have hxe:=hF.1
    have hxn:=hF.2.1
    dsimp only
    rw[hxe,hxn]
    refine tN (w:=w) (E:=2*(y :: P').length) (I:=o.i) (q:=o.q) (q1:=x.q) (Fine.mk' hw3 hbs3) rfl rfl (by omega) (by omega) rfl ⟨rfl,rfl,hF.2.2⟩ (fun β=>rfl) ?_
    intro q' w4 g4 bs4 hw4 hbs4 hq'
    refine aN (Fine.mk' hw4 hbs4) fun β' w' _ _=>⟨q',fun j hj=>?_,rfl⟩
    rw[hQB]
    exact kO hi' (by omega) (fun j hj=>by rw[hq j hj,hQB]) hq' j hj
   ·have hQn:Q=none:=by
     rcases hQ with⟨h,_⟩ |⟨B',h,h2⟩
     ·exact h
     ·rw[h,Option.getD_some,List.length_append]at hoi
      omega
    rw[hn hQn]
    refine ak (fun h=>absurd h (by omega)) (fun _=>?_)
    refine aN (Fine.mk' hw2 hbs2) fun β' w' _ _=>⟨o.q,fun j hj=>?_,rfl⟩
    have:=hq j (by omega)
    simpa [iI,hQn] using this
  ·refine yx (w:=w) (P:=y :: P') (Q6:=Q) (Fine.start w _) rfl rfl rfl ⟨(jn (y :: P')++bh Q).toArray⟩ (-1) (fun β=>rfl) hI ?_
   intro o w2 g bs2 hw2 hbs2 hE
   obtain⟨hsz,hoi,hq,hn,hsome⟩:=hE
   dsimp only
   refine af (fun h=>by rw[hsz]at h;simp at h) (fun _=>ak (fun hi16=>?_) (fun hi16=>?_))
   ·obtain⟨B',hQB,hB7⟩:∃B',Q=some B'/\(y :: P').length+B'.length<=7:=by
     rcases hQ with⟨h,h8⟩ |⟨B',h,h7⟩
     ·rw[h,Option.getD_none,List.append_nil]at hoi
      omega
     ·exact⟨B',h,h7⟩
    have he:=hsome B' hQB
    have hi':o.i=2*((y :: P').length+B'.length):=by rw[hoi,hQB,Option.getD_some,List.length_append]
    have hi2:2<=o.i:=by
     have:0<((y :: P')++Q.getD []).length:=List.length_pos_iff.2 hne
     rw[hoi];omega
    rw[he]
    refine ak (fun h=>absurd h (by omega)) (fun _=>?_)
    have e1:i64.wrap ((16:Int)-(o.i:Int))=((16-o.i:Nat):Int):=by rw[ax (by omega) (by omega)];omega
    have e2:i64.wrap ((o.i:Int)-(1:Int))=(o.i:Int)-1:=ax (by omega) (by omega)
    rw[e1,e2]
    refine tM (w:=w) (E:=2*(y :: P').length) (I:=o.i) (q:=o.q) (Fine.mk' hw2 hbs2) rfl rfl (by omega) (by omega) rfl (fun β=>rfl) ?_
    intro x w3 g3 bs3 hw3 hbs3 hF
    have hxe:=hF.1
    have hxn:=hF.2.1
    dsimp only
    rw[hxe,hxn]
    refine tN (w:=w) (E:=2*(y :: P').length) (I:=o.i) (q:=o.q) (q1:=x.q) (Fine.mk' hw3 hbs3) rfl rfl (by omega) (by omega) rfl ⟨rfl,rfl,hF.2.2⟩ (fun β=>rfl) ?_
    intro q' w4 g4 bs4 hw4 hbs4 hq'
    refine aN (Fine.mk' hw4 hbs4) fun β' w' _ _=>⟨q',fun j hj=>?_,rfl⟩
    rw[hQB]
    exact kO hi' (by omega) (fun j hj=>by rw[hq j hj,hQB]) hq' j hj
   ·have hQn:Q=none:=by
     rcases hQ with⟨h,_⟩ |⟨B',h,h2⟩
     ·exact h
     ·rw[h,Option.getD_some,List.length_append]at hoi
      omega
    rw[hn hQn]
    refine ak (fun h=>absurd h (by omega)) (fun _=>?_)
    refine aN (Fine.mk' hw2 hbs2) fun β' w' _ _=>⟨o.q,fun j hj=>?_,rfl⟩
    have:=hq j (by omega)
    simpa [iI,hQn] using this
end
section
open Go Go.Rx Go.RowKit
structure Z4 where
 val:Nat
 pos:Nat
 dig:Nat
 i:Nat
 l:List Int
structure O4 where
 val:Nat
 q:Nat->Int
@[reducible] def FZ(a b c d:Int):List SV:=[.int .u8 0 true,.int .u8 0 true,.int .u8 0 true,.int .u8 0 true,.int .u8 0 true,.int .u8 0 true,.int .u8 0 true,.int .u8 0 true,.int .u8 0 true,.int .u8 0 true,.int .u8 255 true,.int .u8 255 true,.int .u8 a false,.int .u8 b false,.int .u8 c false,.int .u8 d false]
@[reducible] def nc:List SV:=[.int .u8 0 true,.int .u8 0 true,.int .u8 0 true,.int .u8 0 true,.int .u8 0 true,.int .u8 0 true,.int .u8 0 true,.int .u8 0 true,.int .u8 0 true,.int .u8 0 true,.int .u8 255 true,.int .u8 255 true,.int .u8 0 true,.int .u8 0 true,.int .u8 0 true,.int .u8 0 true]
@[reducible] def ek(l:List Int):List SObj:=[.ints .u8 l 188 0 0]
@[reducible] def de(a b c d:Int):List SObj:=[.cells (FZ a b c d) 16 188 0 0]
def lI:SE->List Nat
 | .normal=>[0,1,4,5,6,7,8]
 | .exit _=>[0,1,4,5,6]
 |_=>[]
@[reducible] def qY(s:ByteArray)(z:Z4):List SV:=[.str s false,.slc 0 12 4 4 true true,.bool false true,.int .i64 z.val false,.int .i64 z.pos false,.int .i64 z.dig false,.int .i64 z.i false]
@[reducible] def Ay(s:ByteArray)(z:O4):List SV:=[.str s false,.slc 0 12 4 4 true true,.bool false true,.int .i64 z.val false,.int .i64 3 false]
def xd(s:ByteArray):LoopHook:=bv 82 O4 (.exit 0) [0,1,4,5,6] (Ay s) (fun z=>de (z.q 0) (z.q 1) (z.q 2) (z.q 3)) Unit .ret [] (fun _=>[]) (fun _=>de 0 0 0 0)
def Gd(s:ByteArray):Hooks:={ calls:=fun _=>none,loops:=fun _ _=>some (xd s) }
noncomputable abbrev jJ(z:Z4)(w:World)(bs:List Nat):T:=(.leaf .ret [] (SS.mk [(.ints .u8 z.l 188 0 0)] [] true w bs))
noncomputable abbrev nZ(s:ByteArray)(z:Z4):Int:=(↑(s.data.toList.getD (↑z.i:Int).toNat (0:UInt8)).toNat:Int)
noncomputable abbrev ry(z:Z4)(s:ByteArray):Prop:=((0:Int)<=(↑z.i:Int)/\(↑z.i:Int)<(↑s.size:Int))
noncomputable abbrev zL(z:Z4)(s:ByteArray)(w:World)(bs:List Nat):T:=(.need (ry z s) (.split ((nZ s z) == (46:Int)) (.split ((↑z.i:Int) == (0:Int)) (jJ z w bs) (.split ((↑z.i:Int) == i64.wrap ((↑s.size:Int)-(1:Int))) (jJ z w bs) (.need ((0:Int)<=i64.wrap ((↑z.i:Int)-(1:Int))/\i64.wrap ((↑z.i:Int)-(1:Int))<(↑s.size:Int)) (.split ((↑(s.data.toList.getD (i64.wrap ((↑z.i:Int)-(1:Int))).toNat (0:UInt8)).toNat:Int) == (46:Int)) (jJ z w bs) (.split ((↑z.pos:Int) == (3:Int)) (jJ z w bs) (.need ((0:Int)<=(↑z.pos:Int)/\(↑z.pos:Int)<(↑(4:Nat):Int)) (.need (12+(↑z.pos:Int).toNat*1<z.l.length) (.need (ap 0 0 (12+(↑z.pos:Int).toNat*1) 1=true) (.leaf .normal [(.str s false),(.slc 0 12 4 4 true true),(.bool false true),(.int .i64 0 true),(.int .i64 (i64.wrap ((↑z.pos:Int)+(1:Int))) false),(.int .i64 0 true),(.int .i64 (i64.wrap ((↑z.i:Int)+(1:Int))) false)] (SS.mk [(.ints .u8 (z.l.set (12+(↑z.pos:Int).toNat*1) (u8.wrap (↑z.val:Int))) 188 0 0)] [] true w bs)))))))))) (jJ z w bs)))
noncomputable abbrev zM(z:Z4)(s:ByteArray)(w:World)(bs:List Nat):T:=(.need (ry z s) (.split (decide (i64.wrap (i64.wrap (i64.wrap ((↑z.val:Int)*(10:Int))+i64.wrap (nZ s z))-(48:Int)) > (255:Int))) (jJ z w bs) (.leaf .normal [(.str s false),(.slc 0 12 4 4 true true),(.bool false true),(.int .i64 (i64.wrap (i64.wrap (i64.wrap ((↑z.val:Int)*(10:Int))+i64.wrap (nZ s z))-(48:Int))) false),(.int .i64 ((↑z.pos:Int)) false),(.int .i64 (i64.wrap ((↑z.dig:Int)+(1:Int))) false),(.int .i64 (i64.wrap ((↑z.i:Int)+(1:Int))) false)] (SS.mk [(.ints .u8 z.l 188 0 0)] [] true w bs))))
theorem Hr(s:ByteArray)(z:Z4)(w:World)(bs:List Nat)(g:Nat->Value):aK Tryz.prog au 1000 300 (ar Tryz.prog 300 4) (az ((lI .normal).zip (qY s z)) g 82 0) (fun e a s=>.leaf e (ep lI e a) s) (SS.mk (ek z.l) [] true w bs) =
(.split (decide ((↑z.i:Int)<(↑s.size:Int))) (.need (ry z s) (.split (decide ((nZ s z) ≥ (48:Int))) (.need (ry z s) (.split (decide ((nZ s z)<=(57:Int))) (.split ((↑z.dig:Int) == (1:Int)) (.split ((↑z.val:Int) == (0:Int)) (jJ z w bs) (zM z s w bs)) (zM z s w bs)) (zL z s w bs))) (zL z s w bs))) (.leaf (.exit 0) [(.str s false),(.slc 0 12 4 4 true true),(.bool false true),(.int .i64 ((↑z.val:Int)) false),(.int .i64 ((↑z.pos:Int)) false)] (SS.mk [(.ints .u8 z.l 188 0 0)] [] true w bs))):=by kernel_rfl
theorem Nr(s:ByteArray)(z:Z4)(w:World)(bs:List Nat)(g:Nat->Value):(by have h:=Hr s z w bs g;unfold zM zL ry nZ jJ at h;exact type_of% h):=Hr s z w bs g
noncomputable abbrev vq(w:World)(bs:List Nat):SS:=(SS.mk [(.cells [(.int .u8 0 true),(.int .u8 0 true),(.int .u8 0 true),(.int .u8 0 true),(.int .u8 0 true),(.int .u8 0 true),(.int .u8 0 true),(.int .u8 0 true),(.int .u8 0 true),(.int .u8 0 true),(.int .u8 255 true),(.int .u8 255 true),(.int .u8 0 true),(.int .u8 0 true),(.int .u8 0 true),(.int .u8 0 true)] 16 188 0 0)] [] true w bs)
noncomputable abbrev vr(s:ByteArray):List SV:=[(.str s false),(.slc 0 12 4 4 true true),(.tup []),(.tup []),(.bool false true),(.int .i64 0 true),(.int .i64 0 true),(.int .i64 0 true),(.int .i64 0 true)]
theorem HG(s:ByteArray)(w:World)(bs:List Nat):am Tryz.prog (Gd s) 500 300 [.str s false,.slc 0 12 4 4 true true] (SS.mk [.cells nc 16 188 0 0] [] true w bs) =
(.loop 300 (ar Tryz.prog 300 4) ((vr s)++List.replicate 73 aA) (vq w bs) (LoopHook.X (xd s)) (LoopHook.out (xd s) ((vr s)++List.replicate 73 aA) (vq w bs)) (fun x0 w0 b0=>(.split false (.leaf .ret [(.bool false true)] (SS.mk [(.cells [(.int .u8 0 true),(.int .u8 0 true),(.int .u8 0 true),(.int .u8 0 true),(.int .u8 0 true),(.int .u8 0 true),(.int .u8 0 true),(.int .u8 0 true),(.int .u8 0 true),(.int .u8 0 true),(.int .u8 255 true),(.int .u8 255 true),(.int .u8 (x0.fst.q 0) false),(.int .u8 (x0.fst.q 1) false),(.int .u8 (x0.fst.q 2) false),(.int .u8 (x0.fst.q 3) false)] 16 188 0 0)] [] true w0 b0)) (.leaf .ret [(.bool true true)] (SS.mk [(.cells [(.int .u8 0 true),(.int .u8 0 true),(.int .u8 0 true),(.int .u8 0 true),(.int .u8 0 true),(.int .u8 0 true),(.int .u8 0 true),(.int .u8 0 true),(.int .u8 0 true),(.int .u8 0 true),(.int .u8 255 true),(.int .u8 255 true),(.int .u8 (x0.fst.q 0) false),(.int .u8 (x0.fst.q 1) false),(.int .u8 (x0.fst.q 2) false),(.int .u8 (u8.wrap (↑x0.fst.val:Int)) false)] 16 188 0 0)] [] true w0 b0)))) (LoopHook.Y (xd s)) (LoopHook.out' (xd s) ((vr s)++List.replicate 73 aA) (vq w bs)) (fun x0 w0 b0=>(.leaf .ret [(.raw (x0.snd 4))] (SS.mk [(.cells [(.int .u8 0 true),(.int .u8 0 true),(.int .u8 0 true),(.int .u8 0 true),(.int .u8 0 true),(.int .u8 0 true),(.int .u8 0 true),(.int .u8 0 true),(.int .u8 0 true),(.int .u8 0 true),(.int .u8 255 true),(.int .u8 255 true),(.int .u8 0 false),(.int .u8 0 false),(.int .u8 0 false),(.int .u8 0 false)] 16 188 0 0)] [] true w0 b0)))):=by kernel_rfl
theorem NK(s:ByteArray)(w:World)(bs:List Nat):(by have h:=HG s w bs;unfold vr vq at h;exact type_of% h):=HG s w bs
end
section
open Go Go.Rx Go.RowKit
def ef(x k:Nat):Nat:=((cP x).take k).foldl (fun a d=>a*10+(d.toNat-48)) 0
theorem jc:∀x:Nat,x<256->0<(cP x).length/\ef x (cP x).length=x/\∀k:Nat,k<(cP x).length->48<=((cP x).getD k 0).toNat/\((cP x).getD k 0).toNat<=57/\ef x (k+1)=ef x k*10+(((cP x).getD k 0).toNat-48)/\ef x (k+1)<=255/\(k=1->ef x 1≠0):=by decide +kernel
def jd:List UInt8->List UInt8
 |[]=>[]
 |[x]=>cP x.toNat
 |x :: r=>cP x.toNat++[46]++jd r
theorem Mb(a b c d:UInt8):jd [a,b,c,d]=aF a b c d:=by simp[jd,aF]
theorem CR(x:UInt8)(r:List UInt8):0<(jd (x :: r)).length:=by
 have:=(jc x.toNat x.toNat_lt).1
 cases r with
 |nil=>simpa [jd] using this
 |cons y r=>
  simp[jd]
  omega
def BU(R:List UInt8):List UInt8:=if R=[] then[] else 46 :: jd R
theorem jW(x:UInt8)(R:List UInt8):jd (x :: R)=cP x.toNat++BU R:=by
 cases R with
 |nil=>simp[jd,BU]
 |cons y r=>simp[jd,BU]
def EZ(T:List UInt8)(os:List UInt8)(z:Z4):Prop:=
 z.l.length=16/\(∀j,j<10->z.l.getD j 0=0)/\z.l.getD 10 0=255/\z.l.getD 11 0=255/\∃pre done x R,os=done++x :: R/\T=pre++cP x.toNat++BU R/\z.i=pre.length+z.dig/\z.dig<=(cP x.toNat).length/\z.val=ef x.toNat z.dig/\z.pos=done.length /\
  (∀j,j<done.length->z.l.getD (12+j) 0=((done.getD j 0).toNat:Int))
def HT(os:List UInt8)(o:O4):Prop:=(∀j,j<3->o.q j=((os.getD j 0).toNat:Int))/\o.val=(os.getD 3 0).toNat
theorem cF{l:List Int}{a k:Nat}{v:Int}(h:a<l.length):(l.set a v).getD k 0=if k=a then v else l.getD k 0:=by
 rw[List.getD_eq_getElem?_getD,List.getD_eq_getElem?_getD]
 by_cases hk:k=a
 ·subst hk
  rw[List.getElem?_set_self h,if_pos rfl];rfl
 ·rw[List.getElem?_set_ne (fun e=>hk e.symm),if_neg hk]
theorem jU(l:List Int):(ek l).length=1/\∀o∈ek l,o.ok 1:=⟨rfl,fun o ho=>by
 simp only[ek,List.mem_singleton]at ho
 subst ho
 exact trivial⟩
theorem gK(a b c d:Int):(de a b c d).length=1/\∀o∈de a b c d,o.ok 1:=⟨rfl,fun o ho=>by
 simp only[de,List.mem_singleton]at ho
 subst ho
 exact⟨trivial,trivial,trivial,trivial,trivial,trivial,trivial,trivial,trivial,trivial,trivial,trivial,trivial,trivial,trivial,trivial,trivial⟩⟩
theorem wW{β:Nat->Nat}{l:List Int}{w:World}(h:aJ β (ek l) w)(hl:l.length=16)(h0:∀j,j<10->l.getD j 0=0)(h10:l.getD 10 0=255)(h11:l.getD 11 0=255) :
  aJ β (de (l.getD (12+0) 0) (l.getD (12+1) 0) (l.getD (12+2) 0) (l.getD (12+3) 0)) w:=by
 intro i o hi
 match i,hi with
 |0,hi=>
  have:=h 0 _ rfl
  simp only[de,List.getElem?_cons_zero,Option.some.injEq]at hi
  subst hi
  refine⟨[],?_,rfl⟩
  rw[show w.heap[β 0]?=_ from this]
  have e:ae β (FZ (l.getD (12+0) 0) (l.getD (12+1) 0) (l.getD (12+2) 0) (l.getD (12+3) 0))=l.map (Value.int .u8):=by
   conv=>rhs;rw[Dk hl,h0 0 (by omega),h0 1 (by omega),h0 2 (by omega),h0 3 (by omega),h0 4 (by omega),h0 5 (by omega),h0 6 (by omega),h0 7 (by omega),h0 8 (by omega),h0 9 (by omega),h10,h11]
   rfl
  rw[e]
  simp
 |i+1,hi=>simp[de]at hi
theorem D0(T os:List UInt8)(hos:os.length=4)(hTl:T.length<1000)(β:Nat->Nat)(w0 w1:World)(z:Z4)(g:Nat->Value)(hk01:Keep (ac β 1) w0 w1)(hI:EZ T os z) :
  (aK Tryz.prog au 1000 300 (ar Tryz.prog 300 4) (az ((lI .normal).zip (qY ⟨T.toArray⟩ z)) g 82 0) (fun e a s=>.leaf e (ep lI e a) s) (SS.mk (ek z.l) [] true w1 (ac β 1))).holds
   {P:=Tryz.prog,β0:=β,n0:=1,Q:=rI β (ac β 1) (qY ⟨T.toArray⟩) (fun z=>ek z.l) (fun z=>T.length-z.i) (fun z _=>EZ T os z) (.exit 0) (Ay ⟨T.toArray⟩) (fun o=>de (o.q 0) (o.q 1) (o.q 2) (o.q 3)) (fun o _=>HT os o) .ret (fun _:Unit=>[]) (fun _=>de 0 0 0 0) (fun _ _=>False) w0 z }:=by
 obtain⟨hl,h0,h10,h11,pre,done,x,R,hos',hT,hi,hdl,hval,hpos,hq⟩:=hI
 obtain⟨hp,hfull,hk⟩:=jc x.toNat x.toNat_lt
 have hsz:(⟨T.toArray⟩:ByteArray).size=T.length:=aB _
 have hget:∀j,((⟨T.toArray⟩:ByteArray).data.toList.getD j 0)=T.getD j 0:=fun j=>rfl
 have hTlen:T.length=pre.length+(cP x.toNat).length+(BU R).length:=by rw[hT];simp;omega
 have hdone:done.length+1+R.length=4:=by rw[hos']at hos;simp at hos;omega
 have hin:∀k,k<(cP x.toNat).length->T.getD (pre.length+k) 0=(cP x.toNat).getD k 0:=fun k hk'=>by
  rw[hT,List.getD_eq_getElem?_getD,List.getD_eq_getElem?_getD,List.append_assoc,List.getElem?_append_right (by omega),List.getElem?_append_left (by omega)]
  congr 2
  omega
 refine ah (Nr ⟨T.toArray⟩ z w1 (ac β 1) g) ?_
 simp only[Int.toNat_natCast,hget,hsz]
 rcases Nat.lt_or_ge z.dig (cP x.toNat).length with hlt |hge
 ·obtain⟨f1,f2,f3,f4,f5⟩:=hk z.dig hlt
  have hc:T.getD z.i 0=(cP x.toNat).getD z.dig 0:=by rw[hi];exact hin _ hlt
  simp only[hc]
  have hv:i64.wrap (i64.wrap (i64.wrap ((z.val:Int)*10)+i64.wrap ((((cP x.toNat).getD z.dig 0).toNat:Nat):Int))-48)=((ef x.toNat (z.dig+1):Nat):Int):=by
   rw[<- hval]at f3
   have a1:i64.wrap ((z.val:Int)*10)=(z.val:Int)*10:=ax (by omega) (by omega)
   have a2:i64.wrap ((((cP x.toNat).getD z.dig 0).toNat:Nat):Int)=(((cP x.toNat).getD z.dig 0).toNat:Int):=ax (by omega) (by omega)
   have a3:i64.wrap ((z.val:Int)*10+(((cP x.toNat).getD z.dig 0).toNat:Int))=(z.val:Int)*10+(((cP x.toNat).getD z.dig 0).toNat:Int):=ax (by omega) (by omega)
   rw[a1,a2,a3,ax (by omega) (by omega)]
   omega
  simp only[hv]
  have hiT:z.i<T.length:=by omega
  have e1:i64.wrap ((z.dig:Int)+1)=((z.dig+1:Nat):Int):=by rw[ax (by omega) (by omega)];omega
  have e2:i64.wrap ((z.i:Int)+1)=((z.i+1:Nat):Int):=by rw[ax (by omega) (by omega)];omega
  simp only[e1,e2]
  have fin:(Rx.T.leaf .normal [.str ⟨T.toArray⟩ false,.slc 0 12 4 4 true true,.bool false true,.int .i64 ((ef x.toNat (z.dig+1):Nat):Int) false,.int .i64 z.pos false,.int .i64 ((z.dig+1:Nat):Int) false,.int .i64 ((z.i+1:Nat):Int) false] (SS.mk (ek z.l) [] true w1 (ac β 1))).holds
   {P:=Tryz.prog,β0:=β,n0:=1,Q:=rI β (ac β 1) (qY ⟨T.toArray⟩) (fun z=>ek z.l) (fun z=>T.length-z.i) (fun z _=>EZ T os z) (.exit 0) (Ay ⟨T.toArray⟩) (fun o=>de (o.q 0) (o.q 1) (o.q 2) (o.q 3)) (fun o _=>HT os o) .ret (fun _:Unit=>[]) (fun _=>de 0 0 0 0) (fun _ _=>False) w0 z }:=by
   refine aM ⟨rfl,hk01,fun b hb=>.inl hb⟩ fun β' w' hst hk'=>⟨⟨ef x.toNat (z.dig+1),z.pos,z.dig+1,z.i+1,z.l⟩,by show T.length-(z.i+1)<T.length-z.i;omega,?_,hst.objsAt rfl (jU _).2,⟨hl,h0,h10,h11,pre,done,x,R,hos',hT,by show z.i+1=pre.length+(z.dig+1);omega,by show z.dig+1<=_;omega,rfl,hpos,hq⟩,hk'⟩
   have hb0:=hst.base 0 (by show 0<1;omega)
   simp only[qY,ae,SV.den]
   rw[hb0]
  refine ak (fun _=>?_) (fun h=>absurd (by omega) h)
  refine aa (by omega) (ak (fun _=>?_) (fun h=>absurd (by omega) h))
  refine aa (by omega) (ak (fun _=>?_) (fun h=>absurd (by omega) h))
  refine af (fun hd1=>af (fun hv0=>?_) (fun _=>?_)) (fun _=>?_)
  ·have h1:z.dig=1:=by have:=eq_of_beq hd1;omega
   have h2:z.val=0:=by have:=eq_of_beq hv0;omega
   rw[h1]at hval
   exact absurd (hval.symm.trans h2) (f5 h1)
  ·refine aa (by omega) (ak (fun h=>absurd h (by omega)) (fun _=>?_))
   exact fin
  ·refine aa (by omega) (ak (fun h=>absurd h (by omega)) (fun _=>?_))
   exact fin
 ·have hdig:z.dig=(cP x.toNat).length:=by omega
  cases R with
  |nil=>
   have hi':z.i=T.length:=by rw[hTlen,hi,hdig];simp[BU]
   refine ak (fun h=>absurd h (by omega)) (fun _=>?_)
   have hp3:done.length=3:=by simp at hdone;omega
   refine aM ⟨rfl,hk01,fun b hb=>.inl hb⟩ fun β' w' hst hk'=>⟨.inl ⟨⟨z.val,fun j=>z.l.getD (12+j) 0⟩,rfl,?_,wW (hst.objsAt rfl (jU _).2) hl h0 h10 h11,fun j hj=>?_,?_⟩,hk'⟩
   ·have hb0:=hst.base 0 (by show 0<1;omega)
    simp only[Ay,ae,SV.den]
    rw[hb0,hpos,hp3]
    rfl
   ·show z.l.getD (12+j) 0=_
    rw[hq j (by omega),hos',List.getD_eq_getElem?_getD,List.getD_eq_getElem?_getD,List.getElem?_append_left (by omega)]
   ·show z.val=_
    rw[hval,hdig,hfull,hos',List.getD_eq_getElem?_getD,List.getElem?_append_right (by omega),hp3]
    rfl
  |cons y R'=>
   have htl:BU (y :: R')=46 :: jd (y :: R'):=by simp[BU]
   have hjp:=CR y R'
   have hTlen2:T.length=pre.length+(cP x.toNat).length+1+(jd (y :: R')).length:=by rw[hTlen,htl];simp;omega
   have hc:T.getD z.i 0=46:=by
    rw[hi,hdig,hT,htl,List.getD_eq_getElem?_getD,List.getElem?_append_right (by simp)]
    simp
   have hd3:done.length<=2:=by simp at hdone;omega
   have e0:i64.wrap ((z.i:Int)-1)=((z.i-1:Nat):Int):=by rw[ax (by omega) (by omega)];omega
   have e1:i64.wrap ((z.pos:Int)+1)=((z.pos+1:Nat):Int):=by rw[ax (by omega) (by omega)];omega
   have e2:i64.wrap ((z.i:Int)+1)=((z.i+1:Nat):Int):=by rw[ax (by omega) (by omega)];omega
   have e3:i64.wrap ((T.length:Int)-1)=((T.length-1:Nat):Int):=by rw[ax (by omega) (by omega)];omega
   have e4:u8.wrap (z.val:Int)=(x.toNat:Int):=by
    rw[hval,hdig,hfull]
    exact gg x.toNat_lt
   have hprev:T.getD (z.i-1) 0=(cP x.toNat).getD ((cP x.toNat).length-1) 0:=by
    rw[show z.i-1=pre.length+((cP x.toNat).length-1) by omega]
    exact hin _ (by omega)
   have f1:=(hk ((cP x.toNat).length-1) (by omega)).1
   have h46:((46:UInt8).toNat:Int)=46:=rfl
   simp only[hc,e0,e1,e2,e3,e4,Int.toNat_natCast,hprev,h46]
   refine ak (fun _=>?_) (fun h=>absurd (by omega) h)
   refine aa (by omega) (ak (fun h=>absurd h (by omega)) (fun _=>?_))
   refine aa (by omega) (af (fun _=>?_) (fun h=>by simp at h))
   refine af (fun h=>by have:=eq_of_beq h;omega) (fun _=>af (fun h=>by have:=eq_of_beq h;omega) (fun _=>?_))
   refine aa (by omega) (af (fun h=>by have:=eq_of_beq h;omega) (fun _=>af (fun h=>by have:=eq_of_beq h;omega) (fun _=>?_)))
   refine aa (by omega) (aa (by omega) (aa rfl ?_))
   refine aM ⟨rfl,hk01,fun b hb=>.inl hb⟩ fun β' w' hst hk'=>⟨⟨0,z.pos+1,0,z.i+1,z.l.set (12+z.pos*1) (x.toNat:Int)⟩,by show T.length-(z.i+1)<T.length-z.i;omega,?_,hst.objsAt rfl (jU _).2,⟨by simp[hl],fun j hj=>?_,?_,?_,pre++cP x.toNat++[46],done++[x],y,R',by rw[hos'];simp,?_,?_,Nat.zero_le _,rfl,by simp[hpos],fun j hj=>?_⟩,hk'⟩
   ·have hb0:=hst.base 0 (by show 0<1;omega)
    simp only[qY,ae,SV.den]
    rw[hb0]
    rfl
   ·show(z.l.set _ _).getD j 0=0
    rw[cF (by omega),if_neg (by omega)]
    exact h0 j hj
   ·show(z.l.set _ _).getD 10 0=255
    rw[cF (by omega),if_neg (by omega)]
    exact h10
   ·show(z.l.set _ _).getD 11 0=255
    rw[cF (by omega),if_neg (by omega)]
    exact h11
   ·rw[hT,htl,jW]
    simp
   ·show z.i+1=_
    simp
    omega
   ·show(z.l.set _ _).getD (12+j) 0=_
    simp only[List.length_append,List.length_cons,List.length_nil]at hj
    rw[cF (by omega)]
    split
    ·have:j=done.length:=by omega
     subst this
     rw[List.getD_eq_getElem?_getD,List.getElem?_append_right (by omega)]
     simp
    ·rw[hq j (by omega),List.getD_eq_getElem?_getD,List.getD_eq_getElem?_getD,List.getElem?_append_left (by omega)]
end
section
open Go Go.Rx Go.RowKit
theorem Cs{Γ:Ctx}{s:SS}{w:World}{bs:List Nat}{f:FuncId}{args:List SV}{X:Type}{out:X->SV×List SObj}{k:X->World->List Nat->T}{R:X->World->World->Prop}(hf:KFine bs w s)(hgl:s.gl=[])
  (hout:∀x,(out x).2.length=s.n/\(∀u∈(out x).2,u.ok s.n)/\(out x).1.ok s.n)
  (hc:∀β w0,St Γ β s w0->Keep bs w w0->Calls Γ.P f (ae β args).toArray w0 fun e w'=>∃x,e=.returned ((out x).1.den β)/\Keep (ac β s.n) w0 w'/\aJ β (out x).2 w'/\R x w0 w')
  (hk:∀x w0 w' bs',R x w0 w'->Keep bs w w'->(∀b∈bs',b∈bs∨w.heap.size<=b)->(k x w' bs').holds Γ):(T.call f args s X out k).holds Γ:=by
 intro β w0 hs hargs
 have o:=hs.old hf.ext
 have hbw:=o.keepK hf
 refine(hc β w0 hs hbw).mono ?_
 rintro e w' ⟨x,rfl,hkp,hat,hr⟩
 obtain⟨ho1,ho2,ho3⟩:=hout x
 have hbs:=f9 o hf
 have hkw:Keep bs w w':=
  ⟨hkp.os.trans hbw.os,hkp.tape.trans hbw.tape,hkp.output.trans hbw.output,Nat.le_trans hbw.size hkp.size,fun b hb hn=>(hkp.block b (Nat.lt_of_lt_of_le hb hbw.size) (fun hm=>by
   rcases hbs b hm with h |h
   ·exact hn h
   ·omega)).trans (hbw.block b hb hn)⟩
 refine⟨x,β,ac β s.n,rfl,⟨hs.turned hgl hkp ho1 ho2 hat,?_,fun _ _=>rfl⟩,?_,hk x w0 w' _ hr hkw hbs⟩
 ·show s.n<=(out x).2.length
  omega
 ·show SV.ok (out x).2.length (out x).1
  rw[ho1]
  exact ho3
theorem yM{β:Nat->Nat}{w:World}{s:SS}{Γ:Ctx}(hs:St Γ β s w)(ho:s.objs=[.cells nc 16 188 0 0]):aJ β (ek [0,0,0,0,0,0,0,0,0,0,255,255,0,0,0,0]) w:=by
 intro i o hi
 match i,hi with
 |0,hi=>
  obtain⟨rest,h1,h2⟩:=hs.at_ 0 (.cells nc 16 188 0 0) (by rw[ho];rfl)
  simp only[ek,List.getElem?_cons_zero,Option.some.injEq]at hi
  subst hi
  have hr:rest=[]:=List.eq_nil_of_length_eq_zero (by have:nc.length=16:=rfl;omega)
  subst hr
  show w.heap[β 0]?=_
  rw[h1]
  simp[ae,SV.den,nc]
 |i+1,hi=>simp[ek]at hi
theorem Bm(a b c d:UInt8)(l1 l2 l3:Bool){Γ:Ctx}{β:Nat->Nat}{s:SS}{w:World}(hst:St Γ β s w)(ho:s.objs=[.cells nc 16 188 0 0]) :
  Calls Tryz.prog 300 (ae β [.str ⟨(aF a b c d).toArray⟩ l1,.slc 0 12 4 4 l2 l3]).toArray w fun e w'=>e=.returned (.bool true)/\Keep (ac β 1) w w'/\aJ β (de a.toNat b.toNat c.toNat d.toNat) w':=by
 have hn:s.n=1:=by show s.objs.length=1;rw[ho];rfl
 have hst3:=hst.later (Below.refl w.heap.size w) (P:=Tryz.prog) (Q:=bC fun v w'=>v=.bool true/\Keep (ac β 1) w w'/\aJ β (de a.toNat b.toNat c.toNat d.toNat) w')
 rw[hn,ho]at hst3
 refine(gx (hk:=Gd ⟨(aF a b c d).toArray⟩) (n:=500) (args:=[.str ⟨(aF a b c d).toArray⟩ false,.slc 0 12 4 4 true true]) hst3 ⟨trivial,by simp[SV.ok,SS.n],trivial⟩ ?_).mono ?_
 ·refine ah (NK ⟨(aF a b c d).toArray⟩ w (ac β 1)) ?_
  have hTl:(aF a b c d).length<1000:=by
   have l0:=bj a.toNat
   have l1:=bj b.toNat
   have l2:=bj c.toNat
   have l3:=bj d.toNat
   simp only[aF,List.length_append,List.length_cons,List.length_nil]
   omega
  refine kR (w:=w) (bs:=ac β 1) ⟨rfl,Keep.refl _ _,fun b hb=>.inl hb⟩ rfl 1 rfl lI (qY ⟨(aF a b c d).toArray⟩) (fun z=>ek z.l) (fun z=>(aF a b c d).length-z.i)
   (fun _ z _=>EZ (aF a b c d) [a,b,c,d] z) (fun _ o _=>HT [a,b,c,d] o) (fun _ _ _=>False) (fun _=>au) 1000
   (by simp) (by simp[lI]) (by simp[lI]) (fun _=>⟨trivial,by simp[SV.ok],trivial,trivial,trivial,trivial,trivial,trivial⟩) (fun _=>jU _) rfl rfl (by simp) (by simp)
   (fun _=>⟨⟨trivial,by simp[SV.ok],trivial,trivial,trivial,trivial⟩,gK _ _ _ _⟩) (fun _=>⟨trivial,gK _ _ _ _⟩) ?_ ?_ ?_ ?_
  ·rintro β2 w2 z w3 g dW hI ej hk13 hblk
   exact D0 (aF a b c d) [a,b,c,d] rfl hTl β2 w2 w3 z g ej hI
  ·intro β2 w2 hst2 dW
   refine⟨⟨0,0,0,0,_⟩,rfl,yM hst2 rfl,rfl,?_,rfl,rfl,[],[],a,[b,c,d],rfl,?_,rfl,Nat.zero_le _,rfl,rfl,fun j hj=>absurd hj (Nat.not_lt_zero j)⟩
   ·intro j hj
    match j,hj with
    |0,_ |1,_ |2,_ |3,_ |4,_ |5,_ |6,_ |7,_ |8,_ |9,_=>rfl
    |n+10,h=>omega
   ·rw[<- Mb,jW];rfl
  ·rintro w2 o w3 ⟨hq,hv⟩ dW hk13 g bs' hbs'
   refine af (fun h=>Bool.noConfusion h) (fun _=>?_)
   have q0:=hq 0 (by omega)
   have q1:=hq 1 (by omega)
   have q2:=hq 2 (by omega)
   have q3:u8.wrap (o.val:Int)=(d.toNat:Int):=by rw[hv];exact gg d.toNat_lt
   dsimp only
   rw[q3,q0,q1,q2]
   refine aM ⟨rfl,hk13,fun b hb=>(hbs' b hb).1⟩ fun β' w6 hst6 hk6=>⟨_,rfl,rfl,hk6,?_⟩
   exact hst6.objsAt rfl (gK _ _ _ _).2
  ·rintro w2 o w3 h
   exact h.elim
 ·rintro e w' ⟨v,rfl,rfl,hk,hat⟩
  exact⟨rfl,hk,hat⟩
end
section
open Go Go.Rx Go.RowKit
structure QV where
 is4:Bool
 q:Nat->Int
@[reducible] def gU:List SObj:=[.cells gn 16 188 0 0]
@[reducible] def ov(q:Nat->Int):List SObj:=[.cells (cq q) 16 188 0 0]
@[reducible] def F4:Hook:={ X:=Nat->Int,out:=fun _ s q=>(.bool true true,de (q 0) (q 1) (q 2) (q 3)) }
@[reducible] def GR:Hook:={ X:=Nat->Int,out:=fun _ s q=>(.tup [.agg (cq q),.bool true true],s.objs) }
@[reducible] def FY:Hook:={ X:=QV,out:=fun _ s z=>(.tup [.agg (cq z.q),.bool z.is4 false,.bool true true],s.objs) }
def x7:SE->List Nat
 | .normal=>[0,2,3,4,5]
 | .ret=>[2,3,4]
 |_=>[]
def wF:SE->List Nat
 | .normal=>[0,2,3,4,5,6]
 | .exit _=>[0,2,3,4,5]
 |_=>[]
@[reducible] def pB(s:ByteArray)(i:Nat):List SV:=[.str s false,.ptr 0 0,.bool false true,.bool false true,.int .i64 i false]
@[reducible] def CS(s:ByteArray)(i k:Nat):List SV:=[.str s false,.ptr 0 0,.bool false true,.bool false true,.int .i64 i false,.int .i64 k false]
def sc:LoopHook:=bv 50 QV .ret [2,3,4] (fun z=>[.ptr 0 0,.bool z.is4 false,.bool true true]) (fun z=>ov z.q) Unit (.exit 0) [] (fun _=>[]) (fun _=>gU)
def qf(s:ByteArray)(i:Nat):LoopHook:=bv 50 Unit (.exit 3) [0,2,3,4,5] (fun _=>pB s i) (fun _=>gU) Unit .ret [] (fun _=>[]) (fun _=>gU)
def Gb:Hooks:={ calls:=fun _=>none,loops:=fun _ _=>some sc }
def p8(s:ByteArray)(i:Nat):Hooks:={ calls:=fun f=>if f=300 then some F4 else if f=301 then some GR else none,loops:=fun _ _=>some (qf s i) }
def F9:Hooks:={ calls:=fun f=>if f=239 then some FY else none,loops:=fun _ _=>none }
noncomputable abbrev cT(k0_:Int):SObj:=(.cells [(.int .u8 0 true),(.int .u8 0 true),(.int .u8 0 true),(.int .u8 0 true),(.int .u8 0 true),(.int .u8 0 true),(.int .u8 0 true),(.int .u8 0 true),(.int .u8 0 true),(.int .u8 0 true),(.int .u8 k0_ true),(.int .u8 k0_ true),(.int .u8 0 true),(.int .u8 0 true),(.int .u8 0 true),(.int .u8 0 true)] 16 188 0 0)
noncomputable abbrev iC(s:ByteArray)(i:Nat):Int:=(↑(s.data.toList.getD (↑i:Int).toNat (0:UInt8)).toNat:Int)
noncomputable abbrev vt(s:ByteArray)(g:Nat->Value)(i:Nat):List SV:=[(.str s false),(.raw (g 1)),(.ptr 0 0),(.bool false true),(.bool false true),(.int .i64 ((↑i:Int)) false),(.int .i64 ((↑i:Int)) false),(.int .i64 ((↑i:Int)) false),(.str s false),(.int .i64 ((↑s.size:Int)) false),(.bool true true),(.raw (g 11)),(.raw (g 12)),(.str s false),(.int .i64 ((↑i:Int)) false),(.int .u8 ((iC s i)) false),(.bool false true),(.bool ((iC s i) == (46:Int)) false),(.raw (g 18)),(.raw (g 19)),(.raw (g 20)),(.raw (g 21)),(.raw (g 22)),(.raw (g 23)),(.raw (g 24)),(.bool true true),(.bool ((iC s i) == (58:Int)) false),(.int .i64 ((↑i:Int)) false),(.raw (g 28)),(.raw (g 29)),(.raw (g 30)),(.raw (g 31)),(.raw (g 32)),(.raw (g 33)),(.raw (g 34)),(.raw (g 35)),(.raw (g 36)),(.raw (g 37)),(.raw (g 38)),(.raw (g 39)),(.raw (g 40)),(.raw (g 41)),(.raw (g 42)),(.raw (g 43)),(.raw (g 44)),(.raw (g 45)),(.raw (g 46)),(.raw (g 47)),(.raw (g 48)),(.raw (g 49))]
theorem Hq(s:ByteArray)(i:Nat)(w:World)(bs:List Nat)(g:Nat->Value):aK Tryz.prog (p8 s i) 1000 239 (ar Tryz.prog 239 3) (az ((x7 .normal).zip (pB s i)) g 50 0) (fun e a s=>.leaf e (ep x7 e a) s) (SS.mk gU [] true w bs) =
(.split (decide ((↑i:Int)<(↑s.size:Int))) (.need ((0:Int)<=(↑i:Int)/\(↑i:Int)<(↑s.size:Int)) (.split ((iC s i) == (46:Int)) (.hc 300 [(.str s false),(.slc 0 12 4 4 true true)] (SS.mk [(cT 255)] [] true w bs) (F4) fun x0 w0 b0=>(.leaf .ret [(.ptr 0 0),(.bool true true),(.bool true true)] (SS.mk [(.cells [(.int .u8 0 true),(.int .u8 0 true),(.int .u8 0 true),(.int .u8 0 true),(.int .u8 0 true),(.int .u8 0 true),(.int .u8 0 true),(.int .u8 0 true),(.int .u8 0 true),(.int .u8 0 true),(.int .u8 255 true),(.int .u8 255 true),(.int .u8 (x0 0) false),(.int .u8 (x0 1) false),(.int .u8 (x0 2) false),(.int .u8 (x0 3) false)] 16 188 0 0)] [] true w0 b0))) (.split ((iC s i) == (58:Int)) (.loop 239 (ar Tryz.prog 239 12) (vt s g i) (SS.mk [(cT 0)] [] true w bs) (LoopHook.X (qf s i)) (LoopHook.out (qf s i) (vt s g i) (SS.mk [(cT 0)] [] true w bs)) (fun x0 w0 b0=>(.hc 301 [(.str s false)] (SS.mk [(cT 0)] [] true w0 b0) (GR) fun x1 w1 b1=>(.leaf .ret [(.ptr 0 0),(.bool false true),(.bool true true)] (SS.mk [(.cells [(.int .u8 (x1 0) false),(.int .u8 (x1 1) false),(.int .u8 (x1 2) false),(.int .u8 (x1 3) false),(.int .u8 (x1 4) false),(.int .u8 (x1 5) false),(.int .u8 (x1 6) false),(.int .u8 (x1 7) false),(.int .u8 (x1 8) false),(.int .u8 (x1 9) false),(.int .u8 (x1 10) false),(.int .u8 (x1 11) false),(.int .u8 (x1 12) false),(.int .u8 (x1 13) false),(.int .u8 (x1 14) false),(.int .u8 (x1 15) false)] 16 188 0 0)] [] true w1 b1)))) (LoopHook.Y (qf s i)) (LoopHook.out' (qf s i) (vt s g i) (SS.mk [(cT 0)] [] true w bs)) (fun x0 w0 b0=>(.leaf .ret [(.raw (x0.snd 2)),(.raw (x0.snd 3)),(.raw (x0.snd 4))] (SS.mk [(cT 0)] [] true w0 b0)))) (.split ((iC s i) == (37:Int)) (.leaf .ret [(.ptr 0 0),(.bool false true),(.bool false true)] (SS.mk [(cT 0)] [] true w bs)) (.leaf .normal [(.str s false),(.ptr 0 0),(.bool false true),(.bool false true),(.int .i64 (i64.wrap ((↑i:Int)+(1:Int))) false)] (SS.mk [(cT 0)] [] true w bs)))))) (.leaf (.exit 0) [] (SS.mk [(cT 0)] [] true w bs))):=by kernel_rfl
theorem Np(s:ByteArray)(i:Nat)(w:World)(bs:List Nat)(g:Nat->Value):(by have h:=Hq s i w bs g;unfold vt iC cT at h;exact type_of% h):=Hq s i w bs g
theorem DM(s:ByteArray)(i k:Nat)(w:World)(bs:List Nat)(g:Nat->Value):aK Tryz.prog (p8 s i) 1000 239 (ar Tryz.prog 239 12) (az ((wF .normal).zip (CS s i k)) g 50 0) (fun e a s=>.leaf e (ep wF e a) s) (SS.mk gU [] true w bs) =
(.split (decide ((↑k:Int)<(↑s.size:Int))) (.need ((0:Int)<=(↑k:Int)/\(↑k:Int)<(↑s.size:Int)) (.split ((iC s k) == (37:Int)) (.leaf .ret [] (SS.mk [(cT 0)] [] true w bs)) (.leaf .normal [(.str s false),(.ptr 0 0),(.bool false true),(.bool false true),(.int .i64 ((↑i:Int)) false),(.int .i64 (i64.wrap ((↑k:Int)+(1:Int))) false)] (SS.mk [(cT 0)] [] true w bs)))) (.leaf (.exit 3) [(.str s false),(.ptr 0 0),(.bool false true),(.bool false true),(.int .i64 ((↑i:Int)) false)] (SS.mk [(cT 0)] [] true w bs))):=by kernel_rfl
theorem K8(s:ByteArray)(i k:Nat)(w:World)(bs:List Nat)(g:Nat->Value):(by have h:=DM s i k w bs g;unfold iC cT at h;exact type_of% h):=DM s i k w bs g
noncomputable abbrev zN(x0:(LoopHook.X (sc))):List SV:=[(.int .u8 (x0.fst.q 0) false),(.int .u8 (x0.fst.q 1) false),(.int .u8 (x0.fst.q 2) false),(.int .u8 (x0.fst.q 3) false),(.int .u8 (x0.fst.q 4) false),(.int .u8 (x0.fst.q 5) false),(.int .u8 (x0.fst.q 6) false),(.int .u8 (x0.fst.q 7) false),(.int .u8 (x0.fst.q 8) false),(.int .u8 (x0.fst.q 9) false),(.int .u8 (x0.fst.q 10) false),(.int .u8 (x0.fst.q 11) false),(.int .u8 (x0.fst.q 12) false),(.int .u8 (x0.fst.q 13) false),(.int .u8 (x0.fst.q 14) false),(.int .u8 (x0.fst.q 15) false)]
noncomputable abbrev vu(s:ByteArray):List SV:=([(.str s false),(.tup []),(.ptr 0 0),(.bool false true),(.bool false true),(.int .i64 0 true)]++List.replicate 44 aA)
theorem HF(s:ByteArray)(w:World):am Tryz.prog Gb 500 239 [.str s false] (SS.mk [] [] true w []) =
(.loop 239 (ar Tryz.prog 239 3) (vu s) (SS.mk [(cT 0)] [] true w []) (LoopHook.X (sc)) (LoopHook.out (sc) (vu s) (SS.mk [(cT 0)] [] true w [])) (fun x0 w0 b0=>(.leaf .ret [(.tup [(.agg (zN x0)),(.bool x0.fst.is4 false),(.bool true true)])] (SS.mk [(.cells (zN x0) 16 188 0 0)] [] true w0 b0))) (LoopHook.Y (sc)) (LoopHook.out' (sc) (vu s) (SS.mk [(cT 0)] [] true w [])) (fun x0 w0 b0=>(.bad "load: no address"))):=by kernel_rfl
theorem NJ(s:ByteArray)(w:World):(by have h:=HF s w;unfold vu zN cT at h;exact type_of% h):=HF s w
theorem NH(s:ByteArray)(w:World):am Tryz.prog F9 500 205 [.str s false] (SS.mk [] [] true w []) =
 (.hc 239 [(.str s false)] (SS.mk [] [] true w []) (FY) fun x0 w0 b0=>
 (.leaf .ret [(.slc 0 0 16 16 true true)] (SS.mk [(.cells (cq x0.q) 16 188 0 0)] [] true w0 b0))):=by kernel_rfl
end
section
open Go Go.Rx Go.RowKit
def qd(a b c d:UInt8)(j:Nat):Int:=([(a.toNat:Int),b.toNat,c.toNat,d.toNat]:List Int).getD j 0
def Nn(a b c d:UInt8)(j:Nat):Int:=([0,0,0,0,0,0,0,0,0,0,255,255,(a.toNat:Int),b.toNat,c.toNat,d.toNat]:List Int).getD j 0
def pA(T:List UInt8)(m:Nat)(Res:QV->Prop):Prop:=
 T.length<2^40/\m<T.length/\(∀j,j<m->T.getD j 0≠46/\T.getD j 0≠58/\T.getD j 0≠37) /\
  ((T.getD m 0=46/\∃a b c d,T=aF a b c d/\Res ⟨true,Nn a b c d⟩) ∨
   (T.getD m 0=58/\(∀j,j<T.length->T.getD j 0≠37)/\∀w,Calls Tryz.prog 301 #[.string ⟨T.toArray⟩] w (bF (fun v _=>∃q:Nat->Int,Res ⟨false,q⟩/\v=SV.den id (.tup [.agg (cq q),.bool true true])) w)))
theorem e8:gU.length=1/\∀o∈gU,o.ok 1:=⟨rfl,fun o ho=>by
 simp only[gU,List.mem_singleton]at ho
 subst ho
 exact zR 1⟩
theorem xz(q:Nat->Int):(ov q).length=1/\∀o∈ov q,o.ok 1:=⟨rfl,fun o ho=>by
 simp only[ov,List.mem_singleton]at ho
 subst ho
 exact ip 1 q⟩
theorem AK{x y:UInt8}(h:((x.toNat:Int) == (y.toNat:Int))=true):x=y:=UInt8.toNat_inj.1 (by have:=eq_of_beq h;omega)
theorem OJ{β:Nat->Nat}{w:World}{a b c d:UInt8}(h:aJ β (de (qd a b c d 0) (qd a b c d 1) (qd a b c d 2) (qd a b c d 3)) w):aJ β (ov (Nn a b c d)) w:=by
 intro i o hi
 match i,hi with
 |0,hi=>
  have:=h 0 _ rfl
  simp only[ov,List.getElem?_cons_zero,Option.some.injEq]at hi
  subst hi
  exact this
 |i+1,hi=>simp[ov]at hi
theorem DZ(T:List UInt8)(m:Nat)(Res:QV->Prop)(hA:pA T m Res)(β:Nat->Nat)(w0 w1:World)(i:Nat)(g:Nat->Value)(hk01:Keep (ac β 1) w0 w1)(hI:i<=m) :
  (aK Tryz.prog (p8 ⟨T.toArray⟩ i) 1000 239 (ar Tryz.prog 239 3) (az ((x7 .normal).zip (pB ⟨T.toArray⟩ i)) g 50 0) (fun e a s=>.leaf e (ep x7 e a) s) (SS.mk gU [] true w1 (ac β 1))).holds
   {P:=Tryz.prog,β0:=β,n0:=1,Q:=rI β (ac β 1) (pB ⟨T.toArray⟩) (fun _=>gU) (fun i=>T.length-i) (fun i _=>i<=m) .ret (fun z:QV=>[.ptr 0 0,.bool z.is4 false,.bool true true]) (fun z=>ov z.q) (fun z _=>Res z) (.exit 0) (fun _:Unit=>[]) (fun _=>gU) (fun _ _=>False) w0 i }:=by
 obtain⟨hlen,hm,hbef,hat⟩:=hA
 have hsz:(⟨T.toArray⟩:ByteArray).size=T.length:=aB _
 have hget:∀j,((⟨T.toArray⟩:ByteArray).data.toList.getD j 0)=T.getD j 0:=fun j=>rfl
 refine ah (Np ⟨T.toArray⟩ i w1 (ac β 1) g) ?_
 simp only[Int.toNat_natCast,hget,hsz]
 refine ak (fun _=>?_) (fun h=>absurd (show(i:Int)<T.length by omega) h)
 refine aa (by omega) (af (fun h46=>?_) (fun h46=>af (fun h58=>?_) (fun h58=>af (fun h37=>?_) (fun h37=>?_))))
 ·have hx:T.getD i 0=46:=AK h46
  have him:i=m:=by
   rcases Nat.lt_or_ge i m with h |h
   ·exact absurd hx (hbef i h).1
   ·omega
  subst him
  rcases hat with⟨_,a,b,c,d,hT,hR⟩ |⟨h,_⟩
  ·refine Cs (w:=w1) (bs:=ac β 1) (R:=fun q _ _=>q=qd a b c d) ⟨rfl,Keep.refl _ _,fun b hb=>.inl hb⟩ rfl (fun x=>⟨rfl,(gK _ _ _ _).2,trivial⟩) (fun β' wc hst hkc=>?_) ?_
   ·rw[hT]
    refine(Bm a b c d false true true hst rfl).mono ?_
    rintro e w' ⟨rfl,hk,hat⟩
    exact⟨qd a b c d,rfl,hk,hat,rfl⟩
   ·rintro q wc w3 bs3 rfl hk13 hbs3
    refine aM ⟨rfl,hk01.trans hk13,fun b hb=>(hbs3 b hb).imp id (Nat.le_trans hk01.size)⟩ fun β' w' hst hk'=>⟨.inl ⟨⟨true,Nn a b c d⟩,rfl,?_,OJ (hst.objsAt rfl (gK _ _ _ _).2),hR⟩,hk'⟩
    have hb0:=hst.base 0 (by show 0<1;omega)
    simp only[ae,SV.den]
    rw[hb0]
  ·rw[hx]at h
   exact absurd h (by decide)
 ·have hx:T.getD i 0=58:=AK h58
  have him:i=m:=by
   rcases Nat.lt_or_ge i m with h |h
   ·exact absurd hx (hbef i h).2.1
   ·omega
  subst him
  rcases hat with⟨h,_⟩ |⟨_,hno,hP⟩
  ·rw[hx]at h
   exact absurd h (by decide)
  ·refine kR (w:=w1) (bs:=ac β 1) ⟨rfl,Keep.refl _ _,fun b hb=>.inl hb⟩ rfl 1 rfl wF (CS ⟨T.toArray⟩ i) (fun _=>gU) (fun k=>T.length-k)
    (fun _ k _=>k<=T.length) (fun _ _ _=>True) (fun _ _ _=>False) (fun _=>p8 ⟨T.toArray⟩ i) 1000
    (by simp) (by simp[wF]) (by simp[wF]) (fun _=>⟨trivial,by simp[SV.ok],trivial,trivial,trivial,trivial,trivial⟩) (fun _=>e8) rfl rfl (by simp) (by simp)
    (fun _=>⟨⟨trivial,by simp[SV.ok],trivial,trivial,trivial,trivial⟩,e8⟩) (fun _=>⟨trivial,e8⟩) ?_ ?_ ?_ ?_
   ·rintro β2 w2 k w3 g2 dW hk ej hk13 hblk
    refine ah (K8 ⟨T.toArray⟩ i k w3 (ac β2 1) g2) ?_
    simp only[Int.toNat_natCast,hget,hsz]
    refine ak (fun hlt=>aa (by omega) (af (fun h37=>?_) (fun _=>?_))) (fun _=>?_)
    ·exact absurd (AK (y:=37) h37) (hno k (by omega))
    ·refine aM ⟨rfl,ej,fun b hb=>.inl hb⟩ fun β' w' hst hk'=>⟨k+1,by show T.length-(k+1)<T.length-k;omega,?_,hst.objsAt rfl e8.2,by show k+1<=T.length;omega,hk'⟩
     have hb0:=hst.base 0 (by show 0<1;omega)
     rw[show i64.wrap ((k:Int)+1)=((k+1:Nat):Int) by rw[ax (by omega) (by omega)];omega]
     simp only[CS,ae,SV.den]
     rw[hb0]
    ·refine aM ⟨rfl,ej,fun b hb=>.inl hb⟩ fun β' w' hst hk'=>⟨.inl ⟨(),rfl,?_,hst.objsAt rfl e8.2,trivial⟩,hk'⟩
     have hb0:=hst.base 0 (by show 0<1;omega)
     simp only[pB,ae,SV.den]
     rw[hb0]
   ·intro β2 w2 hst dW
    exact⟨i,rfl,fun i o hi=>hst.at_ i o hi,by omega⟩
   ·rintro w2 _ w3 _ dW hk13 g2 bs3 hbs3
    refine bZ (w:=w1) (bs:=ac β 1) (R:=fun q _ _=>Res ⟨false,q⟩) ⟨rfl,hk13,fun b hb=>(hbs3 b hb).1⟩ (fun q=>⟨rfl,⟨ip _ _,trivial,trivial⟩⟩) (fun β' wc hst ho hb=>?_) ?_
    ·refine(hP wc).mono ?_
     rintro e w' ⟨v,rfl,⟨q,hq,rfl⟩,hb'⟩
     exact⟨q,rfl,hb',hq⟩
    ·rintro q wc w4 bs4 hkc hq hbc hk14 hbs4
     refine aM ⟨rfl,hk01.trans hk14,fun b hb=>(hbs4 b hb).imp id (Nat.le_trans hk01.size)⟩ fun β' w' hst hk'=>⟨.inl ⟨⟨false,q⟩,rfl,?_,hst.objsAt rfl (xz q).2,hq⟩,hk'⟩
     have hb0:=hst.base 0 (by show 0<1;omega)
     simp only[ae,SV.den]
     rw[hb0]
   ·rintro w2 _ w3 h
    exact h.elim
 ·have hx:T.getD i 0=37:=AK h37
  rcases Nat.lt_or_ge i m with h |h
  ·exact absurd hx (hbef i h).2.2
  ·have him:i=m:=by omega
   subst him
   rcases hat with⟨h,_⟩ |⟨h,_⟩
   ·rw[hx]at h;exact absurd h (by decide)
   ·rw[hx]at h;exact absurd h (by decide)
 ·have him:i<m:=by
   rcases Nat.lt_or_ge i m with h |h
   ·exact h
   ·have him:i=m:=by omega
    subst him
    rcases hat with⟨h,_⟩ |⟨h,_⟩
    ·rw[h]at h46;exact absurd h46 (by decide)
    ·rw[h]at h58;exact absurd h58 (by decide)
  refine aM ⟨rfl,hk01,fun b hb=>.inl hb⟩ fun β' w' hst hk'=>⟨i+1,by show T.length-(i+1)<T.length-i;omega,?_,hst.objsAt rfl e8.2,by show i+1<=m;omega,hk'⟩
  have hb0:=hst.base 0 (by show 0<1;omega)
  rw[show i64.wrap ((i:Int)+1)=((i+1:Nat):Int) by rw[ax (by omega) (by omega)];omega]
  simp only[pB,ae,SV.den]
  rw[hb0]
theorem xw(T:List UInt8)(m:Nat)(Res:QV->Prop)(hA:pA T m Res)(w:World) :
  Calls Tryz.prog 239 #[.string ⟨T.toArray⟩] w (bF (fun v _=>∃z:QV,Res z/\v=SV.den id (.tup [.agg (cq z.q),.bool z.is4 false,.bool true true])) w):=by
 refine aH (hk:=Gb) (n:=500) (args:=[.str ⟨T.toArray⟩ false]) ⟨trivial,trivial⟩ ?_
 refine ah (NJ ⟨T.toArray⟩ w) ?_
 refine iJ (w:=w) (Fine.start w _) rfl 1 rfl x7 (pB ⟨T.toArray⟩) (fun _=>gU) (fun i=>T.length-i) (fun _ i _=>i<=m) (fun _ z _=>Res z) (fun _ _ _=>False) (fun i=>p8 ⟨T.toArray⟩ i) 1000
  (by simp) (by simp[x7]) (by simp[x7]) (fun _=>⟨trivial,by simp[SV.ok],trivial,trivial,trivial,trivial⟩) (fun _=>e8) rfl rfl (by simp) (by simp) (fun _=>⟨⟨by simp[SV.ok],trivial,trivial,trivial⟩,xz _⟩) (fun _=>⟨trivial,e8⟩) ?_ ?_ ?_ ?_
 ·rintro β w0 i w1 g hb0 hI hkp hge
  exact DZ T m Res hA β w0 w1 i g hkp hI
 ·intro β w0 hst hb
  exact⟨0,rfl,fun i o hi=>hst.at_ i o hi,Nat.zero_le _⟩
 ·rintro w0 z w' hR hb0 hb1 g bs hbs
  exact aN (Fine.mk' hb1 hbs) fun β w' _ _=>⟨z,hR,rfl⟩
 ·rintro w0 z w' h
  exact h.elim
end
section
open Go Go.Rx Go.RowKit
structure O4m where
 val:Nat
 l:List Int
@[reducible] def k8(s:ByteArray)(z:Z4):List SV:=[.str s false,.slc 1 2 4 14 true true,.bool false true,.int .i64 z.val false,.int .i64 z.pos false,.int .i64 z.dig false,.int .i64 z.i false]
@[reducible] def tB(s:ByteArray)(z:O4m):List SV:=[.str s false,.slc 1 2 4 14 true true,.bool false true,.int .i64 z.val false,.int .i64 3 false]
def qg(s:ByteArray):LoopHook:=bv 82 O4m (.exit 0) [0,1,4,5,6] (tB s) (fun z=>aV z.l) Unit .ret [] (fun _=>[]) (fun _=>aV [])
def CF(s:ByteArray):Hooks:={ calls:=fun _=>none,loops:=fun _ _=>some (qg s) }
noncomputable abbrev fe:SObj:=(.cells gn 16 188 0 0)
noncomputable abbrev my(s:ByteArray)(z:Z4):Int:=(↑(s.data.toList.getD (↑z.i:Int).toNat (0:UInt8)).toNat:Int)
noncomputable abbrev y7(z:Z4)(s:ByteArray):Int:=(i64.wrap (i64.wrap ((↑z.val:Int)*(10:Int))+i64.wrap (my s z))-(48:Int))
noncomputable abbrev qZ(z:Z4)(s:ByteArray):Prop:=((0:Int)<=(↑z.i:Int)/\(↑z.i:Int)<(↑s.size:Int))
noncomputable abbrev Ex(s:ByteArray)(z:Z4):List SV:=[(.str s false),(.slc 1 2 4 14 true true),(.bool false true),(.int .i64 0 true),(.int .i64 (i64.wrap ((↑z.pos:Int)+(1:Int))) false),(.int .i64 0 true),(.int .i64 (i64.wrap ((↑z.i:Int)+(1:Int))) false)]
noncomputable abbrev Ey(z:Z4)(s:ByteArray):Prop:=((0:Int)<=i64.wrap ((↑z.i:Int)-(1:Int))/\i64.wrap ((↑z.i:Int)-(1:Int))<(↑s.size:Int))
noncomputable abbrev jG(z:Z4)(w:World)(bs:List Nat):T:=(.leaf .ret [] (SS.mk [fe,(.ints .u8 z.l 188 0 0)] [] true w bs))
noncomputable abbrev y8(z:Z4)(s:ByteArray)(w:World)(bs:List Nat):T:=(.need (qZ z s) (.split ((my s z) == (46:Int)) (.split ((↑z.i:Int) == (0:Int)) (jG z w bs) (.split ((↑z.i:Int) == i64.wrap ((↑s.size:Int)-(1:Int))) (jG z w bs) (.need (Ey z s) (.split ((↑(s.data.toList.getD (i64.wrap ((↑z.i:Int)-(1:Int))).toNat (0:UInt8)).toNat:Int) == (46:Int)) (jG z w bs) (.split ((↑z.pos:Int) == (3:Int)) (jG z w bs) (.need ((0:Int)<=(↑z.pos:Int)/\(↑z.pos:Int)<(↑(4:Nat):Int)) (.need (2+(↑z.pos:Int).toNat*1<z.l.length) (.need (ap 0 0 (2+(↑z.pos:Int).toNat*1) 1=true) (.leaf .normal (Ex s z) (SS.mk [fe,(.ints .u8 (z.l.set (2+(↑z.pos:Int).toNat*1) (u8.wrap (↑z.val:Int))) 188 0 0)] [] true w bs)))))))))) (jG z w bs)))
noncomputable abbrev y9(z:Z4)(s:ByteArray)(w:World)(bs:List Nat):T:=(.need (qZ z s) (.split (decide (i64.wrap (y7 z s) > (255:Int))) (jG z w bs) (.leaf .normal [(.str s false),(.slc 1 2 4 14 true true),(.bool false true),(.int .i64 (i64.wrap (y7 z s)) false),(.int .i64 ((↑z.pos:Int)) false),(.int .i64 (i64.wrap ((↑z.dig:Int)+(1:Int))) false),(.int .i64 (i64.wrap ((↑z.i:Int)+(1:Int))) false)] (SS.mk [fe,(.ints .u8 z.l 188 0 0)] [] true w bs))))
theorem DN(s:ByteArray)(z:Z4)(w:World)(bs:List Nat)(g:Nat->Value):aK Tryz.prog au 1000 300 (ar Tryz.prog 300 4) (az ((lI .normal).zip (k8 s z)) g 82 0) (fun e a s=>.leaf e (ep lI e a) s) (SS.mk (aV z.l) [] true w bs) =
(.split (decide ((↑z.i:Int)<(↑s.size:Int))) (.need (qZ z s) (.split (decide ((my s z) ≥ (48:Int))) (.need (qZ z s) (.split (decide ((my s z)<=(57:Int))) (.split ((↑z.dig:Int) == (1:Int)) (.split ((↑z.val:Int) == (0:Int)) (jG z w bs) (y9 z s w bs)) (y9 z s w bs)) (y8 z s w bs))) (y8 z s w bs))) (.leaf (.exit 0) [(.str s false),(.slc 1 2 4 14 true true),(.bool false true),(.int .i64 ((↑z.val:Int)) false),(.int .i64 ((↑z.pos:Int)) false)] (SS.mk [fe,(.ints .u8 z.l 188 0 0)] [] true w bs))):=by kernel_rfl
theorem Lb(s:ByteArray)(z:Z4)(w:World)(bs:List Nat)(g:Nat->Value):(by have h:=DN s z w bs g;unfold y9 y8 jG Ey Ex qZ y7 my fe at h;exact type_of% h):=DN s z w bs g
noncomputable abbrev uf(s:ByteArray):List SV:=([(.str s false),(.slc 1 2 4 14 true true),(.tup []),(.tup []),(.bool false true),(.int .i64 0 true),(.int .i64 0 true),(.int .i64 0 true),(.int .i64 0 true)]++List.replicate 73 aA)
theorem D5(s:ByteArray)(l:List Int)(w:World)(bs:List Nat):am Tryz.prog (CF s) 500 300 [.str s false,.slc 1 2 4 14 true true] (SS.mk (aV l) [] true w bs) =
(.loop 300 (ar Tryz.prog 300 4) (uf s) (SS.mk [fe,(.ints .u8 l 188 0 0)] [] true w bs) (LoopHook.X (qg s)) (LoopHook.out (qg s) (uf s) (SS.mk [fe,(.ints .u8 l 188 0 0)] [] true w bs)) (fun x0 w0 b0=>(.split false (.leaf .ret [(.bool false true)] (SS.mk [fe,(.ints .u8 x0.fst.l 188 0 0)] [] true w0 b0)) (.need (5<x0.fst.l.length) (.need (true=true) (.leaf .ret [(.bool true true)] (SS.mk [fe,(.ints .u8 (x0.fst.l.set 5 (u8.wrap (↑x0.fst.val:Int))) 188 0 0)] [] true w0 b0)))))) (LoopHook.Y (qg s)) (LoopHook.out' (qg s) (uf s) (SS.mk [fe,(.ints .u8 l 188 0 0)] [] true w bs)) (fun x0 w0 b0=>(.leaf .ret [(.raw (x0.snd 4))] (SS.mk [fe,(.ints .u8 [] 188 0 0)] [] true w0 b0)))):=by kernel_rfl
theorem Lz(s:ByteArray)(l:List Int)(w:World)(bs:List Nat):(by have h:=D5 s l w bs;unfold uf fe at h;exact type_of% h):=D5 s l w bs
def zS(T:List UInt8)(os:List UInt8)(z:Z4):Prop:=
 z.l.length=16/\z.l.getD 0 0=255/\z.l.getD 1 0=255/\∃pre done x R,os=done++x :: R/\T=pre++cP x.toNat++BU R/\z.i=pre.length+z.dig/\z.dig<=(cP x.toNat).length/\z.val=ef x.toNat z.dig/\z.pos=done.length /\
  (∀j,j<done.length->z.l.getD (2+j) 0=((done.getD j 0).toNat:Int))
def Ce(os:List UInt8)(o:O4m):Prop:=o.l.length=16/\o.l.getD 0 0=255/\o.l.getD 1 0=255/\(∀j,j<3->o.l.getD (2+j) 0=((os.getD j 0).toNat:Int))/\o.val=(os.getD 3 0).toNat
theorem BN(T os:List UInt8)(hos:os.length=4)(hTl:T.length<1000)(β:Nat->Nat)(w0 w1:World)(z:Z4)(g:Nat->Value)(hk01:Keep (ac β 2) w0 w1)(hI:zS T os z) :
  (aK Tryz.prog au 1000 300 (ar Tryz.prog 300 4) (az ((lI .normal).zip (k8 ⟨T.toArray⟩ z)) g 82 0) (fun e a s=>.leaf e (ep lI e a) s) (SS.mk (aV z.l) [] true w1 (ac β 2))).holds
   {P:=Tryz.prog,β0:=β,n0:=2,Q:=rI β (ac β 2) (k8 ⟨T.toArray⟩) (fun z=>aV z.l) (fun z=>T.length-z.i) (fun z _=>zS T os z) (.exit 0) (tB ⟨T.toArray⟩) (fun o=>aV o.l) (fun o _=>Ce os o) .ret (fun _:Unit=>[]) (fun _=>aV []) (fun _ _=>False) w0 z }:=by
 obtain⟨hl,h10,h11,pre,done,x,R,hos',hT,hi,hdl,hval,hpos,hq⟩:=hI
 obtain⟨hp,hfull,hk⟩:=jc x.toNat x.toNat_lt
 have hsz:(⟨T.toArray⟩:ByteArray).size=T.length:=aB _
 have hget:∀j,((⟨T.toArray⟩:ByteArray).data.toList.getD j 0)=T.getD j 0:=fun j=>rfl
 have hTlen:T.length=pre.length+(cP x.toNat).length+(BU R).length:=by rw[hT];simp;omega
 have hdone:done.length+1+R.length=4:=by rw[hos']at hos;simp at hos;omega
 have hin:∀k,k<(cP x.toNat).length->T.getD (pre.length+k) 0=(cP x.toNat).getD k 0:=fun k hk'=>by
  rw[hT,List.getD_eq_getElem?_getD,List.getD_eq_getElem?_getD,List.append_assoc,List.getElem?_append_right (by omega),List.getElem?_append_left (by omega)]
  congr 2
  omega
 refine ah (Lb ⟨T.toArray⟩ z w1 (ac β 2) g) ?_
 simp only[Int.toNat_natCast,hget,hsz]
 rcases Nat.lt_or_ge z.dig (cP x.toNat).length with hlt |hge
 ·obtain⟨f1,f2,f3,f4,f5⟩:=hk z.dig hlt
  have hc:T.getD z.i 0=(cP x.toNat).getD z.dig 0:=by rw[hi];exact hin _ hlt
  simp only[hc]
  have hv:i64.wrap (i64.wrap (i64.wrap ((z.val:Int)*10)+i64.wrap ((((cP x.toNat).getD z.dig 0).toNat:Nat):Int))-48)=((ef x.toNat (z.dig+1):Nat):Int):=by
   rw[<- hval]at f3
   have a1:i64.wrap ((z.val:Int)*10)=(z.val:Int)*10:=ax (by omega) (by omega)
   have a2:i64.wrap ((((cP x.toNat).getD z.dig 0).toNat:Nat):Int)=(((cP x.toNat).getD z.dig 0).toNat:Int):=ax (by omega) (by omega)
   have a3:i64.wrap ((z.val:Int)*10+(((cP x.toNat).getD z.dig 0).toNat:Int))=(z.val:Int)*10+(((cP x.toNat).getD z.dig 0).toNat:Int):=ax (by omega) (by omega)
   rw[a1,a2,a3,ax (by omega) (by omega)]
   omega
  simp only[hv]
  have hiT:z.i<T.length:=by omega
  have e1:i64.wrap ((z.dig:Int)+1)=((z.dig+1:Nat):Int):=by rw[ax (by omega) (by omega)];omega
  have e2:i64.wrap ((z.i:Int)+1)=((z.i+1:Nat):Int):=by rw[ax (by omega) (by omega)];omega
  simp only[e1,e2]
  have fin:(Rx.T.leaf .normal [.str ⟨T.toArray⟩ false,.slc 1 2 4 14 true true,.bool false true,.int .i64 ((ef x.toNat (z.dig+1):Nat):Int) false,.int .i64 z.pos false,.int .i64 ((z.dig+1:Nat):Int) false,.int .i64 ((z.i+1:Nat):Int) false] (SS.mk (aV z.l) [] true w1 (ac β 2))).holds
   {P:=Tryz.prog,β0:=β,n0:=2,Q:=rI β (ac β 2) (k8 ⟨T.toArray⟩) (fun z=>aV z.l) (fun z=>T.length-z.i) (fun z _=>zS T os z) (.exit 0) (tB ⟨T.toArray⟩) (fun o=>aV o.l) (fun o _=>Ce os o) .ret (fun _:Unit=>[]) (fun _=>aV []) (fun _ _=>False) w0 z }:=by
   refine aM ⟨rfl,hk01,fun b hb=>.inl hb⟩ fun β' w' hst hk'=>⟨⟨ef x.toNat (z.dig+1),z.pos,z.dig+1,z.i+1,z.l⟩,by show T.length-(z.i+1)<T.length-z.i;omega,?_,hst.objsAt rfl (aQ _).2,⟨hl,h10,h11,pre,done,x,R,hos',hT,by show z.i+1=pre.length+(z.dig+1);omega,by show z.dig+1<=_;omega,rfl,hpos,hq⟩,hk'⟩
   have hb0:=hst.base 1 (by show 1<2;omega)
   simp only[k8,ae,SV.den]
   rw[hb0]
  refine ak (fun _=>?_) (fun h=>absurd (by omega) h)
  refine aa (by omega) (ak (fun _=>?_) (fun h=>absurd (by omega) h))
  refine aa (by omega) (ak (fun _=>?_) (fun h=>absurd (by omega) h))
  refine af (fun hd1=>af (fun hv0=>?_) (fun _=>?_)) (fun _=>?_)
  ·have h1:z.dig=1:=by have:=eq_of_beq hd1;omega
   have h2:z.val=0:=by have:=eq_of_beq hv0;omega
   rw[h1]at hval
   exact absurd (hval.symm.trans h2) (f5 h1)
  ·refine aa (by omega) (ak (fun h=>absurd h (by omega)) (fun _=>?_))
   exact fin
  ·refine aa (by omega) (ak (fun h=>absurd h (by omega)) (fun _=>?_))
   exact fin
 ·have hdig:z.dig=(cP x.toNat).length:=by omega
  cases R with
  |nil=>
   have hi':z.i=T.length:=by rw[hTlen,hi,hdig];simp[BU]
   refine ak (fun h=>absurd h (by omega)) (fun _=>?_)
   have hp3:done.length=3:=by simp at hdone;omega
   refine aM ⟨rfl,hk01,fun b hb=>.inl hb⟩ fun β' w' hst hk'=>⟨.inl ⟨⟨z.val,z.l⟩,rfl,?_,hst.objsAt rfl (aQ _).2,hl,h10,h11,fun j hj=>?_,?_⟩,hk'⟩
   ·have hb0:=hst.base 1 (by show 1<2;omega)
    simp only[tB,ae,SV.den]
    rw[hb0,hpos,hp3]
    rfl
   ·show z.l.getD (2+j) 0=_
    rw[hq j (by omega),hos',List.getD_eq_getElem?_getD,List.getD_eq_getElem?_getD,List.getElem?_append_left (by omega)]
   ·show z.val=_
    rw[hval,hdig,hfull,hos',List.getD_eq_getElem?_getD,List.getElem?_append_right (by omega),hp3]
    rfl
  |cons y R'=>
   have htl:BU (y :: R')=46 :: jd (y :: R'):=by simp[BU]
   have hjp:=CR y R'
   have hTlen2:T.length=pre.length+(cP x.toNat).length+1+(jd (y :: R')).length:=by rw[hTlen,htl];simp;omega
   have hc:T.getD z.i 0=46:=by
    rw[hi,hdig,hT,htl,List.getD_eq_getElem?_getD,List.getElem?_append_right (by simp)]
    simp
   have hd3:done.length<=2:=by simp at hdone;omega
   have e0:i64.wrap ((z.i:Int)-1)=((z.i-1:Nat):Int):=by rw[ax (by omega) (by omega)];omega
   have e1:i64.wrap ((z.pos:Int)+1)=((z.pos+1:Nat):Int):=by rw[ax (by omega) (by omega)];omega
   have e2:i64.wrap ((z.i:Int)+1)=((z.i+1:Nat):Int):=by rw[ax (by omega) (by omega)];omega
   have e3:i64.wrap ((T.length:Int)-1)=((T.length-1:Nat):Int):=by rw[ax (by omega) (by omega)];omega
   have e4:u8.wrap (z.val:Int)=(x.toNat:Int):=by
    rw[hval,hdig,hfull]
    exact gg x.toNat_lt
   have hprev:T.getD (z.i-1) 0=(cP x.toNat).getD ((cP x.toNat).length-1) 0:=by
    rw[show z.i-1=pre.length+((cP x.toNat).length-1) by omega]
    exact hin _ (by omega)
   have f1:=(hk ((cP x.toNat).length-1) (by omega)).1
   have h46:((46:UInt8).toNat:Int)=46:=rfl
   simp only[hc,e0,e1,e2,e3,e4,Int.toNat_natCast,hprev,h46]
   refine ak (fun _=>?_) (fun h=>absurd (by omega) h)
   refine aa (by omega) (ak (fun h=>absurd h (by omega)) (fun _=>?_))
   refine aa (by omega) (af (fun _=>?_) (fun h=>by simp at h))
   refine af (fun h=>by have:=eq_of_beq h;omega) (fun _=>af (fun h=>by have:=eq_of_beq h;omega) (fun _=>?_))
   refine aa (by omega) (af (fun h=>by have:=eq_of_beq h;omega) (fun _=>af (fun h=>by have:=eq_of_beq h;omega) (fun _=>?_)))
   refine aa (by omega) (aa (by omega) (aa rfl ?_))
   refine aM ⟨rfl,hk01,fun b hb=>.inl hb⟩ fun β' w' hst hk'=>⟨⟨0,z.pos+1,0,z.i+1,z.l.set (2+z.pos*1) (x.toNat:Int)⟩,by show T.length-(z.i+1)<T.length-z.i;omega,?_,hst.objsAt rfl (aQ _).2,⟨by simp[hl],?_,?_,pre++cP x.toNat++[46],done++[x],y,R',by rw[hos'];simp,?_,?_,Nat.zero_le _,rfl,by simp[hpos],fun j hj=>?_⟩,hk'⟩
   ·have hb0:=hst.base 1 (by show 1<2;omega)
    simp only[k8,ae,SV.den]
    rw[hb0]
    rfl
   ·show(z.l.set _ _).getD 0 0=255
    rw[cF (by omega),if_neg (by omega)]
    exact h10
   ·show(z.l.set _ _).getD 1 0=255
    rw[cF (by omega),if_neg (by omega)]
    exact h11
   ·rw[hT,htl,jW]
    simp
   ·show z.i+1=_
    simp
    omega
   ·show(z.l.set _ _).getD (2+j) 0=_
    simp only[List.length_append,List.length_cons,List.length_nil]at hj
    rw[cF (by omega)]
    split
    ·have:j=done.length:=by omega
     subst this
     rw[List.getD_eq_getElem?_getD,List.getElem?_append_right (by omega)]
     simp
    ·rw[hq j (by omega),List.getD_eq_getElem?_getD,List.getD_eq_getElem?_getD,List.getElem?_append_left (by omega)]
theorem yn(a b c d:UInt8)(l:List Int)(l1 l2 l3:Bool){Γ:Ctx}{β:Nat->Nat}{s:SS}{w:World}(hst:St Γ β s w)(ho:s.objs=aV l)(hl:l.length=16)(h0:l.getD 0 0=255)(h1:l.getD 1 0=255) :
  Calls Tryz.prog 300 (ae β [.str ⟨(aF a b c d).toArray⟩ l1,.slc 1 2 4 14 l2 l3]).toArray w fun e w'=>∃l',e=.returned (.bool true)/\Keep (ac β 2) w w'/\aJ β (aV l') w'/\l'.length=16/\l'.getD 0 0=255/\l'.getD 1 0=255/\∀j,j<4->l'.getD (2+j) 0=((([a,b,c,d]:List UInt8).getD j 0).toNat:Int):=by
 have hn:s.n=2:=by show s.objs.length=2;rw[ho];rfl
 have hst3:=hst.later (Below.refl w.heap.size w) (P:=Tryz.prog) (Q:=bC fun v w'=>∃l',v=.bool true/\Keep (ac β 2) w w'/\aJ β (aV l') w'/\l'.length=16/\l'.getD 0 0=255/\l'.getD 1 0=255/\∀j,j<4->l'.getD (2+j) 0=((([a,b,c,d]:List UInt8).getD j 0).toNat:Int))
 rw[hn,ho]at hst3
 refine(gx (hk:=CF ⟨(aF a b c d).toArray⟩) (n:=500) (args:=[.str ⟨(aF a b c d).toArray⟩ false,.slc 1 2 4 14 true true]) hst3 ⟨trivial,by simp[SV.ok,SS.n],trivial⟩ ?_).mono ?_
 ·refine ah (Lz ⟨(aF a b c d).toArray⟩ l w (ac β 2)) ?_
  have hTl:(aF a b c d).length<1000:=by
   have l0:=bj a.toNat
   have l1:=bj b.toNat
   have l2:=bj c.toNat
   have l3:=bj d.toNat
   simp only[aF,List.length_append,List.length_cons,List.length_nil]
   omega
  refine kR (w:=w) (bs:=ac β 2) ⟨rfl,Keep.refl _ _,fun b hb=>.inl hb⟩ rfl 2 rfl lI (k8 ⟨(aF a b c d).toArray⟩) (fun z=>aV z.l) (fun z=>(aF a b c d).length-z.i)
   (fun _ z _=>zS (aF a b c d) [a,b,c,d] z) (fun _ o _=>Ce [a,b,c,d] o) (fun _ _ _=>False) (fun _=>au) 1000
   (by simp) (by simp[lI]) (by simp[lI]) (fun _=>⟨trivial,by simp[SV.ok],trivial,trivial,trivial,trivial,trivial,trivial⟩) (fun _=>aQ _) rfl rfl (by simp) (by simp)
   (fun _=>⟨⟨trivial,by simp[SV.ok],trivial,trivial,trivial,trivial⟩,aQ _⟩) (fun _=>⟨trivial,aQ _⟩) ?_ ?_ ?_ ?_
  ·rintro β2 w2 z w3 g dW hI ej hk13 hblk
   exact BN (aF a b c d) [a,b,c,d] rfl hTl β2 w2 w3 z g ej hI
  ·intro β2 w2 hst2 dW
   refine⟨⟨0,0,0,0,l⟩,rfl,fun i o hi=>hst2.at_ i o hi,hl,h0,h1,[],[],a,[b,c,d],rfl,?_,rfl,Nat.zero_le _,rfl,rfl,fun j hj=>absurd hj (Nat.not_lt_zero j)⟩
   rw[<- Mb,jW];rfl
  ·rintro w2 o w3 ⟨e1,e2,e3,hq',hv⟩ dW hk13 g bs' hbs'
   refine af (fun h=>Bool.noConfusion h) (fun _=>?_)
   have q3:u8.wrap (o.val:Int)=(d.toNat:Int):=by rw[hv];exact gg d.toNat_lt
   dsimp only
   rw[q3]
   refine aa (by omega) (aa rfl (aM ⟨rfl,hk13,fun b hb=>(hbs' b hb).1⟩ fun β' w6 hst6 hk6=>⟨_,rfl,o.l.set 5 (d.toNat:Int),rfl,hk6,hst6.objsAt rfl (aQ _).2,by simp[e1],?_,?_,fun j hj=>?_⟩))
   ·rw[cF (by omega),if_neg (by omega)]
    exact e2
   ·rw[cF (by omega),if_neg (by omega)]
    exact e3
   ·rw[cF (by omega)]
    split
    ·have:j=3:=by omega
     subst this
     rfl
    ·exact hq' j (by omega)
  ·rintro w2 o w3 h
   exact h.elim
 ·rintro e w' ⟨v,rfl,l',rfl,h⟩
  exact⟨l',rfl,h⟩
end
section
open Go Go.Rx Go.RowKit
@[reducible] def tg:Hook:={ X:=List Int,out:=fun _ s l=>(.bool true true,aV l) }
def CG(z:P6):Hooks:={ calls:=fun f=>if f=300 then some tg else if f=351 then some rX else none,loops:=fun _ _=>some (cH z) }
noncomputable abbrev pm:SObj:=(.cells gn 16 188 0 0)
noncomputable abbrev kj(z:P6)(k0_:Int):Int:=(i64.wrap ((↑z.i:Int)+k0_))
noncomputable abbrev ra(z:P6)(x0:(LoopHook.X (cH z)))(w0:World)(b0:List Nat):SS:=(SS.mk [pm,(.ints .u8 ((z.l.set (0+(↑z.i:Int).toNat*1) (u8.wrap ((↑x0.fst.snd:Int).fdiv ((2:Int)^8)))).set (0+(kj z (1:Int)).toNat*1) (u8.wrap (↑x0.fst.snd:Int))) 188 0 0)] [] true w0 b0)
noncomputable abbrev ki(z:P6)(k0_:Int):SV:=(.int .i64 (i64.wrap ((↑z.i:Int)+k0_)) false)
noncomputable abbrev mz(z:P6)(x0:(LoopHook.X (cH z))):Int:=(↑(z.s.extract (↑x0.fst.fst:Int).toNat z.s.size).size:Int)
noncomputable abbrev uh(z:P6)(x0:(LoopHook.X (cH z))):List SV:=[(.str (((z.s.extract (↑x0.fst.fst:Int).toNat z.s.size).extract 1 (z.s.extract (↑x0.fst.fst:Int).toNat z.s.size).size).extract 1 ((z.s.extract (↑x0.fst.fst:Int).toNat z.s.size).extract 1 (z.s.extract (↑x0.fst.fst:Int).toNat z.s.size).size).size) false),(.ptr 0 0),(.bool false true),(.ptr 1 0),(ki z (2:Int)),(ki z (2:Int))]
noncomputable abbrev za(z:P6)(x0:(LoopHook.X (cH z)))(w0:World)(b0:List Nat):T:=(.need ((0:Int)<=(↑z.i:Int)/\(↑z.i:Int)<(↑(16:Nat):Int)) (.need (0+(↑z.i:Int).toNat*1<z.l.length) (.need (ap 0 0 (0+(↑z.i:Int).toNat*1) 1=true) (.need ((0:Int)<=i64.wrap ((↑z.i:Int)+(1:Int))/\i64.wrap ((↑z.i:Int)+(1:Int))<(↑(16:Nat):Int)) (.need (0+(kj z (1:Int)).toNat*1<(z.l.set (0+(↑z.i:Int).toNat*1) (u8.wrap ((↑x0.fst.snd:Int).fdiv ((2:Int)^8)))).length) (.need (ap 0 0 (0+(kj z (1:Int)).toNat*1) 1=true) (.need ((0:Int)<=(↑x0.fst.fst:Int)/\(↑x0.fst.fst:Int)<=(↑z.s.size:Int)) (.split ((mz z x0) == (0:Int)) (.leaf (.exit 0) [(.str (z.s.extract (↑x0.fst.fst:Int).toNat z.s.size) false),(.ptr 0 0),(.bool false true),(.ptr 1 0),(.int .i64 z.e false),(ki z (2:Int))] (ra z x0 w0 b0)) (.need ((0:Int)<=(0:Int)/\(0:Int)<(mz z x0)) (.split ((↑((#[].extract 0 0++z.s.data.extract (↑x0.fst.fst:Int).toNat ((↑x0.fst.fst:Int).toNat+(z.s.size-(↑x0.fst.fst:Int).toNat))++#[].extract (0+min (z.s.size-(↑x0.fst.fst:Int).toNat) (z.s.data.size-(↑x0.fst.fst:Int).toNat)) 0).toList.getD 0 (0:UInt8)).toNat:Int) != (58:Int)) (.bad "load: cells not tracked") (.split ((mz z x0) == (1:Int)) (.bad "load: cells not tracked") (.need ((0:Int)<=(1:Int)/\(1:Int)<=(mz z x0)) (.need ((0:Int)<=(0:Int)/\(0:Int)<(↑((z.s.extract (↑x0.fst.fst:Int).toNat z.s.size).extract 1 (z.s.extract (↑x0.fst.fst:Int).toNat z.s.size).size).size:Int)) (.split ((↑((#[].extract 0 0++(#[].extract 0 0++z.s.data.extract (↑x0.fst.fst:Int).toNat ((↑x0.fst.fst:Int).toNat+(z.s.size-(↑x0.fst.fst:Int).toNat))++#[].extract (0+min (z.s.size-(↑x0.fst.fst:Int).toNat) (z.s.data.size-(↑x0.fst.fst:Int).toNat)) 0).extract 1 (1+((z.s.extract (↑x0.fst.fst:Int).toNat z.s.size).size-1))++#[].extract (0+min ((z.s.extract (↑x0.fst.fst:Int).toNat z.s.size).size-1) ((#[].extract 0 0++z.s.data.extract (↑x0.fst.fst:Int).toNat ((↑x0.fst.fst:Int).toNat+(z.s.size-(↑x0.fst.fst:Int).toNat))++#[].extract (0+min (z.s.size-(↑x0.fst.fst:Int).toNat) (z.s.data.size-(↑x0.fst.fst:Int).toNat)) 0).size-1)) 0).toList.getD 0 (0:UInt8)).toNat:Int) == (58:Int)) (.split (decide (z.e ≥ (0:Int))) (.bad "load: cells not tracked") (.need ((0:Int)<=(1:Int)/\(1:Int)<=(↑((z.s.extract (↑x0.fst.fst:Int).toNat z.s.size).extract 1 (z.s.extract (↑x0.fst.fst:Int).toNat z.s.size).size).size:Int)) (.split ((↑(((z.s.extract (↑x0.fst.fst:Int).toNat z.s.size).extract 1 (z.s.extract (↑x0.fst.fst:Int).toNat z.s.size).size).extract 1 ((z.s.extract (↑x0.fst.fst:Int).toNat z.s.size).extract 1 (z.s.extract (↑x0.fst.fst:Int).toNat z.s.size).size).size).size:Int) == (0:Int)) (.leaf (.exit 0) (uh z x0) (ra z x0 w0 b0)) (.leaf .normal (uh z x0) (ra z x0 w0 b0))))) (.leaf .normal [(.str ((z.s.extract (↑x0.fst.fst:Int).toNat z.s.size).extract 1 (z.s.extract (↑x0.fst.fst:Int).toNat z.s.size).size) false),(.ptr 0 0),(.bool false true),(.ptr 1 0),(.int .i64 z.e false),(ki z (2:Int))] (ra z x0 w0 b0))))))))))))))))
noncomputable abbrev ui(z:P6)(g:Nat->Value):List SV:=[(.str z.s false),(.raw (g 1)),(.ptr 0 0),(.bool false true),(.ptr 1 0),(.int .i64 z.e false),(.int .i64 ((↑z.i:Int)) false),(.int .i64 0 true),(.int .i64 0 true),(.raw (g 9)),(.raw (g 10)),(.raw (g 11)),(.raw (g 12)),(.raw (g 13)),(.raw (g 14)),(.raw (g 15)),(.raw (g 16)),(.raw (g 17)),(.raw (g 18)),(.raw (g 19)),(.raw (g 20)),(.raw (g 21)),(.raw (g 22)),(.raw (g 23)),(.raw (g 24)),(.raw (g 25)),(.raw (g 26)),(.raw (g 27)),(.raw (g 28)),(.raw (g 29)),(.raw (g 30)),(.int .i64 ((↑z.i:Int)) false),(.bool true true),(.raw (g 33)),(.raw (g 34)),(.raw (g 35)),(.raw (g 36)),(.raw (g 37)),(.raw (g 38)),(.raw (g 39)),(.raw (g 40)),(.raw (g 41)),(.raw (g 42)),(.raw (g 43)),(.raw (g 44)),(.raw (g 45)),(.raw (g 46)),(.raw (g 47)),(.raw (g 48)),(.raw (g 49)),(.raw (g 50)),(.raw (g 51)),(.raw (g 52)),(.raw (g 53)),(.raw (g 54)),(.raw (g 55)),(.raw (g 56)),(.raw (g 57)),(.raw (g 58)),(.raw (g 59)),(.raw (g 60)),(.raw (g 61)),(.raw (g 62)),(.raw (g 63)),(.raw (g 64)),(.raw (g 65)),(.raw (g 66)),(.raw (g 67)),(.raw (g 68)),(.raw (g 69)),(.raw (g 70)),(.raw (g 71)),(.raw (g 72)),(.raw (g 73)),(.raw (g 74)),(.raw (g 75)),(.raw (g 76)),(.raw (g 77)),(.raw (g 78)),(.raw (g 79)),(.raw (g 80)),(.raw (g 81)),(.raw (g 82)),(.raw (g 83)),(.raw (g 84)),(.raw (g 85)),(.raw (g 86)),(.raw (g 87)),(.raw (g 88)),(.raw (g 89)),(.raw (g 90)),(.raw (g 91)),(.raw (g 92)),(.raw (g 93)),(.raw (g 94)),(.raw (g 95)),(.raw (g 96)),(.raw (g 97)),(.raw (g 98)),(.raw (g 99)),(.raw (g 100)),(.raw (g 101)),(.raw (g 102)),(.raw (g 103)),(.raw (g 104)),(.raw (g 105)),(.raw (g 106)),(.raw (g 107)),(.raw (g 108)),(.raw (g 109)),(.raw (g 110)),(.raw (g 111)),(.raw (g 112)),(.raw (g 113)),(.raw (g 114)),(.raw (g 115)),(.raw (g 116)),(.raw (g 117)),(.raw (g 118)),(.raw (g 119)),(.raw (g 120)),(.raw (g 121)),(.raw (g 122)),(.raw (g 123)),(.raw (g 124)),(.raw (g 125)),(.raw (g 126)),(.raw (g 127)),(.raw (g 128)),(.raw (g 129)),(.raw (g 130)),(.raw (g 131)),(.raw (g 132)),(.raw (g 133)),(.raw (g 134)),(.raw (g 135)),(.raw (g 136)),(.raw (g 137)),(.raw (g 138)),(.raw (g 139)),(.raw (g 140)),(.raw (g 141)),(.raw (g 142)),(.raw (g 143)),(.raw (g 144)),(.raw (g 145)),(.raw (g 146)),(.raw (g 147)),(.raw (g 148)),(.raw (g 149)),(.raw (g 150)),(.raw (g 151)),(.raw (g 152)),(.raw (g 153)),(.raw (g 154)),(.raw (g 155)),(.raw (g 156)),(.raw (g 157)),(.raw (g 158)),(.raw (g 159)),(.raw (g 160)),(.raw (g 161)),(.raw (g 162)),(.raw (g 163)),(.raw (g 164)),(.raw (g 165)),(.raw (g 166)),(.raw (g 167)),(.raw (g 168)),(.raw (g 169)),(.raw (g 170)),(.raw (g 171))]
noncomputable abbrev jH(z:P6):List SObj:=[pm,(.ints .u8 z.l 188 0 0)]
noncomputable abbrev zb(z:P6):List SV:=[(.str z.s false),(.slc 1 (if 16=(↑z.i:Int).toNat then 0 else 0+(↑z.i:Int).toNat*1) ((kj z (4:Int)).toNat-(↑z.i:Int).toNat) (16-(↑z.i:Int).toNat) false false)]
noncomputable abbrev Ez(x1:(Hook.X (tg))):List SObj:=[pm,(.ints .u8 x1 188 0 0)]
noncomputable abbrev EA(z:P6):List SV:=[(.str (ByteArray.mk #[]) true),(.ptr 0 0),(.bool false true),(.ptr 1 0),(.int .i64 z.e false),(ki z (4:Int))]
noncomputable abbrev EB(z:P6):Prop:=((0:Int)<=i64.wrap ((↑z.i:Int)+(4:Int))/\i64.wrap ((↑z.i:Int)+(4:Int))<=(↑(16:Nat):Int))
noncomputable abbrev EC(z:P6):Prop:=((0:Int)<=(↑z.i:Int)/\(↑z.i:Int)<=(↑(kj z (4:Int)).toNat:Int))
noncomputable abbrev ug(z:P6)(w0:World)(b0:List Nat):T:=(.split (decide (i64.wrap ((↑z.i:Int)+(4:Int)) > (16:Int))) (.bad "load: cells not tracked") (.need (EB z) (.need (EC z) (.call 300 (zb z) (SS.mk (jH z) [] true w0 b0) (Hook.X (tg)) (Hook.out (tg) (zb z) (SS.mk (jH z) [] true w0 b0)) fun x1 w1 b1=>(.leaf (.exit 0) (EA z) (SS.mk (Ez x1) [] true w1 b1))))))
theorem DS(z:P6)(w:World)(bs:List Nat)(g:Nat->Value):aK Tryz.prog (CG z) 1000 301 (ar Tryz.prog 301 10) (az ((xX .normal).zip (gb z)) g 172 0) (fun e a s=>.leaf e (ep xX e a) s) (SS.mk (aV z.l) [] true w bs) =
(.split (decide ((↑z.i:Int)<(16:Int))) (.loop 301 (ar Tryz.prog 301 12) (ui z g) (SS.mk (jH z) [] true w bs) (LoopHook.X (cH z)) (LoopHook.out (cH z) (ui z g) (SS.mk (jH z) [] true w bs)) (fun x0 w0 b0=>(.split ((↑x0.fst.fst:Int) == (0:Int)) (.bad "load: cells not tracked") (.split (decide ((↑x0.fst.fst:Int)<(↑z.s.size:Int))) (.need ((0:Int)<=(↑x0.fst.fst:Int)/\(↑x0.fst.fst:Int)<(↑z.s.size:Int)) (.split ((↑(z.s.data.toList.getD (↑x0.fst.fst:Int).toNat (0:UInt8)).toNat:Int) == (46:Int)) (.split (decide (z.e<(0:Int))) (.split ((↑z.i:Int) != (12:Int)) (.bad "load: cells not tracked") (ug z w0 b0)) (ug z w0 b0)) (za z x0 w0 b0))) (za z x0 w0 b0)))) (LoopHook.Y (cH z)) (LoopHook.out' (cH z) (ui z g) (SS.mk (jH z) [] true w bs)) (fun x0 w0 b0=>(.leaf .ret [] (SS.mk (jH z) [] true w0 b0)))) (.leaf (.exit 0) [(.str z.s false),(.ptr 0 0),(.bool false true),(.ptr 1 0),(.int .i64 z.e false),(.int .i64 ((↑z.i:Int)) false)] (SS.mk (jH z) [] true w bs))):=by kernel_rfl
theorem Hu(z:P6)(w:World)(bs:List Nat)(g:Nat->Value):(by have h:=DS z w bs g;unfold ug EC EB EA Ez zb jH ui za uh mz ki ra kj pm at h;exact type_of% h):=DS z w bs g
def Cx(x:Nat):List Nat:=(cP x).map fun y=>y.toNat-48
theorem Bi:∀x:Nat,x<256->cP x=(Cx x).map bR/\0<(Cx x).length/\(Cx x).length<=3/\∀d∈Cx x,d<16:=by decide +kernel
theorem F1{z:P6}{w:World}{β0:Nat->Nat}{bs:List Nat}{Q:SE->List Value->World->Prop}{D:List Nat}{n m:Nat}{c:UInt8}{r:List UInt8}{a a0:List SV}{s s0:SS}{k:(Nat×Nat)×(Nat->Value)->World->List Nat->T}{k':Unit×(Nat->Value)->World->List Nat->T}
  (hf:KFine bs w s) (hgl:s.gl=[]) (hobj:s.objs=aV z.l) (hs:z.s=⟨(D.map bR++c :: r).toArray⟩) (hr:r.length<1000) (hn:D.length=n) (hm:bP D=m) (hDl:D.length<=4) (hD16:∀d∈D,d<16) (hc:gN c = -1) (hN:a.length=172)
  (hsel:∀β:Nat->Nat,f6 sM .normal (ae β a)=ae β (iE z (0,0)))
  (hk:∀w' g bs',Keep bs w w'->(∀b∈bs',b∈bs∨w.heap.size<=b)->(k ((n,m),g) w' bs').holds { P:=Tryz.prog,β0:=β0,n0:=2,Q:=Q }) :
  (T.loop 301 (ar Tryz.prog 301 12) a s (LoopHook.X (cH z)) (LoopHook.out (cH z) a0 s0) k (LoopHook.Y (cH z)) (LoopHook.out' (cH z) a0 s0) k').holds { P:=Tryz.prog,β0:=β0,n0:=2,Q:=Q }:=by
 subst hn hm
 have hsize:z.s.size=D.length+1+r.length:=by rw[hs,aB];simp;omega
 have hget:∀j,(z.s.data.toList.getD j 0)=(D.map bR++c :: r).getD j 0:=fun j=>by rw[hs]
 have hdig:∀j (hj:j<D.length),(z.s.data.toList.getD j 0)=bR (D[j]):=fun j hj=>by
  rw[hget,List.getD_eq_getElem?_getD,List.getElem?_append_left (by simpa using hj),List.getElem?_map,List.getElem?_eq_getElem hj]
  rfl
 have hrest0:(z.s.data.toList.getD D.length 0)=c:=by
  rw[hget,List.getD_eq_getElem?_getD,List.getElem?_append_right (by simp)]
  simp
 refine kR (w:=w) (bs:=bs) hf hgl 2 (by show s.objs.length=2;rw[hobj];rfl) sM (iE z) (fun _=>aV z.l) (fun p:Nat×Nat=>5-p.1)
  (fun _ p _=>p.1<=D.length/\p.2=bP (D.take p.1)) (fun _ p _=>p=(D.length,bP D)) (fun _ _ _=>False) (fun _=>Bs z) 1000
  hN (by simp[sM]) (by simp[sM]) (fun _=>⟨trivial,(pe 2 (by omega)).1,trivial,(pe 2 (by omega)).2,trivial,trivial,trivial,trivial,trivial⟩) (fun _=>aQ _) rfl rfl (by simp) (by simp)
  (fun _=>⟨⟨trivial,(pe 2 (by omega)).1,trivial,(pe 2 (by omega)).2,trivial,trivial,trivial,trivial,trivial⟩,aQ _⟩) (fun _=>⟨trivial,aQ _⟩) ?_ ?_ ?_ ?_
 ·rintro β2 w2 ⟨off,acc⟩ w3 g2 dW ⟨hoff,hacc⟩ ej hk13 hblk
  dsimp only at hoff hacc
  refine ah (Ht z (off,acc) w3 (ac β2 2) g2) (ak (fun hlt1=>?_) (fun hge=>absurd (by dsimp only;omega) hge))
  have hlt2:off<z.s.size:=by dsimp only at hlt1;omega
  refine aa (by dsimp only;omega) ?_
  dsimp only
  rcases Nat.lt_or_ge off D.length with hin |hout
  ·have hd:=hdig off hin
   have hdl:=hD16 _ (List.getElem_mem hin)
   refine jP (y:=bR (D[off])) ⟨rfl,Keep.refl _ _,fun b hb=>.inl hb⟩ (by rw[Int.toNat_natCast];exact hd) fun w4 bs4 hk4 hbs4=>?_
   rw[hG _ hdl]
   refine ak (fun _=>?_) (fun h=>absurd (by omega) h)
   refine aa (by omega) ?_
   refine jP (y:=bR (D[off])) (w:=w3) (bs:=ac β2 2) ⟨rfl,hk4,hbs4⟩ (by rw[Int.toNat_natCast];exact hd) fun w5 bs5 o8 hbs5=>?_
   rw[hG _ hdl]
   refine ak (fun h=>absurd h (by omega)) (fun _=>?_)
   refine aM ⟨rfl,ej.trans o8,fun b hb=>(hbs5 b hb).imp id (Nat.le_trans ej.size)⟩ fun β' w' hst hk'=>⟨(off+1,bP (D.take (off+1))),by show 5-(off+1)<5-off;omega,?_,hst.objsAt rfl (aQ _).2,⟨by show off+1<=_;omega,rfl⟩,hk'⟩
   have hfl:=p7 (D.take off) fun d hd=>hD16 d (List.mem_of_mem_take hd)
   have hfl2:bP (D.take off)<65536:=Nat.lt_of_lt_of_le hfl (by
    rw[List.length_take]
    exact Nat.pow_le_pow_right (by omega) (show min off _<=4 by omega))
   have e1:bP (D.take (off+1))=acc*16+D[off]:=by
    rw[List.take_add_one,List.getElem?_eq_getElem hin,hacc]
    exact ib _ _
   have e2:i64.wrap ((acc:Int)*(2:Int)^4)=((acc*16:Nat):Int):=by
    rw[show(acc:Int)*(2:Int)^4=((acc*16:Nat):Int) by rw[Int.natCast_mul];rfl]
    exact ax (by omega) (by omega)
   have e3:i64.wrap (i64.wrap ((acc:Int)*(2:Int)^4)+(D[off]:Int))=((bP (D.take (off+1)):Nat):Int):=by
    rw[e1,e2,ax (by omega) (by omega)];omega
   have e4:i64.wrap ((off:Int)+1)=((off+1:Nat):Int):=by rw[ax (by omega) (by omega)];omega
   have h0:=hst.base 0 (by show 0<2;omega)
   have h1:=hst.base 1 (by show 1<2;omega)
   rw[e3,e4]
   simp only[iE,ae,SV.den]
   rw[h0,h1]
  ·have he:off=D.length:=by omega
   refine jP (y:=c) ⟨rfl,Keep.refl _ _,fun b hb=>.inl hb⟩ (by rw[Int.toNat_natCast,he];exact hrest0) fun w4 bs4 hk4 hbs4=>?_
   rw[hc]
   refine ak (fun h=>absurd h (by omega)) (fun _=>?_)
   refine aM ⟨rfl,ej.trans hk4,fun b hb=>(hbs4 b hb).imp id (Nat.le_trans ej.size)⟩ fun β' w' hst hk'=>⟨.inl ⟨(off,acc),rfl,?_,hst.objsAt rfl (aQ _).2,?_⟩,hk'⟩
   ·have h0:=hst.base 0 (by show 0<2;omega)
    have h1:=hst.base 1 (by show 1<2;omega)
    simp only[iE,ae,SV.den]
    rw[h0,h1]
   ·rw[hacc,he,List.take_of_length_le (Nat.le_refl _)]
 ·intro β2 w2 hst dW
  exact⟨(0,0),hsel β2,fun i o hi=>hst.at_ i o (by rw[hobj];exact hi),Nat.zero_le _,rfl⟩
 ·rintro w2 p w3 rfl dW hk13 g2 bs3 hbs3
  exact hk w3 g2 bs3 hk13 fun b hb=>(hbs3 b hb).1
 ·rintro w2 p w3 h
  exact h.elim
def HZ(T:List UInt8)(z:P6):Prop:=
 z.l.length=16/\z.e=0/\((z.i=0/\z.s=⟨(102 :: 102 :: 102 :: 102 :: 58 :: T).toArray⟩)∨(z.i=2/\z.s=⟨T.toArray⟩/\z.l.getD 0 0=255/\z.l.getD 1 0=255))
def HV(os:List UInt8)(o:O6):Prop:=o.s.size=0/\o.i=6/\o.e=0/\o.q 0=255/\o.q 1=255/\∀j,j<4->o.q (2+j)=((os.getD j 0).toNat:Int)
theorem Bj:gN 46 = -1:=by decide
theorem FD(a b c d:UInt8)(β:Nat->Nat)(w0 w1:World)(z:P6)(g:Nat->Value)(hk01:Keep (ac β 2) w0 w1)(hI:HZ (aF a b c d) z) :
  (aK Tryz.prog (CG z) 1000 301 (ar Tryz.prog 301 10) (az ((xX .normal).zip (gb z)) g 172 0) (fun e a s=>.leaf e (ep xX e a) s) (SS.mk (aV z.l) [] true w1 (ac β 2))).holds
   {P:=Tryz.prog,β0:=β,n0:=2,Q:=rI β (ac β 2) gb (fun z=>aV z.l) (fun z=>16-z.i) (fun z _=>HZ (aF a b c d) z) (.exit 0) qq (fun o=>bM o.q) (fun o _=>HV [a,b,c,d] o) .ret (fun _:Unit=>[]) (fun _=>bM fun _=>0) (fun _ _=>False) w0 z }:=by
 obtain⟨hl,he,hcase⟩:=hI
 have hall:=Bi a.toNat a.toNat_lt
 generalize Cx a.toNat=D at hall
 obtain⟨hD,hD0,hD3,hD16⟩:=hall
 have hT:aF a b c d=D.map bR++46 :: jd [b,c,d]:=by rw[<- Mb,jW,hD];rfl
 have hTl:(aF a b c d).length<1000:=by
  have l0:=bj a.toNat
  have l1:=bj b.toNat
  have l2:=bj c.toNat
  have l3:=bj d.toNat
  simp only[aF,List.length_append,List.length_cons,List.length_nil]
  omega
 rcases hcase with⟨hi,hs⟩ |⟨hi,hs,h0,h1⟩
 ·have hsz:z.s.size=5+(aF a b c d).length:=by rw[hs,aB];simp;omega
  have hT1:1<=(aF a b c d).length:=by rw[hT];simp;omega
  obtain⟨d0,t0,hd0,hT0⟩:∃d0 t0,d0<16/\aF a b c d=bR d0 :: t0:=by
   cases D with
   |nil=>simp at hD0
   |cons x D'=>exact⟨x,D'.map bR++46 :: jd [b,c,d],hD16 x (by simp),by rw[hT];rfl⟩
  refine ah (Hu z w1 (ac β 2) g) (ak (fun _=>?_) (fun h=>absurd (by omega) h))
  refine F1 (D:=[15,15,15,15]) (n:=4) (m:=65535) (c:=58) (r:=aF a b c d) ⟨rfl,Keep.refl _ _,fun b hb=>.inl hb⟩ rfl rfl hs hTl rfl rfl (by decide) (by decide) n9 (by simp) (fun β=>rfl) ?_
  intro w2 g2 bs2 hk2 hbs2
  have e1:z.s.extract ((4:Nat):Int).toNat z.s.size=⟨(58 :: aF a b c d).toArray⟩:=by rw[hs,jh];rfl
  have hsz1:(z.s.extract ((4:Nat):Int).toNat z.s.size).size=1+(aF a b c d).length:=by rw[e1,aB];simp;omega
  have e2:(z.s.extract ((4:Nat):Int).toNat z.s.size).extract 1 (z.s.extract ((4:Nat):Int).toNat z.s.size).size=⟨(aF a b c d).toArray⟩:=by rw[e1,jh];rfl
  have hsz2:((z.s.extract ((4:Nat):Int).toNat z.s.size).extract 1 (z.s.extract ((4:Nat):Int).toNat z.s.size).size).size=(aF a b c d).length:=by rw[e2,aB]
  have ei1:i64.wrap ((z.i:Int)+1)=1:=by rw[hi];rfl
  dsimp only
  refine af (fun h=>absurd h (by decide)) (fun _=>ak (fun _=>?_) (fun h=>absurd (by rw[hsz];omega) h))
  refine aa (by omega) (af (fun h46=>?_) (fun _=>?_))
  ·have:(z.s.data.toList.getD ((4:Nat):Int).toNat 0)=58:=by rw[hs];rfl
   rw[this]at h46
   exact absurd h46 (by decide)
  refine aa (by omega) (aa (by rw[hi];simp;omega) (aa rfl (aa (by omega) (aa (by rw[ei1];simp;omega) (aa rfl (aa (by omega) ?_))))))
  refine af (fun h=>by rw[hsz1]at h;have:=eq_of_beq h;omega) (fun _=>aa (by rw[hsz1];omega) (af (fun hne=>?_) (fun _=>af (fun h1=>by rw[hsz1]at h1;have:=eq_of_beq h1;omega) (fun _=>?_))))
  ·have hne2:(((((z.s.extract ((4:Nat):Int).toNat z.s.size).data.toList.getD 0 0).toNat:Nat):Int) != 58)=true:=hne
   rw[e1]at hne2
   exact absurd hne2 (by simp)
  refine aa (by rw[hsz1];omega) (aa (by rw[hsz2];omega) (af (fun h58=>?_) (fun _=>?_)))
  ·have h58':((((((z.s.extract ((4:Nat):Int).toNat z.s.size).extract 1 (z.s.extract ((4:Nat):Int).toNat z.s.size).size).data.toList.getD 0 0).toNat:Nat):Int) == 58)=true:=h58
   rw[e2,hT0]at h58'
   have h5:(((bR d0).toNat:Nat):Int)=58:=by simpa using h58'
   have h6:=(o7 d0 hd0).1
   exact absurd (UInt8.toNat_inj.1 (by show(bR d0).toNat=58;omega)) h6
  refine aM ⟨rfl,hk01.trans hk2,fun b hb=>(hbs2 b hb).imp id (Nat.le_trans hk01.size)⟩ fun β' w' hst hk'=>⟨⟨⟨(aF a b c d).toArray⟩,0,2,(z.l.set 0 255).set 1 255⟩,by show 16-2<16-z.i;omega,?_,?_,⟨by simp[hl],rfl,.inr ⟨rfl,rfl,?_,?_⟩⟩,hk'⟩
  ·have h0:=hst.base 0 (by show 0<2;omega)
   have h1:=hst.base 1 (by show 1<2;omega)
   rw[e2,hi,he]
   simp only[gb,ae,SV.den]
   rw[h0,h1]
   rfl
  ·have:=hst.objsAt rfl (aQ _).2
   rw[ei1,hi]at this
   exact this
  ·rw[eT (by simp;omega),if_neg (by omega),eT (by omega),if_pos rfl]
  ·rw[eT (by simp;omega),if_pos rfl]
 ·have hs':z.s=⟨(D.map bR++46 :: jd [b,c,d]).toArray⟩:=by rw[hs,hT]
  have hsz:z.s.size=D.length+1+(jd [b,c,d]).length:=by rw[hs',aB];simp;omega
  have hjl:(jd [b,c,d]).length<1000:=by
   have:=congrArg List.length hT
   simp at this
   omega
  refine ah (Hu z w1 (ac β 2) g) (ak (fun _=>?_) (fun h=>absurd (by omega) h))
  refine F1 (D:=D) (n:=D.length) (m:=bP D) (c:=46) (r:=jd [b,c,d]) ⟨rfl,Keep.refl _ _,fun b hb=>.inl hb⟩ rfl rfl hs' hjl rfl rfl (by omega) hD16 Bj (by simp) (fun β=>rfl) ?_
  intro w2 g2 bs2 hk2 hbs2
  dsimp only
  have ei4:i64.wrap ((z.i:Int)+4)=6:=by rw[hi];rfl
  refine af (fun h=>by have:=eq_of_beq h;omega) (fun _=>ak (fun _=>?_) (fun h=>absurd (by rw[hsz];omega) h))
  refine aa (by omega) (af (fun _=>?_) (fun h46=>?_))
  rotate_left
  ·have:(z.s.data.toList.getD ((D.length:Nat):Int).toNat 0)=46:=by
    rw[hs',Int.toNat_natCast]
    show(D.map bR++46 :: jd [b,c,d]).getD D.length 0=46
    rw[List.getD_eq_getElem?_getD,List.getElem?_append_right (by simp)]
    simp
   rw[this]at h46
   exact absurd h46 (by decide)
  rw[ei4,hi,he]
  refine ak (fun h=>absurd h (by decide)) (fun _=>ak (fun h=>absurd h (by decide)) (fun _=>aa (by decide) (aa (by decide) ?_)))
  refine Cs (w:=w1) (bs:=ac β 2) (R:=fun(l':List Int) _ _=>l'.length=16/\l'.getD 0 0=255/\l'.getD 1 0=255/\∀j,j<4->l'.getD (2+j) 0=((([a,b,c,d]:List UInt8).getD j 0).toNat:Int)) ⟨rfl,hk2,hbs2⟩ rfl (fun x=>⟨rfl,(aQ _).2,trivial⟩) (fun β2 w3 hst hk3=>?_) ?_
  ·have hc:=yn a b c d z.l false false false hst rfl hl h0 h1
   rw[hs]
   show Calls Tryz.prog 300 (ae β2 [.str ⟨(aF a b c d).toArray⟩ false,.slc 1 2 4 14 false false]).toArray w3 _
   refine hc.mono ?_
   rintro e w' ⟨l',rfl,hk,hat,h⟩
   exact⟨l',rfl,hk,hat,h⟩
  ·rintro l' w3 w4 bs4 ⟨g1,g2',g3,g4⟩ hk4 hbs4
   refine aM ⟨rfl,hk01.trans hk4,fun b hb=>(hbs4 b hb).imp id (Nat.le_trans hk01.size)⟩ fun β' w' hst hk'=>⟨.inl ⟨⟨⟨#[]⟩,0,6,fun j=>l'.getD j 0⟩,rfl,?_,ig (hst.objsAt rfl (aQ _).2) g1,rfl,rfl,rfl,g2',g3,g4⟩,hk'⟩
   have h0:=hst.base 0 (by show 0<2;omega)
   have h1:=hst.base 1 (by show 1<2;omega)
   simp only[qq,ae,SV.den]
   rw[h0,h1]
   rfl
def I1(os:List UInt8):List UInt8:=[0,0,0,0,0,0,0,0,0,0,255,255]++os
theorem I0{s s0:SS}{a a0:List SV}{w:World}{x y z u:UInt8}{Q:SE->List Value->World->Prop}{k:O6×(Nat->Value)->World->List Nat->T}{k':Unit×(Nat->Value)->World->List Nat->T}(hf:Fine w s)(hgl:s.gl=[])(hobj:s.objs=[.cells gn 16 188 0 0,.cells gn 16 188 0 0])
  (hN:a.length=172) (hsel:∀β,f6 xX .normal (ae β a)=ae β (gb ⟨⟨(102 :: 102 :: 102 :: 102 :: 58 :: aF x y z u).toArray⟩,0,0,List.replicate 16 0⟩))
  (hk:∀o w' g bs,Below w.heap.size w w'->(∀b∈bs,w.heap.size<=b)->HV [x,y,z,u] o->(k (o,g) w' bs).holds (cS Tryz.prog Q)) :
  (T.loop 301 (ar Tryz.prog 301 10) a s (LoopHook.X dL) (LoopHook.out dL a0 s0) k (LoopHook.Y dL) (LoopHook.out' dL a0 s0) k').holds (cS Tryz.prog Q):=by
 refine iJ (w:=w) hf hgl 2 (by show s.objs.length=2;rw[hobj];rfl) xX gb (fun z=>aV z.l) (fun z=>16-z.i) (fun _ v _=>HZ (aF x y z u) v) (fun _ o _=>HV [x,y,z,u] o) (fun _ _ _=>False) CG 1000
  hN (by simp[xX]) (by simp[xX]) (fun _=>⟨trivial,(pe 2 (by omega)).1,trivial,(pe 2 (by omega)).2,trivial,trivial,trivial⟩) (fun _=>aQ _) rfl rfl (by simp) (by simp) (fun _=>⟨⟨trivial,(pe 2 (by omega)).1,trivial,(pe 2 (by omega)).2,trivial,trivial,trivial⟩,dE _⟩) (fun _=>⟨trivial,dE _⟩) ?_ ?_ ?_ ?_
 ·rintro β w0 v w1 g hb0 hI hkp hge
  exact FD x y z u β w0 w1 v g hkp hI
 ·intro β w0 hst hb
  refine⟨_,hsel β,g6 (q:=fun _=>0) fun i o hi=>?_,by simp,rfl,.inl ⟨rfl,rfl⟩⟩
  match i,hi with
  |0,hi=>exact hst.at_ 0 o (by rw[hobj];exact hi)
  |1,hi=>
   simp only[bM,List.getElem?_cons_succ,List.getElem?_cons_zero,Option.some.injEq]at hi
   subst hi
   exact hst.at_ 1 (.cells gn 16 188 0 0) (by rw[hobj];rfl)
  |i+2,hi=>simp[bM]at hi
 ·rintro w0 v w' hsh hb0 hb1 g bs hbs
  exact hk v w' g bs hb1 hbs hsh
 ·rintro w0 q' w' h
  exact h.elim
theorem BK(a b c d:UInt8)(w:World) :
  Calls Tryz.prog 301 #[.string ⟨([58,58,102,102,102,102,58]++aF a b c d).toArray⟩] w (bF (fun v _=>∃q:Nat->Int,(∀j,j<16->q j=(((I1 [a,b,c,d]).getD j 0).toNat:Int))/\v=SV.den id (.tup [.agg (cq q),.bool true true])) w):=by
 obtain⟨T,hT⟩:∃T,T=([58,58,102,102,102,102,58]++aF a b c d):=⟨_,rfl⟩
 rw[<- hT]
 refine aH (hk:=p9) (n:=500) (args:=[.str ⟨T.toArray⟩ false]) ⟨trivial,trivial⟩ ?_
 refine ah (LB ⟨T.toArray⟩ w) ?_
 have hget:∀j,((⟨T.toArray⟩:ByteArray).data.toList.getD j 0)=T.getD j 0:=fun j=>rfl
 have hl:(⟨T.toArray⟩:ByteArray).size=(aF a b c d).length+7:=by rw[aB,hT];simp
 refine ak (fun _=>?_) (fun h=>absurd (by rw[hl];omega) h)
 refine aa (by rw[hl];omega) (af (fun _=>?_) (fun h=>by rw[hget,hT]at h;simp at h))
 refine aa (by rw[hl];omega) (af (fun _=>?_) (fun h=>by rw[hget,hT]at h;simp at h))
 refine aa (by rw[hl];omega) ?_
 have e2:(⟨T.toArray⟩:ByteArray).extract 2 (⟨T.toArray⟩:ByteArray).size=⟨(102 :: 102 :: 102 :: 102 :: 58 :: aF a b c d).toArray⟩:=by
  rw[jh,hT];rfl
 refine af (fun hz=>by rw[e2,aB]at hz;have:=eq_of_beq hz;simp at this;omega) (fun hz=>?_)
 refine I0 (w:=w) (x:=a) (y:=b) (z:=c) (u:=d) (Fine.start w _) rfl rfl rfl (fun β=>?_) ?_
 ·simp only[e2]
  rfl
 intro o w2 g bs2 hw2 hbs2 ⟨hsz,hoi,hoe,hq0,hq1,hqj⟩
 dsimp only
 refine af (fun h=>by rw[hsz]at h;simp at h) (fun _=>ak (fun hi16=>?_) (fun hi16=>absurd (by rw[hoi];decide) hi16))
 rw[hoe,hoi]
 refine ak (fun h=>absurd h (by decide)) (fun _=>?_)
 have e1:i64.wrap ((16:Int)-((6:Nat):Int))=((16-6:Nat):Int):=by rfl
 have e3:i64.wrap (((6:Nat):Int)-(1:Int))=((6:Nat):Int)-1:=rfl
 rw[e1,e3]
 refine tM (w:=w) (E:=0) (I:=6) (q:=o.q) (Fine.mk' hw2 hbs2) rfl rfl (by omega) (by omega) rfl (fun β=>rfl) ?_
 intro x w3 g3 bs3 hw3 hbs3 hF
 have hxe:=hF.1
 have hxn:=hF.2.1
 dsimp only
 rw[hxe,hxn]
 refine tN (w:=w) (E:=0) (I:=6) (q:=o.q) (q1:=x.q) (Fine.mk' hw3 hbs3) rfl rfl (by omega) (by omega) rfl ⟨rfl,rfl,hF.2.2⟩ (fun β=>rfl) ?_
 intro q' w4 g4 bs4 hw4 hbs4 hq'
 refine aN (Fine.mk' hw4 hbs4) fun β' w' _ _=>⟨q',fun j hj=>?_,rfl⟩
 rw[hq' j hj,if_neg (by omega)]
 match j,hj with
 |0,_ |1,_ |2,_ |3,_ |4,_ |5,_ |6,_ |7,_ |8,_ |9,_=>rfl
 |10,_=>exact hq0
 |11,_=>exact hq1
 |12,_=>exact hqj 0 (by omega)
 |13,_=>exact hqj 1 (by omega)
 |14,_=>exact hqj 2 (by omega)
 |15,_=>exact hqj 3 (by omega)
 |n+16,h=>exact absurd h (by omega)
end
section
open Go Go.Rx Go.RowKit
theorem oY(l:List UInt8)(a:Nat):∀(n j:Nat),j<2*n->(pL (kW l a (a+n))).getD j 0=((l.getD (2*a+j) 0).toNat:Int)
 |0,j,h=>by omega
 |n+1,j,h=>by
  have hs:kW l a (a+(n+1))=kW l a (a+n)++[aO l (a+n)]:=dj l (Nat.le_add_right a n)
  have hl:(pL (kW l a (a+n))).length=2*n:=by rw[oX];simp[kW]
  rw[hs,wL]
  have h1:=(l.getD (2*(a+n)) 0).toNat_lt
  have h2:=(l.getD (2*(a+n)+1) 0).toNat_lt
  rcases Nat.lt_or_ge j (2*n) with hj |hj
  ·rw[<- oY l a n j hj,List.getD_eq_getElem?_getD,List.getD_eq_getElem?_getD,List.getElem?_append_left (by omega)]
  ·rw[List.getD_eq_getElem?_getD,List.getElem?_append_right (by omega),hl]
   rcases(show j=2*n∨j=2*n+1 by omega) with rfl |rfl
   ·rw[Nat.sub_self]
    simp only[List.getElem?_cons_zero,Option.getD_some,aO]
    rw[show 2*a+2*n=2*(a+n) by omega]
    omega
   ·rw[show 2*n+1-2*n=1 by omega]
    simp only[List.getElem?_cons_succ,List.getElem?_cons_zero,Option.getD_some,aO]
    rw[show 2*a+(2*n+1)=2*(a+n)+1 by omega]
    omega
theorem ka(l:List UInt8)(a b:Nat):(kW l a b).length=b-a:=by simp[kW]
theorem tL(l:List UInt8)(a b:Nat):∀g∈kW l a b,g<65536:=by
 intro g hg
 simp only[kW,List.mem_map]at hg
 obtain⟨j,_,rfl⟩:=hg
 exact dh l j
def DG(l:List UInt8)(f:Nat):List Nat:=if f=255 then kW l 0 8 else kW l 0 f
def DL(l:List UInt8)(f t:Nat):Option (List Nat):=if f=255 then none else some (kW l t 8)
theorem FJ(l:List UInt8)(f t:Nat):gB l f t=jn (DG l f)++bh (DL l f t):=by
 unfold gB DG DL
 split
 ·simp[bh]
 ·simp[bh]
theorem KU{l:List UInt8}{f t:Nat}(h:Good l f t):(∀g∈DG l f++(DL l f t).getD [],g<65536)/\((DL l f t=none/\(DG l f).length=8)∨(∃B,DL l f t=some B/\(DG l f).length+B.length<=7)):=by
 constructor
 ·intro g hg
  unfold DG DL at hg
  split at hg
  ·simp only[Option.getD_none,List.append_nil]at hg
   exact tL l 0 8 g hg
  ·rcases List.mem_append.1 hg with hg |hg
   ·exact tL l 0 f g hg
   ·exact tL l t 8 g hg
 ·unfold DG DL
  rcases h with⟨rfl,rfl⟩ |⟨h1,h2,_⟩
  ·exact .inl ⟨rfl,ka l 0 8⟩
  ·rw[if_neg (by omega),if_neg (by omega)]
   refine .inr ⟨_,rfl,?_⟩
   rw[ka,ka]
   omega
theorem Fh{l:List UInt8}{f t:Nat}(h:Good l f t)(j:Nat)(hj:j<16):(iI (DG l f) (DL l f t)).getD j 0=((l.getD j 0).toNat:Int):=by
 unfold DG DL
 rcases h with⟨rfl,rfl⟩ |⟨h1,h2,h3⟩
 ·have:=oY l 0 8 j (by omega)
  simpa [iI] using this
 ·rw[if_neg (by omega),if_neg (by omega)]
  have lP:(pL (kW l 0 f)).length=2*f:=by rw[oX,ka];omega
  simp only[iI,ka]
  rw[List.append_assoc,List.getD_eq_getElem?_getD]
  rcases Nat.lt_or_ge j (2*f) with hjf |hjf
  ·rw[List.getElem?_append_left (by omega),<- List.getD_eq_getElem?_getD]
   have:=oY l 0 f j hjf
   simpa using this
  ·rw[List.getElem?_append_right (by omega),lP]
   rcases Nat.lt_or_ge j (2*t) with hjt |hjt
   ·rw[List.getElem?_append_left (by simp;omega),List.getElem?_replicate,if_pos (by omega)]
    have hz:=h3 (j/2) (by omega) (by omega)
    unfold aO at hz
    rcases(show j=2*(j/2)∨j=2*(j/2)+1 by omega) with hh |hh
    ·rw[<- hh]at hz
     show(0:Int)=_
     omega
    ·rw[<- hh]at hz
     show(0:Int)=_
     omega
   ·rw[List.getElem?_append_right (by simp;omega),<- List.getD_eq_getElem?_getD]
    have:=oY l t (8-t) (j-2*t) (by omega)
    rw[show t+(8-t)=8 by omega,show 2*t+(j-2*t)=j by omega]at this
    rw[<- this]
    congr 1
    simp
    omega
theorem ji{g:Nat}{x:UInt8}(h:x∈ay g):x≠46/\x≠58/\x≠37:=by
 rw[cw]at h
 obtain⟨d,hd,rfl⟩:=List.mem_map.1 h
 have:=o7 d (lW g d hd)
 exact⟨this.2.1,this.1,this.2.2⟩
theorem yw:∀(G:List Nat) {x:UInt8},x∈jn G->x≠37
 |[],x,h=>by simp[jn]at h
 |[g],x,h=>(ji (g:=g) (by simpa [jn] using h)).2.2
 |g :: y :: r,x,h=>by
  have e:jn (g :: y :: r)=ay g++[58]++jn (y :: r):=by simp[jn]
  rw[e]at h
  rcases List.mem_append.1 h with h |h
  ·rcases List.mem_append.1 h with h |h
   ·exact(ji h).2.2
   ·simp at h;subst h;decide
  ·exact yw (y :: r) h
theorem yv:∀(G:List Nat),(∀g∈G,g<65536)->(jn G).length<=5*G.length
 |[],_=>by simp[jn]
 |[g],h=>by
  have:=jS 3 g (by have:=h g (by simp);omega)
  simp[jn,cw]
  omega
 |g :: y :: r,h=>by
  have e:jn (g :: y :: r)=ay g++[58]++jn (y :: r):=by simp[jn]
  have h1:=jS 3 g (by have:=h g (by simp);omega)
  have h2:=yv (y :: r) fun x hx=>h x (List.mem_cons_of_mem _ hx)
  rw[e,cw]
  simp only[List.length_append,List.length_cons,List.length_nil,List.length_map]at h2 ⊢
  omega
theorem qn{T:List UInt8}{j:Nat}(hj:j<T.length):T.getD j 0∈T:=by
 rw[List.getD_eq_getElem?_getD,List.getElem?_eq_getElem hj]
 exact List.getElem_mem hj
theorem AB{T:List UInt8}{P:List Nat}{Q:Option (List Nat)}{Res:QV->Prop}(hT:T=jn P++bh Q)(hg:∀g∈P++Q.getD [],g<65536)(hQ:(Q=none/\P.length=8)∨(∃B,Q=some B/\P.length+B.length<=7))(hR:∀q:Nat->Int,(∀j,j<16->q j=(iI P Q).getD j 0)->Res ⟨false,q⟩)(w:World) :
  Calls Tryz.prog 301 #[.string ⟨T.toArray⟩] w (bF (fun v _=>∃q:Nat->Int,Res ⟨false,q⟩/\v=SV.den id (.tup [.agg (cq q),.bool true true])) w):=by
 subst hT
 refine(DH P Q w hg hQ).mono ?_
 rintro e w' ⟨v,he,⟨q,hq,hv⟩,hb⟩
 exact⟨v,he,⟨q,hR q hq,hv⟩,hb⟩
theorem H6{l:List UInt8}{f t:Nat}(h:Good l f t):∃m,pA (gB l f t) m (fun z=>∀j,j<16->z.q j=((l.getD j 0).toNat:Int)):=by
 obtain⟨hg,hQ⟩:=KU h
 have hfull:=fun(q:Nat->Int) (hq:∀j,j<16->q j=(iI (DG l f) (DL l f t)).getD j 0) (j:Nat) (hj:j<16)=>(hq j hj).trans (Fh h j hj)
 rw[FJ]
 generalize DG l f=P at *
 generalize DL l f t=Q at *
 have h37:∀x∈jn P++bh Q,x≠37:=by
  intro x hx
  rcases List.mem_append.1 hx with hx |hx
  ·exact yw P hx
  ·cases Q with
   |none=>simp[bh]at hx
   |some B=>
    simp only[bh,List.mem_cons]at hx
    rcases hx with rfl |rfl |hx
    ·decide
    ·decide
    ·exact yw B hx
 have hlen:(jn P++bh Q).length<2^40:=by
  have h1:=yv P fun g hg'=>hg g (List.mem_append_left _ hg')
  rcases hQ with⟨h2,h3⟩ |⟨B,h2,h3⟩
  ·subst h2
   simp[bh]
   omega
  ·subst h2
   have h4:=yv B fun g hg'=>hg g (List.mem_append_right _ hg')
   simp[bh]
   omega
 have hno:∀j,j<(jn P++bh Q).length->(jn P++bh Q).getD j 0≠37:=fun j hj=>h37 _ (qn hj)
 cases P with
 |nil=>
  rcases hQ with⟨_,h3⟩ |⟨B,h2,h3⟩
  ·simp at h3
  ·subst h2
   refine⟨0,hlen,by simp[bh];omega,fun j hj=>absurd hj (Nat.not_lt_zero j),.inr ⟨rfl,hno,AB (Res:=fun z=>∀j,j<16->z.q j=((l.getD j 0).toNat:Int)) rfl hg (.inr ⟨B,rfl,h3⟩) hfull⟩⟩
 |cons g0 R=>
  obtain⟨rest,hrest,hcase⟩:=D4 (g:=g0) (R:=R) (tl:=Q)
  obtain⟨r,hr⟩:∃r,rest=58 :: r:=by
   rcases hcase with⟨h1,h2,_⟩ |⟨_,h2⟩ |⟨B,_,_,h2⟩
   ·subst h1 h2
    rcases hQ with⟨_,h3⟩ |⟨B,h3,_⟩
    ·simp at h3
    ·cases h3
   ·exact⟨_,h2⟩
   ·exact⟨_,h2⟩
  subst hr
  refine⟨(ay g0).length,hlen,by rw[hrest];simp,fun j hj=>?_,.inr ⟨?_,hno,AB (Res:=fun z=>∀j,j<16->z.q j=((l.getD j 0).toNat:Int)) rfl hg hQ hfull⟩⟩
  ·rw[hrest,List.getD_eq_getElem?_getD,List.getElem?_append_left hj,<- List.getD_eq_getElem?_getD]
   exact ji (qn hj)
  ·rw[hrest,List.getD_eq_getElem?_getD,List.getElem?_append_right (Nat.le_refl _),Nat.sub_self]
   rfl
theorem H5(a b c d:UInt8):∃m,pA (aF a b c d) m (fun z=>∀j,j<16->z.q j=((([0,0,0,0,0,0,0,0,0,0,255,255,a,b,c,d]:List UInt8).getD j 0).toNat:Int)):=by
 obtain⟨hp,_,hk⟩:=jc a.toNat a.toNat_lt
 have hT:aF a b c d=cP a.toNat++46 :: jd [b,c,d]:=by rw[<- Mb,jW];rfl
 have hTl:(aF a b c d).length<2^40:=by
  have l0:=bj a.toNat
  have l1:=bj b.toNat
  have l2:=bj c.toNat
  have l3:=bj d.toNat
  simp only[aF,List.length_append,List.length_cons,List.length_nil]
  omega
 refine⟨(cP a.toNat).length,hTl,by rw[hT];simp,fun j hj=>?_,.inl ⟨?_,a,b,c,d,rfl,fun j hj=>?_⟩⟩
 ·obtain⟨f1,f2,_⟩:=hk j hj
  rw[hT,List.getD_eq_getElem?_getD,List.getElem?_append_left hj,<- List.getD_eq_getElem?_getD]
  refine⟨fun h=>?_,fun h=>?_,fun h=>?_⟩ <;> (rw[h]at f1 f2;simp at f1 f2)
 ·rw[hT,List.getD_eq_getElem?_getD,List.getElem?_append_right (Nat.le_refl _),Nat.sub_self]
  rfl
 ·match j,hj with
  |0,_ |1,_ |2,_ |3,_ |4,_ |5,_ |6,_ |7,_ |8,_ |9,_ |10,_ |11,_ |12,_ |13,_ |14,_ |15,_=>rfl
  |n+16,h=>omega
theorem E2(a b c d:UInt8):∃m,pA ([58,58,102,102,102,102,58]++aF a b c d) m (fun z=>∀j,j<16->z.q j=(((I1 [a,b,c,d]).getD j 0).toNat:Int)):=by
 have hTl:(aF a b c d).length<1000:=by
  have l0:=bj a.toNat
  have l1:=bj b.toNat
  have l2:=bj c.toNat
  have l3:=bj d.toNat
  simp only[aF,List.length_append,List.length_cons,List.length_nil]
  omega
 have hd:∀x:UInt8,∀y∈cP x.toNat,y≠37:=fun x y hy=>by
  obtain⟨k,hk,rfl⟩:=List.getElem_of_mem hy
  have:=(jc x.toNat x.toNat_lt).2.2 k hk
  rw[List.getD_eq_getElem?_getD,List.getElem?_eq_getElem hk]at this
  intro h
  rw[Option.getD_some,h]at this
  have h1:=this.1
  simp at h1
 have h37:∀y∈([58,58,102,102,102,102,58]++aF a b c d:List UInt8),y≠37:=by
  intro y hy
  simp only[aF,List.mem_append,List.mem_singleton]at hy
  rcases hy with hy |(((((hy |rfl) |hy) |rfl) |hy) |rfl) |hy
  ·revert y;decide
  all_goals first
   |exact hd _ _ hy
   |decide
 refine⟨0,by simp;omega,by simp,fun j hj=>absurd hj (Nat.not_lt_zero j),.inr ⟨rfl,fun j hj=>h37 _ (qn hj),fun w=>?_⟩⟩
 exact BK a b c d w
end
section
open Go Go.Rx Go.RowKit
@[reducible] def zT:Hook:={ X:=Addr,out:=fun _ s a=>(.xs (some a) 16 16,s.objs) }
def Ae:Hooks:={ calls:=fun f=>if f=205 then some zT else if f=206∨f=213 then some aW else none,loops:=fun _ _=>none }
theorem NR(A:Option Addr)(n c:Nat)(w:World):am Tryz.prog au 500 213 [.xs A n c] (SS.mk [] [] true w []) =
 (.split ((↑n:Int) == (4:Int))
  (.need ((0:Int)<=(0:Int)/\(0:Int)<(↑n:Int))
  (.need (A.isSome=true)
  (.need (canRead w [] ((A.getD default).add (0:Nat)) [SV.int u8 (ai w (((A.getD default).add (0:Nat)).add (0:Nat))) false])
  (.need ((0:Int)<=(1:Int)/\(1:Int)<(↑n:Int))
  (.need (A.isSome=true)
  (.need (canRead w [] ((A.getD default).add (1:Nat)) [SV.int u8 (ai w (((A.getD default).add (1:Nat)).add (0:Nat))) false])
  (.need ((0:Int)<=(2:Int)/\(2:Int)<(↑n:Int))
  (.need (A.isSome=true)
  (.need (canRead w [] ((A.getD default).add (2:Nat)) [SV.int u8 (ai w (((A.getD default).add (2:Nat)).add (0:Nat))) false])
  (.need ((0:Int)<=(3:Int)/\(3:Int)<(↑n:Int))
  (.need (A.isSome=true)
  (.need (canRead w [] ((A.getD default).add (3:Nat)) [SV.int u8 (ai w (((A.getD default).add (3:Nat)).add (0:Nat))) false])
  (.need (canRead w [] (Addr.mk (10:Nat) (0:Nat) none) [SV.xs (kD w ((Addr.mk (10:Nat) (0:Nat) none).add (0:Nat))) (iO w ((Addr.mk (10:Nat) (0:Nat) none).add (0:Nat))) (m8 w ((Addr.mk (10:Nat) (0:Nat) none).add (0:Nat)))])
  (.need (canBytes w [] (kD w ((Addr.mk (10:Nat) (0:Nat) none).add (0:Nat))) (iO w ((Addr.mk (10:Nat) (0:Nat) none).add (0:Nat))))
  (.need (iO w ((Addr.mk (10:Nat) (0:Nat) none).add (0:Nat))<=(16:Nat))
  (.bad "copy: not tracked"))))))))))))))))
  (.split ((↑n:Int) == (16:Int))
  (.leaf .ret [(.xs A n c)] (SS.mk [] [] true w []))
  (.leaf .ret [(.one (.slice none 0 0) rfl)] (SS.mk [] [] true w [])))):=by kernel_rfl
noncomputable abbrev vv(s:ByteArray)(w:World)(k0_:Nat)(k1_:ByteArray):T:=(.hc 205 [(.str s false)] (SS.mk [] [] true w []) (zT) fun x0 w0 b0=>(.call k0_ [(.xs (some x0) 16 16)] (SS.mk [] [] true w0 b0) (Hook.X (aW)) (Hook.out (aW) [(.xs (some x0) 16 16)] (SS.mk [] [] true w0 b0)) fun x1 w1 b1=>(.split x1.A.isNone (.leaf .ret [(.tup [(.one (.slice none 0 0) rfl),(.ifc 105 (.ptr 0 0))])] (SS.mk [(.cells [(.str k1_ true)] 1 107 0 0)] [] true w1 b1)) (.leaf .ret [(.tup [(.xs x1.A x1.k x1.c),(.one .nilIface rfl)])] (SS.mk [] [] true w1 b1)))))
theorem HD(s:ByteArray)(w:World):am Tryz.prog Ae 500 163 [.str s false] (SS.mk [] [] true w []) =
(vv s w 206 (ByteArray.mk #[102,97,105,108,101,100,32,116,111,32,112,97,114,115,101,32,105,112,52,32,97,100,100,114,58])):=by kernel_rfl
theorem ND(s:ByteArray)(w:World):(by have h:=HD s w;unfold vv at h;exact type_of% h):=HD s w
theorem HE(s:ByteArray)(w:World):am Tryz.prog Ae 500 170 [.str s false] (SS.mk [] [] true w []) =
(vv s w 213 (ByteArray.mk #[102,97,105,108,101,100,32,116,111,32,112,97,114,115,101,32,105,112,54,32,97,100,100,114,58])):=by kernel_rfl
theorem NF(s:ByteArray)(w:World):(by have h:=HE s w;unfold vv at h;exact type_of% h):=HE s w
theorem wK{w w':World}{bs:List Nat}{a:Addr}{n:Nat}{l:List UInt8}(h:Bts w w.heap.size (some a) n l)(hk:Keep bs w w')(hn:a.block ∉ bs):Bts w' w'.heap.size (some a) n l:=by
 refine⟨h.1,fun h0=>?_⟩
 obtain⟨a',ha,hb,hx⟩:=h.2 h0
 cases ha
 refine⟨a,rfl,Nat.lt_of_lt_of_le hb hk.size,fun i x hi=>?_⟩
 have:=hx i x hi
 have hbl:(a.add (i*1)).block=a.block:=aD _ _
 simp only[World.cell?]at this ⊢
 rw[hbl]at this ⊢
 rw[hk.block a.block hb hn]
 exact this
theorem Jb(A:Option Addr)(n c:Nat)(w:World)(h4:n≠4) :
  Calls Tryz.prog 213 #[.slice A n c] w (bF (fun v _=>(n=16/\v=.slice A n c)∨(n≠16/\v=.slice none 0 0)) w):=by
 refine aH (hk:=au) (n:=500) (args:=[.xs A n c]) ⟨trivial,trivial⟩ ?_
 refine ah (NR A n c w) (af (fun h=>by have:=eq_of_beq h;omega) (fun _=>af (fun h=>?_) (fun h=>?_)))
 ·have h16:n=16:=by have:=eq_of_beq h;omega
  exact aN (Fine.start w _) fun β w' _ _=>.inl ⟨h16,rfl⟩
 ·have h16:n≠16:=fun he=>by rw[he]at h;simp at h
  exact aN (Fine.start w _) fun β w' _ _=>.inr ⟨h16,rfl⟩
end
end Go.Proofs.YtnklanajebphpaaGreatDoor
